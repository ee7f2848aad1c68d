import JvmDerived
import JvmDerived.Pilot.@@N@@Statement
import JvmDerived.Pilot.@@N@@Code
set_option linter.unusedVariables false
set_option linter.unusedSimpArgs false
namespace Jvm.RoadKit
open Sem ClassFile Op Lib Jvm.Stand Jvm.Free Jvm.LawKit
section New
variable {p : Program} {l : Launch} {e : Env} {R : Room} {s : State} {m : MethodId} {args : Array Value} {below : List Frame} {meth : Method} {c : Code} {T : State} {locs : List Loc} {cells slots : Nat}
theorem retI (X : Stand p l e R s m args below meth c T locs cells slots) (hx : p.tables.exec = Jvm.exec) {pc : Nat} {Ls : Array Slot} {z : Int32} {rest : List Value} (hret : meth.sig.returnType = some .int) (hd : decode c.code pc = .ok (.ireturn, 1)) {fs : List Frame}
    (hl : ∀ (f : JFrame) (acts : List Action), f.method = m → f.locked = none → f.entered = [] → (doReturn e (T.setTop f) acts (some (.int z))).1 = T.setFrames fs) : Steps p.tables e below (T.setTop (mkF m pc Ls (.int z :: rest))) (T.setFrames fs) :=
  retOut X hx hret rfl (Or.inl ⟨rfl, Or.inl rfl, z, rfl⟩) hd hl
theorem own_lremM {g : JFrame} {target : State} (X : Stand p l e R s m args below meth c T locs cells slots) (hx : p.tables.exec = Jvm.exec) (hg : g.method = m) {x y : Int64} {rest : List Value} (hd : decode c.code g.pc = .ok (.lrem, 1)) (hs : g.stack = .long y :: .long x :: rest) (hy : y ≠ 0)
    (hr : Steps p.tables e below (T.setTop { g with pc := g.pc + 1, stack := .long (x % y) :: rest }) target) : Steps p.tables e below (T.setTop g) target := by
  have q : x - x / y * y = x % y := lrem_mod x y
  exact XS.lrem X.here hx hg hd hs hy (by rw [q]; exact hr)
theorem own_evInt {Z : State} {args : Array Value} {t : Term} {k : Int32} (h : (Jvm.Cond.eq t (.int k)).value args Z none Z [] = some true) : t.eval args Z none [] Z = some (.int k) := by
  obtain ⟨x, y, h1, h2, -, -⟩ := cmp_v (Or.inl h)
  have hy : y = .int k := Option.some.inj (h2.symm.trans (Term.int_eval k))
  subst hy
  have hx : x = .int k := by
    cases x <;> simp [Cond.value, h1, h2] at h ⊢
    exact h
  rw [h1, hx]
theorem own_selPriv {y : MethodName} {kI : Nat} (hI : (Jvm.Cond.instantiable y.cls kI).before args s = true) (hpriv : s.PrivateAt y) (hinst : (Jvm.Cond.instanceMethod y).before args s = true) (hy : y.cls ≠ "java/lang/invoke/MethodHandle" ∧ y.cls ≠ "java/lang/invoke/VarHandle") : (Jvm.Cond.selects y.cls y y).before args s = true := by
  obtain ⟨c, k, h1, h2, -, h4, -⟩ := Cond.instantiable_spec hI
  exact selects_self_of_private h1 h2 (Bool.or_eq_false_iff.mp h4).1 hpriv hinst hy
theorem own_since0 (s : State) : s.Since s.vm 0 := (State.WarmedH.refl s).since _
theorem own_irr32 (x : Int32) : ¬ (x < x) := Int32.lt_irrefl
theorem own_irr64 (x : Int64) : ¬ (x < x) := Int64.lt_irrefl
theorem own_fldInt {Z : State} {args : Array Value} {t : Term} {a : Addr} {C n d : String} {k : Int32} (ev : t.eval args Z none [] Z = some (.ref a)) (h : (Jvm.Cond.eq (.field t C n d) (.int k)).value args Z none Z [] = some true) : Fld Z Z.heap a C n d (.int k) := by
  obtain ⟨x, y, h1, h2, -, -⟩ := cmp_v (Or.inl h)
  have hy : y = .int k := Option.some.inj (h2.symm.trans (Term.int_eval k))
  subst hy
  have hx : x = .int k := by
    cases x <;> simp [Cond.value, h1, h2] at h ⊢
    exact h
  rw [fld_at ev] at h1
  exact Fld.start (hx ▸ h1)
end New
end Jvm.RoadKit
namespace Jvm.Pilot.@@N@@
open Jvm Jvm.ClassFile Sem Op Lib Jvm.Free Jvm.Stand Jvm.LawKit Jvm.RoadKit Bundle Jvm.Pilot.@@N@@.Jvm.D
theorem wd0 {a0 : Array Value} {Z : State} (hw : ∀ d ∈ tables_1, d.before a0 Z = true) : (Jvm.Cond.constant "com/example/pival/pival/ChainGraphTowardsPinLaw" (7 : Nat) (-2147483648 : Int32)).before a0 Z = true := hw _ (List.mem_of_getElem? (i := 0) rfl)
theorem wd1 {a0 : Array Value} {Z : State} (hw : ∀ d ∈ tables_1, d.before a0 Z = true) : (Jvm.Cond.constant "com/example/pival/pival/ChainGraphTowardsPinLaw" (8 : Nat) (2147483647 : Int32)).before a0 Z = true := hw _ (List.mem_of_getElem? (i := 1) rfl)
theorem wd2 {a0 : Array Value} {Z : State} (hw : ∀ d ∈ tables_1, d.before a0 Z = true) : (Jvm.Cond.arrayClass Jvm.ClassFile.FieldType.int).before a0 Z = true := hw _ (List.mem_of_getElem? (i := 2) rfl)
theorem wd3 {a0 : Array Value} {Z : State} (hw : ∀ d ∈ tables_1, d.before a0 Z = true) : (Jvm.Cond.methodLink "com/example/pival/pival/ChainGraphTowardsPinLaw" (9 : Nat) ({ cls := "com/example/pival/pival/ChainGraph", name := "towards", desc := "([I)[D" } : Jvm.MethodName)).before a0 Z = true := hw _ (List.mem_of_getElem? (i := 3) rfl)
theorem wd4 {a0 : Array Value} {Z : State} (hw : ∀ d ∈ tables_1, d.before a0 Z = true) : (Jvm.Cond.static ({ cls := "com/example/pival/pival/ChainGraph", name := "towards", desc := "([I)[D" } : Jvm.MethodName)).before a0 Z = true := hw _ (List.mem_of_getElem? (i := 4) rfl)
theorem wd5 {a0 : Array Value} {Z : State} (hw : ∀ d ∈ tables_1, d.before a0 Z = true) : (Jvm.Cond.initialized "com/example/pival/pival/ChainGraph").before a0 Z = true := hw _ (List.mem_of_getElem? (i := 5) rfl)
theorem wd6 {a0 : Array Value} {Z : State} (hw : ∀ d ∈ tables_1, d.before a0 Z = true) : (Jvm.Cond.code ({ cls := "com/example/pival/pival/ChainGraph", name := "towards", desc := "([I)[D" } : Jvm.MethodName) prog_3_method_9_code (3 : Nat) (Option.some (Jvm.ClassFile.FieldType.array Jvm.ClassFile.FieldType.double))).before a0 Z = true := hw _ (List.mem_of_getElem? (i := 6) rfl)
theorem wd7 {a0 : Array Value} {Z : State} (hw : ∀ d ∈ tables_1, d.before a0 Z = true) : (Jvm.Cond.arrayClass Jvm.ClassFile.FieldType.double).before a0 Z = true := hw _ (List.mem_of_getElem? (i := 7) rfl)
theorem wd8 {a0 : Array Value} {Z : State} (hw : ∀ d ∈ tables_1, d.before a0 Z = true) : (Jvm.Cond.methodLink "com/example/pival/pival/ChainGraphTowardsPinLaw" (15 : Nat) ({ cls := "com/example/pival/pival/ChainGraphTowardsPinLaw", name := "reciprocal", desc := "(DI)Z" } : Jvm.MethodName)).before a0 Z = true := hw _ (List.mem_of_getElem? (i := 8) rfl)
theorem wd9 {a0 : Array Value} {Z : State} (hw : ∀ d ∈ tables_1, d.before a0 Z = true) : (Jvm.Cond.static ({ cls := "com/example/pival/pival/ChainGraphTowardsPinLaw", name := "reciprocal", desc := "(DI)Z" } : Jvm.MethodName)).before a0 Z = true := hw _ (List.mem_of_getElem? (i := 9) rfl)
theorem wd10 {a0 : Array Value} {Z : State} (hw : ∀ d ∈ tables_1, d.before a0 Z = true) : (Jvm.Cond.initialized "com/example/pival/pival/ChainGraphTowardsPinLaw").before a0 Z = true := hw _ (List.mem_of_getElem? (i := 10) rfl)
theorem wd11 {a0 : Array Value} {Z : State} (hw : ∀ d ∈ tables_1, d.before a0 Z = true) : (Jvm.Cond.code ({ cls := "com/example/pival/pival/ChainGraphTowardsPinLaw", name := "reciprocal", desc := "(DI)Z" } : Jvm.MethodName) method_3_code (8 : Nat) (Option.some Jvm.ClassFile.FieldType.boolean)).before a0 Z = true := hw _ (List.mem_of_getElem? (i := 11) rfl)
theorem wd12 {a0 : Array Value} {Z : State} (hw : ∀ d ∈ tables_1, d.before a0 Z = true) : (Jvm.Cond.constantDouble "com/example/pival/pival/ChainGraphTowardsPinLaw" (21 : Nat) (4607182418800017406 : UInt64)).before a0 Z = true := hw _ (List.mem_of_getElem? (i := 12) rfl)
theorem wd13 {a0 : Array Value} {Z : State} (hw : ∀ d ∈ tables_1, d.before a0 Z = true) : (Jvm.Cond.constantDouble "com/example/pival/pival/ChainGraphTowardsPinLaw" (23 : Nat) (4607182418800017409 : UInt64)).before a0 Z = true := hw _ (List.mem_of_getElem? (i := 13) rfl)
-- ===== own laws of rounding, over JvmDerived.FloatLaws 1 to 3 =====
open Jvm.FP.Core in
theorem own_datum (s : Bool) (c : Nat) (q : Int) (hc : c ≤ 2 ^ 53) (h1 : -1074 ≤ q) (h2 : q ≤ 900) :
    ∃ V : Datum, Jvm.FP.Core.fits b64 V ∧ (∃ s c q, V = .fin s c q) ∧ zval b64 V = signed s (c * 2 ^ (q + 1074).toNat) := by
  have key : ∀ (c : Nat) (q : Int), c < 2 ^ 53 → -1074 ≤ q → q ≤ 901 →
      ∃ V : Datum, Jvm.FP.Core.fits b64 V ∧ (∃ s c q, V = .fin s c q) ∧ zval b64 V = signed s (c * 2 ^ (q + 1074).toNat) := by
    intro c q hc h1 h2
    have hm : b64.qmax = 971 := by decide +kernel
    obtain ⟨c', q', e1, e2⟩ := round_exact good_b64 s (c := c) (q := q) hc (by rw [qmin_b64]; exact h1) (by rw [hm]; omega)
    refine ⟨_, round_fits good_b64 (.fin s c q), ⟨s, c', q', e1⟩, ?_⟩
    rw [e1]
    show signed s (inUnits c' q' b64.qmin) = _
    rw [e2]; unfold inUnits; rw [qmin_b64, show q - (-1074) = q + 1074 by omega]
  by_cases h : c < 2 ^ 53
  · exact key c q h h1 (by omega)
  · have e : c = 2 ^ 53 := by omega
    obtain ⟨V, f, k, z⟩ := key (2 ^ 52) (q + 1) (by decide) (by omega) (by omega)
    refine ⟨V, f, k, ?_⟩
    rw [z, e, show (q + 1 + 1074).toNat = (q + 1074).toNat + 1 by omega]
    congr 1
    generalize (q + 1074).toNat = w
    rw [Nat.pow_succ 2 w, Nat.mul_comm (2 ^ w) 2, ← Nat.mul_assoc]

open Jvm.FP.Core in
theorem own_signed_abs (i : Int) : signed (decide (i < 0)) i.natAbs = i := by
  unfold signed
  by_cases h : i < 0
  · simp only [h, decide_true, if_true]; omega
  · simp only [h, decide_false, Bool.false_eq_true, if_false]; omega

open Jvm.FP.Core in
theorem own_rep (m : Nat) (hm : m ≤ 1900) (i : Int) (hi : i.natAbs ≤ 2 ^ 53) :
    ∃ V : Datum, Jvm.FP.Core.fits b64 V ∧ (∃ s c q, V = .fin s c q) ∧ zval b64 V = i * ((2 ^ m : Nat) : Int) := by
  obtain ⟨V, f, k, z⟩ := own_datum (decide (i < 0)) i.natAbs ((m : Int) - 1074) hi (by omega) (by omega)
  refine ⟨V, f, k, ?_⟩
  rw [z, show ((m : Int) - 1074 + 1074).toNat = m by omega, signed_mul, own_signed_abs]

open Jvm.FP.Core in
/-- A finite double of the value `i * 2^(m - 1074)`. -/
def own_P (m : Nat) (x : UInt64) (i : Int) : Prop := DFin x ∧ zval b64 (val64 x) = i * ((2 ^ m : Nat) : Int)

open Jvm.FP.Core in
theorem own_kne {V : Datum} (k : ∃ s c q, V = .fin s c q) : V ≠ .nan := by
  obtain ⟨s, c, q, rfl⟩ := k
  exact Datum.noConfusion

open Jvm.FP.Core in
theorem own_squeeze {z : UInt64} {V W : Datum} (n : val64 z ≠ .nan) (fV : Jvm.FP.Core.fits b64 V) (kV : ∃ s c q, V = .fin s c q)
    (fW : Jvm.FP.Core.fits b64 W) (kW : ∃ s c q, W = .fin s c q) (h1 : zval b64 V ≤ zval b64 (val64 z))
    (h2 : zval b64 (val64 z) ≤ zval b64 W) : DFin z := by
  obtain ⟨s, c, q, rfl⟩ := kV
  obtain ⟨t, d, r, rfl⟩ := kW
  have a := zmag_lt_top good_b64 fV
  have b := zmag_lt_top good_b64 fW
  unfold DFin
  cases hD : val64 z with
  | nan => exact absurd hD n
  | fin s c q => exact ⟨s, c, q, rfl⟩
  | inf u =>
    exfalso
    rw [hD] at h1 h2
    have h1' : signed s (inUnits c q b64.qmin) ≤ signed u (b64.tails * 2 ^ (b64.exps - 2)) := h1
    have h2' : signed u (b64.tails * 2 ^ (b64.exps - 2)) ≤ signed t (inUnits d r b64.qmin) := h2
    clear h1 h2
    generalize b64.tails * 2 ^ (b64.exps - 2) = T at a b h1' h2'
    generalize inUnits c q b64.qmin = C at a h1'
    generalize inUnits d r b64.qmin = D at b h2'
    unfold signed at h1' h2'
    cases u <;> cases s <;> cases t <;> simp only [if_true, Bool.false_eq_true, if_false] at h1' h2' <;> omega

open Jvm.FP.Core in
theorem own_add_ne {x y : UInt64} (hx : DFin x) (hy : DFin y) : val64 (dadd x y) ≠ .nan :=
  (notNaN_iff _).mp (dadd_out hx.notNaN hy)

open Jvm.FP.Core in
theorem own_add_to {x y : UInt64} (hx : DFin x) (hy : DFin y) {V : Datum} (f : Jvm.FP.Core.fits b64 V) (k : ∃ s c q, V = .fin s c q)
    (h : zval b64 (val64 x) + zval b64 (val64 y) = zval b64 V) : DFin (dadd x y) ∧ zval b64 (val64 (dadd x y)) = zval b64 V := by
  have l : zval b64 (val64 (dadd x y)) ≤ zval b64 V := by
    rw [val64_dadd]; exact sum_le good_b64 hx hy (val64_fits x) (val64_fits y) f (own_kne k) (by omega)
  have g : zval b64 V ≤ zval b64 (val64 (dadd x y)) := by
    rw [val64_dadd]; exact sum_ge good_b64 hx hy (val64_fits x) (val64_fits y) f (own_kne k) (by omega)
  exact ⟨own_squeeze (own_add_ne hx hy) f k f k g l, by omega⟩

open Jvm.FP.Core in
theorem own_add {m : Nat} {x y : UInt64} {i j : Int} (hm : m ≤ 1900) (hx : own_P m x i) (hy : own_P m y j)
    (h : (i + j).natAbs ≤ 2 ^ 53) : own_P m (dadd x y) (i + j) := by
  obtain ⟨V, f, k, z⟩ := own_rep m hm (i + j) h
  have := own_add_to hx.1 hy.1 f k (by rw [hx.2, hy.2, z, Int.add_mul])
  rw [z] at this
  exact this

open Jvm.FP.Core in
theorem own_neg {m : Nat} {x : UInt64} {i : Int} (hx : own_P m x i) : own_P m (dneg x) (-i) := by
  obtain ⟨⟨s, c, q, e⟩, z⟩ := hx
  refine ⟨⟨!s, c, q, by rw [val64_dneg, e]; rfl⟩, ?_⟩
  rw [val64_dneg, zval_negate, z, Int.neg_mul]

open Jvm.FP.Core in
theorem own_sub {m : Nat} {x y : UInt64} {i j : Int} (hm : m ≤ 1900) (hx : own_P m x i) (hy : own_P m y j)
    (h : (i - j).natAbs ≤ 2 ^ 53) : own_P m (dsub x y) (i - j) := by
  rw [dsub_eq, Int.sub_eq_add_neg]
  exact own_add hm hx (own_neg hy) (by rw [← Int.sub_eq_add_neg]; exact h)

theorem own_pow_add (m k : Nat) : ((2 ^ (m + k) : Nat) : Int) = ((2 ^ k : Nat) : Int) * ((2 ^ m : Nat) : Int) := by
  rw [Nat.pow_add, Nat.mul_comm, Int.natCast_mul]

theorem own_up_P {m k : Nat} {x : UInt64} {i : Int} (h : own_P m x (i * ((2 ^ k : Nat) : Int))) : own_P (m + k) x i :=
  ⟨h.1, by rw [h.2, own_pow_add, Int.mul_assoc]⟩

theorem own_down_P {m k : Nat} {x : UInt64} {i : Int} (h : own_P (m + k) x i) : own_P m x (i * ((2 ^ k : Nat) : Int)) :=
  ⟨h.1, by rw [h.2, own_pow_add, Int.mul_assoc]⟩

open Jvm.FP.Core in
/-- A sum of whole numbers below 2^63 is a whole number not far from the exact one. -/
theorem own_add_near {x y : UInt64} {i j : Int} (hx : own_P 1074 x i) (hy : own_P 1074 y j)
    (h : (i + j).natAbs ≤ 9223372036854775808 + 1048576) :
    ∃ k, own_P 1074 (dadd x y) k ∧ (i + j) / 2048 * 2048 ≤ k ∧ k ≤ ((i + j) / 2048 + 1) * 2048 := by
  by_cases hs : (i + j).natAbs ≤ 2 ^ 53
  · exact ⟨i + j, own_add (by decide) hx hy hs, by omega, by omega⟩
  · obtain ⟨V, fV, kV, zV⟩ := own_rep 1085 (by decide) ((i + j) / 2048) (by omega)
    obtain ⟨W, fW, kW, zW⟩ := own_rep 1085 (by decide) ((i + j) / 2048 + 1) (by omega)
    have p : ((2 ^ 1085 : Nat) : Int) = 2048 * ((2 ^ 1074 : Nat) : Int) := own_pow_add 1074 11
    have u0 : (0 : Int) < ((2 ^ 1074 : Nat) : Int) := Int.natCast_pos.mpr (Nat.two_pow_pos _)
    have sx := hx.2
    have sy := hy.2
    rw [p] at zV zW
    have g : zval b64 V ≤ zval b64 (val64 (dadd x y)) := by
      rw [val64_dadd]
      refine sum_ge good_b64 hx.1 hy.1 (val64_fits x) (val64_fits y) fV (own_kne kV) ?_
      rw [zV, sx, sy, ← Int.add_mul, ← Int.mul_assoc]
      exact Int.mul_le_mul_of_nonneg_right (by omega) (by omega)
    have l : zval b64 (val64 (dadd x y)) ≤ zval b64 W := by
      rw [val64_dadd]
      refine sum_le good_b64 hx.1 hy.1 (val64_fits x) (val64_fits y) fW (own_kne kW) ?_
      rw [zW, sx, sy, ← Int.add_mul, ← Int.mul_assoc]
      exact Int.mul_le_mul_of_nonneg_right (by omega) (by omega)
    have F := own_squeeze (own_add_ne hx.1 hy.1) fV kV fW kW g l
    obtain ⟨s, c, q, e⟩ := F
    have ft := val64_fits (dadd x y)
    rw [e] at ft
    have hc : c < 2 ^ 53 := ft.1
    have hq : (-1074 : Int) ≤ q := by have := ft.2.1; rw [qmin_b64] at this; exact this
    have zz : zval b64 (val64 (dadd x y)) = signed s (c * 2 ^ (q + 1074).toNat) := by
      rw [e]; show signed s (inUnits c q b64.qmin) = _
      unfold inUnits; rw [qmin_b64, show q - (-1074) = q + 1074 by omega]
    rw [zV, ← Int.mul_assoc] at g
    rw [zW, ← Int.mul_assoc] at l
    by_cases q0 : 0 ≤ q
    · have z2 : zval b64 (val64 (dadd x y)) = signed s (c * 2 ^ q.toNat) * ((2 ^ 1074 : Nat) : Int) := by
        rw [zz, show (q + 1074).toNat = q.toNat + 1074 by omega, Nat.pow_add, ← Nat.mul_assoc, signed_mul]
      rw [z2] at g l
      exact ⟨_, ⟨⟨s, c, q, e⟩, z2⟩, Int.le_of_mul_le_mul_right g u0, Int.le_of_mul_le_mul_right l u0⟩
    · exfalso
      have b1 : c * 2 ^ (q + 1074).toNat ≤ 2 ^ 53 * 2 ^ 1073 :=
        Nat.mul_le_mul (Nat.le_of_lt hc) (Nat.pow_le_pow_right (by decide) (by omega))
      have b2 : 2 ^ 53 * 2 ^ 1073 = 2 ^ 52 * 2 ^ 1074 := by
        rw [← Nat.pow_add, ← Nat.pow_add]
      rw [b2] at b1
      have b3 : ((c * 2 ^ (q + 1074).toNat : Nat) : Int) ≤ 4503599627370496 * ((2 ^ 1074 : Nat) : Int) := by
        have := Int.ofNat_le.mpr b1
        rw [Int.natCast_mul (2 ^ 52)] at this
        exact this
      rw [zz] at g l
      generalize ((2 ^ 1074 : Nat) : Int) = U at *
      generalize c * 2 ^ (q + 1074).toNat = C at *
      have b4 : -(4503599627370496 * U) ≤ signed s C ∧ signed s C ≤ 4503599627370496 * U := by
        unfold signed
        cases s
        · simp only [Bool.false_eq_true, if_false]; omega
        · simp only [if_true]; omega
      have g2 := Int.le_trans g b4.2
      have l2 := Int.le_trans b4.1 l
      rw [← Int.neg_mul] at l2
      have g3 := Int.le_of_mul_le_mul_right g2 u0
      have l3 := Int.le_of_mul_le_mul_right l2 u0
      omega

open Jvm.FP.Core in
theorem own_sub_near {x y : UInt64} {i j : Int} (hx : own_P 1074 x i) (hy : own_P 1074 y j)
    (h : (i - j).natAbs ≤ 9223372036854775808 + 1048576) :
    ∃ k, own_P 1074 (dsub x y) k ∧ (i - j) / 2048 * 2048 ≤ k ∧ k ≤ ((i - j) / 2048 + 1) * 2048 := by
  rw [dsub_eq, Int.sub_eq_add_neg]
  exact own_add_near hx (own_neg hy) (by rw [← Int.sub_eq_add_neg]; exact h)

open Jvm.FP.Core in
theorem own_l2d {n : Int64} {k : Int} {s : Nat} (hs : s ≤ 800) (h : n.toInt = k * ((2 ^ s : Nat) : Int))
    (hk : k.natAbs ≤ 2 ^ 53) : own_P 1074 (l2d n) n.toInt := by
  obtain ⟨V, f, kV, z⟩ := own_rep (1074 + s) (by omega) k hk
  have e := val64_of64 f
  have n1 : val64 (of64 V) ≠ .nan := by rw [e]; exact own_kne kV
  have z2 : zval b64 (val64 (of64 V)) = n.toInt * (one64 : Int) := by
    rw [e, z, own_pow_add, h, Int.mul_assoc]; rfl
  have a := l2d_zval_ge (n := n) n1 (by omega)
  have b := l2d_zval_le (n := n) n1 (by omega)
  exact ⟨l2d_fin n, by rw [z2] at a b; show _ = _ * (one64 : Int); omega⟩

open Jvm.FP.Core in
theorem own_d2l {x : UInt64} {i : Int} (h : own_P 1074 x i) (h1 : -2 ^ 63 ≤ i) (h2 : i < 2 ^ 63) : (d2l x).toInt = i := by
  rw [d2l_val h.1.ne_nan]
  have z : signed (sgn (val64 x)) (zmag b64 (val64 x)) = i * (one64 : Int) := h.2
  have a : zmag b64 (val64 x) = i.natAbs * one64 := by
    have := congrArg Int.natAbs z
    rw [natAbs_signed, Int.natAbs_mul] at this
    exact this
  have b : signed (sgn (val64 x)) (i.natAbs) = i := by
    rw [a, signed_mul] at z
    exact Int.eq_of_mul_eq_mul_right (Int.natCast_ne_zero.mpr (Nat.ne_of_gt one64_pos)) z
  rw [a, Nat.mul_div_cancel _ one64_pos, b]
  omega
open Jvm.FP.Core in
theorem own_quot {x y : UInt64} (hx : DFin x) (hy : DFin y) (sx : sgn (val64 x) = false) (sy : sgn (val64 y) = false)
    (y0 : zmag b64 (val64 y) ≠ 0) : ∃ c d q r, val64 x = .fin false c q ∧ val64 y = .fin false d r ∧ 0 < d ∧
      -1074 ≤ q ∧ -1074 ≤ r ∧ val64 (ddiv x y) = roundRatio b64 false c d (q - r) ∧
      (∀ e : Int, inUnits c (q - r) (2 * b64.qmin - r) = zmag b64 (val64 x) * one64) ∧
      2 ^ (b64.qmin - (2 * b64.qmin - r)).toNat * d = zmag b64 (val64 y) := by
  obtain ⟨s, c, q, e1⟩ := hx
  obtain ⟨t, d, r, e2⟩ := hy
  have f1 := val64_fits x
  have f2 := val64_fits y
  have hd := val64_ddiv x y
  rw [e1] at sx f1 hd ⊢
  rw [e2] at sy f2 y0 hd ⊢
  have sx' : s = false := sx
  have sy' : t = false := sy
  subst sx' sy'
  have q1 : (-1074 : Int) ≤ q := by have := f1.2.1; rw [qmin_b64] at this; exact this
  have r1 : (-1074 : Int) ≤ r := by have := f2.2.1; rw [qmin_b64] at this; exact this
  have hd0 : d ≠ 0 := by
    rintro rfl
    exact y0 (Nat.zero_mul _)
  refine ⟨c, d, q, r, rfl, rfl, Nat.pos_of_ne_zero hd0, q1, r1, ?_, ?_, ?_⟩
  · rw [hd]; simp only [quotient, if_neg hd0]; rfl
  · intro _
    show c * _ = c * _ * 2 ^ 1074
    rw [Nat.mul_assoc, ← Nat.pow_add, qmin_b64]; congr 2; omega
  · show _ = d * _
    rw [Nat.mul_comm, qmin_b64]; congr 2; omega

open Jvm.FP.Core in
theorem own_div_sgn {x y : UInt64} (hx : DFin x) (hy : DFin y) (sx : sgn (val64 x) = false) (sy : sgn (val64 y) = false)
    (y0 : zmag b64 (val64 y) ≠ 0) : sgn (val64 (ddiv x y)) = false ∧ val64 (ddiv x y) ≠ .nan := by
  obtain ⟨c, d, q, r, e1, e2, d0, q1, r1, e, u1, u2⟩ := own_quot hx hy sx sy y0
  rw [e]
  exact ⟨sgn_roundRatio .., roundRatio_ne_nan _ _ _ _ _⟩

open Jvm.FP.Core in
theorem own_div_le {x y : UInt64} (hx : DFin x) (hy : DFin y) (sx : sgn (val64 x) = false) (sy : sgn (val64 y) = false)
    (y0 : zmag b64 (val64 y) ≠ 0) {V : Datum} (f : Jvm.FP.Core.fits b64 V) (n : V ≠ .nan)
    (h : zmag b64 (val64 x) * one64 ≤ zmag b64 V * zmag b64 (val64 y)) : zmag b64 (val64 (ddiv x y)) ≤ zmag b64 V := by
  obtain ⟨c, d, q, r, e1, e2, d0, q1, r1, e, u1, u2⟩ := own_quot hx hy sx sy y0
  rw [e]
  have qm := qmin_b64
  refine zmag_roundRatio_le good_b64 d0 f n (e0 := 2 * b64.qmin - r) (by omega) (by omega) ?_
  rw [u1 0, Nat.mul_assoc, u2]
  exact h

open Jvm.FP.Core in
theorem own_div_ge {x y : UInt64} (hx : DFin x) (hy : DFin y) (sx : sgn (val64 x) = false) (sy : sgn (val64 y) = false)
    (y0 : zmag b64 (val64 y) ≠ 0) {V : Datum} (f : Jvm.FP.Core.fits b64 V)
    (h : zmag b64 V * zmag b64 (val64 y) ≤ zmag b64 (val64 x) * one64) : zmag b64 V ≤ zmag b64 (val64 (ddiv x y)) := by
  obtain ⟨c, d, q, r, e1, e2, d0, q1, r1, e, u1, u2⟩ := own_quot hx hy sx sy y0
  rw [e]
  have qm := qmin_b64
  refine zmag_roundRatio_ge good_b64 d0 f (e0 := 2 * b64.qmin - r) (by omega) (by omega) ?_
  rw [u1 0, Nat.mul_assoc, u2]
  exact h

open Jvm.FP.Core in
theorem own_zval {d : Datum} (s : sgn d = false) : zval b64 d = (zmag b64 d : Int) := by
  unfold zval signed; rw [s]; rfl
open Jvm.FP.Core in
theorem own_signed_prod (s t : Bool) (a b : Nat) : signed (s != t) (a * b) = signed s a * signed t b := by
  unfold signed
  cases s <;> cases t <;> simp [Int.natCast_mul, Int.neg_mul, Int.mul_neg]

open Jvm.FP.Core in
theorem own_mul_units {x y : UInt64} (hx : DFin x) (hy : DFin y) : ∃ s c e, val64 (dmul x y) = round b64 (.fin s c e) ∧
    2 * b64.qmin ≤ e ∧ signed s (inUnits c e (2 * b64.qmin)) = zval b64 (val64 x) * zval b64 (val64 y) := by
  obtain ⟨s, c, q, e1⟩ := hx
  obtain ⟨t, d, r, e2⟩ := hy
  have f1 := val64_fits x
  have f2 := val64_fits y
  have m := val64_dmul x y
  rw [e1] at f1 m ⊢
  rw [e2] at f2 m ⊢
  obtain ⟨p1, p2, p3⟩ := product_units f1 f2
  rw [p1] at m
  refine ⟨_, _, _, m, p2, ?_⟩
  rw [p3, own_signed_prod]
  rfl

open Jvm.FP.Core in
theorem own_mul_le {x y : UInt64} (hx : DFin x) (hy : DFin y) {V : Datum} (f : Jvm.FP.Core.fits b64 V) (n : V ≠ .nan)
    (h : zval b64 (val64 x) * zval b64 (val64 y) ≤ zval b64 V * (one64 : Int)) : zval b64 (val64 (dmul x y)) ≤ zval b64 V := by
  obtain ⟨s, c, e, m, p2, p3⟩ := own_mul_units hx hy
  have qm := qmin_b64
  rw [m]
  refine zval_round_le good_b64 f n (e0 := 2 * b64.qmin) (by omega) p2 ?_
  rw [p3, show (b64.qmin - 2 * b64.qmin).toNat = 1074 by omega]
  exact h

open Jvm.FP.Core in
theorem own_mul_ge {x y : UInt64} (hx : DFin x) (hy : DFin y) {V : Datum} (f : Jvm.FP.Core.fits b64 V) (n : V ≠ .nan)
    (h : zval b64 V * (one64 : Int) ≤ zval b64 (val64 x) * zval b64 (val64 y)) : zval b64 V ≤ zval b64 (val64 (dmul x y)) := by
  obtain ⟨s, c, e, m, p2, p3⟩ := own_mul_units hx hy
  have qm := qmin_b64
  rw [m]
  refine zval_round_ge good_b64 f n (e0 := 2 * b64.qmin) (by omega) p2 ?_
  rw [p3, show (b64.qmin - 2 * b64.qmin).toNat = 1074 by omega]
  exact h

open Jvm.FP.Core in
theorem own_mul_ne {x y : UInt64} (hx : DFin x) (hy : DFin y) : val64 (dmul x y) ≠ .nan := (notNaN_iff _).mp (dmul_out hx hy)

open Jvm.FP.Core in
theorem own_two_P : own_P 1074 4611686018427387904 2 := ⟨⟨false, 2 ^ 52, -51, by decide +kernel⟩, by decide +kernel⟩

open Jvm.FP.Core in
theorem own_mul2 {x : UInt64} {k : Int} (hx : own_P 1073 x k) (hk : k.natAbs ≤ 2 ^ 53) : own_P 1074 (dmul x 4611686018427387904) k := by
  obtain ⟨V, f, kV, z⟩ := own_rep 1074 (by decide) k hk
  have p : ((2 ^ 1074 : Nat) : Int) = 2 * ((2 ^ 1073 : Nat) : Int) := own_pow_add 1073 1
  have e : zval b64 (val64 x) * zval b64 (val64 4611686018427387904) = zval b64 V * (one64 : Int) := by
    rw [hx.2, own_two_P.2, z]
    show k * ((2 ^ 1073 : Nat) : Int) * (2 * ((2 ^ 1074 : Nat) : Int)) = k * ((2 ^ 1074 : Nat) : Int) * ((2 ^ 1074 : Nat) : Int)
    generalize hu : ((2 ^ 1074 : Nat) : Int) = u at *
    generalize ((2 ^ 1073 : Nat) : Int) = w at *
    rw [p]
    ac_rfl
  have l := own_mul_le hx.1 own_two_P.1 f (own_kne kV) (Int.le_of_eq e)
  have g := own_mul_ge hx.1 own_two_P.1 f (own_kne kV) (Int.le_of_eq e.symm)
  refine ⟨own_squeeze (own_mul_ne hx.1 own_two_P.1) f kV f kV g l, ?_⟩
  rw [← z]; omega

open Jvm.FP.Core in
theorem own_pos_sgn {d : Datum} (h : 0 < zval b64 d) : sgn d = false := by
  unfold zval signed at h
  cases hs : sgn d
  · rfl
  · rw [hs] at h; simp only [if_true] at h; omega

open Jvm.FP.Core in
theorem own_pos_mag {d : Datum} {k : Int} {m : Nat} (hk : 0 < k) (h : zval b64 d = k * ((2 ^ m : Nat) : Int)) :
    sgn d = false ∧ zmag b64 d = k.toNat * 2 ^ m := by
  have u0 : (0 : Int) < ((2 ^ m : Nat) : Int) := Int.natCast_pos.mpr (Nat.two_pow_pos _)
  have p : 0 < zval b64 d := by rw [h]; exact Int.mul_pos hk u0
  have s := own_pos_sgn p
  refine ⟨s, ?_⟩
  rw [own_zval s] at h
  have e : ((k.toNat * 2 ^ m : Nat) : Int) = k * ((2 ^ m : Nat) : Int) := by
    rw [Int.natCast_mul, Int.toNat_of_nonneg (Int.le_of_lt hk)]
  omega

open Jvm.FP.Core in
theorem own_div2 {x : UInt64} {k : Int} (hx : own_P 1074 x k) (k0 : 0 < k) (hk : k.natAbs ≤ 2 ^ 53) : own_P 1073 (ddiv x 4611686018427387904) k := by
  obtain ⟨V, f, kV, z⟩ := own_rep 1073 (by decide) k hk
  obtain ⟨sx, mx⟩ := own_pos_mag k0 hx.2
  obtain ⟨sV, mV⟩ := own_pos_mag k0 z
  obtain ⟨sy, my⟩ := own_pos_mag (k := 2) (by decide) own_two_P.2
  have y0 : zmag b64 (val64 4611686018427387904) ≠ 0 := by
    rw [my]; exact Nat.ne_of_gt (Nat.mul_pos (by decide) (Nat.two_pow_pos _))
  have e : zmag b64 (val64 x) * one64 = zmag b64 V * zmag b64 (val64 4611686018427387904) := by
    have p : (2 : Nat) ^ 1074 = 2 * 2 ^ 1073 := by rw [show 1074 = 1073 + 1 from rfl, Nat.pow_succ, Nat.mul_comm]
    rw [mx, mV, my, show (2 : Int).toNat = 2 from rfl, show one64 = 2 ^ 1074 from rfl]
    generalize hu : (2 : Nat) ^ 1074 = u at *
    generalize (2 : Nat) ^ 1073 = w at *
    rw [p]
    ac_rfl
  have l := own_div_le hx.1 own_two_P.1 sx sy y0 f (own_kne kV) (Nat.le_of_eq e)
  have g := own_div_ge hx.1 own_two_P.1 sx sy y0 f (Nat.le_of_eq e.symm)
  have sn := own_div_sgn hx.1 own_two_P.1 sx sy y0
  have zz : zval b64 (val64 (ddiv x 4611686018427387904)) = zval b64 V := by
    rw [own_zval sn.1, own_zval sV]; omega
  exact ⟨own_squeeze sn.2 f kV f kV (by omega) (by omega), by rw [zz, z]⟩
open Jvm.FP.Core in
theorem own_one_P : own_P 1074 4607182418800017408 1 := ⟨⟨false, 2 ^ 52, -52, by decide +kernel⟩, by decide +kernel⟩

theorem own_log (n : Nat) (h : 0 < n) : 2 ^ n.log2 ≤ n ∧ n < 2 ^ (n.log2 + 1) := ⟨Nat.log2_self_le (by omega), Nat.lt_log2_self⟩

theorem own_ceil (P n : Nat) (h : 0 < n) : P ≤ ((P + n - 1) / n) * n ∧ ((P + n - 1) / n) * n ≤ P + n - 1 := by
  have a := Nat.div_add_mod (P + n - 1) n
  have b := Nat.mod_lt (P + n - 1) h
  rw [Nat.mul_comm] at a
  omega

open Jvm.FP.Core in
/-- A number `c / 2^(53 + j)` of the format beside the rounded reciprocal. -/
theorem own_rec_le {x : UInt64} {n c m : Nat} (hx : own_P 1074 x (n : Int)) (n0 : 0 < n) (c0 : 0 < c) (hc : c ≤ 2 ^ 53) (hm : m ≤ 1074)
    (h : 2 ^ (1074 - m) ≤ c * n) : zmag b64 (val64 (ddiv 4607182418800017408 x)) ≤ c * 2 ^ m := by
  obtain ⟨V, f, kV, z⟩ := own_rep m (by omega) (c : Int) (by omega)
  obtain ⟨sV, mV⟩ := own_pos_mag (by omega) z
  obtain ⟨s1, m1⟩ := own_pos_mag (k := 1) (by decide) own_one_P.2
  obtain ⟨sx, mx⟩ := own_pos_mag (by omega) hx.2
  have x0 : zmag b64 (val64 x) ≠ 0 := by
    rw [mx]; exact Nat.ne_of_gt (Nat.mul_pos (by omega) (Nat.two_pow_pos _))
  rw [show (c : Int).toNat = c from Int.toNat_natCast c] at mV
  rw [← mV]
  refine own_div_le own_one_P.1 hx.1 s1 sx x0 f (own_kne kV) ?_
  rw [m1, mV, mx, show (1 : Int).toNat = 1 from rfl, Nat.one_mul, show (n : Int).toNat = n from Int.toNat_natCast n]
  have e : 2 ^ (1074 - m) * 2 ^ m = one64 := by rw [← Nat.pow_add, Nat.sub_add_cancel hm]; rfl
  rw [show (2 : Nat) ^ 1074 = one64 from rfl]
  generalize one64 = T at *
  calc T * T = 2 ^ (1074 - m) * 2 ^ m * T := by rw [e]
    _ ≤ c * n * 2 ^ m * T := Nat.mul_le_mul_right _ (Nat.mul_le_mul_right _ h)
    _ = c * 2 ^ m * (n * T) := by ac_rfl

open Jvm.FP.Core in
theorem own_rec_ge {x : UInt64} {n c m : Nat} (hx : own_P 1074 x (n : Int)) (n0 : 0 < n) (c0 : 0 < c) (hc : c ≤ 2 ^ 53) (hm : m ≤ 1074)
    (h : c * n ≤ 2 ^ (1074 - m)) : c * 2 ^ m ≤ zmag b64 (val64 (ddiv 4607182418800017408 x)) := by
  obtain ⟨V, f, kV, z⟩ := own_rep m (by omega) (c : Int) (by omega)
  obtain ⟨sV, mV⟩ := own_pos_mag (by omega) z
  obtain ⟨s1, m1⟩ := own_pos_mag (k := 1) (by decide) own_one_P.2
  obtain ⟨sx, mx⟩ := own_pos_mag (by omega) hx.2
  have x0 : zmag b64 (val64 x) ≠ 0 := by
    rw [mx]; exact Nat.ne_of_gt (Nat.mul_pos (by omega) (Nat.two_pow_pos _))
  rw [show (c : Int).toNat = c from Int.toNat_natCast c] at mV
  rw [← mV]
  refine own_div_ge own_one_P.1 hx.1 s1 sx x0 f ?_
  rw [m1, mV, mx, show (1 : Int).toNat = 1 from rfl, Nat.one_mul, show (n : Int).toNat = n from Int.toNat_natCast n]
  have e : 2 ^ (1074 - m) * 2 ^ m = one64 := by rw [← Nat.pow_add, Nat.sub_add_cancel hm]; rfl
  rw [show (2 : Nat) ^ 1074 = one64 from rfl]
  generalize one64 = T at *
  calc c * 2 ^ m * (n * T) = c * n * 2 ^ m * T := by ac_rfl
    _ ≤ 2 ^ (1074 - m) * 2 ^ m * T := Nat.mul_le_mul_right _ (Nat.mul_le_mul_right _ h)
    _ = T * T := by rw [e]

open Jvm.FP.Core in
theorem own_rec_sgn {x : UInt64} {n : Nat} (hx : own_P 1074 x (n : Int)) (n0 : 0 < n) :
    sgn (val64 (ddiv 4607182418800017408 x)) = false ∧ DFin (ddiv 4607182418800017408 x) := by
  obtain ⟨s1, m1⟩ := own_pos_mag (k := 1) (by decide) own_one_P.2
  obtain ⟨sx, mx⟩ := own_pos_mag (by omega) hx.2
  have x0 : zmag b64 (val64 x) ≠ 0 := by
    rw [mx]; exact Nat.ne_of_gt (Nat.mul_pos (by omega) (Nat.two_pow_pos _))
  have g := own_div_sgn own_one_P.1 hx.1 s1 sx x0
  refine ⟨g.1, ?_⟩
  have u := own_rec_le (c := 1) (m := 1074) hx n0 (by decide) (by decide) (by decide) (by show 1 ≤ 1 * n; omega)
  refine own_squeeze g.2 (V := val64 0) (W := val64 4607182418800017408) (val64_fits _) ⟨_, _, _, val64_zero⟩ (val64_fits _) own_one_P.1 ?_ ?_
  · rw [own_zval g.1, zval64_zero]; omega
  · rw [own_zval g.1, own_one_P.2, Int.one_mul]
    exact Int.ofNat_le.mpr (by rw [Nat.one_mul] at u; exact u)

open Jvm.FP.Core in
/-- The rounded reciprocals fall strictly. -/
theorem own_rec_lt {x y : UInt64} {a b : Nat} (hx : own_P 1074 x (a : Int)) (hy : own_P 1074 y (b : Int)) (a0 : 0 < a) (h : a < b) (hb : b < 2 ^ 31) :
    zmag b64 (val64 (ddiv 4607182418800017408 y)) < zmag b64 (val64 (ddiv 4607182418800017408 x)) := by
  obtain ⟨l1, l2⟩ := own_log b (by omega)
  have lj : b.log2 ≤ 30 := by
    have : b.log2 < 31 := (Nat.log2_lt (by omega)).mpr hb
    omega
  generalize b.log2 = j at *
  obtain ⟨c1, c2⟩ := own_ceil (2 ^ (52 + j)) b (by omega)
  generalize (2 ^ (52 + j) + b - 1) / b = c at *
  have e52 : 2 ^ (52 + j) = 2 ^ 52 * 2 ^ j := Nat.pow_add ..
  have e1 : 2 ^ (j + 1) = 2 ^ j * 2 := Nat.pow_succ ..
  have pj : 0 < 2 ^ j := Nat.two_pow_pos _
  have cpos : 0 < c := by
    rcases Nat.eq_zero_or_pos c with q | q
    · subst q
      have := Nat.two_pow_pos (52 + j)
      omega
    · exact q
  have cle : c ≤ 2 ^ 52 := by
    have q : c * 2 ^ j ≤ 2 ^ 52 * 2 ^ j + (2 ^ j - 1) := by
      by_cases w : c ≤ 2 ^ 52
      · have := Nat.mul_le_mul_right (2 ^ j) w; omega
      · exfalso
        have w1 : 2 ^ 52 + 1 ≤ c := by omega
        have w2 := Nat.mul_le_mul_right b w1
        rw [Nat.add_mul, Nat.one_mul] at w2
        have w3 := Nat.mul_le_mul_left (2 ^ 52) l1
        omega
    by_cases w : c ≤ 2 ^ 52
    · exact w
    · exfalso
      have w1 : 2 ^ 52 + 1 ≤ c := by omega
      have w2 := Nat.mul_le_mul_right (2 ^ j) w1
      rw [Nat.add_mul, Nat.one_mul] at w2
      omega
  have key : (c + 1) * a ≤ 2 ^ (52 + j) := by
    have k1 : 2 * (a * b) ≤ 2 ^ (52 + j) := by
      have q1 : a * b ≤ 2 ^ 31 * 2 ^ (j + 1) := Nat.mul_le_mul (by omega) (Nat.le_of_lt l2)
      rw [e1] at q1
      rw [e52]
      omega
    have k2 := Nat.mul_le_mul_right a c2
    have k3 := Nat.mul_le_mul_right (2 ^ (52 + j)) h
    have k4 : (c + 1) * a * b ≤ 2 ^ (52 + j) * b := by
      generalize hP : 2 ^ (52 + j) = P at *
      have r1 : (c + 1) * a * b = c * b * a + a * b := by
        rw [Nat.add_mul, Nat.one_mul, Nat.add_mul]
        congr 1
        ac_rfl
      have r2 : (P + b - 1) * a ≤ P * a + a * b := by
        have : (P + b - 1) * a ≤ (P + b) * a := Nat.mul_le_mul_right _ (by omega)
        rw [Nat.add_mul, Nat.mul_comm b a] at this
        exact this
      have r3 : (a + 1) * P = P * a + P := by rw [Nat.add_mul, Nat.one_mul, Nat.mul_comm]
      have r4 : b * P = P * b := Nat.mul_comm ..
      rw [Nat.succ_eq_add_one, r3, r4] at k3
      rw [r1]
      omega
    exact Nat.le_of_mul_le_mul_right k4 (by omega)
  have up := own_rec_le (c := c) (m := 1022 - j) hy (by omega) cpos (by omega) (by omega) (by rw [show 1074 - (1022 - j) = 52 + j by omega]; exact c1)
  have dn := own_rec_ge (c := c + 1) (m := 1022 - j) hx a0 (by omega) (by omega) (by omega) (by rw [show 1074 - (1022 - j) = 52 + j by omega]; exact key)
  rw [Nat.add_mul, Nat.one_mul] at dn
  have := Nat.two_pow_pos (1022 - j)
  omega

open Jvm.FP.Core in
/-- The rounded reciprocal times its number is one within a rounding. -/
theorem own_rec_mul {x : UInt64} {n : Nat} (hx : own_P 1074 x (n : Int)) (n0 : 0 < n) (hn : n < 2 ^ 31) :
    DFin (dmul (ddiv 4607182418800017408 x) x) ∧
    zval b64 (val64 4607182418800017406) ≤ zval b64 (val64 (dmul (ddiv 4607182418800017408 x) x)) ∧
    zval b64 (val64 (dmul (ddiv 4607182418800017408 x) x)) ≤ zval b64 (val64 4607182418800017409) := by
  obtain ⟨l1, l2⟩ := own_log n n0
  have lj : n.log2 ≤ 30 := by
    have : n.log2 < 31 := (Nat.log2_lt (by omega)).mpr hn
    omega
  generalize n.log2 = j at *
  obtain ⟨g, F⟩ := own_rec_sgn hx n0
  have e53 : 2 ^ (53 + j) = 2 ^ 53 * 2 ^ j := Nat.pow_add ..
  have e1 : 2 ^ (j + 1) = 2 ^ j * 2 := Nat.pow_succ ..
  have pj : 0 < 2 ^ j := Nat.two_pow_pos _
  obtain ⟨c1, c2⟩ := own_ceil (2 ^ (53 + j)) n n0
  have d1 : 2 ^ (53 + j) / n * n ≤ 2 ^ (53 + j) := Nat.div_mul_le_self ..
  have d2 : 2 ^ (53 + j) < 2 ^ (53 + j) / n * n + n := by
    have a := Nat.div_add_mod (2 ^ (53 + j)) n
    have b := Nat.mod_lt (2 ^ (53 + j)) n0
    rw [Nat.mul_comm] at a
    omega
  generalize (2 ^ (53 + j) + n - 1) / n = u at *
  generalize 2 ^ (53 + j) / n = c at *
  have ule : u ≤ 2 ^ 53 := by
    by_cases w : u ≤ 2 ^ 53
    · exact w
    · exfalso
      have w1 : 2 ^ 53 + 1 ≤ u := by omega
      have w2 := Nat.mul_le_mul_right n w1
      rw [Nat.add_mul, Nat.one_mul] at w2
      have w3 := Nat.mul_le_mul_left (2 ^ 53) l1
      omega
  have cle : c ≤ 2 ^ 53 := by
    by_cases w : c ≤ 2 ^ 53
    · exact w
    · exfalso
      have w1 : 2 ^ 53 + 1 ≤ c := by omega
      have w2 := Nat.mul_le_mul_right n w1
      rw [Nat.add_mul, Nat.one_mul] at w2
      have w3 := Nat.mul_le_mul_left (2 ^ 53) l1
      omega
  have upos : 0 < u := by
    rcases Nat.eq_zero_or_pos u with q | q
    · subst q; omega
    · exact q
  have cpos : 0 < c := by
    rcases Nat.eq_zero_or_pos c with q | q
    · subst q; omega
    · exact q
  have up := own_rec_le (c := u) (m := 1021 - j) hx n0 upos ule (by omega) (by rw [show 1074 - (1021 - j) = 53 + j by omega]; exact c1)
  have dn := own_rec_ge (c := c) (m := 1021 - j) hx n0 cpos cle (by omega) (by rw [show 1074 - (1021 - j) = 53 + j by omega]; exact d1)
  have hv := own_zval g
  have zlo : zval b64 (val64 4607182418800017406) = ((2 ^ 1074 - 2 ^ 1022 : Nat) : Int) := by decide +kernel
  have zhi : zval b64 (val64 4607182418800017409) = ((2 ^ 1074 + 2 ^ 1022 : Nat) : Int) := by decide +kernel
  have p1 : 2 ^ 1074 = 2 ^ (53 + j) * 2 ^ (1021 - j) := by rw [← Nat.pow_add, show 53 + j + (1021 - j) = 1074 by omega]
  have p2 : 2 ^ 1022 = 2 ^ (j + 1) * 2 ^ (1021 - j) := by rw [← Nat.pow_add, show j + 1 + (1021 - j) = 1022 by omega]
  have hi2 : zmag b64 (val64 (ddiv 4607182418800017408 x)) * n ≤ 2 ^ 1074 + 2 ^ 1022 := by
    rw [p1, p2, ← Nat.add_mul]
    calc zmag b64 (val64 (ddiv 4607182418800017408 x)) * n ≤ u * 2 ^ (1021 - j) * n := Nat.mul_le_mul_right _ up
      _ = u * n * 2 ^ (1021 - j) := by ac_rfl
      _ ≤ (2 ^ (53 + j) + 2 ^ (j + 1)) * 2 ^ (1021 - j) := Nat.mul_le_mul_right _ (by omega)
  have lo2 : 2 ^ 1074 - 2 ^ 1022 ≤ zmag b64 (val64 (ddiv 4607182418800017408 x)) * n := by
    rw [p1, p2, ← Nat.sub_mul]
    calc (2 ^ (53 + j) - 2 ^ (j + 1)) * 2 ^ (1021 - j) ≤ c * n * 2 ^ (1021 - j) := Nat.mul_le_mul_right _ (by omega)
      _ = c * 2 ^ (1021 - j) * n := by ac_rfl
      _ ≤ zmag b64 (val64 (ddiv 4607182418800017408 x)) * n := Nat.mul_le_mul_right _ dn
  have prod : zval b64 (val64 (ddiv 4607182418800017408 x)) * zval b64 (val64 x) = ((zmag b64 (val64 (ddiv 4607182418800017408 x)) * n : Nat) : Int) * (one64 : Int) := by
    rw [hv, hx.2, Int.natCast_mul, Int.mul_assoc, show (2 : Nat) ^ 1074 = one64 from rfl]
  have o0 : (0 : Int) ≤ (one64 : Int) := Int.natCast_nonneg _
  have l : zval b64 (val64 (dmul (ddiv 4607182418800017408 x) x)) ≤ zval b64 (val64 4607182418800017409) := by
    refine own_mul_le F hx.1 (val64_fits _) (by decide +kernel) ?_
    rw [prod, zhi]
    exact Int.mul_le_mul_of_nonneg_right (Int.ofNat_le.mpr hi2) o0
  have gq : zval b64 (val64 4607182418800017406) ≤ zval b64 (val64 (dmul (ddiv 4607182418800017408 x) x)) := by
    refine own_mul_ge F hx.1 (val64_fits _) (by decide +kernel) ?_
    rw [prod, zlo]
    exact Int.mul_le_mul_of_nonneg_right (Int.ofNat_le.mpr lo2) o0
  exact ⟨own_squeeze (own_mul_ne F hx.1) (val64_fits _) ⟨false, 2 ^ 53 - 2, -53, by decide +kernel⟩ (val64_fits _) ⟨false, 2 ^ 52 + 1, -52, by decide +kernel⟩ gq l, gq, l⟩
open Jvm.FP.Core in
theorem own_cmp_P {m : Nat} {x y : UInt64} {i j : Int} (hx : own_P m x i) (hy : own_P m y j) :
    dcmp x y = some (if i < j then .lt else if i = j then .eq else .gt) := by
  have u0 : (0 : Int) < ((2 ^ m : Nat) : Int) := Int.natCast_pos.mpr (Nat.two_pow_pos _)
  rw [dcmp_zval hx.1.ne_nan hy.1.ne_nan, hx.2, hy.2, compare_ite]
  have c1 : i * ((2 ^ m : Nat) : Int) < j * ((2 ^ m : Nat) : Int) ↔ i < j := Int.mul_lt_mul_right u0
  have c2 : i * ((2 ^ m : Nat) : Int) = j * ((2 ^ m : Nat) : Int) ↔ i = j :=
    ⟨fun h => Int.eq_of_mul_eq_mul_right (Int.ne_of_gt u0) h, fun h => by rw [h]⟩
  simp only [c1, c2]

open Jvm.FP.Core in
theorem own_cmp_z {x y : UInt64} (nx : val64 x ≠ .nan) (ny : val64 y ≠ .nan) (sx : sgn (val64 x) = false) (sy : sgn (val64 y) = false) :
    dcmp x y = some (if zmag b64 (val64 x) < zmag b64 (val64 y) then .lt else if zmag b64 (val64 x) = zmag b64 (val64 y) then .eq else .gt) := by
  rw [dcmp_zval nx ny, compare_ite, own_zval sx, own_zval sy]
  simp only [Int.ofNat_lt, Int.ofNat_inj]


def own_rc (v : UInt64) (k : Int32) : Prop := (k = (0 : Int32) → cmpValue (FP.dcmp v 4607182418800017408) .l = (0 : Int32)) ∧ (¬ k = (0 : Int32) → Jvm.Free.Fl.NoNaN64 (FP.dadd (FP.i2d k) 4607182418800017408) ∧ Jvm.Free.Fl.NoNaN64 (FP.dmul v (FP.dadd (FP.i2d k) 4607182418800017408)) ∧ ¬ cmpValue (FP.dcmp (FP.dmul v (FP.dadd (FP.i2d k) 4607182418800017408)) 4607182418800017406) .l < (0 : Int32) ∧ ¬ (0 : Int32) < cmpValue (FP.dcmp (FP.dmul v (FP.dadd (FP.i2d k) 4607182418800017408)) 4607182418800017409) .g ∧ (0 : Int32) < cmpValue (FP.dcmp v 0) .l ∧ cmpValue (FP.dcmp v 4607182418800017408) .g < (0 : Int32))
theorem own_neg32 (x : Int32) : (x ||| (-2147483648 : Int32)) < (0 : Int32) := by
  rw [Int32.lt_iff_toInt_lt]
  have o := (c_orS x (-2147483648)).2.2 (by decide)
  exact o
theorem own_k (x : Int32) : 0 ≤ ((x &&& (2147483647 : Int32)) % (2147483647 : Int32)).toInt ∧ ((x &&& (2147483647 : Int32)) % (2147483647 : Int32)).toInt < 2147483647 := by
  have q1 := c_mask x 2147483647 31 (by decide) (by decide)
  have q2 := c_irem (x &&& 2147483647) 2147483647 2147483647 rfl
  omega
theorem own_nnP {m : Nat} {x : UInt64} {i : Int} (h : own_P m x i) : Jvm.Free.Fl.NoNaN64 x := (Jvm.Free.Fl.fin64_core.mpr h.1).noNaN
theorem own_i2dP (x : Int32) : own_P 1074 (FP.i2d x) x.toInt := by
  have e : x.toInt64.toInt = x.toInt := c_i2l x
  have r := rng32 x
  have h := own_l2d (n := x.toInt64) (k := x.toInt) (s := 0) (by decide) (by rw [e]; simp) (by omega)
  rw [e] at h
  rw [show FP.i2d x = _ from Jvm.FP.Core.i2d_l2d x]
  exact h
theorem own_n1 : Jvm.Free.Fl.NoNaN64 (FP.ddiv 4607182418800017408 (FP.i2d (1 : Int32))) := by unfold Jvm.Free.Fl.NoNaN64; decide +kernel
theorem own_c1 : cmpValue (FP.dcmp (FP.ddiv 4607182418800017408 (FP.i2d (1 : Int32))) 4607182418800017408) .l = (0 : Int32) := by decide +kernel
theorem own_succ {k : Int32} (h : 0 ≤ k.toInt ∧ k.toInt < 2147483647) : ∃ n : Nat, ((1 : Int32) + k).toInt = (n : Int) ∧ (n : Int) = k.toInt + 1 ∧ 0 < n ∧ n < 2 ^ 31 := by
  have a := c_iadd 1 k
  have r := rng32 ((1 : Int32) + k)
  have o1 : (1 : Int32).toInt = 1 := rfl
  refine ⟨(k.toInt + 1).toNat, ?_, ?_, ?_, ?_⟩ <;> omega
open Jvm.FP.Core in
theorem own_nP {k : Int32} (h : 0 ≤ k.toInt ∧ k.toInt < 2147483647) : ∃ n : Nat, own_P 1074 (FP.i2d ((1 : Int32) + k)) (n : Int) ∧ (n : Int) = k.toInt + 1 ∧ 0 < n ∧ n < 2 ^ 31 ∧ FP.dadd (FP.i2d k) 4607182418800017408 = FP.i2d ((1 : Int32) + k) := by
  obtain ⟨n, e1, e2, e3, e4⟩ := own_succ h
  have p := own_i2dP ((1 : Int32) + k)
  refine ⟨n, e1 ▸ p, e2, e3, e4, ?_⟩
  have a := own_add (by decide) (own_i2dP k) own_one_P (by omega)
  rw [show k.toInt + 1 = ((1 : Int32) + k).toInt by omega] at a
  have c := own_cmp_P a p
  rw [if_neg (by omega), if_pos rfl] at c
  refine eq_bits ?_ c
  intro z
  have := z.zval
  rw [p.2, e1] at this
  have u0 : (0 : Int) < ((2 ^ 1074 : Nat) : Int) := Int.natCast_pos.mpr (Nat.two_pow_pos _)
  have := Int.mul_pos (show (0 : Int) < (n : Int) by omega) u0
  omega
open Jvm.FP.Core in
theorem own_rn {k : Int32} (h : 0 ≤ k.toInt ∧ k.toInt < 2147483647) : Jvm.Free.Fl.NoNaN64 (FP.ddiv 4607182418800017408 (FP.i2d ((1 : Int32) + k))) ∧ own_rc (FP.ddiv 4607182418800017408 (FP.i2d ((1 : Int32) + k))) k := by
  obtain ⟨n, p, e2, e3, e4, ea⟩ := own_nP h
  obtain ⟨g, F⟩ := own_rec_sgn p e3
  refine ⟨(Jvm.Free.Fl.fin64_core.mpr F).noNaN, ?_, ?_⟩
  · intro q
    subst q
    decide +kernel
  · intro q
    have kp : 0 < k.toInt := by
      rcases Int.lt_or_eq_of_le h.1 with w | w
      · exact w
      · exact absurd (Int32.toInt_inj.mp (w.symm.trans (show (0 : Int) = (0 : Int32).toInt from rfl))) q
    obtain ⟨mf, mlo, mhi⟩ := own_rec_mul p e3 e4
    rw [ea]
    have up := own_rec_le (c := 1) (m := 1073) p e3 (by decide) (by decide) (by decide) (by show 2 ≤ 1 * n; omega)
    have dn := own_rec_ge (c := 1) (m := 1000) p e3 (by decide) (by decide) (by decide) (by
      rw [Nat.one_mul]; exact Nat.le_trans (Nat.le_of_lt e4) (Nat.pow_le_pow_right (by decide) (by decide)))
    rw [Nat.one_mul] at up dn
    have m1 : zmag b64 (val64 4607182418800017408) = 2 * 2 ^ 1073 := by decide +kernel
    have m0 : zmag b64 (val64 0) = 0 := by decide +kernel
    have t1 := Nat.two_pow_pos 1073
    have t2 := Nat.two_pow_pos 1000
    refine ⟨own_nnP p, (Jvm.Free.Fl.fin64_core.mpr mf).noNaN, ?_, ?_, ?_, ?_⟩
    · rcases dcmp_ge.mpr ⟨mf.ne_nan, (by decide +kernel : val64 4607182418800017406 ≠ .nan), mlo⟩ with c | c <;> rw [show FP.dcmp _ _ = _ from c] <;> decide
    · rcases dcmp_le.mpr ⟨mf.ne_nan, (by decide +kernel : val64 4607182418800017409 ≠ .nan), mhi⟩ with c | c <;> rw [show FP.dcmp _ _ = _ from c] <;> decide
    · rw [show FP.dcmp _ _ = _ from own_cmp_z F.ne_nan (by decide +kernel) g (by decide +kernel), m0, if_neg (by omega), if_neg (by omega)]; decide
    · rw [show FP.dcmp _ _ = _ from own_cmp_z F.ne_nan (by decide +kernel) g (by decide +kernel), m1, if_pos (by omega)]; decide
open Jvm.FP.Core in
theorem own_c_lt {a b : Int32} (ha : 0 ≤ a.toInt ∧ a.toInt < 2147483647) (hb : 0 ≤ b.toInt ∧ b.toInt < 2147483647) (h : a < b) : cmpValue (FP.dcmp (FP.ddiv 4607182418800017408 (FP.i2d ((1 : Int32) + a))) (FP.ddiv 4607182418800017408 (FP.i2d ((1 : Int32) + b)))) .l = (1 : Int32) ∧ True := by
  obtain ⟨n, p, e2, e3, e4, _⟩ := own_nP ha
  obtain ⟨n', p', e2', e3', e4', _⟩ := own_nP hb
  rw [Int32.lt_iff_toInt_lt] at h
  have m := own_rec_lt p p' e3 (by omega) e4'
  obtain ⟨g, F⟩ := own_rec_sgn p e3
  obtain ⟨g', F'⟩ := own_rec_sgn p' e3'
  rw [show FP.dcmp _ _ = _ from own_cmp_z F.ne_nan F'.ne_nan g g', if_neg (by omega), if_neg (by omega)]
  exact ⟨rfl, trivial⟩
open Jvm.FP.Core in
theorem own_c_gt {a b : Int32} (ha : 0 ≤ a.toInt ∧ a.toInt < 2147483647) (hb : 0 ≤ b.toInt ∧ b.toInt < 2147483647) (h : b < a) : cmpValue (FP.dcmp (FP.ddiv 4607182418800017408 (FP.i2d ((1 : Int32) + a))) (FP.ddiv 4607182418800017408 (FP.i2d ((1 : Int32) + b)))) .g = (-1 : Int32) ∧ True := by
  obtain ⟨n, p, e2, e3, e4, _⟩ := own_nP ha
  obtain ⟨n', p', e2', e3', e4', _⟩ := own_nP hb
  rw [Int32.lt_iff_toInt_lt] at h
  have m := own_rec_lt p' p e3' (by omega) e4
  obtain ⟨g, F⟩ := own_rec_sgn p e3
  obtain ⟨g', F'⟩ := own_rec_sgn p' e3'
  rw [show FP.dcmp _ _ = _ from own_cmp_z F.ne_nan F'.ne_nan g g', if_pos (by omega)]
  exact ⟨rfl, trivial⟩
theorem own_c_eq {a b : Int32} (ha : 0 ≤ a.toInt ∧ a.toInt < 2147483647) (hb : 0 ≤ b.toInt ∧ b.toInt < 2147483647) (h1 : ¬ a < b) (h2 : ¬ b < a) : cmpValue (FP.dcmp (FP.ddiv 4607182418800017408 (FP.i2d ((1 : Int32) + a))) (FP.ddiv 4607182418800017408 (FP.i2d ((1 : Int32) + b)))) .l = (0 : Int32) := by
  rw [Int32.lt_iff_toInt_lt] at h1 h2
  have e : a = b := Int32.toInt_inj.mp (by omega)
  subst e
  exact dcmpV_self (own_rn ha).1 .l
theorem ef_To (m : MethodId) (x0 : Addr) : entryFrame m #[(.ref x0)] 3 = mkF m 0 #[.val (.ref x0), .unset, .unset] [] := by first | (simp [entryFrame, mkF, argsToLocals, Value.category]; done) | rfl
theorem pn_com_example_pival_pival_ChainGraph : plainName "com/example/pival/pival/ChainGraph" = true := by first | (simp [plainName, overriddenIn]; done) | decide +kernel
theorem dd_prog_3_method_9_code_0 : decode prog_3_method_9_code 0 = .ok (.aload_n 0, 1) := by decide +kernel
theorem dd_prog_3_method_9_code_1 : decode prog_3_method_9_code 1 = .ok (.arraylength, 1) := by decide +kernel
theorem dd_prog_3_method_9_code_2 : decode prog_3_method_9_code 2 = .ok (.newarray .double, 2) := by decide +kernel
theorem dd_prog_3_method_9_code_4 : decode prog_3_method_9_code 4 = .ok (.astore_n 1, 1) := by decide +kernel
theorem dd_prog_3_method_9_code_5 : decode prog_3_method_9_code 5 = .ok (.iconst 0, 1) := by decide +kernel
theorem dd_prog_3_method_9_code_6 : decode prog_3_method_9_code 6 = .ok (.istore_n 2, 1) := by decide +kernel
theorem dd_prog_3_method_9_code_7 : decode prog_3_method_9_code 7 = .ok (.iload_n 2, 1) := by decide +kernel
theorem dd_prog_3_method_9_code_8 : decode prog_3_method_9_code 8 = .ok (.aload_n 0, 1) := by decide +kernel
theorem dd_prog_3_method_9_code_9 : decode prog_3_method_9_code 9 = .ok (.arraylength, 1) := by decide +kernel
theorem dd_prog_3_method_9_code_10 : decode prog_3_method_9_code 10 = .ok (.if_icmp .ge 26, 3) := by decide +kernel
theorem dd_prog_3_method_9_code_13 : decode prog_3_method_9_code 13 = .ok (.aload_n 0, 1) := by decide +kernel
theorem dd_prog_3_method_9_code_14 : decode prog_3_method_9_code 14 = .ok (.iload_n 2, 1) := by decide +kernel
theorem dd_prog_3_method_9_code_15 : decode prog_3_method_9_code 15 = .ok (.iaload, 1) := by decide +kernel
theorem dd_prog_3_method_9_code_16 : decode prog_3_method_9_code 16 = .ok (.ifCond .lt 14, 3) := by decide +kernel
theorem dd_prog_3_method_9_code_30 : decode prog_3_method_9_code 30 = .ok (.iinc 2 1, 3) := by decide +kernel
theorem dd_prog_3_method_9_code_33 : decode prog_3_method_9_code 33 = .ok (.goto (-26), 3) := by decide +kernel
theorem dd_prog_3_method_9_code_19 : decode prog_3_method_9_code 19 = .ok (.aload_n 1, 1) := by decide +kernel
theorem dd_prog_3_method_9_code_20 : decode prog_3_method_9_code 20 = .ok (.iload_n 2, 1) := by decide +kernel
theorem dd_prog_3_method_9_code_21 : decode prog_3_method_9_code 21 = .ok (.dconst 1, 1) := by decide +kernel
theorem dd_prog_3_method_9_code_22 : decode prog_3_method_9_code 22 = .ok (.iconst 1, 1) := by decide +kernel
theorem dd_prog_3_method_9_code_23 : decode prog_3_method_9_code 23 = .ok (.aload_n 0, 1) := by decide +kernel
theorem dd_prog_3_method_9_code_24 : decode prog_3_method_9_code 24 = .ok (.iload_n 2, 1) := by decide +kernel
theorem dd_prog_3_method_9_code_25 : decode prog_3_method_9_code 25 = .ok (.iaload, 1) := by decide +kernel
theorem dd_prog_3_method_9_code_26 : decode prog_3_method_9_code 26 = .ok (.iadd, 1) := by decide +kernel
theorem dd_prog_3_method_9_code_27 : decode prog_3_method_9_code 27 = .ok (.i2d, 1) := by decide +kernel
theorem dd_prog_3_method_9_code_28 : decode prog_3_method_9_code 28 = .ok (.ddiv, 1) := by decide +kernel
theorem dd_prog_3_method_9_code_29 : decode prog_3_method_9_code 29 = .ok (.dastore, 1) := by decide +kernel
theorem dd_prog_3_method_9_code_36 : decode prog_3_method_9_code 36 = .ok (.aload_n 1, 1) := by decide +kernel
theorem dd_prog_3_method_9_code_37 : decode prog_3_method_9_code 37 = .ok (.areturn, 1) := by decide +kernel
def QTo (Z : State) (ar : Addr) (kk : ClassId) (ng : Int32) (ka : Int32) (kb : Int32) (h0 : Heap) (n0 : Nat) (v : Option Value) (h : Heap) (L : List Loc) : Prop := ∃ (b : Addr) (kd : ClassId), v = some (.ref b) ∧ Fr n0 L ∧ Keep h0 h [] ∧ h0.size ≤ b ∧ Arv Z h b kd .double (4 : Int32) [.double (0 : UInt64), .double (FP.ddiv (4607182418800017408 : UInt64) (FP.i2d (1 : Int32))), .double (FP.ddiv (4607182418800017408 : UInt64) (FP.i2d ((1 : Int32) + ka))), .double (FP.ddiv (4607182418800017408 : UInt64) (FP.i2d ((1 : Int32) + kb)))] (.double (0 : UInt64))
set_option maxRecDepth 65536 in
set_option maxHeartbeats 40000000 in
theorem rmTo (l : Launch) (Z : State) (a0 : Array Value) (hw : ∀ d ∈ tables_1, d.before a0 Z = true) (ws : List Jvm.Cond) (ar : Addr) (kk : ClassId) (ng : Int32) (ka : Int32) (kb : Int32) (h0 : Heap) (n0 : Nat) (Z0 : n0 ≤ h0.size) (V_a : Arv Z h0 ar kk .int (4 : Int32) [.int ng, .int (0 : Int32), .int ka, .int kb] (.int (0 : Int32))) (hng : ng < (0 : Int32)) (hp1 : ¬ ka < (0 : Int32)) (hp2 : ¬ kb < (0 : Int32)) (n1 : Jvm.Free.Fl.NoNaN64 (FP.ddiv (4607182418800017408 : UInt64) (FP.i2d (1 : Int32)))) (n2 : Jvm.Free.Fl.NoNaN64 (FP.ddiv (4607182418800017408 : UInt64) (FP.i2d ((1 : Int32) + ka)))) (n3 : Jvm.Free.Fl.NoNaN64 (FP.ddiv (4607182418800017408 : UInt64) (FP.i2d ((1 : Int32) + kb)))) :
    MetFree l (⟨"com/example/pival/pival/ChainGraph", "towards", "([I)[D"⟩ : MethodName) (head1 (Jvm.Cond.code (⟨"com/example/pival/pival/ChainGraph", "towards", "([I)[D"⟩ : MethodName) prog_3_method_9_code 3 (some (.array .double)) :: ws) ({ frames := 0, cells := 1, slots := 4, locals := 0 } : Room)) (fun a U => a = #[(.ref ar)] ∧ Z.Warmed39 U.vm ∧ U.heap = h0) (fun _ _ _ _ _ => True) (fun _ U oc_ U' => ∃ v L, oc_ = .returned v ∧ QTo Z ar kk ng ka kb h0 n0 v U'.heap L ∧ FrameEnd U oc_ U' L ({ frames := 0, cells := 1, slots := 4, locals := 0 } : Room).cells ({ frames := 0, cells := 1, slots := 4, locals := 0 } : Room).slots) := by
  refine MetFree.of_bodySF (plainFor_of_name pn_com_example_pival_pival_ChainGraph) hisR ?_
  intro p e s m args below meth c s₁ Bd hml0 hP hK
  obtain ⟨rfl, hZ, hh⟩ := hP
  have hx := Bd.exec
  have hby := Bd.bytes
  have hml : c.maxLocals = 3 := hml0
  have hown : s.vm.findClass "com/example/pival/pival/ChainGraph" = some m.cls := findClass_of_methodNamed Bd.named
  have hnm := (name_of_methodNamed Bd.named Bd.method).1
  have X0 : Stand p l e ({ frames := 0, cells := 1, slots := 4, locals := 0 } : Room) s m #[(.ref ar)] below meth c s₁ [] 0 0 := Stand.of_body Bd
  have e0 : s₁.heap = h0 := by rw [← hh, Bd.state]; rfl
  have N0 := Fr.nil n0
  have pre0 : ∀ t, Steps p.tables e below (s₁.setTop (mkF m 0 #[.val (.ref ar), .unset, .unset] [])) t → Steps p.tables e below (s₁.setTop (entryFrame m #[(.ref ar)] 3)) t := fun t k => castTop (ef_To m ar) k
  obtain ⟨cl1, Ar1, -, S1, M1, -, -⟩ := id V_a
  obtain ⟨T2, h2, kk2, X2, e2, E2, A2, st2⟩ := newP X0 hx hZ (aty := .double) (wd7 hw) e0 (g := (mkF m 2 #[.val (.ref ar), .unset, .unset] [(.int (4 : Int32))])) rfl (hb hby dd_prog_3_method_9_code_2) rfl (by decide) (cap := 4) (by decide) (by decide) (by decide) (by decide)
  obtain ⟨b2, g2⟩ : ∃ z, z = h0.size := ⟨_, rfl⟩
  rw [← g2] at A2 st2
  have ne_ar_b2 : ar ≠ b2 := Nat.ne_of_lt (Nat.lt_of_lt_of_le V_a.lt (Nat.le_of_eq g2.symm))
  have ge_b2 : n0 ≤ b2 := Nat.le_trans Z0 (Nat.le_of_eq g2.symm)
  have sz_b2 : h0.size ≤ b2 := Nat.le_trans (Nat.le_refl _) (Nat.le_of_eq g2.symm)
  have Z2 : n0 ≤ h2.size := Nat.le_trans Z0 E2.1
  have K2 : Keep h0 h2 [] := ((Keep.refl h0 []).ext E2)
  have V2 : Arv Z h2 b2 kk2 .double (4 : Int32) [(.double (0 : UInt64)), (.double (0 : UInt64)), (.double (0 : UInt64)), (.double (0 : UInt64))] (.double (0 : UInt64)) := (Arv.new A2 (by decide)).pad (pad_rep [] (.double (0 : UInt64)) 4)
  have f3 := (V_a.ext E2)
  obtain ⟨cl4, Ar4, -, S4, M4, -, -⟩ := id f3
  obtain ⟨cl5, Ar5, q5, S5, M5, HH5, GG5⟩ := id f3
  have hin5 : ¬ ((0 : Int32) < 0 ∨ cl5.slots.size ≤ ((0 : Int32)).toNatClampNeg) := inb_of S5 ⟨by decide, by decide⟩
  have hat5 : cl5.slots[((0 : Int32)).toNatClampNeg]? = some (.int ng) := Has.at HH5 hin5 rfl
  obtain ⟨cl6, Ar6, -, S6, M6, -, -⟩ := id f3
  obtain ⟨cl7, Ar7, q7, S7, M7, HH7, GG7⟩ := id f3
  have hin7 : ¬ ((1 : Int32) < 0 ∨ cl7.slots.size ≤ ((1 : Int32)).toNatClampNeg) := inb_of S7 ⟨by decide, by decide⟩
  have hat7 : cl7.slots[((1 : Int32)).toNatClampNeg]? = some (.int (0 : Int32)) := Has.at HH7 hin7 rfl
  obtain ⟨cl8, Ar8, q8, S8, M8, HH8, GG8⟩ := id f3
  have hin8 : ¬ ((1 : Int32) < 0 ∨ cl8.slots.size ≤ ((1 : Int32)).toNatClampNeg) := inb_of S8 ⟨by decide, by decide⟩
  have hat8 : cl8.slots[((1 : Int32)).toNatClampNeg]? = some (.int (0 : Int32)) := Has.at HH8 hin8 rfl
  obtain ⟨cl9, Ar9, q9, S9, M9, HH9, GG9⟩ := id V2
  have hin9 : ¬ ((1 : Int32) < 0 ∨ cl9.slots.size ≤ ((1 : Int32)).toNatClampNeg) := inb_of S9 ⟨by decide, by decide⟩
  obtain ⟨T10, h10, X10, e10, W10, st10⟩ := stD X2 hx hZ e2 Ar9 (j := (1 : Int32)) hin9 (g := (mkF m 29 #[.val (.ref ar), .val (.ref b2), .val (.int (1 : Int32))] [(.double (FP.ddiv (4607182418800017408 : UInt64) (FP.i2d (1 : Int32)))), (.int (1 : Int32)), (.ref b2)])) rfl rfl (hb hby dd_prog_3_method_9_code_29)
  have N10 := Fr.snoc X10 N0 ge_b2
  have Z10 : n0 ≤ h10.size := by rw [W10.size]; exact Z2
  have K10 : Keep h0 h10 [] := (K2.wr W10 (Or.inr sz_b2))
  have V10 := Arv.set Ar9 q9 S9 M9 HH9 GG9 rfl W10 1 rfl (Nat.le_of_ble_eq_true rfl)
  have f11 := (f3.other W10 ne_ar_b2)
  obtain ⟨cl12, Ar12, -, S12, M12, -, -⟩ := id f11
  obtain ⟨cl13, Ar13, q13, S13, M13, HH13, GG13⟩ := id f11
  have hin13 : ¬ ((2 : Int32) < 0 ∨ cl13.slots.size ≤ ((2 : Int32)).toNatClampNeg) := inb_of S13 ⟨by decide, by decide⟩
  have hat13 : cl13.slots[((2 : Int32)).toNatClampNeg]? = some (.int ka) := Has.at HH13 hin13 rfl
  obtain ⟨cl14, Ar14, q14, S14, M14, HH14, GG14⟩ := id f11
  have hin14 : ¬ ((2 : Int32) < 0 ∨ cl14.slots.size ≤ ((2 : Int32)).toNatClampNeg) := inb_of S14 ⟨by decide, by decide⟩
  have hat14 : cl14.slots[((2 : Int32)).toNatClampNeg]? = some (.int ka) := Has.at HH14 hin14 rfl
  obtain ⟨cl15, Ar15, q15, S15, M15, HH15, GG15⟩ := id V10
  have hin15 : ¬ ((2 : Int32) < 0 ∨ cl15.slots.size ≤ ((2 : Int32)).toNatClampNeg) := inb_of S15 ⟨by decide, by decide⟩
  obtain ⟨T16, h16, X16, e16, W16, st16⟩ := stD X10 hx hZ e10 Ar15 (j := (2 : Int32)) hin15 (g := (mkF m 29 #[.val (.ref ar), .val (.ref b2), .val (.int (2 : Int32))] [(.double (FP.ddiv (4607182418800017408 : UInt64) (FP.i2d ((1 : Int32) + ka)))), (.int (2 : Int32)), (.ref b2)])) rfl rfl (hb hby dd_prog_3_method_9_code_29)
  have N16 := Fr.snoc X16 N10 ge_b2
  have Z16 : n0 ≤ h16.size := by rw [W16.size]; exact Z10
  have K16 : Keep h0 h16 [] := (K10.wr W16 (Or.inr sz_b2))
  have V16 := Arv.set Ar15 q15 S15 M15 HH15 GG15 rfl W16 2 rfl (Nat.le_of_ble_eq_true rfl)
  have f17 := (f11.other W16 ne_ar_b2)
  obtain ⟨cl18, Ar18, -, S18, M18, -, -⟩ := id f17
  obtain ⟨cl19, Ar19, q19, S19, M19, HH19, GG19⟩ := id f17
  have hin19 : ¬ ((3 : Int32) < 0 ∨ cl19.slots.size ≤ ((3 : Int32)).toNatClampNeg) := inb_of S19 ⟨by decide, by decide⟩
  have hat19 : cl19.slots[((3 : Int32)).toNatClampNeg]? = some (.int kb) := Has.at HH19 hin19 rfl
  obtain ⟨cl20, Ar20, q20, S20, M20, HH20, GG20⟩ := id f17
  have hin20 : ¬ ((3 : Int32) < 0 ∨ cl20.slots.size ≤ ((3 : Int32)).toNatClampNeg) := inb_of S20 ⟨by decide, by decide⟩
  have hat20 : cl20.slots[((3 : Int32)).toNatClampNeg]? = some (.int kb) := Has.at HH20 hin20 rfl
  obtain ⟨cl21, Ar21, q21, S21, M21, HH21, GG21⟩ := id V16
  have hin21 : ¬ ((3 : Int32) < 0 ∨ cl21.slots.size ≤ ((3 : Int32)).toNatClampNeg) := inb_of S21 ⟨by decide, by decide⟩
  obtain ⟨T22, h22, X22, e22, W22, st22⟩ := stD X16 hx hZ e16 Ar21 (j := (3 : Int32)) hin21 (g := (mkF m 29 #[.val (.ref ar), .val (.ref b2), .val (.int (3 : Int32))] [(.double (FP.ddiv (4607182418800017408 : UInt64) (FP.i2d ((1 : Int32) + kb)))), (.int (3 : Int32)), (.ref b2)])) rfl rfl (hb hby dd_prog_3_method_9_code_29)
  have N22 := Fr.snoc X22 N16 ge_b2
  have Z22 : n0 ≤ h22.size := by rw [W22.size]; exact Z16
  have K22 : Keep h0 h22 [] := (K16.wr W22 (Or.inr sz_b2))
  have V22 := Arv.set Ar21 q21 S21 M21 HH21 GG21 rfl W22 3 rfl (Nat.le_of_ble_eq_true rfl)
  have f23 := (f17.other W22 ne_ar_b2)
  obtain ⟨cl24, Ar24, -, S24, M24, -, -⟩ := id f23
  obtain ⟨lfs, lhr, lhrun, lhended, lhW, lhsame⟩ := X22.leave (v := some (.ref b2)) (fun h => by rw [Bd.returns] at h; cases h)
  refine ⟨_, _, pre0 _ ?_, lhrun, lhended, _, _, rfl, ?_, ⟨_, rfl⟩, lhW, lhsame.mono (by decide) (by decide)⟩
  · skip
    show Steps p.tables e below (s₁.setTop (mkF m 0 #[.val (.ref ar), .unset, .unset] [])) _
    refine XS.aloadN X0.here hx rfl (hb hby dd_prog_3_method_9_code_0) rfl rfl ?_
    show Steps p.tables e below (s₁.setTop (mkF m 1 #[.val (.ref ar), .unset, .unset] [(.ref ar)])) _
    refine X0.arraylength hx (by (try rw [e0]); exact Ar1.1) (State.isArrayOf_alike hZ.alike Ar1.2.1) (g := (mkF m 1 #[.val (.ref ar), .unset, .unset] [(.ref ar)])) rfl rfl (hb hby dd_prog_3_method_9_code_1) _ ?_
    rw [len_of S1 M1]
    show Steps p.tables e below (s₁.setTop (mkF m 2 #[.val (.ref ar), .unset, .unset] [(.int (4 : Int32))])) _
    refine st2 _ ?_
    show Steps p.tables e below (T2.setTop (mkF m 4 #[.val (.ref ar), .unset, .unset] [(.ref b2)])) _
    refine XS.astoreN X2.here hx rfl (hb hby dd_prog_3_method_9_code_4) rfl rfl (l' := #[.val (.ref ar), .val (.ref b2), .unset]) rfl ?_
    show Steps p.tables e below (T2.setTop (mkF m 5 #[.val (.ref ar), .val (.ref b2), .unset] [])) _
    refine XS.iconst X2.here hx rfl (hb hby dd_prog_3_method_9_code_5) ?_
    show Steps p.tables e below (T2.setTop (mkF m 6 #[.val (.ref ar), .val (.ref b2), .unset] [(.int (0 : Int32))])) _
    refine XS.istoreN X2.here hx rfl (hb hby dd_prog_3_method_9_code_6) rfl (l' := #[.val (.ref ar), .val (.ref b2), .val (.int (0 : Int32))]) rfl ?_
    show Steps p.tables e below (T2.setTop (mkF m 7 #[.val (.ref ar), .val (.ref b2), .val (.int (0 : Int32))] [])) _
    refine XS.iloadN X2.here hx rfl (hb hby dd_prog_3_method_9_code_7) rfl ?_
    show Steps p.tables e below (T2.setTop (mkF m 8 #[.val (.ref ar), .val (.ref b2), .val (.int (0 : Int32))] [(.int (0 : Int32))])) _
    refine XS.aloadN X2.here hx rfl (hb hby dd_prog_3_method_9_code_8) rfl rfl ?_
    show Steps p.tables e below (T2.setTop (mkF m 9 #[.val (.ref ar), .val (.ref b2), .val (.int (0 : Int32))] [(.ref ar), (.int (0 : Int32))])) _
    refine X2.arraylength hx (by (try rw [e2]); exact Ar4.1) (State.isArrayOf_alike hZ.alike Ar4.2.1) (g := (mkF m 9 #[.val (.ref ar), .val (.ref b2), .val (.int (0 : Int32))] [(.ref ar), (.int (0 : Int32))])) rfl rfl (hb hby dd_prog_3_method_9_code_9) _ ?_
    rw [len_of S4 M4]
    show Steps p.tables e below (T2.setTop (mkF m 10 #[.val (.ref ar), .val (.ref b2), .val (.int (0 : Int32))] [(.int (4 : Int32)), (.int (0 : Int32))])) _
    refine XS.icmpNo X2.here hx rfl (hb hby dd_prog_3_method_9_code_10) rfl (tlt (by decide : (0 : Int32) < (4 : Int32))).2.1 ?_
    show Steps p.tables e below (T2.setTop (mkF m 13 #[.val (.ref ar), .val (.ref b2), .val (.int (0 : Int32))] [])) _
    refine XS.aloadN X2.here hx rfl (hb hby dd_prog_3_method_9_code_13) rfl rfl ?_
    show Steps p.tables e below (T2.setTop (mkF m 14 #[.val (.ref ar), .val (.ref b2), .val (.int (0 : Int32))] [(.ref ar)])) _
    refine XS.iloadN X2.here hx rfl (hb hby dd_prog_3_method_9_code_14) rfl ?_
    show Steps p.tables e below (T2.setTop (mkF m 15 #[.val (.ref ar), .val (.ref b2), .val (.int (0 : Int32))] [(.int (0 : Int32)), (.ref ar)])) _
    refine X2.iaload hx (j := (0 : Int32)) (v := (.int ng)) (by (try rw [e2]); exact Ar5.1) (State.isArrayOf_alike hZ.alike Ar5.2.1) Ar5.2.2 hin5 hat5 (g := (mkF m 15 #[.val (.ref ar), .val (.ref b2), .val (.int (0 : Int32))] [(.int (0 : Int32)), (.ref ar)])) rfl rfl (hb hby dd_prog_3_method_9_code_15) _ ?_
    show Steps p.tables e below (T2.setTop (mkF m 16 #[.val (.ref ar), .val (.ref b2), .val (.int (0 : Int32))] [(.int ng)])) _
    refine XS.ifYes X2.here hx rfl (pc0 := 16) (pc' := 30) rfl (hb hby dd_prog_3_method_9_code_16) rfl ((if0 _ _).trans (tlt hng).1) (by decide) (by decide) ?_
    show Steps p.tables e below (T2.setTop (mkF m 30 #[.val (.ref ar), .val (.ref b2), .val (.int (0 : Int32))] [])) _
    refine XS.iinc X2.here hx rfl (hb hby dd_prog_3_method_9_code_30) rfl (l' := #[.val (.ref ar), .val (.ref b2), .val (.int (1 : Int32))]) rfl ?_
    show Steps p.tables e below (T2.setTop (mkF m 33 #[.val (.ref ar), .val (.ref b2), .val (.int (1 : Int32))] [])) _
    refine XS.goto X2.here hx rfl (pc0 := 33) (pc' := 7) rfl (hb hby dd_prog_3_method_9_code_33) (by decide) (by decide) ?_
    show Steps p.tables e below (T2.setTop (mkF m 7 #[.val (.ref ar), .val (.ref b2), .val (.int (1 : Int32))] [])) _
    refine XS.iloadN X2.here hx rfl (hb hby dd_prog_3_method_9_code_7) rfl ?_
    show Steps p.tables e below (T2.setTop (mkF m 8 #[.val (.ref ar), .val (.ref b2), .val (.int (1 : Int32))] [(.int (1 : Int32))])) _
    refine XS.aloadN X2.here hx rfl (hb hby dd_prog_3_method_9_code_8) rfl rfl ?_
    show Steps p.tables e below (T2.setTop (mkF m 9 #[.val (.ref ar), .val (.ref b2), .val (.int (1 : Int32))] [(.ref ar), (.int (1 : Int32))])) _
    refine X2.arraylength hx (by (try rw [e2]); exact Ar6.1) (State.isArrayOf_alike hZ.alike Ar6.2.1) (g := (mkF m 9 #[.val (.ref ar), .val (.ref b2), .val (.int (1 : Int32))] [(.ref ar), (.int (1 : Int32))])) rfl rfl (hb hby dd_prog_3_method_9_code_9) _ ?_
    rw [len_of S6 M6]
    show Steps p.tables e below (T2.setTop (mkF m 10 #[.val (.ref ar), .val (.ref b2), .val (.int (1 : Int32))] [(.int (4 : Int32)), (.int (1 : Int32))])) _
    refine XS.icmpNo X2.here hx rfl (hb hby dd_prog_3_method_9_code_10) rfl (tlt (by decide : (1 : Int32) < (4 : Int32))).2.1 ?_
    show Steps p.tables e below (T2.setTop (mkF m 13 #[.val (.ref ar), .val (.ref b2), .val (.int (1 : Int32))] [])) _
    refine XS.aloadN X2.here hx rfl (hb hby dd_prog_3_method_9_code_13) rfl rfl ?_
    show Steps p.tables e below (T2.setTop (mkF m 14 #[.val (.ref ar), .val (.ref b2), .val (.int (1 : Int32))] [(.ref ar)])) _
    refine XS.iloadN X2.here hx rfl (hb hby dd_prog_3_method_9_code_14) rfl ?_
    show Steps p.tables e below (T2.setTop (mkF m 15 #[.val (.ref ar), .val (.ref b2), .val (.int (1 : Int32))] [(.int (1 : Int32)), (.ref ar)])) _
    refine X2.iaload hx (j := (1 : Int32)) (v := (.int (0 : Int32))) (by (try rw [e2]); exact Ar7.1) (State.isArrayOf_alike hZ.alike Ar7.2.1) Ar7.2.2 hin7 hat7 (g := (mkF m 15 #[.val (.ref ar), .val (.ref b2), .val (.int (1 : Int32))] [(.int (1 : Int32)), (.ref ar)])) rfl rfl (hb hby dd_prog_3_method_9_code_15) _ ?_
    show Steps p.tables e below (T2.setTop (mkF m 16 #[.val (.ref ar), .val (.ref b2), .val (.int (1 : Int32))] [(.int (0 : Int32))])) _
    refine XS.ifNo X2.here hx rfl (hb hby dd_prog_3_method_9_code_16) rfl ((if0 _ _).trans (flt (by decide : ¬ ((0 : Int32) < (0 : Int32)))).1) ?_
    show Steps p.tables e below (T2.setTop (mkF m 19 #[.val (.ref ar), .val (.ref b2), .val (.int (1 : Int32))] [])) _
    refine XS.aloadN X2.here hx rfl (hb hby dd_prog_3_method_9_code_19) rfl rfl ?_
    show Steps p.tables e below (T2.setTop (mkF m 20 #[.val (.ref ar), .val (.ref b2), .val (.int (1 : Int32))] [(.ref b2)])) _
    refine XS.iloadN X2.here hx rfl (hb hby dd_prog_3_method_9_code_20) rfl ?_
    show Steps p.tables e below (T2.setTop (mkF m 21 #[.val (.ref ar), .val (.ref b2), .val (.int (1 : Int32))] [(.int (1 : Int32)), (.ref b2)])) _
    refine XS.dconst1 X2.here hx rfl (hb hby dd_prog_3_method_9_code_21) (rfl : FP.dconst1 = (4607182418800017408 : UInt64)) ?_
    show Steps p.tables e below (T2.setTop (mkF m 22 #[.val (.ref ar), .val (.ref b2), .val (.int (1 : Int32))] [(.double (4607182418800017408 : UInt64)), (.int (1 : Int32)), (.ref b2)])) _
    refine XS.iconst X2.here hx rfl (hb hby dd_prog_3_method_9_code_22) ?_
    show Steps p.tables e below (T2.setTop (mkF m 23 #[.val (.ref ar), .val (.ref b2), .val (.int (1 : Int32))] [(.int (1 : Int32)), (.double (4607182418800017408 : UInt64)), (.int (1 : Int32)), (.ref b2)])) _
    refine XS.aloadN X2.here hx rfl (hb hby dd_prog_3_method_9_code_23) rfl rfl ?_
    show Steps p.tables e below (T2.setTop (mkF m 24 #[.val (.ref ar), .val (.ref b2), .val (.int (1 : Int32))] [(.ref ar), (.int (1 : Int32)), (.double (4607182418800017408 : UInt64)), (.int (1 : Int32)), (.ref b2)])) _
    refine XS.iloadN X2.here hx rfl (hb hby dd_prog_3_method_9_code_24) rfl ?_
    show Steps p.tables e below (T2.setTop (mkF m 25 #[.val (.ref ar), .val (.ref b2), .val (.int (1 : Int32))] [(.int (1 : Int32)), (.ref ar), (.int (1 : Int32)), (.double (4607182418800017408 : UInt64)), (.int (1 : Int32)), (.ref b2)])) _
    refine X2.iaload hx (j := (1 : Int32)) (v := (.int (0 : Int32))) (by (try rw [e2]); exact Ar8.1) (State.isArrayOf_alike hZ.alike Ar8.2.1) Ar8.2.2 hin8 hat8 (g := (mkF m 25 #[.val (.ref ar), .val (.ref b2), .val (.int (1 : Int32))] [(.int (1 : Int32)), (.ref ar), (.int (1 : Int32)), (.double (4607182418800017408 : UInt64)), (.int (1 : Int32)), (.ref b2)])) rfl rfl (hb hby dd_prog_3_method_9_code_25) _ ?_
    show Steps p.tables e below (T2.setTop (mkF m 26 #[.val (.ref ar), .val (.ref b2), .val (.int (1 : Int32))] [(.int (0 : Int32)), (.int (1 : Int32)), (.double (4607182418800017408 : UInt64)), (.int (1 : Int32)), (.ref b2)])) _
    refine XS.iadd X2.here hx rfl (hb hby dd_prog_3_method_9_code_26) rfl ?_
    show Steps p.tables e below (T2.setTop (mkF m 27 #[.val (.ref ar), .val (.ref b2), .val (.int (1 : Int32))] [(.int (1 : Int32)), (.double (4607182418800017408 : UInt64)), (.int (1 : Int32)), (.ref b2)])) _
    refine XS.i2dS X2.here hx rfl (hb hby dd_prog_3_method_9_code_27) rfl rfl ?_
    show Steps p.tables e below (T2.setTop (mkF m 28 #[.val (.ref ar), .val (.ref b2), .val (.int (1 : Int32))] [(.double (FP.i2d (1 : Int32))), (.double (4607182418800017408 : UInt64)), (.int (1 : Int32)), (.ref b2)])) _
    refine XS.ddivS X2.here hx rfl (hb hby dd_prog_3_method_9_code_28) rfl n1 rfl ?_
    show Steps p.tables e below (T2.setTop (mkF m 29 #[.val (.ref ar), .val (.ref b2), .val (.int (1 : Int32))] [(.double (FP.ddiv (4607182418800017408 : UInt64) (FP.i2d (1 : Int32)))), (.int (1 : Int32)), (.ref b2)])) _
    refine st10 _ ?_
    show Steps p.tables e below (T10.setTop (mkF m 30 #[.val (.ref ar), .val (.ref b2), .val (.int (1 : Int32))] [])) _
    refine XS.iinc X10.here hx rfl (hb hby dd_prog_3_method_9_code_30) rfl (l' := #[.val (.ref ar), .val (.ref b2), .val (.int (2 : Int32))]) rfl ?_
    show Steps p.tables e below (T10.setTop (mkF m 33 #[.val (.ref ar), .val (.ref b2), .val (.int (2 : Int32))] [])) _
    refine XS.goto X10.here hx rfl (pc0 := 33) (pc' := 7) rfl (hb hby dd_prog_3_method_9_code_33) (by decide) (by decide) ?_
    show Steps p.tables e below (T10.setTop (mkF m 7 #[.val (.ref ar), .val (.ref b2), .val (.int (2 : Int32))] [])) _
    refine XS.iloadN X10.here hx rfl (hb hby dd_prog_3_method_9_code_7) rfl ?_
    show Steps p.tables e below (T10.setTop (mkF m 8 #[.val (.ref ar), .val (.ref b2), .val (.int (2 : Int32))] [(.int (2 : Int32))])) _
    refine XS.aloadN X10.here hx rfl (hb hby dd_prog_3_method_9_code_8) rfl rfl ?_
    show Steps p.tables e below (T10.setTop (mkF m 9 #[.val (.ref ar), .val (.ref b2), .val (.int (2 : Int32))] [(.ref ar), (.int (2 : Int32))])) _
    refine X10.arraylength hx (by (try rw [e10]); exact Ar12.1) (State.isArrayOf_alike hZ.alike Ar12.2.1) (g := (mkF m 9 #[.val (.ref ar), .val (.ref b2), .val (.int (2 : Int32))] [(.ref ar), (.int (2 : Int32))])) rfl rfl (hb hby dd_prog_3_method_9_code_9) _ ?_
    rw [len_of S12 M12]
    show Steps p.tables e below (T10.setTop (mkF m 10 #[.val (.ref ar), .val (.ref b2), .val (.int (2 : Int32))] [(.int (4 : Int32)), (.int (2 : Int32))])) _
    refine XS.icmpNo X10.here hx rfl (hb hby dd_prog_3_method_9_code_10) rfl (tlt (by decide : (2 : Int32) < (4 : Int32))).2.1 ?_
    show Steps p.tables e below (T10.setTop (mkF m 13 #[.val (.ref ar), .val (.ref b2), .val (.int (2 : Int32))] [])) _
    refine XS.aloadN X10.here hx rfl (hb hby dd_prog_3_method_9_code_13) rfl rfl ?_
    show Steps p.tables e below (T10.setTop (mkF m 14 #[.val (.ref ar), .val (.ref b2), .val (.int (2 : Int32))] [(.ref ar)])) _
    refine XS.iloadN X10.here hx rfl (hb hby dd_prog_3_method_9_code_14) rfl ?_
    show Steps p.tables e below (T10.setTop (mkF m 15 #[.val (.ref ar), .val (.ref b2), .val (.int (2 : Int32))] [(.int (2 : Int32)), (.ref ar)])) _
    refine X10.iaload hx (j := (2 : Int32)) (v := (.int ka)) (by (try rw [e10]); exact Ar13.1) (State.isArrayOf_alike hZ.alike Ar13.2.1) Ar13.2.2 hin13 hat13 (g := (mkF m 15 #[.val (.ref ar), .val (.ref b2), .val (.int (2 : Int32))] [(.int (2 : Int32)), (.ref ar)])) rfl rfl (hb hby dd_prog_3_method_9_code_15) _ ?_
    show Steps p.tables e below (T10.setTop (mkF m 16 #[.val (.ref ar), .val (.ref b2), .val (.int (2 : Int32))] [(.int ka)])) _
    refine XS.ifNo X10.here hx rfl (hb hby dd_prog_3_method_9_code_16) rfl ((if0 _ _).trans (flt hp1).1) ?_
    show Steps p.tables e below (T10.setTop (mkF m 19 #[.val (.ref ar), .val (.ref b2), .val (.int (2 : Int32))] [])) _
    refine XS.aloadN X10.here hx rfl (hb hby dd_prog_3_method_9_code_19) rfl rfl ?_
    show Steps p.tables e below (T10.setTop (mkF m 20 #[.val (.ref ar), .val (.ref b2), .val (.int (2 : Int32))] [(.ref b2)])) _
    refine XS.iloadN X10.here hx rfl (hb hby dd_prog_3_method_9_code_20) rfl ?_
    show Steps p.tables e below (T10.setTop (mkF m 21 #[.val (.ref ar), .val (.ref b2), .val (.int (2 : Int32))] [(.int (2 : Int32)), (.ref b2)])) _
    refine XS.dconst1 X10.here hx rfl (hb hby dd_prog_3_method_9_code_21) (rfl : FP.dconst1 = (4607182418800017408 : UInt64)) ?_
    show Steps p.tables e below (T10.setTop (mkF m 22 #[.val (.ref ar), .val (.ref b2), .val (.int (2 : Int32))] [(.double (4607182418800017408 : UInt64)), (.int (2 : Int32)), (.ref b2)])) _
    refine XS.iconst X10.here hx rfl (hb hby dd_prog_3_method_9_code_22) ?_
    show Steps p.tables e below (T10.setTop (mkF m 23 #[.val (.ref ar), .val (.ref b2), .val (.int (2 : Int32))] [(.int (1 : Int32)), (.double (4607182418800017408 : UInt64)), (.int (2 : Int32)), (.ref b2)])) _
    refine XS.aloadN X10.here hx rfl (hb hby dd_prog_3_method_9_code_23) rfl rfl ?_
    show Steps p.tables e below (T10.setTop (mkF m 24 #[.val (.ref ar), .val (.ref b2), .val (.int (2 : Int32))] [(.ref ar), (.int (1 : Int32)), (.double (4607182418800017408 : UInt64)), (.int (2 : Int32)), (.ref b2)])) _
    refine XS.iloadN X10.here hx rfl (hb hby dd_prog_3_method_9_code_24) rfl ?_
    show Steps p.tables e below (T10.setTop (mkF m 25 #[.val (.ref ar), .val (.ref b2), .val (.int (2 : Int32))] [(.int (2 : Int32)), (.ref ar), (.int (1 : Int32)), (.double (4607182418800017408 : UInt64)), (.int (2 : Int32)), (.ref b2)])) _
    refine X10.iaload hx (j := (2 : Int32)) (v := (.int ka)) (by (try rw [e10]); exact Ar14.1) (State.isArrayOf_alike hZ.alike Ar14.2.1) Ar14.2.2 hin14 hat14 (g := (mkF m 25 #[.val (.ref ar), .val (.ref b2), .val (.int (2 : Int32))] [(.int (2 : Int32)), (.ref ar), (.int (1 : Int32)), (.double (4607182418800017408 : UInt64)), (.int (2 : Int32)), (.ref b2)])) rfl rfl (hb hby dd_prog_3_method_9_code_25) _ ?_
    show Steps p.tables e below (T10.setTop (mkF m 26 #[.val (.ref ar), .val (.ref b2), .val (.int (2 : Int32))] [(.int ka), (.int (1 : Int32)), (.double (4607182418800017408 : UInt64)), (.int (2 : Int32)), (.ref b2)])) _
    refine XS.iadd X10.here hx rfl (hb hby dd_prog_3_method_9_code_26) rfl ?_
    show Steps p.tables e below (T10.setTop (mkF m 27 #[.val (.ref ar), .val (.ref b2), .val (.int (2 : Int32))] [(.int ((1 : Int32) + ka)), (.double (4607182418800017408 : UInt64)), (.int (2 : Int32)), (.ref b2)])) _
    refine XS.i2dS X10.here hx rfl (hb hby dd_prog_3_method_9_code_27) rfl rfl ?_
    show Steps p.tables e below (T10.setTop (mkF m 28 #[.val (.ref ar), .val (.ref b2), .val (.int (2 : Int32))] [(.double (FP.i2d ((1 : Int32) + ka))), (.double (4607182418800017408 : UInt64)), (.int (2 : Int32)), (.ref b2)])) _
    refine XS.ddivS X10.here hx rfl (hb hby dd_prog_3_method_9_code_28) rfl n2 rfl ?_
    show Steps p.tables e below (T10.setTop (mkF m 29 #[.val (.ref ar), .val (.ref b2), .val (.int (2 : Int32))] [(.double (FP.ddiv (4607182418800017408 : UInt64) (FP.i2d ((1 : Int32) + ka)))), (.int (2 : Int32)), (.ref b2)])) _
    refine st16 _ ?_
    show Steps p.tables e below (T16.setTop (mkF m 30 #[.val (.ref ar), .val (.ref b2), .val (.int (2 : Int32))] [])) _
    refine XS.iinc X16.here hx rfl (hb hby dd_prog_3_method_9_code_30) rfl (l' := #[.val (.ref ar), .val (.ref b2), .val (.int (3 : Int32))]) rfl ?_
    show Steps p.tables e below (T16.setTop (mkF m 33 #[.val (.ref ar), .val (.ref b2), .val (.int (3 : Int32))] [])) _
    refine XS.goto X16.here hx rfl (pc0 := 33) (pc' := 7) rfl (hb hby dd_prog_3_method_9_code_33) (by decide) (by decide) ?_
    show Steps p.tables e below (T16.setTop (mkF m 7 #[.val (.ref ar), .val (.ref b2), .val (.int (3 : Int32))] [])) _
    refine XS.iloadN X16.here hx rfl (hb hby dd_prog_3_method_9_code_7) rfl ?_
    show Steps p.tables e below (T16.setTop (mkF m 8 #[.val (.ref ar), .val (.ref b2), .val (.int (3 : Int32))] [(.int (3 : Int32))])) _
    refine XS.aloadN X16.here hx rfl (hb hby dd_prog_3_method_9_code_8) rfl rfl ?_
    show Steps p.tables e below (T16.setTop (mkF m 9 #[.val (.ref ar), .val (.ref b2), .val (.int (3 : Int32))] [(.ref ar), (.int (3 : Int32))])) _
    refine X16.arraylength hx (by (try rw [e16]); exact Ar18.1) (State.isArrayOf_alike hZ.alike Ar18.2.1) (g := (mkF m 9 #[.val (.ref ar), .val (.ref b2), .val (.int (3 : Int32))] [(.ref ar), (.int (3 : Int32))])) rfl rfl (hb hby dd_prog_3_method_9_code_9) _ ?_
    rw [len_of S18 M18]
    show Steps p.tables e below (T16.setTop (mkF m 10 #[.val (.ref ar), .val (.ref b2), .val (.int (3 : Int32))] [(.int (4 : Int32)), (.int (3 : Int32))])) _
    refine XS.icmpNo X16.here hx rfl (hb hby dd_prog_3_method_9_code_10) rfl (tlt (by decide : (3 : Int32) < (4 : Int32))).2.1 ?_
    show Steps p.tables e below (T16.setTop (mkF m 13 #[.val (.ref ar), .val (.ref b2), .val (.int (3 : Int32))] [])) _
    refine XS.aloadN X16.here hx rfl (hb hby dd_prog_3_method_9_code_13) rfl rfl ?_
    show Steps p.tables e below (T16.setTop (mkF m 14 #[.val (.ref ar), .val (.ref b2), .val (.int (3 : Int32))] [(.ref ar)])) _
    refine XS.iloadN X16.here hx rfl (hb hby dd_prog_3_method_9_code_14) rfl ?_
    show Steps p.tables e below (T16.setTop (mkF m 15 #[.val (.ref ar), .val (.ref b2), .val (.int (3 : Int32))] [(.int (3 : Int32)), (.ref ar)])) _
    refine X16.iaload hx (j := (3 : Int32)) (v := (.int kb)) (by (try rw [e16]); exact Ar19.1) (State.isArrayOf_alike hZ.alike Ar19.2.1) Ar19.2.2 hin19 hat19 (g := (mkF m 15 #[.val (.ref ar), .val (.ref b2), .val (.int (3 : Int32))] [(.int (3 : Int32)), (.ref ar)])) rfl rfl (hb hby dd_prog_3_method_9_code_15) _ ?_
    show Steps p.tables e below (T16.setTop (mkF m 16 #[.val (.ref ar), .val (.ref b2), .val (.int (3 : Int32))] [(.int kb)])) _
    refine XS.ifNo X16.here hx rfl (hb hby dd_prog_3_method_9_code_16) rfl ((if0 _ _).trans (flt hp2).1) ?_
    show Steps p.tables e below (T16.setTop (mkF m 19 #[.val (.ref ar), .val (.ref b2), .val (.int (3 : Int32))] [])) _
    refine XS.aloadN X16.here hx rfl (hb hby dd_prog_3_method_9_code_19) rfl rfl ?_
    show Steps p.tables e below (T16.setTop (mkF m 20 #[.val (.ref ar), .val (.ref b2), .val (.int (3 : Int32))] [(.ref b2)])) _
    refine XS.iloadN X16.here hx rfl (hb hby dd_prog_3_method_9_code_20) rfl ?_
    show Steps p.tables e below (T16.setTop (mkF m 21 #[.val (.ref ar), .val (.ref b2), .val (.int (3 : Int32))] [(.int (3 : Int32)), (.ref b2)])) _
    refine XS.dconst1 X16.here hx rfl (hb hby dd_prog_3_method_9_code_21) (rfl : FP.dconst1 = (4607182418800017408 : UInt64)) ?_
    show Steps p.tables e below (T16.setTop (mkF m 22 #[.val (.ref ar), .val (.ref b2), .val (.int (3 : Int32))] [(.double (4607182418800017408 : UInt64)), (.int (3 : Int32)), (.ref b2)])) _
    refine XS.iconst X16.here hx rfl (hb hby dd_prog_3_method_9_code_22) ?_
    show Steps p.tables e below (T16.setTop (mkF m 23 #[.val (.ref ar), .val (.ref b2), .val (.int (3 : Int32))] [(.int (1 : Int32)), (.double (4607182418800017408 : UInt64)), (.int (3 : Int32)), (.ref b2)])) _
    refine XS.aloadN X16.here hx rfl (hb hby dd_prog_3_method_9_code_23) rfl rfl ?_
    show Steps p.tables e below (T16.setTop (mkF m 24 #[.val (.ref ar), .val (.ref b2), .val (.int (3 : Int32))] [(.ref ar), (.int (1 : Int32)), (.double (4607182418800017408 : UInt64)), (.int (3 : Int32)), (.ref b2)])) _
    refine XS.iloadN X16.here hx rfl (hb hby dd_prog_3_method_9_code_24) rfl ?_
    show Steps p.tables e below (T16.setTop (mkF m 25 #[.val (.ref ar), .val (.ref b2), .val (.int (3 : Int32))] [(.int (3 : Int32)), (.ref ar), (.int (1 : Int32)), (.double (4607182418800017408 : UInt64)), (.int (3 : Int32)), (.ref b2)])) _
    refine X16.iaload hx (j := (3 : Int32)) (v := (.int kb)) (by (try rw [e16]); exact Ar20.1) (State.isArrayOf_alike hZ.alike Ar20.2.1) Ar20.2.2 hin20 hat20 (g := (mkF m 25 #[.val (.ref ar), .val (.ref b2), .val (.int (3 : Int32))] [(.int (3 : Int32)), (.ref ar), (.int (1 : Int32)), (.double (4607182418800017408 : UInt64)), (.int (3 : Int32)), (.ref b2)])) rfl rfl (hb hby dd_prog_3_method_9_code_25) _ ?_
    show Steps p.tables e below (T16.setTop (mkF m 26 #[.val (.ref ar), .val (.ref b2), .val (.int (3 : Int32))] [(.int kb), (.int (1 : Int32)), (.double (4607182418800017408 : UInt64)), (.int (3 : Int32)), (.ref b2)])) _
    refine XS.iadd X16.here hx rfl (hb hby dd_prog_3_method_9_code_26) rfl ?_
    show Steps p.tables e below (T16.setTop (mkF m 27 #[.val (.ref ar), .val (.ref b2), .val (.int (3 : Int32))] [(.int ((1 : Int32) + kb)), (.double (4607182418800017408 : UInt64)), (.int (3 : Int32)), (.ref b2)])) _
    refine XS.i2dS X16.here hx rfl (hb hby dd_prog_3_method_9_code_27) rfl rfl ?_
    show Steps p.tables e below (T16.setTop (mkF m 28 #[.val (.ref ar), .val (.ref b2), .val (.int (3 : Int32))] [(.double (FP.i2d ((1 : Int32) + kb))), (.double (4607182418800017408 : UInt64)), (.int (3 : Int32)), (.ref b2)])) _
    refine XS.ddivS X16.here hx rfl (hb hby dd_prog_3_method_9_code_28) rfl n3 rfl ?_
    show Steps p.tables e below (T16.setTop (mkF m 29 #[.val (.ref ar), .val (.ref b2), .val (.int (3 : Int32))] [(.double (FP.ddiv (4607182418800017408 : UInt64) (FP.i2d ((1 : Int32) + kb)))), (.int (3 : Int32)), (.ref b2)])) _
    refine st22 _ ?_
    show Steps p.tables e below (T22.setTop (mkF m 30 #[.val (.ref ar), .val (.ref b2), .val (.int (3 : Int32))] [])) _
    refine XS.iinc X22.here hx rfl (hb hby dd_prog_3_method_9_code_30) rfl (l' := #[.val (.ref ar), .val (.ref b2), .val (.int (4 : Int32))]) rfl ?_
    show Steps p.tables e below (T22.setTop (mkF m 33 #[.val (.ref ar), .val (.ref b2), .val (.int (4 : Int32))] [])) _
    refine XS.goto X22.here hx rfl (pc0 := 33) (pc' := 7) rfl (hb hby dd_prog_3_method_9_code_33) (by decide) (by decide) ?_
    show Steps p.tables e below (T22.setTop (mkF m 7 #[.val (.ref ar), .val (.ref b2), .val (.int (4 : Int32))] [])) _
    refine XS.iloadN X22.here hx rfl (hb hby dd_prog_3_method_9_code_7) rfl ?_
    show Steps p.tables e below (T22.setTop (mkF m 8 #[.val (.ref ar), .val (.ref b2), .val (.int (4 : Int32))] [(.int (4 : Int32))])) _
    refine XS.aloadN X22.here hx rfl (hb hby dd_prog_3_method_9_code_8) rfl rfl ?_
    show Steps p.tables e below (T22.setTop (mkF m 9 #[.val (.ref ar), .val (.ref b2), .val (.int (4 : Int32))] [(.ref ar), (.int (4 : Int32))])) _
    refine X22.arraylength hx (by (try rw [e22]); exact Ar24.1) (State.isArrayOf_alike hZ.alike Ar24.2.1) (g := (mkF m 9 #[.val (.ref ar), .val (.ref b2), .val (.int (4 : Int32))] [(.ref ar), (.int (4 : Int32))])) rfl rfl (hb hby dd_prog_3_method_9_code_9) _ ?_
    rw [len_of S24 M24]
    show Steps p.tables e below (T22.setTop (mkF m 10 #[.val (.ref ar), .val (.ref b2), .val (.int (4 : Int32))] [(.int (4 : Int32)), (.int (4 : Int32))])) _
    refine XS.icmpYes X22.here hx rfl (pc0 := 10) (pc' := 36) rfl (hb hby dd_prog_3_method_9_code_10) rfl (flt (by decide : ¬ ((4 : Int32) < (4 : Int32)))).2.1 (by decide) (by decide) ?_
    show Steps p.tables e below (T22.setTop (mkF m 36 #[.val (.ref ar), .val (.ref b2), .val (.int (4 : Int32))] [])) _
    refine XS.aloadN X22.here hx rfl (hb hby dd_prog_3_method_9_code_36) rfl rfl ?_
    show Steps p.tables e below (T22.setTop (mkF m 37 #[.val (.ref ar), .val (.ref b2), .val (.int (4 : Int32))] [(.ref b2)])) _
    exact retOut X22 hx Bd.returns rfl (Or.inr (Or.inr (Or.inr (Or.inr ⟨rfl, rfl, rfl⟩)))) (hb hby dd_prog_3_method_9_code_37) lhr
  · skip
    show QTo Z ar kk ng ka kb h0 n0 _ T22.heap _
    rw [e22]
    exact ⟨b2, _, rfl, N22, K22, sz_b2, V22⟩
theorem ef_Rc (m : MethodId) (x0 : UInt64) (x1 : Int32) : entryFrame m #[(.double x0), (.int x1)] 8 = mkF m 0 #[.val (.double x0), .second, .val (.int x1), .unset, .unset, .unset, .unset, .unset] [] := by first | (simp [entryFrame, mkF, argsToLocals, Value.category]; done) | rfl
theorem pn_com_example_pival_pival_ChainGraphTowardsPinLaw : plainName "com/example/pival/pival/ChainGraphTowardsPinLaw" = true := by first | (simp [plainName, overriddenIn]; done) | decide +kernel
theorem dd_method_3_code_0 : decode method_3_code 0 = .ok (.iload_n 2, 1) := by decide +kernel
theorem dd_method_3_code_1 : decode method_3_code 1 = .ok (.ifCond .ne 15, 3) := by decide +kernel
theorem dd_method_3_code_4 : decode method_3_code 4 = .ok (.dload_n 0, 1) := by decide +kernel
theorem dd_method_3_code_5 : decode method_3_code 5 = .ok (.dconst 1, 1) := by decide +kernel
theorem dd_method_3_code_6 : decode method_3_code 6 = .ok (.dcmp .l, 1) := by decide +kernel
theorem dd_method_3_code_7 : decode method_3_code 7 = .ok (.ifCond .ne 7, 3) := by decide +kernel
theorem dd_method_3_code_10 : decode method_3_code 10 = .ok (.iconst 1, 1) := by decide +kernel
theorem dd_method_3_code_11 : decode method_3_code 11 = .ok (.goto 4, 3) := by decide +kernel
theorem dd_method_3_code_15 : decode method_3_code 15 = .ok (.ireturn, 1) := by decide +kernel
theorem dd_method_3_code_16 : decode method_3_code 16 = .ok (.iload_n 2, 1) := by decide +kernel
theorem dd_method_3_code_17 : decode method_3_code 17 = .ok (.i2d, 1) := by decide +kernel
theorem dd_method_3_code_18 : decode method_3_code 18 = .ok (.dconst 1, 1) := by decide +kernel
theorem dd_method_3_code_19 : decode method_3_code 19 = .ok (.dadd, 1) := by decide +kernel
theorem dd_method_3_code_20 : decode method_3_code 20 = .ok (.dstore_n 3, 1) := by decide +kernel
theorem dd_method_3_code_21 : decode method_3_code 21 = .ok (.dload_n 0, 1) := by decide +kernel
theorem dd_method_3_code_22 : decode method_3_code 22 = .ok (.dload_n 3, 1) := by decide +kernel
theorem dd_method_3_code_23 : decode method_3_code 23 = .ok (.dmul, 1) := by decide +kernel
theorem dd_method_3_code_24 : decode method_3_code 24 = .ok (.dstore 5, 2) := by decide +kernel
theorem dd_method_3_code_26 : decode method_3_code 26 = .ok (.dload 5, 2) := by decide +kernel
theorem dd_method_3_code_28 : decode method_3_code 28 = .ok (.ldc2_w 21, 3) := by decide +kernel
theorem dd_method_3_code_31 : decode method_3_code 31 = .ok (.dcmp .l, 1) := by decide +kernel
theorem dd_method_3_code_32 : decode method_3_code 32 = .ok (.ifCond .lt 16, 3) := by decide +kernel
theorem dd_method_3_code_35 : decode method_3_code 35 = .ok (.dload 5, 2) := by decide +kernel
theorem dd_method_3_code_37 : decode method_3_code 37 = .ok (.ldc2_w 23, 3) := by decide +kernel
theorem dd_method_3_code_40 : decode method_3_code 40 = .ok (.dcmp .g, 1) := by decide +kernel
theorem dd_method_3_code_41 : decode method_3_code 41 = .ok (.ifCond .gt 7, 3) := by decide +kernel
theorem dd_method_3_code_44 : decode method_3_code 44 = .ok (.iconst 1, 1) := by decide +kernel
theorem dd_method_3_code_45 : decode method_3_code 45 = .ok (.goto 4, 3) := by decide +kernel
theorem dd_method_3_code_49 : decode method_3_code 49 = .ok (.istore 7, 2) := by decide +kernel
theorem dd_method_3_code_51 : decode method_3_code 51 = .ok (.iload 7, 2) := by decide +kernel
theorem dd_method_3_code_53 : decode method_3_code 53 = .ok (.ifCond .eq 19, 3) := by decide +kernel
theorem dd_method_3_code_56 : decode method_3_code 56 = .ok (.dload_n 0, 1) := by decide +kernel
theorem dd_method_3_code_57 : decode method_3_code 57 = .ok (.dconst 0, 1) := by decide +kernel
theorem dd_method_3_code_58 : decode method_3_code 58 = .ok (.dcmp .l, 1) := by decide +kernel
theorem dd_method_3_code_59 : decode method_3_code 59 = .ok (.ifCond .le 13, 3) := by decide +kernel
theorem dd_method_3_code_62 : decode method_3_code 62 = .ok (.dload_n 0, 1) := by decide +kernel
theorem dd_method_3_code_63 : decode method_3_code 63 = .ok (.dconst 1, 1) := by decide +kernel
theorem dd_method_3_code_64 : decode method_3_code 64 = .ok (.dcmp .g, 1) := by decide +kernel
theorem dd_method_3_code_65 : decode method_3_code 65 = .ok (.ifCond .ge 7, 3) := by decide +kernel
theorem dd_method_3_code_68 : decode method_3_code 68 = .ok (.iconst 1, 1) := by decide +kernel
theorem dd_method_3_code_69 : decode method_3_code 69 = .ok (.goto 4, 3) := by decide +kernel
theorem dd_method_3_code_73 : decode method_3_code 73 = .ok (.ireturn, 1) := by decide +kernel
def QRc (Z : State) (d0 : UInt64) (i1 : Int32) (h0 : Heap) (n0 : Nat) (v : Option Value) (h : Heap) (L : List Loc) : Prop := v = some (.int 1) ∧ Fr n0 L ∧ h = h0
set_option maxRecDepth 65536 in
set_option maxHeartbeats 40000000 in
theorem rmRc (l : Launch) (Z : State) (a0 : Array Value) (hw : ∀ d ∈ tables_1, d.before a0 Z = true) (ws : List Jvm.Cond) (d0 : UInt64) (i1 : Int32) (h0 : Heap) (n0 : Nat) (Z0 : n0 ≤ h0.size) (hr : own_rc d0 i1) :
    MetFree l (⟨"com/example/pival/pival/ChainGraphTowardsPinLaw", "reciprocal", "(DI)Z"⟩ : MethodName) (head1 (Jvm.Cond.code (⟨"com/example/pival/pival/ChainGraphTowardsPinLaw", "reciprocal", "(DI)Z"⟩ : MethodName) method_3_code 8 (some .boolean) :: ws) ({ frames := 0, cells := 0, slots := 0, locals := 0 } : Room)) (fun a U => a = #[(.double d0), (.int i1)] ∧ Z.Warmed39 U.vm ∧ U.heap = h0) (fun _ _ _ _ _ => True) (fun _ U oc_ U' => ∃ v L, oc_ = .returned v ∧ QRc Z d0 i1 h0 n0 v U'.heap L ∧ FrameEnd U oc_ U' L ({ frames := 0, cells := 0, slots := 0, locals := 0 } : Room).cells ({ frames := 0, cells := 0, slots := 0, locals := 0 } : Room).slots) := by
  refine MetFree.of_bodySF (plainFor_of_name pn_com_example_pival_pival_ChainGraphTowardsPinLaw) hisR ?_
  intro p e s m args below meth c s₁ Bd hml0 hP hK
  obtain ⟨rfl, hZ, hh⟩ := hP
  have hx := Bd.exec
  have hby := Bd.bytes
  have hml : c.maxLocals = 8 := hml0
  have hown : s.vm.findClass "com/example/pival/pival/ChainGraphTowardsPinLaw" = some m.cls := findClass_of_methodNamed Bd.named
  have hnm := (name_of_methodNamed Bd.named Bd.method).1
  have X0 : Stand p l e ({ frames := 0, cells := 0, slots := 0, locals := 0 } : Room) s m #[(.double d0), (.int i1)] below meth c s₁ [] 0 0 := Stand.of_body Bd
  have e0 : s₁.heap = h0 := by rw [← hh, Bd.state]; rfl
  have N0 := Fr.nil n0
  have pre0 : ∀ t, Steps p.tables e below (s₁.setTop (mkF m 0 #[.val (.double d0), .second, .val (.int i1), .unset, .unset, .unset, .unset, .unset] [])) t → Steps p.tables e below (s₁.setTop (entryFrame m #[(.double d0), (.int i1)] 8)) t := fun t k => castTop (ef_Rc m d0 i1) k
  have k1 : ∀ t, Steps p.tables e below (s₁.setTop (mkF m 1 #[.val (.double d0), .second, .val (.int i1), .unset, .unset, .unset, .unset, .unset] [(.int i1)])) t → Steps p.tables e below (s₁.setTop (entryFrame m #[(.double d0), (.int i1)] 8)) t := by
    intro t kt
    refine pre0 t ?_
    show Steps p.tables e below (s₁.setTop (mkF m 0 #[.val (.double d0), .second, .val (.int i1), .unset, .unset, .unset, .unset, .unset] [])) _
    refine XS.iloadN X0.here hx rfl (hb hby dd_method_3_code_0) rfl ?_
    exact kt
  by_cases hc2 : i1 = (0 : Int32)
  · skip
    obtain ⟨lfs, lhr, lhrun, lhended, lhW, lhsame⟩ := X0.leave (v := some (.int (1 : Int32))) (fun h => by rw [Bd.returns] at h; cases h)
    refine ⟨_, _, k1 _ ?_, lhrun, lhended, _, _, rfl, ?_, ⟨_, rfl⟩, lhW, lhsame.mono (by decide) (by decide)⟩
    · skip
      show Steps p.tables e below (s₁.setTop (mkF m 1 #[.val (.double d0), .second, .val (.int i1), .unset, .unset, .unset, .unset, .unset] [(.int i1)])) _
      refine XS.ifNo X0.here hx rfl (hb hby dd_method_3_code_1) rfl ((if0 _ _).trans (teq hc2).2) ?_
      show Steps p.tables e below (s₁.setTop (mkF m 4 #[.val (.double d0), .second, .val (.int i1), .unset, .unset, .unset, .unset, .unset] [])) _
      refine XS.dloadN X0.here hx rfl (hb hby dd_method_3_code_4) rfl ?_
      show Steps p.tables e below (s₁.setTop (mkF m 5 #[.val (.double d0), .second, .val (.int i1), .unset, .unset, .unset, .unset, .unset] [(.double d0)])) _
      refine XS.dconst1 X0.here hx rfl (hb hby dd_method_3_code_5) (rfl : FP.dconst1 = (4607182418800017408 : UInt64)) ?_
      show Steps p.tables e below (s₁.setTop (mkF m 6 #[.val (.double d0), .second, .val (.int i1), .unset, .unset, .unset, .unset, .unset] [(.double (4607182418800017408 : UInt64)), (.double d0)])) _
      refine XS.dcmpS X0.here hx rfl (hb hby dd_method_3_code_6) rfl (hr.1 hc2) ?_
      show Steps p.tables e below (s₁.setTop (mkF m 7 #[.val (.double d0), .second, .val (.int i1), .unset, .unset, .unset, .unset, .unset] [(.int (0 : Int32))])) _
      refine XS.ifNo X0.here hx rfl (hb hby dd_method_3_code_7) rfl ((if0 _ _).trans (teq (by decide : (0 : Int32) = (0 : Int32))).2) ?_
      show Steps p.tables e below (s₁.setTop (mkF m 10 #[.val (.double d0), .second, .val (.int i1), .unset, .unset, .unset, .unset, .unset] [])) _
      refine XS.iconst X0.here hx rfl (hb hby dd_method_3_code_10) ?_
      show Steps p.tables e below (s₁.setTop (mkF m 11 #[.val (.double d0), .second, .val (.int i1), .unset, .unset, .unset, .unset, .unset] [(.int (1 : Int32))])) _
      refine XS.goto X0.here hx rfl (pc0 := 11) (pc' := 15) rfl (hb hby dd_method_3_code_11) (by decide) (by decide) ?_
      show Steps p.tables e below (s₁.setTop (mkF m 15 #[.val (.double d0), .second, .val (.int i1), .unset, .unset, .unset, .unset, .unset] [(.int (1 : Int32))])) _
      exact retN X0 hx (t := .boolean) Bd.returns (by simp) (hb hby dd_method_3_code_15) lhr
    · skip
      show QRc Z d0 i1 h0 n0 _ s₁.heap _
      rw [e0]
      exact ⟨rfl, N0, rfl⟩
  · skip
    obtain ⟨lfs, lhr, lhrun, lhended, lhW, lhsame⟩ := X0.leave (v := some (.int (1 : Int32))) (fun h => by rw [Bd.returns] at h; cases h)
    refine ⟨_, _, k1 _ ?_, lhrun, lhended, _, _, rfl, ?_, ⟨_, rfl⟩, lhW, lhsame.mono (by decide) (by decide)⟩
    · skip
      show Steps p.tables e below (s₁.setTop (mkF m 1 #[.val (.double d0), .second, .val (.int i1), .unset, .unset, .unset, .unset, .unset] [(.int i1)])) _
      refine XS.ifYes X0.here hx rfl (pc0 := 1) (pc' := 16) rfl (hb hby dd_method_3_code_1) rfl ((if0 _ _).trans (feq hc2).2) (by decide) (by decide) ?_
      show Steps p.tables e below (s₁.setTop (mkF m 16 #[.val (.double d0), .second, .val (.int i1), .unset, .unset, .unset, .unset, .unset] [])) _
      refine XS.iloadN X0.here hx rfl (hb hby dd_method_3_code_16) rfl ?_
      show Steps p.tables e below (s₁.setTop (mkF m 17 #[.val (.double d0), .second, .val (.int i1), .unset, .unset, .unset, .unset, .unset] [(.int i1)])) _
      refine XS.i2dS X0.here hx rfl (hb hby dd_method_3_code_17) rfl rfl ?_
      show Steps p.tables e below (s₁.setTop (mkF m 18 #[.val (.double d0), .second, .val (.int i1), .unset, .unset, .unset, .unset, .unset] [(.double (FP.i2d i1))])) _
      refine XS.dconst1 X0.here hx rfl (hb hby dd_method_3_code_18) (rfl : FP.dconst1 = (4607182418800017408 : UInt64)) ?_
      show Steps p.tables e below (s₁.setTop (mkF m 19 #[.val (.double d0), .second, .val (.int i1), .unset, .unset, .unset, .unset, .unset] [(.double (4607182418800017408 : UInt64)), (.double (FP.i2d i1))])) _
      refine XS.daddS X0.here hx rfl (hb hby dd_method_3_code_19) rfl (hr.2 hc2).1 rfl ?_
      show Steps p.tables e below (s₁.setTop (mkF m 20 #[.val (.double d0), .second, .val (.int i1), .unset, .unset, .unset, .unset, .unset] [(.double (FP.dadd (FP.i2d i1) (4607182418800017408 : UInt64)))])) _
      refine XS.dstoreN X0.here hx rfl (hb hby dd_method_3_code_20) rfl (l' := #[.val (.double d0), .second, .val (.int i1), .val (.double (FP.dadd (FP.i2d i1) (4607182418800017408 : UInt64))), .second, .unset, .unset, .unset]) rfl ?_
      show Steps p.tables e below (s₁.setTop (mkF m 21 #[.val (.double d0), .second, .val (.int i1), .val (.double (FP.dadd (FP.i2d i1) (4607182418800017408 : UInt64))), .second, .unset, .unset, .unset] [])) _
      refine XS.dloadN X0.here hx rfl (hb hby dd_method_3_code_21) rfl ?_
      show Steps p.tables e below (s₁.setTop (mkF m 22 #[.val (.double d0), .second, .val (.int i1), .val (.double (FP.dadd (FP.i2d i1) (4607182418800017408 : UInt64))), .second, .unset, .unset, .unset] [(.double d0)])) _
      refine XS.dloadN X0.here hx rfl (hb hby dd_method_3_code_22) rfl ?_
      show Steps p.tables e below (s₁.setTop (mkF m 23 #[.val (.double d0), .second, .val (.int i1), .val (.double (FP.dadd (FP.i2d i1) (4607182418800017408 : UInt64))), .second, .unset, .unset, .unset] [(.double (FP.dadd (FP.i2d i1) (4607182418800017408 : UInt64))), (.double d0)])) _
      refine XS.dmulS X0.here hx rfl (hb hby dd_method_3_code_23) rfl (hr.2 hc2).2.1 rfl ?_
      show Steps p.tables e below (s₁.setTop (mkF m 24 #[.val (.double d0), .second, .val (.int i1), .val (.double (FP.dadd (FP.i2d i1) (4607182418800017408 : UInt64))), .second, .unset, .unset, .unset] [(.double (FP.dmul d0 (FP.dadd (FP.i2d i1) (4607182418800017408 : UInt64))))])) _
      refine XS.dstore X0.here hx rfl (hb hby dd_method_3_code_24) rfl (l' := #[.val (.double d0), .second, .val (.int i1), .val (.double (FP.dadd (FP.i2d i1) (4607182418800017408 : UInt64))), .second, .val (.double (FP.dmul d0 (FP.dadd (FP.i2d i1) (4607182418800017408 : UInt64)))), .second, .unset]) rfl ?_
      show Steps p.tables e below (s₁.setTop (mkF m 26 #[.val (.double d0), .second, .val (.int i1), .val (.double (FP.dadd (FP.i2d i1) (4607182418800017408 : UInt64))), .second, .val (.double (FP.dmul d0 (FP.dadd (FP.i2d i1) (4607182418800017408 : UInt64)))), .second, .unset] [])) _
      refine XS.dload X0.here hx rfl (hb hby dd_method_3_code_26) rfl ?_
      show Steps p.tables e below (s₁.setTop (mkF m 28 #[.val (.double d0), .second, .val (.int i1), .val (.double (FP.dadd (FP.i2d i1) (4607182418800017408 : UInt64))), .second, .val (.double (FP.dmul d0 (FP.dadd (FP.i2d i1) (4607182418800017408 : UInt64)))), .second, .unset] [(.double (FP.dmul d0 (FP.dadd (FP.i2d i1) (4607182418800017408 : UInt64))))])) _
      refine X0.ldc2DoubleC hx hown (mvT hZ (wd12 hw)) (g := (mkF m 28 #[.val (.double d0), .second, .val (.int i1), .val (.double (FP.dadd (FP.i2d i1) (4607182418800017408 : UInt64))), .second, .val (.double (FP.dmul d0 (FP.dadd (FP.i2d i1) (4607182418800017408 : UInt64)))), .second, .unset] [(.double (FP.dmul d0 (FP.dadd (FP.i2d i1) (4607182418800017408 : UInt64))))])) rfl (hb hby dd_method_3_code_28) _ ?_
      show Steps p.tables e below (s₁.setTop (mkF m 31 #[.val (.double d0), .second, .val (.int i1), .val (.double (FP.dadd (FP.i2d i1) (4607182418800017408 : UInt64))), .second, .val (.double (FP.dmul d0 (FP.dadd (FP.i2d i1) (4607182418800017408 : UInt64)))), .second, .unset] [(.double (4607182418800017406 : UInt64)), (.double (FP.dmul d0 (FP.dadd (FP.i2d i1) (4607182418800017408 : UInt64))))])) _
      refine XS.dcmpS X0.here hx rfl (hb hby dd_method_3_code_31) rfl rfl ?_
      show Steps p.tables e below (s₁.setTop (mkF m 32 #[.val (.double d0), .second, .val (.int i1), .val (.double (FP.dadd (FP.i2d i1) (4607182418800017408 : UInt64))), .second, .val (.double (FP.dmul d0 (FP.dadd (FP.i2d i1) (4607182418800017408 : UInt64)))), .second, .unset] [(.int (cmpValue (FP.dcmp (FP.dmul d0 (FP.dadd (FP.i2d i1) (4607182418800017408 : UInt64))) (4607182418800017406 : UInt64)) .l))])) _
      refine XS.ifNo X0.here hx rfl (hb hby dd_method_3_code_32) rfl ((if0 _ _).trans (flt (hr.2 hc2).2.2.1).1) ?_
      show Steps p.tables e below (s₁.setTop (mkF m 35 #[.val (.double d0), .second, .val (.int i1), .val (.double (FP.dadd (FP.i2d i1) (4607182418800017408 : UInt64))), .second, .val (.double (FP.dmul d0 (FP.dadd (FP.i2d i1) (4607182418800017408 : UInt64)))), .second, .unset] [])) _
      refine XS.dload X0.here hx rfl (hb hby dd_method_3_code_35) rfl ?_
      show Steps p.tables e below (s₁.setTop (mkF m 37 #[.val (.double d0), .second, .val (.int i1), .val (.double (FP.dadd (FP.i2d i1) (4607182418800017408 : UInt64))), .second, .val (.double (FP.dmul d0 (FP.dadd (FP.i2d i1) (4607182418800017408 : UInt64)))), .second, .unset] [(.double (FP.dmul d0 (FP.dadd (FP.i2d i1) (4607182418800017408 : UInt64))))])) _
      refine X0.ldc2DoubleC hx hown (mvT hZ (wd13 hw)) (g := (mkF m 37 #[.val (.double d0), .second, .val (.int i1), .val (.double (FP.dadd (FP.i2d i1) (4607182418800017408 : UInt64))), .second, .val (.double (FP.dmul d0 (FP.dadd (FP.i2d i1) (4607182418800017408 : UInt64)))), .second, .unset] [(.double (FP.dmul d0 (FP.dadd (FP.i2d i1) (4607182418800017408 : UInt64))))])) rfl (hb hby dd_method_3_code_37) _ ?_
      show Steps p.tables e below (s₁.setTop (mkF m 40 #[.val (.double d0), .second, .val (.int i1), .val (.double (FP.dadd (FP.i2d i1) (4607182418800017408 : UInt64))), .second, .val (.double (FP.dmul d0 (FP.dadd (FP.i2d i1) (4607182418800017408 : UInt64)))), .second, .unset] [(.double (4607182418800017409 : UInt64)), (.double (FP.dmul d0 (FP.dadd (FP.i2d i1) (4607182418800017408 : UInt64))))])) _
      refine XS.dcmpS X0.here hx rfl (hb hby dd_method_3_code_40) rfl rfl ?_
      show Steps p.tables e below (s₁.setTop (mkF m 41 #[.val (.double d0), .second, .val (.int i1), .val (.double (FP.dadd (FP.i2d i1) (4607182418800017408 : UInt64))), .second, .val (.double (FP.dmul d0 (FP.dadd (FP.i2d i1) (4607182418800017408 : UInt64)))), .second, .unset] [(.int (cmpValue (FP.dcmp (FP.dmul d0 (FP.dadd (FP.i2d i1) (4607182418800017408 : UInt64))) (4607182418800017409 : UInt64)) .g))])) _
      refine XS.ifNo X0.here hx rfl (hb hby dd_method_3_code_41) rfl ((if0 _ _).trans (flt (hr.2 hc2).2.2.2.1).2.2.1) ?_
      show Steps p.tables e below (s₁.setTop (mkF m 44 #[.val (.double d0), .second, .val (.int i1), .val (.double (FP.dadd (FP.i2d i1) (4607182418800017408 : UInt64))), .second, .val (.double (FP.dmul d0 (FP.dadd (FP.i2d i1) (4607182418800017408 : UInt64)))), .second, .unset] [])) _
      refine XS.iconst X0.here hx rfl (hb hby dd_method_3_code_44) ?_
      show Steps p.tables e below (s₁.setTop (mkF m 45 #[.val (.double d0), .second, .val (.int i1), .val (.double (FP.dadd (FP.i2d i1) (4607182418800017408 : UInt64))), .second, .val (.double (FP.dmul d0 (FP.dadd (FP.i2d i1) (4607182418800017408 : UInt64)))), .second, .unset] [(.int (1 : Int32))])) _
      refine XS.goto X0.here hx rfl (pc0 := 45) (pc' := 49) rfl (hb hby dd_method_3_code_45) (by decide) (by decide) ?_
      show Steps p.tables e below (s₁.setTop (mkF m 49 #[.val (.double d0), .second, .val (.int i1), .val (.double (FP.dadd (FP.i2d i1) (4607182418800017408 : UInt64))), .second, .val (.double (FP.dmul d0 (FP.dadd (FP.i2d i1) (4607182418800017408 : UInt64)))), .second, .unset] [(.int (1 : Int32))])) _
      refine XS.istore X0.here hx rfl (hb hby dd_method_3_code_49) rfl (l' := #[.val (.double d0), .second, .val (.int i1), .val (.double (FP.dadd (FP.i2d i1) (4607182418800017408 : UInt64))), .second, .val (.double (FP.dmul d0 (FP.dadd (FP.i2d i1) (4607182418800017408 : UInt64)))), .second, .val (.int (1 : Int32))]) rfl ?_
      show Steps p.tables e below (s₁.setTop (mkF m 51 #[.val (.double d0), .second, .val (.int i1), .val (.double (FP.dadd (FP.i2d i1) (4607182418800017408 : UInt64))), .second, .val (.double (FP.dmul d0 (FP.dadd (FP.i2d i1) (4607182418800017408 : UInt64)))), .second, .val (.int (1 : Int32))] [])) _
      refine XS.iload X0.here hx rfl (hb hby dd_method_3_code_51) rfl ?_
      show Steps p.tables e below (s₁.setTop (mkF m 53 #[.val (.double d0), .second, .val (.int i1), .val (.double (FP.dadd (FP.i2d i1) (4607182418800017408 : UInt64))), .second, .val (.double (FP.dmul d0 (FP.dadd (FP.i2d i1) (4607182418800017408 : UInt64)))), .second, .val (.int (1 : Int32))] [(.int (1 : Int32))])) _
      refine XS.ifNo X0.here hx rfl (hb hby dd_method_3_code_53) rfl ((if0 _ _).trans (feq (by decide : ¬ ((1 : Int32) = (0 : Int32)))).1) ?_
      show Steps p.tables e below (s₁.setTop (mkF m 56 #[.val (.double d0), .second, .val (.int i1), .val (.double (FP.dadd (FP.i2d i1) (4607182418800017408 : UInt64))), .second, .val (.double (FP.dmul d0 (FP.dadd (FP.i2d i1) (4607182418800017408 : UInt64)))), .second, .val (.int (1 : Int32))] [])) _
      refine XS.dloadN X0.here hx rfl (hb hby dd_method_3_code_56) rfl ?_
      show Steps p.tables e below (s₁.setTop (mkF m 57 #[.val (.double d0), .second, .val (.int i1), .val (.double (FP.dadd (FP.i2d i1) (4607182418800017408 : UInt64))), .second, .val (.double (FP.dmul d0 (FP.dadd (FP.i2d i1) (4607182418800017408 : UInt64)))), .second, .val (.int (1 : Int32))] [(.double d0)])) _
      refine XS.dconst0 X0.here hx rfl (hb hby dd_method_3_code_57) (rfl : FP.dconst0 = (0 : UInt64)) ?_
      show Steps p.tables e below (s₁.setTop (mkF m 58 #[.val (.double d0), .second, .val (.int i1), .val (.double (FP.dadd (FP.i2d i1) (4607182418800017408 : UInt64))), .second, .val (.double (FP.dmul d0 (FP.dadd (FP.i2d i1) (4607182418800017408 : UInt64)))), .second, .val (.int (1 : Int32))] [(.double (0 : UInt64)), (.double d0)])) _
      refine XS.dcmpS X0.here hx rfl (hb hby dd_method_3_code_58) rfl rfl ?_
      show Steps p.tables e below (s₁.setTop (mkF m 59 #[.val (.double d0), .second, .val (.int i1), .val (.double (FP.dadd (FP.i2d i1) (4607182418800017408 : UInt64))), .second, .val (.double (FP.dmul d0 (FP.dadd (FP.i2d i1) (4607182418800017408 : UInt64)))), .second, .val (.int (1 : Int32))] [(.int (cmpValue (FP.dcmp d0 (0 : UInt64)) .l))])) _
      refine XS.ifNo X0.here hx rfl (hb hby dd_method_3_code_59) rfl ((if0 _ _).trans (tlt (hr.2 hc2).2.2.2.2.1).2.2.2) ?_
      show Steps p.tables e below (s₁.setTop (mkF m 62 #[.val (.double d0), .second, .val (.int i1), .val (.double (FP.dadd (FP.i2d i1) (4607182418800017408 : UInt64))), .second, .val (.double (FP.dmul d0 (FP.dadd (FP.i2d i1) (4607182418800017408 : UInt64)))), .second, .val (.int (1 : Int32))] [])) _
      refine XS.dloadN X0.here hx rfl (hb hby dd_method_3_code_62) rfl ?_
      show Steps p.tables e below (s₁.setTop (mkF m 63 #[.val (.double d0), .second, .val (.int i1), .val (.double (FP.dadd (FP.i2d i1) (4607182418800017408 : UInt64))), .second, .val (.double (FP.dmul d0 (FP.dadd (FP.i2d i1) (4607182418800017408 : UInt64)))), .second, .val (.int (1 : Int32))] [(.double d0)])) _
      refine XS.dconst1 X0.here hx rfl (hb hby dd_method_3_code_63) (rfl : FP.dconst1 = (4607182418800017408 : UInt64)) ?_
      show Steps p.tables e below (s₁.setTop (mkF m 64 #[.val (.double d0), .second, .val (.int i1), .val (.double (FP.dadd (FP.i2d i1) (4607182418800017408 : UInt64))), .second, .val (.double (FP.dmul d0 (FP.dadd (FP.i2d i1) (4607182418800017408 : UInt64)))), .second, .val (.int (1 : Int32))] [(.double (4607182418800017408 : UInt64)), (.double d0)])) _
      refine XS.dcmpS X0.here hx rfl (hb hby dd_method_3_code_64) rfl rfl ?_
      show Steps p.tables e below (s₁.setTop (mkF m 65 #[.val (.double d0), .second, .val (.int i1), .val (.double (FP.dadd (FP.i2d i1) (4607182418800017408 : UInt64))), .second, .val (.double (FP.dmul d0 (FP.dadd (FP.i2d i1) (4607182418800017408 : UInt64)))), .second, .val (.int (1 : Int32))] [(.int (cmpValue (FP.dcmp d0 (4607182418800017408 : UInt64)) .g))])) _
      refine XS.ifNo X0.here hx rfl (hb hby dd_method_3_code_65) rfl ((if0 _ _).trans (tlt (hr.2 hc2).2.2.2.2.2).2.1) ?_
      show Steps p.tables e below (s₁.setTop (mkF m 68 #[.val (.double d0), .second, .val (.int i1), .val (.double (FP.dadd (FP.i2d i1) (4607182418800017408 : UInt64))), .second, .val (.double (FP.dmul d0 (FP.dadd (FP.i2d i1) (4607182418800017408 : UInt64)))), .second, .val (.int (1 : Int32))] [])) _
      refine XS.iconst X0.here hx rfl (hb hby dd_method_3_code_68) ?_
      show Steps p.tables e below (s₁.setTop (mkF m 69 #[.val (.double d0), .second, .val (.int i1), .val (.double (FP.dadd (FP.i2d i1) (4607182418800017408 : UInt64))), .second, .val (.double (FP.dmul d0 (FP.dadd (FP.i2d i1) (4607182418800017408 : UInt64)))), .second, .val (.int (1 : Int32))] [(.int (1 : Int32))])) _
      refine XS.goto X0.here hx rfl (pc0 := 69) (pc' := 73) rfl (hb hby dd_method_3_code_69) (by decide) (by decide) ?_
      show Steps p.tables e below (s₁.setTop (mkF m 73 #[.val (.double d0), .second, .val (.int i1), .val (.double (FP.dadd (FP.i2d i1) (4607182418800017408 : UInt64))), .second, .val (.double (FP.dmul d0 (FP.dadd (FP.i2d i1) (4607182418800017408 : UInt64)))), .second, .val (.int (1 : Int32))] [(.int (1 : Int32))])) _
      exact retN X0 hx (t := .boolean) Bd.returns (by simp) (hb hby dd_method_3_code_73) lhr
    · skip
      show QRc Z d0 i1 h0 n0 _ s₁.heap _
      rw [e0]
      exact ⟨rfl, N0, rfl⟩
theorem ef_0 (m : MethodId) (x0 : Int32) (x1 : Int32) (x2 : Int32) : entryFrame m #[(.int x0), (.int x1), (.int x2)] maxLocals = mkF m 0 #[.val (.int x0), .val (.int x1), .val (.int x2), .unset, .unset, .unset, .unset, .unset] [] := by first | (simp [entryFrame, mkF, argsToLocals, Value.category, maxLocals]; done) | rfl
theorem pd___I__D : parseMethodDescriptor "([I)[D" = some ⟨[(.array .int)], some (.array .double)⟩ := by decide +kernel
theorem pd__DI_Z : parseMethodDescriptor "(DI)Z" = some ⟨[.double, .int], some .boolean⟩ := by decide +kernel
def Q0 (Z : State) (x0 : Int32) (x1 : Int32) (x2 : Int32) (h0 : Heap) (n0 : Nat) (v : Option Value) (h : Heap) (L : List Loc) : Prop := v = some (.int 1) ∧ Fr n0 L
set_option maxRecDepth 65536 in
set_option maxHeartbeats 40000000 in
theorem rm0 (l : Launch) (Z : State) (a0 : Array Value) (hw : ∀ d ∈ tables_1, d.before a0 Z = true) (ws : List Jvm.Cond) (x0 : Int32) (x1 : Int32) (x2 : Int32) (h0 : Heap) (n0 : Nat) (Z0 : n0 ≤ h0.size) :
    MetFree l x (head1 (Jvm.Cond.code x code maxLocals ret :: ws) room_1) (fun a U => a = #[(.int x0), (.int x1), (.int x2)] ∧ Z.Warmed39 U.vm ∧ U.heap = h0) (fun _ _ _ _ _ => True) (fun _ U oc_ U' => ∃ v L, oc_ = .returned v ∧ Q0 Z x0 x1 x2 h0 n0 v U'.heap L ∧ FrameEnd U oc_ U' L 16 128) := by
  refine MetFree.of_bodySF (plainFor_of_name pn_com_example_pival_pival_ChainGraphTowardsPinLaw) hisR ?_
  intro p e s m args below meth c s₁ Bd hml0 hP hK
  obtain ⟨rfl, hZ, hh⟩ := hP
  have hx := Bd.exec
  have hby := Bd.bytes
  have hml : c.maxLocals = 8 := hml0
  have hown : s.vm.findClass "com/example/pival/pival/ChainGraphTowardsPinLaw" = some m.cls := findClass_of_methodNamed Bd.named
  have hnm := (name_of_methodNamed Bd.named Bd.method).1
  have X0 : Stand p l e room_1 s m #[(.int x0), (.int x1), (.int x2)] below meth c s₁ [] 0 0 := Stand.of_body Bd
  have e0 : s₁.heap = h0 := by rw [← hh, Bd.state]; rfl
  have N0 := Fr.nil n0
  have pre0 : ∀ t, Steps p.tables e below (s₁.setTop (mkF m 0 #[.val (.int x0), .val (.int x1), .val (.int x2), .unset, .unset, .unset, .unset, .unset] [])) t → Steps p.tables e below (s₁.setTop (entryFrame m #[(.int x0), (.int x1), (.int x2)] maxLocals)) t := fun t k => castTop (ef_0 m x0 x1 x2) k
  have k1 : ∀ t, Steps p.tables e below (s₁.setTop (mkF m 23 #[.val (.int x0), .val (.int x1), .val (.int x2), .val (.int (x0 ||| (-2147483648 : Int32))), .val (.int ((x1 &&& (2147483647 : Int32)) % (2147483647 : Int32))), .val (.int ((x2 &&& (2147483647 : Int32)) % (2147483647 : Int32))), .unset, .unset] [])) t → Steps p.tables e below (s₁.setTop (entryFrame m #[(.int x0), (.int x1), (.int x2)] maxLocals)) t := by
    intro t kt
    refine pre0 t ?_
    show Steps p.tables e below (s₁.setTop (mkF m 0 #[.val (.int x0), .val (.int x1), .val (.int x2), .unset, .unset, .unset, .unset, .unset] [])) _
    refine XS.iloadN X0.here hx rfl (hb hby at_0) rfl ?_
    show Steps p.tables e below (s₁.setTop (mkF m 1 #[.val (.int x0), .val (.int x1), .val (.int x2), .unset, .unset, .unset, .unset, .unset] [(.int x0)])) _
    refine X0.ldcInt hx hown (mvT hZ (wd0 hw)) (g := (mkF m 1 #[.val (.int x0), .val (.int x1), .val (.int x2), .unset, .unset, .unset, .unset, .unset] [(.int x0)])) rfl (hb hby at_1) _ ?_
    show Steps p.tables e below (s₁.setTop (mkF m 3 #[.val (.int x0), .val (.int x1), .val (.int x2), .unset, .unset, .unset, .unset, .unset] [(.int (-2147483648 : Int32)), (.int x0)])) _
    refine XS.ior X0.here hx rfl (hb hby at_3) rfl ?_
    show Steps p.tables e below (s₁.setTop (mkF m 4 #[.val (.int x0), .val (.int x1), .val (.int x2), .unset, .unset, .unset, .unset, .unset] [(.int (x0 ||| (-2147483648 : Int32)))])) _
    refine XS.istoreN X0.here hx rfl (hb hby at_4) rfl (l' := #[.val (.int x0), .val (.int x1), .val (.int x2), .val (.int (x0 ||| (-2147483648 : Int32))), .unset, .unset, .unset, .unset]) rfl ?_
    show Steps p.tables e below (s₁.setTop (mkF m 5 #[.val (.int x0), .val (.int x1), .val (.int x2), .val (.int (x0 ||| (-2147483648 : Int32))), .unset, .unset, .unset, .unset] [])) _
    refine XS.iloadN X0.here hx rfl (hb hby at_5) rfl ?_
    show Steps p.tables e below (s₁.setTop (mkF m 6 #[.val (.int x0), .val (.int x1), .val (.int x2), .val (.int (x0 ||| (-2147483648 : Int32))), .unset, .unset, .unset, .unset] [(.int x1)])) _
    refine X0.ldcInt hx hown (mvT hZ (wd1 hw)) (g := (mkF m 6 #[.val (.int x0), .val (.int x1), .val (.int x2), .val (.int (x0 ||| (-2147483648 : Int32))), .unset, .unset, .unset, .unset] [(.int x1)])) rfl (hb hby at_6) _ ?_
    show Steps p.tables e below (s₁.setTop (mkF m 8 #[.val (.int x0), .val (.int x1), .val (.int x2), .val (.int (x0 ||| (-2147483648 : Int32))), .unset, .unset, .unset, .unset] [(.int (2147483647 : Int32)), (.int x1)])) _
    refine XS.iand X0.here hx rfl (hb hby at_8) rfl ?_
    show Steps p.tables e below (s₁.setTop (mkF m 9 #[.val (.int x0), .val (.int x1), .val (.int x2), .val (.int (x0 ||| (-2147483648 : Int32))), .unset, .unset, .unset, .unset] [(.int (x1 &&& (2147483647 : Int32)))])) _
    refine X0.ldcInt hx hown (mvT hZ (wd1 hw)) (g := (mkF m 9 #[.val (.int x0), .val (.int x1), .val (.int x2), .val (.int (x0 ||| (-2147483648 : Int32))), .unset, .unset, .unset, .unset] [(.int (x1 &&& (2147483647 : Int32)))])) rfl (hb hby at_9) _ ?_
    show Steps p.tables e below (s₁.setTop (mkF m 11 #[.val (.int x0), .val (.int x1), .val (.int x2), .val (.int (x0 ||| (-2147483648 : Int32))), .unset, .unset, .unset, .unset] [(.int (2147483647 : Int32)), (.int (x1 &&& (2147483647 : Int32)))])) _
    refine iremM X0 hx rfl (hb hby at_11) rfl (by decide) ?_
    show Steps p.tables e below (s₁.setTop (mkF m 12 #[.val (.int x0), .val (.int x1), .val (.int x2), .val (.int (x0 ||| (-2147483648 : Int32))), .unset, .unset, .unset, .unset] [(.int ((x1 &&& (2147483647 : Int32)) % (2147483647 : Int32)))])) _
    refine XS.istore X0.here hx rfl (hb hby at_12) rfl (l' := #[.val (.int x0), .val (.int x1), .val (.int x2), .val (.int (x0 ||| (-2147483648 : Int32))), .val (.int ((x1 &&& (2147483647 : Int32)) % (2147483647 : Int32))), .unset, .unset, .unset]) rfl ?_
    show Steps p.tables e below (s₁.setTop (mkF m 14 #[.val (.int x0), .val (.int x1), .val (.int x2), .val (.int (x0 ||| (-2147483648 : Int32))), .val (.int ((x1 &&& (2147483647 : Int32)) % (2147483647 : Int32))), .unset, .unset, .unset] [])) _
    refine XS.iloadN X0.here hx rfl (hb hby at_14) rfl ?_
    show Steps p.tables e below (s₁.setTop (mkF m 15 #[.val (.int x0), .val (.int x1), .val (.int x2), .val (.int (x0 ||| (-2147483648 : Int32))), .val (.int ((x1 &&& (2147483647 : Int32)) % (2147483647 : Int32))), .unset, .unset, .unset] [(.int x2)])) _
    refine X0.ldcInt hx hown (mvT hZ (wd1 hw)) (g := (mkF m 15 #[.val (.int x0), .val (.int x1), .val (.int x2), .val (.int (x0 ||| (-2147483648 : Int32))), .val (.int ((x1 &&& (2147483647 : Int32)) % (2147483647 : Int32))), .unset, .unset, .unset] [(.int x2)])) rfl (hb hby at_15) _ ?_
    show Steps p.tables e below (s₁.setTop (mkF m 17 #[.val (.int x0), .val (.int x1), .val (.int x2), .val (.int (x0 ||| (-2147483648 : Int32))), .val (.int ((x1 &&& (2147483647 : Int32)) % (2147483647 : Int32))), .unset, .unset, .unset] [(.int (2147483647 : Int32)), (.int x2)])) _
    refine XS.iand X0.here hx rfl (hb hby at_17) rfl ?_
    show Steps p.tables e below (s₁.setTop (mkF m 18 #[.val (.int x0), .val (.int x1), .val (.int x2), .val (.int (x0 ||| (-2147483648 : Int32))), .val (.int ((x1 &&& (2147483647 : Int32)) % (2147483647 : Int32))), .unset, .unset, .unset] [(.int (x2 &&& (2147483647 : Int32)))])) _
    refine X0.ldcInt hx hown (mvT hZ (wd1 hw)) (g := (mkF m 18 #[.val (.int x0), .val (.int x1), .val (.int x2), .val (.int (x0 ||| (-2147483648 : Int32))), .val (.int ((x1 &&& (2147483647 : Int32)) % (2147483647 : Int32))), .unset, .unset, .unset] [(.int (x2 &&& (2147483647 : Int32)))])) rfl (hb hby at_18) _ ?_
    show Steps p.tables e below (s₁.setTop (mkF m 20 #[.val (.int x0), .val (.int x1), .val (.int x2), .val (.int (x0 ||| (-2147483648 : Int32))), .val (.int ((x1 &&& (2147483647 : Int32)) % (2147483647 : Int32))), .unset, .unset, .unset] [(.int (2147483647 : Int32)), (.int (x2 &&& (2147483647 : Int32)))])) _
    refine iremM X0 hx rfl (hb hby at_20) rfl (by decide) ?_
    show Steps p.tables e below (s₁.setTop (mkF m 21 #[.val (.int x0), .val (.int x1), .val (.int x2), .val (.int (x0 ||| (-2147483648 : Int32))), .val (.int ((x1 &&& (2147483647 : Int32)) % (2147483647 : Int32))), .unset, .unset, .unset] [(.int ((x2 &&& (2147483647 : Int32)) % (2147483647 : Int32)))])) _
    refine XS.istore X0.here hx rfl (hb hby at_21) rfl (l' := #[.val (.int x0), .val (.int x1), .val (.int x2), .val (.int (x0 ||| (-2147483648 : Int32))), .val (.int ((x1 &&& (2147483647 : Int32)) % (2147483647 : Int32))), .val (.int ((x2 &&& (2147483647 : Int32)) % (2147483647 : Int32))), .unset, .unset]) rfl ?_
    exact kt
  obtain ⟨ng, h_ng⟩ : ∃ z : Int32, z = (x0 ||| (-2147483648 : Int32)) := ⟨_, rfl⟩
  rw [← h_ng] at k1
  obtain ⟨ka, h_ka⟩ : ∃ z : Int32, z = ((x1 &&& (2147483647 : Int32)) % (2147483647 : Int32)) := ⟨_, rfl⟩
  rw [← h_ka] at k1
  obtain ⟨kb, h_kb⟩ : ∃ z : Int32, z = ((x2 &&& (2147483647 : Int32)) % (2147483647 : Int32)) := ⟨_, rfl⟩
  rw [← h_kb] at k1
  have hng : ng < (0 : Int32) := by rw [h_ng]; exact own_neg32 x0
  have bd_ka : 0 ≤ ka.toInt ∧ ka.toInt < 2147483647 := by rw [h_ka]; exact own_k x1
  have p_ka : ¬ ka < (0 : Int32) := fun q => by have := Int32.lt_iff_toInt_lt.mp q; have o0 : (0 : Int32).toInt = 0 := rfl; omega
  have bd_kb : 0 ≤ kb.toInt ∧ kb.toInt < 2147483647 := by rw [h_kb]; exact own_k x2
  have p_kb : ¬ kb < (0 : Int32) := fun q => by have := Int32.lt_iff_toInt_lt.mp q; have o0 : (0 : Int32).toInt = 0 := rfl; omega
  obtain ⟨T2, h2, kk2, X2, e2, E2, A2, st2⟩ := newP X0 hx hZ (aty := .int) (wd2 hw) e0 (g := (mkF m 24 #[.val (.int x0), .val (.int x1), .val (.int x2), .val (.int ng), .val (.int ka), .val (.int kb), .unset, .unset] [(.int (4 : Int32))])) rfl (hb hby at_24) rfl (by decide) (cap := 4) (by decide) (by decide) (by decide) (by decide)
  obtain ⟨b2, g2⟩ : ∃ z, z = h0.size := ⟨_, rfl⟩
  rw [← g2] at A2 st2
  have ge_b2 : n0 ≤ b2 := Nat.le_trans Z0 (Nat.le_of_eq g2.symm)
  have sz_b2 : h0.size ≤ b2 := Nat.le_trans (Nat.le_refl _) (Nat.le_of_eq g2.symm)
  have Z2 : n0 ≤ h2.size := Nat.le_trans Z0 E2.1
  have K2 : Keep h0 h2 [] := ((Keep.refl h0 []).ext E2)
  have V2 : Arv Z h2 b2 kk2 .int (4 : Int32) [(.int (0 : Int32)), (.int (0 : Int32)), (.int (0 : Int32)), (.int (0 : Int32))] (.int (0 : Int32)) := (Arv.new A2 (by decide)).pad (pad_rep [] (.int (0 : Int32)) 4)
  obtain ⟨cl3, Ar3, q3, S3, M3, HH3, GG3⟩ := id V2
  have hin3 : ¬ ((0 : Int32) < 0 ∨ cl3.slots.size ≤ ((0 : Int32)).toNatClampNeg) := inb_of S3 ⟨by decide, by decide⟩
  obtain ⟨T4, h4, X4, e4, W4, st4⟩ := stI X2 hx hZ e2 Ar3 (j := (0 : Int32)) hin3 (g := (mkF m 29 #[.val (.int x0), .val (.int x1), .val (.int x2), .val (.int ng), .val (.int ka), .val (.int kb), .unset, .unset] [(.int ng), (.int (0 : Int32)), (.ref b2), (.ref b2)])) rfl rfl (hb hby at_29)
  have N4 := Fr.snoc X4 N0 ge_b2
  have Z4 : n0 ≤ h4.size := by rw [W4.size]; exact Z2
  have K4 : Keep h0 h4 [] := (K2.wr W4 (Or.inr sz_b2))
  have V4 := Arv.set Ar3 q3 S3 M3 HH3 GG3 rfl W4 0 rfl (Nat.le_of_ble_eq_true rfl)
  obtain ⟨cl5, Ar5, q5, S5, M5, HH5, GG5⟩ := id V4
  have hin5 : ¬ ((1 : Int32) < 0 ∨ cl5.slots.size ≤ ((1 : Int32)).toNatClampNeg) := inb_of S5 ⟨by decide, by decide⟩
  obtain ⟨T6, h6, X6, e6, W6, st6⟩ := stI X4 hx hZ e4 Ar5 (j := (1 : Int32)) hin5 (g := (mkF m 33 #[.val (.int x0), .val (.int x1), .val (.int x2), .val (.int ng), .val (.int ka), .val (.int kb), .unset, .unset] [(.int (0 : Int32)), (.int (1 : Int32)), (.ref b2), (.ref b2)])) rfl rfl (hb hby at_33)
  have N6 := Fr.snoc X6 N4 ge_b2
  have Z6 : n0 ≤ h6.size := by rw [W6.size]; exact Z4
  have K6 : Keep h0 h6 [] := (K4.wr W6 (Or.inr sz_b2))
  have V6 := Arv.set Ar5 q5 S5 M5 HH5 GG5 rfl W6 1 rfl (Nat.le_of_ble_eq_true rfl)
  obtain ⟨cl7, Ar7, q7, S7, M7, HH7, GG7⟩ := id V6
  have hin7 : ¬ ((2 : Int32) < 0 ∨ cl7.slots.size ≤ ((2 : Int32)).toNatClampNeg) := inb_of S7 ⟨by decide, by decide⟩
  obtain ⟨T8, h8, X8, e8, W8, st8⟩ := stI X6 hx hZ e6 Ar7 (j := (2 : Int32)) hin7 (g := (mkF m 38 #[.val (.int x0), .val (.int x1), .val (.int x2), .val (.int ng), .val (.int ka), .val (.int kb), .unset, .unset] [(.int ka), (.int (2 : Int32)), (.ref b2), (.ref b2)])) rfl rfl (hb hby at_38)
  have N8 := Fr.snoc X8 N6 ge_b2
  have Z8 : n0 ≤ h8.size := by rw [W8.size]; exact Z6
  have K8 : Keep h0 h8 [] := (K6.wr W8 (Or.inr sz_b2))
  have V8 := Arv.set Ar7 q7 S7 M7 HH7 GG7 rfl W8 2 rfl (Nat.le_of_ble_eq_true rfl)
  obtain ⟨cl9, Ar9, q9, S9, M9, HH9, GG9⟩ := id V8
  have hin9 : ¬ ((3 : Int32) < 0 ∨ cl9.slots.size ≤ ((3 : Int32)).toNatClampNeg) := inb_of S9 ⟨by decide, by decide⟩
  obtain ⟨T10, h10, X10, e10, W10, st10⟩ := stI X8 hx hZ e8 Ar9 (j := (3 : Int32)) hin9 (g := (mkF m 43 #[.val (.int x0), .val (.int x1), .val (.int x2), .val (.int ng), .val (.int ka), .val (.int kb), .unset, .unset] [(.int kb), (.int (3 : Int32)), (.ref b2), (.ref b2)])) rfl rfl (hb hby at_43)
  have N10 := Fr.snoc X10 N8 ge_b2
  have Z10 : n0 ≤ h10.size := by rw [W10.size]; exact Z8
  have K10 : Keep h0 h10 [] := (K8.wr W10 (Or.inr sz_b2))
  have V10 := Arv.set Ar9 q9 S9 M9 HH9 GG9 rfl W10 3 rfl (Nat.le_of_ble_eq_true rfl)
  obtain ⟨_, _, ⟨T11, L11, kc11, ks11⟩, -, X11, ⟨Lc11, hQ11, l11, y11, z11⟩, st11⟩ := Jvm.LawKit.callS X10 hx (y := (⟨"com/example/pival/pival/ChainGraph", "towards", "([I)[D"⟩ : MethodName)) hown (mvT hZ (wd3 hw)) (mvT hZ (wd4 hw)) (mvT hZ (wd5 hw)) (mvT hZ (wd6 hw)) (by decide) (backOf (W := 0) (rmTo l Z a0 hw [] b2 _ ng ka kb h10 n0 Z10 V10 hng p_ka p_kb own_n1 (own_rn bd_ka).1 (own_rn bd_kb).1) hZ (wd6 hw) (wd5 hw) (by decide) (by decide)) (g := (mkF m 48 #[.val (.int x0), .val (.int x1), .val (.int x2), .val (.int ng), .val (.int ka), .val (.int kb), .val (.ref b2), .unset] [(.ref b2)])) rfl (by rw [hml]; rfl) (argsL := [(.ref b2)]) (rest := []) (lenOf pd___I__D rfl) rfl (by show 2 * 0 + _ ≤ _; exact Nat.le_of_eq rfl) (hb hby at_48) (fun _ _ => ⟨rfl, e10, (by decide : 1 + 1 ≤ _), (by decide : 4 + 4 ≤ _)⟩)
  dsimp only [Pt.U, Pt.locs, Pt.cells, Pt.slots] at X11 l11 y11 z11 st11 hQ11
  subst l11 y11 z11
  obtain ⟨b11, kk11, rfl, Nq11, Kq11, szb11, Vb11⟩ := hQ11
  have N11 := Fr.app N10 Nq11
  have Z11 : n0 ≤ T11.heap.size := Nat.le_trans Z10 Kq11.1
  have K11 : Keep h0 T11.heap [] := Keep.trans K10 Kq11 all0
  have ne_b2_b11 : b2 ≠ b11 := Nat.ne_of_lt (Nat.lt_of_lt_of_le V10.lt szb11)
  have ge_b11 : n0 ≤ b11 := Nat.le_trans Z10 szb11
  have sz_b11 : h0.size ≤ b11 := Nat.le_trans K10.1 szb11
  obtain ⟨cl12, Ar12, -, S12, M12, -, -⟩ := id Vb11
  have f13 := (V10.keep Kq11 nin0)
  obtain ⟨cl14, Ar14, q14, S14, M14, HH14, GG14⟩ := id f13
  have hin14 : ¬ ((0 : Int32) < 0 ∨ cl14.slots.size ≤ ((0 : Int32)).toNatClampNeg) := inb_of S14 ⟨by decide, by decide⟩
  have hat14 : cl14.slots[((0 : Int32)).toNatClampNeg]? = some (.int ng) := Has.at HH14 hin14 rfl
  obtain ⟨cl15, Ar15, q15, S15, M15, HH15, GG15⟩ := id f13
  have hin15 : ¬ ((1 : Int32) < 0 ∨ cl15.slots.size ≤ ((1 : Int32)).toNatClampNeg) := inb_of S15 ⟨by decide, by decide⟩
  have hat15 : cl15.slots[((1 : Int32)).toNatClampNeg]? = some (.int (0 : Int32)) := Has.at HH15 hin15 rfl
  obtain ⟨cl16, Ar16, q16, S16, M16, HH16, GG16⟩ := id f13
  have hin16 : ¬ ((2 : Int32) < 0 ∨ cl16.slots.size ≤ ((2 : Int32)).toNatClampNeg) := inb_of S16 ⟨by decide, by decide⟩
  have hat16 : cl16.slots[((2 : Int32)).toNatClampNeg]? = some (.int ka) := Has.at HH16 hin16 rfl
  obtain ⟨cl17, Ar17, q17, S17, M17, HH17, GG17⟩ := id f13
  have hin17 : ¬ ((3 : Int32) < 0 ∨ cl17.slots.size ≤ ((3 : Int32)).toNatClampNeg) := inb_of S17 ⟨by decide, by decide⟩
  have hat17 : cl17.slots[((3 : Int32)).toNatClampNeg]? = some (.int kb) := Has.at HH17 hin17 rfl
  obtain ⟨cl18, Ar18, q18, S18, M18, HH18, GG18⟩ := id Vb11
  have hin18 : ¬ ((0 : Int32) < 0 ∨ cl18.slots.size ≤ ((0 : Int32)).toNatClampNeg) := inb_of S18 ⟨by decide, by decide⟩
  have hat18 : cl18.slots[((0 : Int32)).toNatClampNeg]? = some (.double (0 : UInt64)) := Has.at HH18 hin18 rfl
  obtain ⟨cl19, Ar19, q19, S19, M19, HH19, GG19⟩ := id Vb11
  have hin19 : ¬ ((1 : Int32) < 0 ∨ cl19.slots.size ≤ ((1 : Int32)).toNatClampNeg) := inb_of S19 ⟨by decide, by decide⟩
  have hat19 : cl19.slots[((1 : Int32)).toNatClampNeg]? = some (.double (FP.ddiv (4607182418800017408 : UInt64) (FP.i2d (1 : Int32)))) := Has.at HH19 hin19 rfl
  obtain ⟨cl20, Ar20, q20, S20, M20, HH20, GG20⟩ := id Vb11
  have hin20 : ¬ ((2 : Int32) < 0 ∨ cl20.slots.size ≤ ((2 : Int32)).toNatClampNeg) := inb_of S20 ⟨by decide, by decide⟩
  have hat20 : cl20.slots[((2 : Int32)).toNatClampNeg]? = some (.double (FP.ddiv (4607182418800017408 : UInt64) (FP.i2d ((1 : Int32) + ka)))) := Has.at HH20 hin20 rfl
  obtain ⟨_, _, ⟨T21, L21, kc21, ks21⟩, -, X21, ⟨Lc21, hQ21, l21, y21, z21⟩, st21⟩ := Jvm.LawKit.callS X11 hx (y := (⟨"com/example/pival/pival/ChainGraphTowardsPinLaw", "reciprocal", "(DI)Z"⟩ : MethodName)) hown (mvT hZ (wd8 hw)) (mvT hZ (wd9 hw)) (mvT hZ (wd10 hw)) (mvT hZ (wd11 hw)) (by decide) (backOf (W := 0) (rmRc l Z a0 hw [] (FP.ddiv (4607182418800017408 : UInt64) (FP.i2d ((1 : Int32) + ka))) ka T11.heap n0 Z11 (own_rn bd_ka).2) hZ (wd11 hw) (wd10 hw) (by decide) (by decide)) (g := (mkF m 130 #[.val (.int x0), .val (.int x1), .val (.int x2), .val (.int ng), .val (.int ka), .val (.int kb), .val (.ref b2), .val (.ref b11)] [(.int ka), (.double (FP.ddiv (4607182418800017408 : UInt64) (FP.i2d ((1 : Int32) + ka))))])) rfl (by rw [hml]; rfl) (argsL := [(.double (FP.ddiv (4607182418800017408 : UInt64) (FP.i2d ((1 : Int32) + ka)))), (.int ka)]) (rest := []) (lenOf pd__DI_Z rfl) rfl (by show 2 * 0 + _ ≤ _; exact Nat.le_of_eq rfl) (hb hby at_130) (fun _ _ => ⟨rfl, rfl, (by decide : 2 + 0 ≤ _), (by decide : 8 + 0 ≤ _)⟩)
  dsimp only [Pt.U, Pt.locs, Pt.cells, Pt.slots] at X21 l21 y21 z21 st21 hQ21
  subst l21 y21 z21
  obtain ⟨rfl, Nq21, eq21⟩ := hQ21
  have N21 := Fr.app N11 Nq21
  obtain ⟨cl22, Ar22, q22, S22, M22, HH22, GG22⟩ := id Vb11
  have hin22 : ¬ ((3 : Int32) < 0 ∨ cl22.slots.size ≤ ((3 : Int32)).toNatClampNeg) := inb_of S22 ⟨by decide, by decide⟩
  have hat22 : cl22.slots[((3 : Int32)).toNatClampNeg]? = some (.double (FP.ddiv (4607182418800017408 : UInt64) (FP.i2d ((1 : Int32) + kb)))) := Has.at HH22 hin22 rfl
  obtain ⟨_, _, ⟨T23, L23, kc23, ks23⟩, -, X23, ⟨Lc23, hQ23, l23, y23, z23⟩, st23⟩ := Jvm.LawKit.callS X21 hx (y := (⟨"com/example/pival/pival/ChainGraphTowardsPinLaw", "reciprocal", "(DI)Z"⟩ : MethodName)) hown (mvT hZ (wd8 hw)) (mvT hZ (wd9 hw)) (mvT hZ (wd10 hw)) (mvT hZ (wd11 hw)) (by decide) (backOf (W := 0) (rmRc l Z a0 hw [] (FP.ddiv (4607182418800017408 : UInt64) (FP.i2d ((1 : Int32) + kb))) kb T11.heap n0 Z11 (own_rn bd_kb).2) hZ (wd11 hw) (wd10 hw) (by decide) (by decide)) (g := (mkF m 142 #[.val (.int x0), .val (.int x1), .val (.int x2), .val (.int ng), .val (.int ka), .val (.int kb), .val (.ref b2), .val (.ref b11)] [(.int kb), (.double (FP.ddiv (4607182418800017408 : UInt64) (FP.i2d ((1 : Int32) + kb))))])) rfl (by rw [hml]; rfl) (argsL := [(.double (FP.ddiv (4607182418800017408 : UInt64) (FP.i2d ((1 : Int32) + kb)))), (.int kb)]) (rest := []) (lenOf pd__DI_Z rfl) rfl (by show 2 * 0 + _ ≤ _; exact Nat.le_of_eq rfl) (hb hby at_142) (fun _ _ => ⟨rfl, eq21, (by decide : 2 + 0 ≤ _), (by decide : 8 + 0 ≤ _)⟩)
  dsimp only [Pt.U, Pt.locs, Pt.cells, Pt.slots] at X23 l23 y23 z23 st23 hQ23
  subst l23 y23 z23
  obtain ⟨rfl, Nq23, eq23⟩ := hQ23
  have N23 := Fr.app N21 Nq23
  have k24 : ∀ t, Steps p.tables e below (T23.setTop (mkF m 154 #[.val (.int x0), .val (.int x1), .val (.int x2), .val (.int ng), .val (.int ka), .val (.int kb), .val (.ref b2), .val (.ref b11)] [(.int kb), (.int ka)])) t → Steps p.tables e below (s₁.setTop (entryFrame m #[(.int x0), (.int x1), (.int x2)] maxLocals)) t := by
    intro t kt
    refine k1 t ?_
    show Steps p.tables e below (s₁.setTop (mkF m 23 #[.val (.int x0), .val (.int x1), .val (.int x2), .val (.int ng), .val (.int ka), .val (.int kb), .unset, .unset] [])) _
    refine XS.iconst X0.here hx rfl (hb hby at_23) ?_
    show Steps p.tables e below (s₁.setTop (mkF m 24 #[.val (.int x0), .val (.int x1), .val (.int x2), .val (.int ng), .val (.int ka), .val (.int kb), .unset, .unset] [(.int (4 : Int32))])) _
    refine st2 _ ?_
    show Steps p.tables e below (T2.setTop (mkF m 26 #[.val (.int x0), .val (.int x1), .val (.int x2), .val (.int ng), .val (.int ka), .val (.int kb), .unset, .unset] [(.ref b2)])) _
    refine XS.dup X2.here hx rfl (hb hby at_26) rfl rfl ?_
    show Steps p.tables e below (T2.setTop (mkF m 27 #[.val (.int x0), .val (.int x1), .val (.int x2), .val (.int ng), .val (.int ka), .val (.int kb), .unset, .unset] [(.ref b2), (.ref b2)])) _
    refine XS.iconst X2.here hx rfl (hb hby at_27) ?_
    show Steps p.tables e below (T2.setTop (mkF m 28 #[.val (.int x0), .val (.int x1), .val (.int x2), .val (.int ng), .val (.int ka), .val (.int kb), .unset, .unset] [(.int (0 : Int32)), (.ref b2), (.ref b2)])) _
    refine XS.iloadN X2.here hx rfl (hb hby at_28) rfl ?_
    show Steps p.tables e below (T2.setTop (mkF m 29 #[.val (.int x0), .val (.int x1), .val (.int x2), .val (.int ng), .val (.int ka), .val (.int kb), .unset, .unset] [(.int ng), (.int (0 : Int32)), (.ref b2), (.ref b2)])) _
    refine st4 _ ?_
    show Steps p.tables e below (T4.setTop (mkF m 30 #[.val (.int x0), .val (.int x1), .val (.int x2), .val (.int ng), .val (.int ka), .val (.int kb), .unset, .unset] [(.ref b2)])) _
    refine XS.dup X4.here hx rfl (hb hby at_30) rfl rfl ?_
    show Steps p.tables e below (T4.setTop (mkF m 31 #[.val (.int x0), .val (.int x1), .val (.int x2), .val (.int ng), .val (.int ka), .val (.int kb), .unset, .unset] [(.ref b2), (.ref b2)])) _
    refine XS.iconst X4.here hx rfl (hb hby at_31) ?_
    show Steps p.tables e below (T4.setTop (mkF m 32 #[.val (.int x0), .val (.int x1), .val (.int x2), .val (.int ng), .val (.int ka), .val (.int kb), .unset, .unset] [(.int (1 : Int32)), (.ref b2), (.ref b2)])) _
    refine XS.iconst X4.here hx rfl (hb hby at_32) ?_
    show Steps p.tables e below (T4.setTop (mkF m 33 #[.val (.int x0), .val (.int x1), .val (.int x2), .val (.int ng), .val (.int ka), .val (.int kb), .unset, .unset] [(.int (0 : Int32)), (.int (1 : Int32)), (.ref b2), (.ref b2)])) _
    refine st6 _ ?_
    show Steps p.tables e below (T6.setTop (mkF m 34 #[.val (.int x0), .val (.int x1), .val (.int x2), .val (.int ng), .val (.int ka), .val (.int kb), .unset, .unset] [(.ref b2)])) _
    refine XS.dup X6.here hx rfl (hb hby at_34) rfl rfl ?_
    show Steps p.tables e below (T6.setTop (mkF m 35 #[.val (.int x0), .val (.int x1), .val (.int x2), .val (.int ng), .val (.int ka), .val (.int kb), .unset, .unset] [(.ref b2), (.ref b2)])) _
    refine XS.iconst X6.here hx rfl (hb hby at_35) ?_
    show Steps p.tables e below (T6.setTop (mkF m 36 #[.val (.int x0), .val (.int x1), .val (.int x2), .val (.int ng), .val (.int ka), .val (.int kb), .unset, .unset] [(.int (2 : Int32)), (.ref b2), (.ref b2)])) _
    refine XS.iload X6.here hx rfl (hb hby at_36) rfl ?_
    show Steps p.tables e below (T6.setTop (mkF m 38 #[.val (.int x0), .val (.int x1), .val (.int x2), .val (.int ng), .val (.int ka), .val (.int kb), .unset, .unset] [(.int ka), (.int (2 : Int32)), (.ref b2), (.ref b2)])) _
    refine st8 _ ?_
    show Steps p.tables e below (T8.setTop (mkF m 39 #[.val (.int x0), .val (.int x1), .val (.int x2), .val (.int ng), .val (.int ka), .val (.int kb), .unset, .unset] [(.ref b2)])) _
    refine XS.dup X8.here hx rfl (hb hby at_39) rfl rfl ?_
    show Steps p.tables e below (T8.setTop (mkF m 40 #[.val (.int x0), .val (.int x1), .val (.int x2), .val (.int ng), .val (.int ka), .val (.int kb), .unset, .unset] [(.ref b2), (.ref b2)])) _
    refine XS.iconst X8.here hx rfl (hb hby at_40) ?_
    show Steps p.tables e below (T8.setTop (mkF m 41 #[.val (.int x0), .val (.int x1), .val (.int x2), .val (.int ng), .val (.int ka), .val (.int kb), .unset, .unset] [(.int (3 : Int32)), (.ref b2), (.ref b2)])) _
    refine XS.iload X8.here hx rfl (hb hby at_41) rfl ?_
    show Steps p.tables e below (T8.setTop (mkF m 43 #[.val (.int x0), .val (.int x1), .val (.int x2), .val (.int ng), .val (.int ka), .val (.int kb), .unset, .unset] [(.int kb), (.int (3 : Int32)), (.ref b2), (.ref b2)])) _
    refine st10 _ ?_
    show Steps p.tables e below (T10.setTop (mkF m 44 #[.val (.int x0), .val (.int x1), .val (.int x2), .val (.int ng), .val (.int ka), .val (.int kb), .unset, .unset] [(.ref b2)])) _
    refine XS.astore X10.here hx rfl (hb hby at_44) rfl rfl (l' := #[.val (.int x0), .val (.int x1), .val (.int x2), .val (.int ng), .val (.int ka), .val (.int kb), .val (.ref b2), .unset]) rfl ?_
    show Steps p.tables e below (T10.setTop (mkF m 46 #[.val (.int x0), .val (.int x1), .val (.int x2), .val (.int ng), .val (.int ka), .val (.int kb), .val (.ref b2), .unset] [])) _
    refine XS.aload X10.here hx rfl (hb hby at_46) rfl rfl ?_
    show Steps p.tables e below (T10.setTop (mkF m 48 #[.val (.int x0), .val (.int x1), .val (.int x2), .val (.int ng), .val (.int ka), .val (.int kb), .val (.ref b2), .unset] [(.ref b2)])) _
    refine st11 _ ?_
    show Steps p.tables e below (T11.setTop (mkF m 51 #[.val (.int x0), .val (.int x1), .val (.int x2), .val (.int ng), .val (.int ka), .val (.int kb), .val (.ref b2), .unset] [(.ref b11)])) _
    refine XS.astore X11.here hx rfl (hb hby at_51) rfl rfl (l' := #[.val (.int x0), .val (.int x1), .val (.int x2), .val (.int ng), .val (.int ka), .val (.int kb), .val (.ref b2), .val (.ref b11)]) rfl ?_
    show Steps p.tables e below (T11.setTop (mkF m 53 #[.val (.int x0), .val (.int x1), .val (.int x2), .val (.int ng), .val (.int ka), .val (.int kb), .val (.ref b2), .val (.ref b11)] [])) _
    refine XS.aload X11.here hx rfl (hb hby at_53) rfl rfl ?_
    show Steps p.tables e below (T11.setTop (mkF m 55 #[.val (.int x0), .val (.int x1), .val (.int x2), .val (.int ng), .val (.int ka), .val (.int kb), .val (.ref b2), .val (.ref b11)] [(.ref b11)])) _
    refine XS.ifnullNo X11.here hx rfl (hb hby at_55) rfl ?_
    show Steps p.tables e below (T11.setTop (mkF m 58 #[.val (.int x0), .val (.int x1), .val (.int x2), .val (.int ng), .val (.int ka), .val (.int kb), .val (.ref b2), .val (.ref b11)] [])) _
    refine XS.aload X11.here hx rfl (hb hby at_58) rfl rfl ?_
    show Steps p.tables e below (T11.setTop (mkF m 60 #[.val (.int x0), .val (.int x1), .val (.int x2), .val (.int ng), .val (.int ka), .val (.int kb), .val (.ref b2), .val (.ref b11)] [(.ref b11)])) _
    refine X11.arraylength hx (by (try rw [rfl]); exact Ar12.1) (State.isArrayOf_alike hZ.alike Ar12.2.1) (g := (mkF m 60 #[.val (.int x0), .val (.int x1), .val (.int x2), .val (.int ng), .val (.int ka), .val (.int kb), .val (.ref b2), .val (.ref b11)] [(.ref b11)])) rfl rfl (hb hby at_60) _ ?_
    rw [len_of S12 M12]
    show Steps p.tables e below (T11.setTop (mkF m 61 #[.val (.int x0), .val (.int x1), .val (.int x2), .val (.int ng), .val (.int ka), .val (.int kb), .val (.ref b2), .val (.ref b11)] [(.int (4 : Int32))])) _
    refine XS.iconst X11.here hx rfl (hb hby at_61) ?_
    show Steps p.tables e below (T11.setTop (mkF m 62 #[.val (.int x0), .val (.int x1), .val (.int x2), .val (.int ng), .val (.int ka), .val (.int kb), .val (.ref b2), .val (.ref b11)] [(.int (4 : Int32)), (.int (4 : Int32))])) _
    refine XS.icmpYes X11.here hx rfl (pc0 := 62) (pc' := 67) rfl (hb hby at_62) rfl (teq (by decide : (4 : Int32) = (4 : Int32))).1 (by decide) (by decide) ?_
    show Steps p.tables e below (T11.setTop (mkF m 67 #[.val (.int x0), .val (.int x1), .val (.int x2), .val (.int ng), .val (.int ka), .val (.int kb), .val (.ref b2), .val (.ref b11)] [])) _
    refine XS.aload X11.here hx rfl (hb hby at_67) rfl rfl ?_
    show Steps p.tables e below (T11.setTop (mkF m 69 #[.val (.int x0), .val (.int x1), .val (.int x2), .val (.int ng), .val (.int ka), .val (.int kb), .val (.ref b2), .val (.ref b11)] [(.ref b2)])) _
    refine XS.iconst X11.here hx rfl (hb hby at_69) ?_
    show Steps p.tables e below (T11.setTop (mkF m 70 #[.val (.int x0), .val (.int x1), .val (.int x2), .val (.int ng), .val (.int ka), .val (.int kb), .val (.ref b2), .val (.ref b11)] [(.int (0 : Int32)), (.ref b2)])) _
    refine X11.iaload hx (j := (0 : Int32)) (v := (.int ng)) (by (try rw [rfl]); exact Ar14.1) (State.isArrayOf_alike hZ.alike Ar14.2.1) Ar14.2.2 hin14 hat14 (g := (mkF m 70 #[.val (.int x0), .val (.int x1), .val (.int x2), .val (.int ng), .val (.int ka), .val (.int kb), .val (.ref b2), .val (.ref b11)] [(.int (0 : Int32)), (.ref b2)])) rfl rfl (hb hby at_70) _ ?_
    show Steps p.tables e below (T11.setTop (mkF m 71 #[.val (.int x0), .val (.int x1), .val (.int x2), .val (.int ng), .val (.int ka), .val (.int kb), .val (.ref b2), .val (.ref b11)] [(.int ng)])) _
    refine XS.iloadN X11.here hx rfl (hb hby at_71) rfl ?_
    show Steps p.tables e below (T11.setTop (mkF m 72 #[.val (.int x0), .val (.int x1), .val (.int x2), .val (.int ng), .val (.int ka), .val (.int kb), .val (.ref b2), .val (.ref b11)] [(.int ng), (.int ng)])) _
    refine XS.icmpNo X11.here hx rfl (hb hby at_72) rfl (teq (rfl : ng = ng)).2 ?_
    show Steps p.tables e below (T11.setTop (mkF m 75 #[.val (.int x0), .val (.int x1), .val (.int x2), .val (.int ng), .val (.int ka), .val (.int kb), .val (.ref b2), .val (.ref b11)] [])) _
    refine XS.aload X11.here hx rfl (hb hby at_75) rfl rfl ?_
    show Steps p.tables e below (T11.setTop (mkF m 77 #[.val (.int x0), .val (.int x1), .val (.int x2), .val (.int ng), .val (.int ka), .val (.int kb), .val (.ref b2), .val (.ref b11)] [(.ref b2)])) _
    refine XS.iconst X11.here hx rfl (hb hby at_77) ?_
    show Steps p.tables e below (T11.setTop (mkF m 78 #[.val (.int x0), .val (.int x1), .val (.int x2), .val (.int ng), .val (.int ka), .val (.int kb), .val (.ref b2), .val (.ref b11)] [(.int (1 : Int32)), (.ref b2)])) _
    refine X11.iaload hx (j := (1 : Int32)) (v := (.int (0 : Int32))) (by (try rw [rfl]); exact Ar15.1) (State.isArrayOf_alike hZ.alike Ar15.2.1) Ar15.2.2 hin15 hat15 (g := (mkF m 78 #[.val (.int x0), .val (.int x1), .val (.int x2), .val (.int ng), .val (.int ka), .val (.int kb), .val (.ref b2), .val (.ref b11)] [(.int (1 : Int32)), (.ref b2)])) rfl rfl (hb hby at_78) _ ?_
    show Steps p.tables e below (T11.setTop (mkF m 79 #[.val (.int x0), .val (.int x1), .val (.int x2), .val (.int ng), .val (.int ka), .val (.int kb), .val (.ref b2), .val (.ref b11)] [(.int (0 : Int32))])) _
    refine XS.ifNo X11.here hx rfl (hb hby at_79) rfl ((if0 _ _).trans (teq (by decide : (0 : Int32) = (0 : Int32))).2) ?_
    show Steps p.tables e below (T11.setTop (mkF m 82 #[.val (.int x0), .val (.int x1), .val (.int x2), .val (.int ng), .val (.int ka), .val (.int kb), .val (.ref b2), .val (.ref b11)] [])) _
    refine XS.aload X11.here hx rfl (hb hby at_82) rfl rfl ?_
    show Steps p.tables e below (T11.setTop (mkF m 84 #[.val (.int x0), .val (.int x1), .val (.int x2), .val (.int ng), .val (.int ka), .val (.int kb), .val (.ref b2), .val (.ref b11)] [(.ref b2)])) _
    refine XS.iconst X11.here hx rfl (hb hby at_84) ?_
    show Steps p.tables e below (T11.setTop (mkF m 85 #[.val (.int x0), .val (.int x1), .val (.int x2), .val (.int ng), .val (.int ka), .val (.int kb), .val (.ref b2), .val (.ref b11)] [(.int (2 : Int32)), (.ref b2)])) _
    refine X11.iaload hx (j := (2 : Int32)) (v := (.int ka)) (by (try rw [rfl]); exact Ar16.1) (State.isArrayOf_alike hZ.alike Ar16.2.1) Ar16.2.2 hin16 hat16 (g := (mkF m 85 #[.val (.int x0), .val (.int x1), .val (.int x2), .val (.int ng), .val (.int ka), .val (.int kb), .val (.ref b2), .val (.ref b11)] [(.int (2 : Int32)), (.ref b2)])) rfl rfl (hb hby at_85) _ ?_
    show Steps p.tables e below (T11.setTop (mkF m 86 #[.val (.int x0), .val (.int x1), .val (.int x2), .val (.int ng), .val (.int ka), .val (.int kb), .val (.ref b2), .val (.ref b11)] [(.int ka)])) _
    refine XS.iload X11.here hx rfl (hb hby at_86) rfl ?_
    show Steps p.tables e below (T11.setTop (mkF m 88 #[.val (.int x0), .val (.int x1), .val (.int x2), .val (.int ng), .val (.int ka), .val (.int kb), .val (.ref b2), .val (.ref b11)] [(.int ka), (.int ka)])) _
    refine XS.icmpNo X11.here hx rfl (hb hby at_88) rfl (teq (rfl : ka = ka)).2 ?_
    show Steps p.tables e below (T11.setTop (mkF m 91 #[.val (.int x0), .val (.int x1), .val (.int x2), .val (.int ng), .val (.int ka), .val (.int kb), .val (.ref b2), .val (.ref b11)] [])) _
    refine XS.aload X11.here hx rfl (hb hby at_91) rfl rfl ?_
    show Steps p.tables e below (T11.setTop (mkF m 93 #[.val (.int x0), .val (.int x1), .val (.int x2), .val (.int ng), .val (.int ka), .val (.int kb), .val (.ref b2), .val (.ref b11)] [(.ref b2)])) _
    refine XS.iconst X11.here hx rfl (hb hby at_93) ?_
    show Steps p.tables e below (T11.setTop (mkF m 94 #[.val (.int x0), .val (.int x1), .val (.int x2), .val (.int ng), .val (.int ka), .val (.int kb), .val (.ref b2), .val (.ref b11)] [(.int (3 : Int32)), (.ref b2)])) _
    refine X11.iaload hx (j := (3 : Int32)) (v := (.int kb)) (by (try rw [rfl]); exact Ar17.1) (State.isArrayOf_alike hZ.alike Ar17.2.1) Ar17.2.2 hin17 hat17 (g := (mkF m 94 #[.val (.int x0), .val (.int x1), .val (.int x2), .val (.int ng), .val (.int ka), .val (.int kb), .val (.ref b2), .val (.ref b11)] [(.int (3 : Int32)), (.ref b2)])) rfl rfl (hb hby at_94) _ ?_
    show Steps p.tables e below (T11.setTop (mkF m 95 #[.val (.int x0), .val (.int x1), .val (.int x2), .val (.int ng), .val (.int ka), .val (.int kb), .val (.ref b2), .val (.ref b11)] [(.int kb)])) _
    refine XS.iload X11.here hx rfl (hb hby at_95) rfl ?_
    show Steps p.tables e below (T11.setTop (mkF m 97 #[.val (.int x0), .val (.int x1), .val (.int x2), .val (.int ng), .val (.int ka), .val (.int kb), .val (.ref b2), .val (.ref b11)] [(.int kb), (.int kb)])) _
    refine XS.icmpYes X11.here hx rfl (pc0 := 97) (pc' := 102) rfl (hb hby at_97) rfl (teq (rfl : kb = kb)).1 (by decide) (by decide) ?_
    show Steps p.tables e below (T11.setTop (mkF m 102 #[.val (.int x0), .val (.int x1), .val (.int x2), .val (.int ng), .val (.int ka), .val (.int kb), .val (.ref b2), .val (.ref b11)] [])) _
    refine XS.aload X11.here hx rfl (hb hby at_102) rfl rfl ?_
    show Steps p.tables e below (T11.setTop (mkF m 104 #[.val (.int x0), .val (.int x1), .val (.int x2), .val (.int ng), .val (.int ka), .val (.int kb), .val (.ref b2), .val (.ref b11)] [(.ref b11)])) _
    refine XS.iconst X11.here hx rfl (hb hby at_104) ?_
    show Steps p.tables e below (T11.setTop (mkF m 105 #[.val (.int x0), .val (.int x1), .val (.int x2), .val (.int ng), .val (.int ka), .val (.int kb), .val (.ref b2), .val (.ref b11)] [(.int (0 : Int32)), (.ref b11)])) _
    refine X11.daload hx (j := (0 : Int32)) (v := (.double (0 : UInt64))) (by (try rw [rfl]); exact Ar18.1) (State.isArrayOf_alike hZ.alike Ar18.2.1) Ar18.2.2 hin18 hat18 (g := (mkF m 105 #[.val (.int x0), .val (.int x1), .val (.int x2), .val (.int ng), .val (.int ka), .val (.int kb), .val (.ref b2), .val (.ref b11)] [(.int (0 : Int32)), (.ref b11)])) rfl rfl (hb hby at_105) _ ?_
    show Steps p.tables e below (T11.setTop (mkF m 106 #[.val (.int x0), .val (.int x1), .val (.int x2), .val (.int ng), .val (.int ka), .val (.int kb), .val (.ref b2), .val (.ref b11)] [(.double (0 : UInt64))])) _
    refine XS.dconst0 X11.here hx rfl (hb hby at_106) (rfl : FP.dconst0 = (0 : UInt64)) ?_
    show Steps p.tables e below (T11.setTop (mkF m 107 #[.val (.int x0), .val (.int x1), .val (.int x2), .val (.int ng), .val (.int ka), .val (.int kb), .val (.ref b2), .val (.ref b11)] [(.double (0 : UInt64)), (.double (0 : UInt64))])) _
    refine XS.dcmpS X11.here hx rfl (hb hby at_107) rfl (by decide +kernel : cmpValue (FP.dcmp (0 : UInt64) (0 : UInt64)) .l = (0 : Int32)) ?_
    show Steps p.tables e below (T11.setTop (mkF m 108 #[.val (.int x0), .val (.int x1), .val (.int x2), .val (.int ng), .val (.int ka), .val (.int kb), .val (.ref b2), .val (.ref b11)] [(.int (0 : Int32))])) _
    refine XS.ifYes X11.here hx rfl (pc0 := 108) (pc' := 113) rfl (hb hby at_108) rfl ((if0 _ _).trans (teq (by decide : (0 : Int32) = (0 : Int32))).1) (by decide) (by decide) ?_
    show Steps p.tables e below (T11.setTop (mkF m 113 #[.val (.int x0), .val (.int x1), .val (.int x2), .val (.int ng), .val (.int ka), .val (.int kb), .val (.ref b2), .val (.ref b11)] [])) _
    refine XS.aload X11.here hx rfl (hb hby at_113) rfl rfl ?_
    show Steps p.tables e below (T11.setTop (mkF m 115 #[.val (.int x0), .val (.int x1), .val (.int x2), .val (.int ng), .val (.int ka), .val (.int kb), .val (.ref b2), .val (.ref b11)] [(.ref b11)])) _
    refine XS.iconst X11.here hx rfl (hb hby at_115) ?_
    show Steps p.tables e below (T11.setTop (mkF m 116 #[.val (.int x0), .val (.int x1), .val (.int x2), .val (.int ng), .val (.int ka), .val (.int kb), .val (.ref b2), .val (.ref b11)] [(.int (1 : Int32)), (.ref b11)])) _
    refine X11.daload hx (j := (1 : Int32)) (v := (.double (FP.ddiv (4607182418800017408 : UInt64) (FP.i2d (1 : Int32))))) (by (try rw [rfl]); exact Ar19.1) (State.isArrayOf_alike hZ.alike Ar19.2.1) Ar19.2.2 hin19 hat19 (g := (mkF m 116 #[.val (.int x0), .val (.int x1), .val (.int x2), .val (.int ng), .val (.int ka), .val (.int kb), .val (.ref b2), .val (.ref b11)] [(.int (1 : Int32)), (.ref b11)])) rfl rfl (hb hby at_116) _ ?_
    show Steps p.tables e below (T11.setTop (mkF m 117 #[.val (.int x0), .val (.int x1), .val (.int x2), .val (.int ng), .val (.int ka), .val (.int kb), .val (.ref b2), .val (.ref b11)] [(.double (FP.ddiv (4607182418800017408 : UInt64) (FP.i2d (1 : Int32))))])) _
    refine XS.dconst1 X11.here hx rfl (hb hby at_117) (rfl : FP.dconst1 = (4607182418800017408 : UInt64)) ?_
    show Steps p.tables e below (T11.setTop (mkF m 118 #[.val (.int x0), .val (.int x1), .val (.int x2), .val (.int ng), .val (.int ka), .val (.int kb), .val (.ref b2), .val (.ref b11)] [(.double (4607182418800017408 : UInt64)), (.double (FP.ddiv (4607182418800017408 : UInt64) (FP.i2d (1 : Int32))))])) _
    refine XS.dcmpS X11.here hx rfl (hb hby at_118) rfl own_c1 ?_
    show Steps p.tables e below (T11.setTop (mkF m 119 #[.val (.int x0), .val (.int x1), .val (.int x2), .val (.int ng), .val (.int ka), .val (.int kb), .val (.ref b2), .val (.ref b11)] [(.int (0 : Int32))])) _
    refine XS.ifYes X11.here hx rfl (pc0 := 119) (pc' := 124) rfl (hb hby at_119) rfl ((if0 _ _).trans (teq (by decide : (0 : Int32) = (0 : Int32))).1) (by decide) (by decide) ?_
    show Steps p.tables e below (T11.setTop (mkF m 124 #[.val (.int x0), .val (.int x1), .val (.int x2), .val (.int ng), .val (.int ka), .val (.int kb), .val (.ref b2), .val (.ref b11)] [])) _
    refine XS.aload X11.here hx rfl (hb hby at_124) rfl rfl ?_
    show Steps p.tables e below (T11.setTop (mkF m 126 #[.val (.int x0), .val (.int x1), .val (.int x2), .val (.int ng), .val (.int ka), .val (.int kb), .val (.ref b2), .val (.ref b11)] [(.ref b11)])) _
    refine XS.iconst X11.here hx rfl (hb hby at_126) ?_
    show Steps p.tables e below (T11.setTop (mkF m 127 #[.val (.int x0), .val (.int x1), .val (.int x2), .val (.int ng), .val (.int ka), .val (.int kb), .val (.ref b2), .val (.ref b11)] [(.int (2 : Int32)), (.ref b11)])) _
    refine X11.daload hx (j := (2 : Int32)) (v := (.double (FP.ddiv (4607182418800017408 : UInt64) (FP.i2d ((1 : Int32) + ka))))) (by (try rw [rfl]); exact Ar20.1) (State.isArrayOf_alike hZ.alike Ar20.2.1) Ar20.2.2 hin20 hat20 (g := (mkF m 127 #[.val (.int x0), .val (.int x1), .val (.int x2), .val (.int ng), .val (.int ka), .val (.int kb), .val (.ref b2), .val (.ref b11)] [(.int (2 : Int32)), (.ref b11)])) rfl rfl (hb hby at_127) _ ?_
    show Steps p.tables e below (T11.setTop (mkF m 128 #[.val (.int x0), .val (.int x1), .val (.int x2), .val (.int ng), .val (.int ka), .val (.int kb), .val (.ref b2), .val (.ref b11)] [(.double (FP.ddiv (4607182418800017408 : UInt64) (FP.i2d ((1 : Int32) + ka))))])) _
    refine XS.iload X11.here hx rfl (hb hby at_128) rfl ?_
    show Steps p.tables e below (T11.setTop (mkF m 130 #[.val (.int x0), .val (.int x1), .val (.int x2), .val (.int ng), .val (.int ka), .val (.int kb), .val (.ref b2), .val (.ref b11)] [(.int ka), (.double (FP.ddiv (4607182418800017408 : UInt64) (FP.i2d ((1 : Int32) + ka))))])) _
    refine st21 _ ?_
    show Steps p.tables e below (T21.setTop (mkF m 133 #[.val (.int x0), .val (.int x1), .val (.int x2), .val (.int ng), .val (.int ka), .val (.int kb), .val (.ref b2), .val (.ref b11)] [(.int (1 : Int32))])) _
    refine XS.ifNo X21.here hx rfl (hb hby at_133) rfl ((if0 _ _).trans (feq (by decide : ¬ ((1 : Int32) = (0 : Int32)))).1) ?_
    show Steps p.tables e below (T21.setTop (mkF m 136 #[.val (.int x0), .val (.int x1), .val (.int x2), .val (.int ng), .val (.int ka), .val (.int kb), .val (.ref b2), .val (.ref b11)] [])) _
    refine XS.aload X21.here hx rfl (hb hby at_136) rfl rfl ?_
    show Steps p.tables e below (T21.setTop (mkF m 138 #[.val (.int x0), .val (.int x1), .val (.int x2), .val (.int ng), .val (.int ka), .val (.int kb), .val (.ref b2), .val (.ref b11)] [(.ref b11)])) _
    refine XS.iconst X21.here hx rfl (hb hby at_138) ?_
    show Steps p.tables e below (T21.setTop (mkF m 139 #[.val (.int x0), .val (.int x1), .val (.int x2), .val (.int ng), .val (.int ka), .val (.int kb), .val (.ref b2), .val (.ref b11)] [(.int (3 : Int32)), (.ref b11)])) _
    refine X21.daload hx (j := (3 : Int32)) (v := (.double (FP.ddiv (4607182418800017408 : UInt64) (FP.i2d ((1 : Int32) + kb))))) (by (try rw [eq21]); exact Ar22.1) (State.isArrayOf_alike hZ.alike Ar22.2.1) Ar22.2.2 hin22 hat22 (g := (mkF m 139 #[.val (.int x0), .val (.int x1), .val (.int x2), .val (.int ng), .val (.int ka), .val (.int kb), .val (.ref b2), .val (.ref b11)] [(.int (3 : Int32)), (.ref b11)])) rfl rfl (hb hby at_139) _ ?_
    show Steps p.tables e below (T21.setTop (mkF m 140 #[.val (.int x0), .val (.int x1), .val (.int x2), .val (.int ng), .val (.int ka), .val (.int kb), .val (.ref b2), .val (.ref b11)] [(.double (FP.ddiv (4607182418800017408 : UInt64) (FP.i2d ((1 : Int32) + kb))))])) _
    refine XS.iload X21.here hx rfl (hb hby at_140) rfl ?_
    show Steps p.tables e below (T21.setTop (mkF m 142 #[.val (.int x0), .val (.int x1), .val (.int x2), .val (.int ng), .val (.int ka), .val (.int kb), .val (.ref b2), .val (.ref b11)] [(.int kb), (.double (FP.ddiv (4607182418800017408 : UInt64) (FP.i2d ((1 : Int32) + kb))))])) _
    refine st23 _ ?_
    show Steps p.tables e below (T23.setTop (mkF m 145 #[.val (.int x0), .val (.int x1), .val (.int x2), .val (.int ng), .val (.int ka), .val (.int kb), .val (.ref b2), .val (.ref b11)] [(.int (1 : Int32))])) _
    refine XS.ifYes X23.here hx rfl (pc0 := 145) (pc' := 150) rfl (hb hby at_145) rfl ((if0 _ _).trans (feq (by decide : ¬ ((1 : Int32) = (0 : Int32)))).2) (by decide) (by decide) ?_
    show Steps p.tables e below (T23.setTop (mkF m 150 #[.val (.int x0), .val (.int x1), .val (.int x2), .val (.int ng), .val (.int ka), .val (.int kb), .val (.ref b2), .val (.ref b11)] [])) _
    refine XS.iload X23.here hx rfl (hb hby at_150) rfl ?_
    show Steps p.tables e below (T23.setTop (mkF m 152 #[.val (.int x0), .val (.int x1), .val (.int x2), .val (.int ng), .val (.int ka), .val (.int kb), .val (.ref b2), .val (.ref b11)] [(.int ka)])) _
    refine XS.iload X23.here hx rfl (hb hby at_152) rfl ?_
    exact kt
  by_cases hc25 : ka < kb
  · skip
    obtain ⟨cl26, Ar26, q26, S26, M26, HH26, GG26⟩ := id Vb11
    have hin26 : ¬ ((2 : Int32) < 0 ∨ cl26.slots.size ≤ ((2 : Int32)).toNatClampNeg) := inb_of S26 ⟨by decide, by decide⟩
    have hat26 : cl26.slots[((2 : Int32)).toNatClampNeg]? = some (.double (FP.ddiv (4607182418800017408 : UInt64) (FP.i2d ((1 : Int32) + ka)))) := Has.at HH26 hin26 rfl
    obtain ⟨cl27, Ar27, q27, S27, M27, HH27, GG27⟩ := id Vb11
    have hin27 : ¬ ((3 : Int32) < 0 ∨ cl27.slots.size ≤ ((3 : Int32)).toNatClampNeg) := inb_of S27 ⟨by decide, by decide⟩
    have hat27 : cl27.slots[((3 : Int32)).toNatClampNeg]? = some (.double (FP.ddiv (4607182418800017408 : UInt64) (FP.i2d ((1 : Int32) + kb)))) := Has.at HH27 hin27 rfl
    obtain ⟨lfs, lhr, lhrun, lhended, lhW, lhsame⟩ := X23.leave (v := some (.int (1 : Int32))) (fun h => by rw [Bd.returns] at h; cases h)
    refine ⟨_, _, k24 _ ?_, lhrun, lhended, _, _, rfl, ?_, ⟨_, rfl⟩, lhW, lhsame.mono (by decide) (by decide)⟩
    · skip
      show Steps p.tables e below (T23.setTop (mkF m 154 #[.val (.int x0), .val (.int x1), .val (.int x2), .val (.int ng), .val (.int ka), .val (.int kb), .val (.ref b2), .val (.ref b11)] [(.int kb), (.int ka)])) _
      refine XS.icmpNo X23.here hx rfl (hb hby at_154) rfl (tlt hc25).2.1 ?_
      show Steps p.tables e below (T23.setTop (mkF m 157 #[.val (.int x0), .val (.int x1), .val (.int x2), .val (.int ng), .val (.int ka), .val (.int kb), .val (.ref b2), .val (.ref b11)] [])) _
      refine XS.aload X23.here hx rfl (hb hby at_157) rfl rfl ?_
      show Steps p.tables e below (T23.setTop (mkF m 159 #[.val (.int x0), .val (.int x1), .val (.int x2), .val (.int ng), .val (.int ka), .val (.int kb), .val (.ref b2), .val (.ref b11)] [(.ref b11)])) _
      refine XS.iconst X23.here hx rfl (hb hby at_159) ?_
      show Steps p.tables e below (T23.setTop (mkF m 160 #[.val (.int x0), .val (.int x1), .val (.int x2), .val (.int ng), .val (.int ka), .val (.int kb), .val (.ref b2), .val (.ref b11)] [(.int (2 : Int32)), (.ref b11)])) _
      refine X23.daload hx (j := (2 : Int32)) (v := (.double (FP.ddiv (4607182418800017408 : UInt64) (FP.i2d ((1 : Int32) + ka))))) (by (try rw [eq23]); exact Ar26.1) (State.isArrayOf_alike hZ.alike Ar26.2.1) Ar26.2.2 hin26 hat26 (g := (mkF m 160 #[.val (.int x0), .val (.int x1), .val (.int x2), .val (.int ng), .val (.int ka), .val (.int kb), .val (.ref b2), .val (.ref b11)] [(.int (2 : Int32)), (.ref b11)])) rfl rfl (hb hby at_160) _ ?_
      show Steps p.tables e below (T23.setTop (mkF m 161 #[.val (.int x0), .val (.int x1), .val (.int x2), .val (.int ng), .val (.int ka), .val (.int kb), .val (.ref b2), .val (.ref b11)] [(.double (FP.ddiv (4607182418800017408 : UInt64) (FP.i2d ((1 : Int32) + ka))))])) _
      refine XS.aload X23.here hx rfl (hb hby at_161) rfl rfl ?_
      show Steps p.tables e below (T23.setTop (mkF m 163 #[.val (.int x0), .val (.int x1), .val (.int x2), .val (.int ng), .val (.int ka), .val (.int kb), .val (.ref b2), .val (.ref b11)] [(.ref b11), (.double (FP.ddiv (4607182418800017408 : UInt64) (FP.i2d ((1 : Int32) + ka))))])) _
      refine XS.iconst X23.here hx rfl (hb hby at_163) ?_
      show Steps p.tables e below (T23.setTop (mkF m 164 #[.val (.int x0), .val (.int x1), .val (.int x2), .val (.int ng), .val (.int ka), .val (.int kb), .val (.ref b2), .val (.ref b11)] [(.int (3 : Int32)), (.ref b11), (.double (FP.ddiv (4607182418800017408 : UInt64) (FP.i2d ((1 : Int32) + ka))))])) _
      refine X23.daload hx (j := (3 : Int32)) (v := (.double (FP.ddiv (4607182418800017408 : UInt64) (FP.i2d ((1 : Int32) + kb))))) (by (try rw [eq23]); exact Ar27.1) (State.isArrayOf_alike hZ.alike Ar27.2.1) Ar27.2.2 hin27 hat27 (g := (mkF m 164 #[.val (.int x0), .val (.int x1), .val (.int x2), .val (.int ng), .val (.int ka), .val (.int kb), .val (.ref b2), .val (.ref b11)] [(.int (3 : Int32)), (.ref b11), (.double (FP.ddiv (4607182418800017408 : UInt64) (FP.i2d ((1 : Int32) + ka))))])) rfl rfl (hb hby at_164) _ ?_
      show Steps p.tables e below (T23.setTop (mkF m 165 #[.val (.int x0), .val (.int x1), .val (.int x2), .val (.int ng), .val (.int ka), .val (.int kb), .val (.ref b2), .val (.ref b11)] [(.double (FP.ddiv (4607182418800017408 : UInt64) (FP.i2d ((1 : Int32) + kb)))), (.double (FP.ddiv (4607182418800017408 : UInt64) (FP.i2d ((1 : Int32) + ka))))])) _
      refine XS.dcmpS X23.here hx rfl (hb hby at_165) rfl (own_c_lt bd_ka bd_kb hc25).1 ?_
      show Steps p.tables e below (T23.setTop (mkF m 166 #[.val (.int x0), .val (.int x1), .val (.int x2), .val (.int ng), .val (.int ka), .val (.int kb), .val (.ref b2), .val (.ref b11)] [(.int (1 : Int32))])) _
      refine XS.ifNo X23.here hx rfl (hb hby at_166) rfl ((if0 _ _).trans (tlt (by decide : (0 : Int32) < (1 : Int32))).2.2.2) ?_
      show Steps p.tables e below (T23.setTop (mkF m 169 #[.val (.int x0), .val (.int x1), .val (.int x2), .val (.int ng), .val (.int ka), .val (.int kb), .val (.ref b2), .val (.ref b11)] [])) _
      refine XS.iconst X23.here hx rfl (hb hby at_169) ?_
      show Steps p.tables e below (T23.setTop (mkF m 170 #[.val (.int x0), .val (.int x1), .val (.int x2), .val (.int ng), .val (.int ka), .val (.int kb), .val (.ref b2), .val (.ref b11)] [(.int (1 : Int32))])) _
      refine XS.goto X23.here hx rfl (pc0 := 170) (pc' := 174) rfl (hb hby at_170) (by decide) (by decide) ?_
      show Steps p.tables e below (T23.setTop (mkF m 174 #[.val (.int x0), .val (.int x1), .val (.int x2), .val (.int ng), .val (.int ka), .val (.int kb), .val (.ref b2), .val (.ref b11)] [(.int (1 : Int32))])) _
      exact retN X23 hx (t := .boolean) Bd.returns (by simp) (hb hby at_174) lhr
    · skip
      show Q0 Z x0 x1 x2 h0 n0 _ T23.heap _
      rw [eq23]
      exact ⟨rfl, N23⟩
  · skip
    have k28 : ∀ t, Steps p.tables e below (T23.setTop (mkF m 179 #[.val (.int x0), .val (.int x1), .val (.int x2), .val (.int ng), .val (.int ka), .val (.int kb), .val (.ref b2), .val (.ref b11)] [(.int kb), (.int ka)])) t → Steps p.tables e below (s₁.setTop (entryFrame m #[(.int x0), (.int x1), (.int x2)] maxLocals)) t := by
      intro t kt
      refine k24 t ?_
      show Steps p.tables e below (T23.setTop (mkF m 154 #[.val (.int x0), .val (.int x1), .val (.int x2), .val (.int ng), .val (.int ka), .val (.int kb), .val (.ref b2), .val (.ref b11)] [(.int kb), (.int ka)])) _
      refine XS.icmpYes X23.here hx rfl (pc0 := 154) (pc' := 175) rfl (hb hby at_154) rfl (flt hc25).2.1 (by decide) (by decide) ?_
      show Steps p.tables e below (T23.setTop (mkF m 175 #[.val (.int x0), .val (.int x1), .val (.int x2), .val (.int ng), .val (.int ka), .val (.int kb), .val (.ref b2), .val (.ref b11)] [])) _
      refine XS.iload X23.here hx rfl (hb hby at_175) rfl ?_
      show Steps p.tables e below (T23.setTop (mkF m 177 #[.val (.int x0), .val (.int x1), .val (.int x2), .val (.int ng), .val (.int ka), .val (.int kb), .val (.ref b2), .val (.ref b11)] [(.int ka)])) _
      refine XS.iload X23.here hx rfl (hb hby at_177) rfl ?_
      exact kt
    by_cases hc29 : kb < ka
    · skip
      obtain ⟨cl30, Ar30, q30, S30, M30, HH30, GG30⟩ := id Vb11
      have hin30 : ¬ ((2 : Int32) < 0 ∨ cl30.slots.size ≤ ((2 : Int32)).toNatClampNeg) := inb_of S30 ⟨by decide, by decide⟩
      have hat30 : cl30.slots[((2 : Int32)).toNatClampNeg]? = some (.double (FP.ddiv (4607182418800017408 : UInt64) (FP.i2d ((1 : Int32) + ka)))) := Has.at HH30 hin30 rfl
      obtain ⟨cl31, Ar31, q31, S31, M31, HH31, GG31⟩ := id Vb11
      have hin31 : ¬ ((3 : Int32) < 0 ∨ cl31.slots.size ≤ ((3 : Int32)).toNatClampNeg) := inb_of S31 ⟨by decide, by decide⟩
      have hat31 : cl31.slots[((3 : Int32)).toNatClampNeg]? = some (.double (FP.ddiv (4607182418800017408 : UInt64) (FP.i2d ((1 : Int32) + kb)))) := Has.at HH31 hin31 rfl
      obtain ⟨lfs, lhr, lhrun, lhended, lhW, lhsame⟩ := X23.leave (v := some (.int (1 : Int32))) (fun h => by rw [Bd.returns] at h; cases h)
      refine ⟨_, _, k28 _ ?_, lhrun, lhended, _, _, rfl, ?_, ⟨_, rfl⟩, lhW, lhsame.mono (by decide) (by decide)⟩
      · skip
        show Steps p.tables e below (T23.setTop (mkF m 179 #[.val (.int x0), .val (.int x1), .val (.int x2), .val (.int ng), .val (.int ka), .val (.int kb), .val (.ref b2), .val (.ref b11)] [(.int kb), (.int ka)])) _
        refine XS.icmpNo X23.here hx rfl (hb hby at_179) rfl (tlt hc29).2.2.2 ?_
        show Steps p.tables e below (T23.setTop (mkF m 182 #[.val (.int x0), .val (.int x1), .val (.int x2), .val (.int ng), .val (.int ka), .val (.int kb), .val (.ref b2), .val (.ref b11)] [])) _
        refine XS.aload X23.here hx rfl (hb hby at_182) rfl rfl ?_
        show Steps p.tables e below (T23.setTop (mkF m 184 #[.val (.int x0), .val (.int x1), .val (.int x2), .val (.int ng), .val (.int ka), .val (.int kb), .val (.ref b2), .val (.ref b11)] [(.ref b11)])) _
        refine XS.iconst X23.here hx rfl (hb hby at_184) ?_
        show Steps p.tables e below (T23.setTop (mkF m 185 #[.val (.int x0), .val (.int x1), .val (.int x2), .val (.int ng), .val (.int ka), .val (.int kb), .val (.ref b2), .val (.ref b11)] [(.int (2 : Int32)), (.ref b11)])) _
        refine X23.daload hx (j := (2 : Int32)) (v := (.double (FP.ddiv (4607182418800017408 : UInt64) (FP.i2d ((1 : Int32) + ka))))) (by (try rw [eq23]); exact Ar30.1) (State.isArrayOf_alike hZ.alike Ar30.2.1) Ar30.2.2 hin30 hat30 (g := (mkF m 185 #[.val (.int x0), .val (.int x1), .val (.int x2), .val (.int ng), .val (.int ka), .val (.int kb), .val (.ref b2), .val (.ref b11)] [(.int (2 : Int32)), (.ref b11)])) rfl rfl (hb hby at_185) _ ?_
        show Steps p.tables e below (T23.setTop (mkF m 186 #[.val (.int x0), .val (.int x1), .val (.int x2), .val (.int ng), .val (.int ka), .val (.int kb), .val (.ref b2), .val (.ref b11)] [(.double (FP.ddiv (4607182418800017408 : UInt64) (FP.i2d ((1 : Int32) + ka))))])) _
        refine XS.aload X23.here hx rfl (hb hby at_186) rfl rfl ?_
        show Steps p.tables e below (T23.setTop (mkF m 188 #[.val (.int x0), .val (.int x1), .val (.int x2), .val (.int ng), .val (.int ka), .val (.int kb), .val (.ref b2), .val (.ref b11)] [(.ref b11), (.double (FP.ddiv (4607182418800017408 : UInt64) (FP.i2d ((1 : Int32) + ka))))])) _
        refine XS.iconst X23.here hx rfl (hb hby at_188) ?_
        show Steps p.tables e below (T23.setTop (mkF m 189 #[.val (.int x0), .val (.int x1), .val (.int x2), .val (.int ng), .val (.int ka), .val (.int kb), .val (.ref b2), .val (.ref b11)] [(.int (3 : Int32)), (.ref b11), (.double (FP.ddiv (4607182418800017408 : UInt64) (FP.i2d ((1 : Int32) + ka))))])) _
        refine X23.daload hx (j := (3 : Int32)) (v := (.double (FP.ddiv (4607182418800017408 : UInt64) (FP.i2d ((1 : Int32) + kb))))) (by (try rw [eq23]); exact Ar31.1) (State.isArrayOf_alike hZ.alike Ar31.2.1) Ar31.2.2 hin31 hat31 (g := (mkF m 189 #[.val (.int x0), .val (.int x1), .val (.int x2), .val (.int ng), .val (.int ka), .val (.int kb), .val (.ref b2), .val (.ref b11)] [(.int (3 : Int32)), (.ref b11), (.double (FP.ddiv (4607182418800017408 : UInt64) (FP.i2d ((1 : Int32) + ka))))])) rfl rfl (hb hby at_189) _ ?_
        show Steps p.tables e below (T23.setTop (mkF m 190 #[.val (.int x0), .val (.int x1), .val (.int x2), .val (.int ng), .val (.int ka), .val (.int kb), .val (.ref b2), .val (.ref b11)] [(.double (FP.ddiv (4607182418800017408 : UInt64) (FP.i2d ((1 : Int32) + kb)))), (.double (FP.ddiv (4607182418800017408 : UInt64) (FP.i2d ((1 : Int32) + ka))))])) _
        refine XS.dcmpS X23.here hx rfl (hb hby at_190) rfl (own_c_gt bd_ka bd_kb hc29).1 ?_
        show Steps p.tables e below (T23.setTop (mkF m 191 #[.val (.int x0), .val (.int x1), .val (.int x2), .val (.int ng), .val (.int ka), .val (.int kb), .val (.ref b2), .val (.ref b11)] [(.int (-1 : Int32))])) _
        refine XS.ifNo X23.here hx rfl (hb hby at_191) rfl ((if0 _ _).trans (tlt (by decide : (-1 : Int32) < (0 : Int32))).2.1) ?_
        show Steps p.tables e below (T23.setTop (mkF m 194 #[.val (.int x0), .val (.int x1), .val (.int x2), .val (.int ng), .val (.int ka), .val (.int kb), .val (.ref b2), .val (.ref b11)] [])) _
        refine XS.iconst X23.here hx rfl (hb hby at_194) ?_
        show Steps p.tables e below (T23.setTop (mkF m 195 #[.val (.int x0), .val (.int x1), .val (.int x2), .val (.int ng), .val (.int ka), .val (.int kb), .val (.ref b2), .val (.ref b11)] [(.int (1 : Int32))])) _
        refine XS.goto X23.here hx rfl (pc0 := 195) (pc' := 199) rfl (hb hby at_195) (by decide) (by decide) ?_
        show Steps p.tables e below (T23.setTop (mkF m 199 #[.val (.int x0), .val (.int x1), .val (.int x2), .val (.int ng), .val (.int ka), .val (.int kb), .val (.ref b2), .val (.ref b11)] [(.int (1 : Int32))])) _
        exact retN X23 hx (t := .boolean) Bd.returns (by simp) (hb hby at_199) lhr
      · skip
        show Q0 Z x0 x1 x2 h0 n0 _ T23.heap _
        rw [eq23]
        exact ⟨rfl, N23⟩
    · skip
      obtain ⟨cl32, Ar32, q32, S32, M32, HH32, GG32⟩ := id Vb11
      have hin32 : ¬ ((2 : Int32) < 0 ∨ cl32.slots.size ≤ ((2 : Int32)).toNatClampNeg) := inb_of S32 ⟨by decide, by decide⟩
      have hat32 : cl32.slots[((2 : Int32)).toNatClampNeg]? = some (.double (FP.ddiv (4607182418800017408 : UInt64) (FP.i2d ((1 : Int32) + ka)))) := Has.at HH32 hin32 rfl
      obtain ⟨cl33, Ar33, q33, S33, M33, HH33, GG33⟩ := id Vb11
      have hin33 : ¬ ((3 : Int32) < 0 ∨ cl33.slots.size ≤ ((3 : Int32)).toNatClampNeg) := inb_of S33 ⟨by decide, by decide⟩
      have hat33 : cl33.slots[((3 : Int32)).toNatClampNeg]? = some (.double (FP.ddiv (4607182418800017408 : UInt64) (FP.i2d ((1 : Int32) + kb)))) := Has.at HH33 hin33 rfl
      obtain ⟨lfs, lhr, lhrun, lhended, lhW, lhsame⟩ := X23.leave (v := some (.int (1 : Int32))) (fun h => by rw [Bd.returns] at h; cases h)
      refine ⟨_, _, k28 _ ?_, lhrun, lhended, _, _, rfl, ?_, ⟨_, rfl⟩, lhW, lhsame.mono (by decide) (by decide)⟩
      · skip
        show Steps p.tables e below (T23.setTop (mkF m 179 #[.val (.int x0), .val (.int x1), .val (.int x2), .val (.int ng), .val (.int ka), .val (.int kb), .val (.ref b2), .val (.ref b11)] [(.int kb), (.int ka)])) _
        refine XS.icmpYes X23.here hx rfl (pc0 := 179) (pc' := 200) rfl (hb hby at_179) rfl (flt hc29).2.2.2 (by decide) (by decide) ?_
        show Steps p.tables e below (T23.setTop (mkF m 200 #[.val (.int x0), .val (.int x1), .val (.int x2), .val (.int ng), .val (.int ka), .val (.int kb), .val (.ref b2), .val (.ref b11)] [])) _
        refine XS.aload X23.here hx rfl (hb hby at_200) rfl rfl ?_
        show Steps p.tables e below (T23.setTop (mkF m 202 #[.val (.int x0), .val (.int x1), .val (.int x2), .val (.int ng), .val (.int ka), .val (.int kb), .val (.ref b2), .val (.ref b11)] [(.ref b11)])) _
        refine XS.iconst X23.here hx rfl (hb hby at_202) ?_
        show Steps p.tables e below (T23.setTop (mkF m 203 #[.val (.int x0), .val (.int x1), .val (.int x2), .val (.int ng), .val (.int ka), .val (.int kb), .val (.ref b2), .val (.ref b11)] [(.int (2 : Int32)), (.ref b11)])) _
        refine X23.daload hx (j := (2 : Int32)) (v := (.double (FP.ddiv (4607182418800017408 : UInt64) (FP.i2d ((1 : Int32) + ka))))) (by (try rw [eq23]); exact Ar32.1) (State.isArrayOf_alike hZ.alike Ar32.2.1) Ar32.2.2 hin32 hat32 (g := (mkF m 203 #[.val (.int x0), .val (.int x1), .val (.int x2), .val (.int ng), .val (.int ka), .val (.int kb), .val (.ref b2), .val (.ref b11)] [(.int (2 : Int32)), (.ref b11)])) rfl rfl (hb hby at_203) _ ?_
        show Steps p.tables e below (T23.setTop (mkF m 204 #[.val (.int x0), .val (.int x1), .val (.int x2), .val (.int ng), .val (.int ka), .val (.int kb), .val (.ref b2), .val (.ref b11)] [(.double (FP.ddiv (4607182418800017408 : UInt64) (FP.i2d ((1 : Int32) + ka))))])) _
        refine XS.aload X23.here hx rfl (hb hby at_204) rfl rfl ?_
        show Steps p.tables e below (T23.setTop (mkF m 206 #[.val (.int x0), .val (.int x1), .val (.int x2), .val (.int ng), .val (.int ka), .val (.int kb), .val (.ref b2), .val (.ref b11)] [(.ref b11), (.double (FP.ddiv (4607182418800017408 : UInt64) (FP.i2d ((1 : Int32) + ka))))])) _
        refine XS.iconst X23.here hx rfl (hb hby at_206) ?_
        show Steps p.tables e below (T23.setTop (mkF m 207 #[.val (.int x0), .val (.int x1), .val (.int x2), .val (.int ng), .val (.int ka), .val (.int kb), .val (.ref b2), .val (.ref b11)] [(.int (3 : Int32)), (.ref b11), (.double (FP.ddiv (4607182418800017408 : UInt64) (FP.i2d ((1 : Int32) + ka))))])) _
        refine X23.daload hx (j := (3 : Int32)) (v := (.double (FP.ddiv (4607182418800017408 : UInt64) (FP.i2d ((1 : Int32) + kb))))) (by (try rw [eq23]); exact Ar33.1) (State.isArrayOf_alike hZ.alike Ar33.2.1) Ar33.2.2 hin33 hat33 (g := (mkF m 207 #[.val (.int x0), .val (.int x1), .val (.int x2), .val (.int ng), .val (.int ka), .val (.int kb), .val (.ref b2), .val (.ref b11)] [(.int (3 : Int32)), (.ref b11), (.double (FP.ddiv (4607182418800017408 : UInt64) (FP.i2d ((1 : Int32) + ka))))])) rfl rfl (hb hby at_207) _ ?_
        show Steps p.tables e below (T23.setTop (mkF m 208 #[.val (.int x0), .val (.int x1), .val (.int x2), .val (.int ng), .val (.int ka), .val (.int kb), .val (.ref b2), .val (.ref b11)] [(.double (FP.ddiv (4607182418800017408 : UInt64) (FP.i2d ((1 : Int32) + kb)))), (.double (FP.ddiv (4607182418800017408 : UInt64) (FP.i2d ((1 : Int32) + ka))))])) _
        refine XS.dcmpS X23.here hx rfl (hb hby at_208) rfl (own_c_eq bd_ka bd_kb hc25 hc29) ?_
        show Steps p.tables e below (T23.setTop (mkF m 209 #[.val (.int x0), .val (.int x1), .val (.int x2), .val (.int ng), .val (.int ka), .val (.int kb), .val (.ref b2), .val (.ref b11)] [(.int (0 : Int32))])) _
        refine XS.ifNo X23.here hx rfl (hb hby at_209) rfl ((if0 _ _).trans (teq (by decide : (0 : Int32) = (0 : Int32))).2) ?_
        show Steps p.tables e below (T23.setTop (mkF m 212 #[.val (.int x0), .val (.int x1), .val (.int x2), .val (.int ng), .val (.int ka), .val (.int kb), .val (.ref b2), .val (.ref b11)] [])) _
        refine XS.iconst X23.here hx rfl (hb hby at_212) ?_
        show Steps p.tables e below (T23.setTop (mkF m 213 #[.val (.int x0), .val (.int x1), .val (.int x2), .val (.int ng), .val (.int ka), .val (.int kb), .val (.ref b2), .val (.ref b11)] [(.int (1 : Int32))])) _
        refine XS.goto X23.here hx rfl (pc0 := 213) (pc' := 217) rfl (hb hby at_213) (by decide) (by decide) ?_
        show Steps p.tables e below (T23.setTop (mkF m 217 #[.val (.int x0), .val (.int x1), .val (.int x2), .val (.int ng), .val (.int ka), .val (.int kb), .val (.ref b2), .val (.ref b11)] [(.int (1 : Int32))])) _
        exact retN X23 hx (t := .boolean) Bd.returns (by simp) (hb hby at_217) lhr
      · skip
        show Q0 Z x0 x1 x2 h0 n0 _ T23.heap _
        rw [eq23]
        exact ⟨rfl, N23⟩
set_option maxRecDepth 65536 in
set_option maxHeartbeats 40000000 in
theorem comes_1 {Post : Tables → Env → Array Value → State → Outcome → State → Prop} (hpost : ∀ tb e args s v u, (limb_1_1.after args s (.returned v) u = true ∧ limb_1_2.after args s (.returned v) u = true ∧ True) → FrameEnd s (.returned v) u (Jvm.fieldLocs frame_1_writes args s ++ Jvm.arrayLocs frame_1_arrays args s ++ Jvm.staticLocs frame_1_statics s) 16 128 → Post tb e args s (.returned v) u) :
    ArmFor flags0 classFile x code maxLocals ret World_1 tables_1 room_1 Calls_1 rest_1 Pre_1 Post := by
  intro l hfl _ _ p e ha hc hk s m args below hf hA hF happ hP
  obtain ⟨hcalls, hrest, hpre⟩ := hP
  obtain ⟨-, -, -, hnamed, -, -, -, hat⟩ := (Spec.applies_iff hf).mp happ
  obtain ⟨hg, hn⟩ := and_e (Cond.before_iff.mp (show (Jvm.Cond.and given_1 narrow_1).before args s = true from hpre))
  obtain ⟨g1a, g1b⟩ := and_e hg
  obtain ⟨g2a, g2b⟩ := and_e g1b
  obtain ⟨g3a, g3b⟩ := and_e g2b
  obtain ⟨w0, w1, w2, rfl⟩ : ∃ w0 w1 w2 : Value, args = #[w0, w1, w2] := by
    have hs : args.size = 3 := by simpa [Cond.value, given_1] using g1a
    obtain ⟨L⟩ := args
    match L, hs with
    | [w0, w1, w2], _ => exact ⟨w0, w1, w2, rfl⟩
  have hw := fun d (hd : d ∈ tables_1) => atoms_spec (ws := Jvm.Cond.code x code maxLocals ret :: tables_1) hat d (List.mem_cons_of_mem _ hd)
  have hfit : Fit s := fun {y c} hc i hi => by
    obtain ⟨ha, rfl⟩ := Array.getElem?_eq_some_iff.mp hc
    have q := List.all_eq_true.mp ((Array.all_eq_true_iff_forall_mem.mp hF) _ (Array.getElem_mem ha)) i (List.mem_range.mpr hi)
    simpa [Array.getElem?_eq_getElem hi] using q
  obtain ⟨i0, ei0⟩ := is_v g2a
  obtain rfl : w0 = (.int i0) := Option.some.inj ei0
  obtain ⟨i1, ei1⟩ := is_v g3a
  obtain rfl : w1 = (.int i1) := Option.some.inj ei1
  obtain ⟨i2, ei2⟩ := is_v g3b
  obtain rfl : w2 = (.int i2) := Option.some.inj ei2
  obtain ⟨n, o, h1, h2, h3, _, L, rfl, ⟨rfl, N⟩, hq⟩ := rm0 l s _ hw tables_1 i0 i1 i2 s.heap s.heap.size (Nat.le_refl _) p e ha hc hk s m _ below hf ((Spec.applies_iff_loose hf).mp happ).1 ⟨rfl, State.Warmed39.refl s, rfl⟩ trivial
  refine ⟨n, _, h1, h2, h3, hpost _ _ _ _ _ _ ⟨Cond.after_iff.mpr rfl, Cond.after_iff.mpr (eq_i res_at (Term.int_eval (1)) rfl), trivial⟩ ⟨hq.1, hq.2.1, (hq.2.2.sift fun y hy => Or.inr (N y hy)).mono (by decide) (by decide)⟩⟩
theorem main_1_1 : Claimed_1_1 := comes_1 fun _ _ _ _ _ _ h hF => ⟨h.1, hF⟩
theorem main_1_2 : Claimed_1_2 := comes_1 fun _ _ _ _ _ _ h hF => ⟨h.2.1, hF⟩
end Jvm.Pilot.@@N@@
namespace Jvm.Pilot.@@N@@
open Jvm Jvm.ClassFile Sem Op Lib Jvm.Free Jvm.Stand Jvm.Pilot.@@N@@.Jvm.D
/-! MADE BY PROGRAM (witnessworld.py) out of the Statement's table words and the real class files: 11 classes; the members and pool entries that the words name. The judged class is class 1, her method 1. -/
namespace start1
open Jvm.ClassFile
def u (s : String) : CpInfo := .utf8 (stringToUtf16 s)
/-- a pool by its gaps: so many unusable entries, then the entry; so many at the end -/
def gap : Nat → List CpInfo → List CpInfo
  | 0, r => r
  | n + 1, r => .unusable :: gap n r
def poolList (es : List (Nat × CpInfo)) (last : Nat) : List CpInfo := es.foldr (fun e r => gap e.1 (e.2 :: r)) (gap last [])
def pool (es : List (Nat × CpInfo)) (last : Nat) : Array CpInfo := ⟨poolList es last⟩
def fileOf (pool : Array CpInfo) (this : Nat) (attrs : Array Attribute := #[]) (ms : Array MethodInfo := #[]) (fl : Nat := 33) (sup : Nat := 0) (ifs : Array Nat := #[]) (fds : Array FieldInfo := #[]) : ClassFile where
  minorVersion := 0
  majorVersion := 65
  constantPool := pool
  accessFlags := fl
  thisClass := this
  superClass := sup
  interfaces := ifs
  fields := fds
  methods := ms
  attributes := attrs
def plain (name : String) (sup : Option ClassId) : Class where
  name := name
  kind := .ordinary
  loader := none
  accessFlags := 33
  super := sup
  interfaces := #[]
  cf := none
  fields := #[]
  methods := #[]
  instanceTypes := #[]
  staticTypes := #[]
  resolved := #[]
  callSites := []
  init := .initialized
  statics := none
  mirror := none

def pool0 : Array CpInfo := pool [(5, u "<init>"), (0, u "()V"), (1, .class_ 10), (1, u "java/lang/Object")] 113

def k0m0 : Method := { name := "<init>", desc := "()V", sig := { parameters := [], returnType := none }, accessFlags := 1, code := none }
/-- java/lang/Object -/
def k0 : Class := { plain "java/lang/Object" none with
  accessFlags := 33
  interfaces := #[]
  cf := some (fileOf pool0 8 #[] #[{ accessFlags := 1, nameIndex := 5, descriptorIndex := 6, attributes := #[] }] 33 0 #[] #[])
  fields := #[]
  methods := #[k0m0]
  instanceTypes := #[]
  staticTypes := #[]
  resolved := Array.replicate 124 none
  statics := none }

def pool1 : Array CpInfo := pool [(2, .class_ 4), (1, u "java/lang/Object"), (0, u "<init>"), (0, u "()V"), (0, .integer 2147483648), (0, .integer 2147483647), (0, .methodref 10 11), (0, .class_ 12), (0, .nameAndType 13 14), (0, u "com/example/pival/pival/ChainGraph"), (0, u "towards"), (0, u "([I)[D"), (0, .methodref 16 17), (0, .class_ 18), (0, .nameAndType 19 20), (0, u "com/example/pival/pival/ChainGraphTowardsPinLaw"), (0, u "reciprocal"), (0, u "(DI)Z"), (0, .double 4607182418800017406), (1, .double 4607182418800017409), (3, u "law"), (0, u "(III)Z")] 7

def k1m0 : Method := { name := "<init>", desc := "()V", sig := { parameters := [], returnType := none }, accessFlags := 1, code := none }
def k1c1 : Code := { maxStack := 4, maxLocals := 8, code := code, exceptionTable := #[], attributes := #[] }
def k1m1 : Method := { name := "law", desc := "(III)Z", sig := { parameters := [.int, .int, .int], returnType := some .boolean }, accessFlags := 9, code := some k1c1 }
def k1c2 : Code := { maxStack := 4, maxLocals := 8, code := method_3_code, exceptionTable := #[], attributes := #[] }
def k1m2 : Method := { name := "reciprocal", desc := "(DI)Z", sig := { parameters := [.double, .int], returnType := some .boolean }, accessFlags := 10, code := some k1c2 }
/-- com/example/pival/pival/ChainGraphTowardsPinLaw -/
def k1 : Class := { plain "com/example/pival/pival/ChainGraphTowardsPinLaw" (some 0) with
  accessFlags := 49
  interfaces := #[]
  cf := some (fileOf pool1 16 #[] #[{ accessFlags := 1, nameIndex := 5, descriptorIndex := 6, attributes := #[] }, { accessFlags := 9, nameIndex := 27, descriptorIndex := 28, attributes := #[] }, { accessFlags := 10, nameIndex := 19, descriptorIndex := 20, attributes := #[] }] 49 2 #[] #[])
  fields := #[]
  methods := #[k1m0, k1m1, k1m2]
  instanceTypes := #[]
  staticTypes := #[]
  resolved := Array.replicate 36 none
  statics := none }

def pool2 : Array CpInfo := pool [(2, .class_ 4), (1, u "java/lang/Object"), (3, .class_ 10), (1, u "com/example/pival/pival/ChainGraph"), (0, u "chain"), (0, u "Lcom/example/pival/pival/IntervalChain;"), (17, u "successorStart"), (0, u "[I"), (20, u "successors"), (2, u "predecessorStart"), (2, u "predecessors"), (75, .class_ 136), (1, u "com/example/pival/pival/ChainGraph$Admission"), (33, u "towards"), (0, u "([I)[D")] 35

def k2c0 : Code := { maxStack := 7, maxLocals := 3, code := prog_3_method_9_code, exceptionTable := #[], attributes := #[] }
def k2m0 : Method := { name := "towards", desc := "([I)[D", sig := { parameters := [(.array .int)], returnType := some (.array .double) }, accessFlags := 8, code := some k2c0 }
/-- com/example/pival/pival/ChainGraph -/
def k2 : Class := { plain "com/example/pival/pival/ChainGraph" (some 0) with
  accessFlags := 32
  interfaces := #[]
  cf := some (fileOf pool2 8 #[.nestMembers #[134]] #[{ accessFlags := 8, nameIndex := 170, descriptorIndex := 171, attributes := #[] }] 32 2 #[] #[{ accessFlags := 18, nameIndex := 11, descriptorIndex := 12, attributes := #[] }, { accessFlags := 18, nameIndex := 30, descriptorIndex := 31, attributes := #[] }, { accessFlags := 18, nameIndex := 52, descriptorIndex := 31, attributes := #[] }, { accessFlags := 18, nameIndex := 55, descriptorIndex := 31, attributes := #[] }, { accessFlags := 18, nameIndex := 58, descriptorIndex := 31, attributes := #[] }])
  fields := #[{ name := "chain", type := (.object "com/example/pival/pival/IntervalChain"), accessFlags := 18, slot := 0, constantValue := 0 }, { name := "successorStart", type := (.array .int), accessFlags := 18, slot := 1, constantValue := 0 }, { name := "successors", type := (.array .int), accessFlags := 18, slot := 2, constantValue := 0 }, { name := "predecessorStart", type := (.array .int), accessFlags := 18, slot := 3, constantValue := 0 }, { name := "predecessors", type := (.array .int), accessFlags := 18, slot := 4, constantValue := 0 }]
  methods := #[k2m0]
  instanceTypes := #[(.object "com/example/pival/pival/IntervalChain"), (.array .int), (.array .int), (.array .int), (.array .int)]
  staticTypes := #[]
  resolved := Array.replicate 207 none
  statics := none }

def pool3 : Array CpInfo := pool [(1, u "java/lang/Cloneable"), (0, .class_ 1), (0, u "java/lang/Object"), (0, .class_ 3)] 3

/-- java/lang/Cloneable -/
def k3 : Class := { plain "java/lang/Cloneable" (some 0) with
  accessFlags := 1537
  interfaces := #[]
  cf := some (fileOf pool3 2 #[] #[] 1537 4 #[] #[])
  fields := #[]
  methods := #[]
  instanceTypes := #[]
  staticTypes := #[]
  resolved := Array.replicate 8 none
  statics := none }

def pool4 : Array CpInfo := pool [(1, u "java/io/Serializable"), (0, .class_ 1), (0, u "java/lang/Object"), (0, .class_ 3)] 3

/-- java/io/Serializable -/
def k4 : Class := { plain "java/io/Serializable" (some 0) with
  accessFlags := 1537
  interfaces := #[]
  cf := some (fileOf pool4 2 #[] #[] 1537 4 #[] #[])
  fields := #[]
  methods := #[]
  instanceTypes := #[]
  staticTypes := #[]
  resolved := Array.replicate 8 none
  statics := none }

/-- the primitive byte -/
def k5 : Class := { plain "byte" none with kind := .primitive 'B', accessFlags := 0x411 }
/-- [B -/
def k6 : Class := { plain "[B" (some 0) with kind := .array 5 .byte, interfaces := #[3, 4], accessFlags := 1041 }

/-- the primitive double -/
def k7 : Class := { plain "double" none with kind := .primitive 'D', accessFlags := 0x411 }
/-- [D -/
def k8 : Class := { plain "[D" (some 0) with kind := .array 7 .double, interfaces := #[3, 4], accessFlags := 1041 }

/-- the primitive int -/
def k9 : Class := { plain "int" none with kind := .primitive 'I', accessFlags := 0x411 }
/-- [I -/
def k10 : Class := { plain "[I" (some 0) with kind := .array 9 .int, interfaces := #[3, 4], accessFlags := 1041 }

def heap : Heap := #[]
def classes : Array Class := #[k0, k1, k2, k3, k4, k5, k6, k7, k8, k9, k10]
def interned : List (Array UInt16 × Addr) := []
def slotsUsed : Nat := 0
def theMethod : MethodId := ⟨1, 1⟩
def args0 : Array Value := #[.int 5, .int 7, .int 9]
def aboutOver (below : List Frame) : State where
  vm := { classes := classes, interned := interned.toArray }
  heap := heap
  slotsUsed := slotsUsed
  threads := #[{ frames := .invoking theMethod args0 :: below }]
def below0 : List Frame := [.native { method := ⟨0, 0⟩, args := #[] }]
def about1 : State := aboutOver below0
def p0 : Program := .bare "" "" ""
def e0 : Env := launch0.env 0 0 0
theorem w_frames : about1.frames = Frame.invoking theMethod args0 :: below0 := rfl
set_option maxRecDepth 65536 in
theorem w_args : argsFit about1.vm theMethod args0 = true := by decide +kernel
set_option maxRecDepth 65536 in
theorem w_heap : heapFits about1 = true := by decide +kernel
set_option maxRecDepth 65536 in
theorem w_runnable : about1.curStatus? = some .runnable := by decide +kernel
set_option maxRecDepth 65536 in
theorem w_alone : about1.alone = true := by decide +kernel
set_option maxRecDepth 65536 in
theorem w_named : about1.methodNamed? x = some theMethod := by decide +kernel
set_option maxRecDepth 65536 in
theorem w_hears : about1.hears theMethod below0 = true := by decide +kernel
set_option maxRecDepth 65536 in
theorem w_ripe : about1.ripe theMethod args0 below0 = true := by decide +kernel
theorem w_running : about1.status = .running := rfl
set_option maxRecDepth 65536 in
theorem w_room : about1.hasRoom e0.platform room_1 = true :=
  launch0.hasRoom_least _ room_1 (by decide +kernel) (by decide +kernel) (by decide +kernel) (by decide +kernel) (by decide +kernel) (by decide +kernel)
theorem allAtoms_all (ts : List Jvm.Cond) (a : Array Jvm.Value) (st : Jvm.State) : (allAtoms ts).before a st = ts.all (fun c => c.before a st) := by
  induction ts with
  | nil => rfl
  | cons c t ih =>
    show (Jvm.Cond.and c (allAtoms t)).before a st = _
    rw [Jvm.Cond.before_and, ih, List.all_cons]
def words1 : List Jvm.Cond := Jvm.Cond.code x code maxLocals ret :: tables_1
/-- a 'code' word, met by the world's own term for the bytes: nothing is compared byte by byte -/
theorem code_word {y : MethodName} {bytes : ByteArray} {mx : Nat} {rt : Option FieldType} {a : Array Value} {s : State} {m : MethodId} {meth : Method} {c : Code} (h1 : s.methodNamed? y = some m) (h2 : s.vm.method? m = some meth) (h3 : meth.code = some c) (h4 : c.code = bytes)
    (h5 : (c.maxLocals == mx && c.exceptionTable.isEmpty && decide (c.maxStack ≤ mostOperands) && decide (meth.sig.returnType = rt) && !meth.locks && decide (parseMethodDescriptor y.desc = some meth.sig)) = true) : (Jvm.Cond.code y bytes mx rt).before a s = true := by
  simp only [Bool.and_eq_true, beq_iff_eq, Bool.not_eq_true', decide_eq_true_eq] at h5
  obtain ⟨⟨⟨⟨⟨g1, g2⟩, g3⟩, g4⟩, g5⟩, g6⟩ := h5
  simp [Cond.before, Cond.holds, Cond.value, h1, h2, h3, h4, g1, g2, g3, g4, g5, g6]
def isCode : Jvm.Cond → Bool
  | .code _ _ _ _ => true
  | _ => false
theorem all_split {L : List Jvm.Cond} {P : Jvm.Cond → Bool} (h1 : L.all (fun c => isCode c || P c) = true) (h2 : ∀ c ∈ L.filter isCode, P c = true) : L.all P = true := by
  refine List.all_eq_true.mpr fun c hc => ?_
  have h := List.all_eq_true.mp h1 c hc
  rcases Bool.eq_false_or_eq_true (isCode c) with hi | hi
  · exact h2 c (List.mem_filter.mpr ⟨hc, hi⟩)
  · simpa [hi] using h
set_option maxRecDepth 65536 in
theorem w_c0 : (Jvm.Cond.code x code maxLocals ret).before args0 about1 = true := code_word (m := ⟨1, 1⟩) (meth := k1m1) (c := k1c1) (by decide +kernel) rfl rfl rfl (by decide +kernel)
set_option maxRecDepth 65536 in
theorem w_c1 : (Jvm.Cond.code ({ cls := "com/example/pival/pival/ChainGraph", name := "towards", desc := "([I)[D" } : Jvm.MethodName) prog_3_method_9_code (3 : Nat) (Option.some (Jvm.ClassFile.FieldType.array Jvm.ClassFile.FieldType.double))).before args0 about1 = true := code_word (m := ⟨2, 0⟩) (meth := k2m0) (c := k2c0) (by decide +kernel) rfl rfl rfl (by decide +kernel)
set_option maxRecDepth 65536 in
theorem w_c2 : (Jvm.Cond.code ({ cls := "com/example/pival/pival/ChainGraphTowardsPinLaw", name := "reciprocal", desc := "(DI)Z" } : Jvm.MethodName) method_3_code (8 : Nat) (Option.some Jvm.ClassFile.FieldType.boolean)).before args0 about1 = true := code_word (m := ⟨1, 2⟩) (meth := k1m2) (c := k1c2) (by decide +kernel) rfl rfl rfl (by decide +kernel)
def codes1 : List Jvm.Cond := [Jvm.Cond.code x code maxLocals ret, Jvm.Cond.code ({ cls := "com/example/pival/pival/ChainGraph", name := "towards", desc := "([I)[D" } : Jvm.MethodName) prog_3_method_9_code (3 : Nat) (Option.some (Jvm.ClassFile.FieldType.array Jvm.ClassFile.FieldType.double)), Jvm.Cond.code ({ cls := "com/example/pival/pival/ChainGraphTowardsPinLaw", name := "reciprocal", desc := "(DI)Z" } : Jvm.MethodName) method_3_code (8 : Nat) (Option.some Jvm.ClassFile.FieldType.boolean)]
set_option maxRecDepth 65536 in
theorem codes_eq : words1.filter isCode = codes1 := rfl
theorem w_codes : ∀ c ∈ words1.filter isCode, c.before args0 about1 = true := by
  rw [codes_eq]
  intro c hc
  simp only [codes1, List.mem_cons, List.not_mem_nil, or_false] at hc
  rcases hc with rfl | rfl | rfl
  · exact w_c0
  · exact w_c1
  · exact w_c2
set_option maxRecDepth 65536 in
theorem w_t1 : words1.all (fun c => isCode c || c.before args0 about1) = true := by decide +kernel
theorem w_tables : (allAtoms (Jvm.Cond.code x code maxLocals ret :: tables_1)).before args0 about1 = true := by
  rw [allAtoms_all]
  show words1.all (fun c => c.before args0 about1) = true
  refine all_split ?_ w_codes
  rw [w_t1]
set_option maxRecDepth 65536 in
theorem w_case : (Jvm.Cond.and given_1 narrow_1).before args0 about1 = true := by decide +kernel
theorem w_applies : (headSpec (Jvm.Cond.code x code maxLocals ret :: tables_1) room_1).applies x e0.platform about1 = true :=
  (Spec.applies_iff w_frames).mpr ⟨w_running, w_runnable, w_alone, w_named, w_hears, w_ripe, w_room, w_tables⟩
theorem atStart : AtStart classFile x code maxLocals ret World_1 tables_1 room_1 Calls_1 rest_1 Pre_1 launch0 p0 e0 about1 theMethod args0 below0 :=
  ⟨lists_1, trivial, launch0.admits_env _ _ _, launch0.least_env, fairChoices_fair.cas, fairChoices_fair.clock, w_frames, w_args, w_heap, w_applies, trivial, trivial, w_case⟩
end start1
theorem witness_1 : WitnessClaimed_1 := ⟨start1.p0, start1.e0, start1.about1, start1.theMethod, start1.args0, start1.below0, start1.atStart⟩
end Jvm.Pilot.@@N@@
