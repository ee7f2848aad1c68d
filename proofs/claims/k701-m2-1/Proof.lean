import JvmDerived
import JvmDerived.Pilot.@@N@@Statement
import JvmDerived.Pilot.@@N@@Code
set_option linter.unusedVariables false
set_option linter.unusedSimpArgs false
namespace Jvm.RoadKit
open Sem ClassFile Op Lib Jvm.Stand Jvm.Free Jvm.LawKit
section New
variable {p : Program} {l : Launch} {e : Env} {R : Room} {s : State} {m : MethodId} {args : Array Value} {below : List Frame} {meth : Method} {c : Code} {T : State} {locs : List Loc} {cells slots : Nat}
theorem retI (X : Stand p l e R s m args below meth c T locs cells slots) (hx : p.tables.exec = Jvm.exec) {pc : Nat} {Ls : Array Slot} {z : Int32} {rest : List Value} (hret : meth.sig.returnType = some .int) (hd : decode c.code pc = .ok (.ireturn, 1)) {fs : List Frame}
    (hl : ∀ (f : JFrame) (acts : List Action), f.method = m → f.locked = none → f.entered = [] → (doReturn e (T.setTop f) acts (some (.int z))).1 = T.setFrames fs) : Steps p.tables e below (T.setTop (mkF m pc Ls (.int z :: rest))) (T.setFrames fs) :=
  retOut X hx hret rfl (Or.inl ⟨rfl, Or.inl rfl, z, rfl⟩) hd hl
theorem own_lremM {g : JFrame} {target : State} (X : Stand p l e R s m args below meth c T locs cells slots) (hx : p.tables.exec = Jvm.exec) (hg : g.method = m) {x y : Int64} {rest : List Value} (hd : decode c.code g.pc = .ok (.lrem, 1)) (hs : g.stack = .long y :: .long x :: rest) (hy : y ≠ 0)
    (hr : Steps p.tables e below (T.setTop { g with pc := g.pc + 1, stack := .long (x % y) :: rest }) target) : Steps p.tables e below (T.setTop g) target := by
  have q : x - x / y * y = x % y := lrem_mod x y
  exact XS.lrem X.here hx hg hd hs hy (by rw [q]; exact hr)
theorem own_evInt {Z : State} {args : Array Value} {t : Term} {k : Int32} (h : (Jvm.Cond.eq t (.int k)).value args Z none Z [] = some true) : t.eval args Z none [] Z = some (.int k) := by
  obtain ⟨x, y, h1, h2, -, -⟩ := cmp_v (Or.inl h)
  have hy : y = .int k := Option.some.inj (h2.symm.trans (Term.int_eval k))
  subst hy
  have hx : x = .int k := by
    cases x <;> simp [Cond.value, h1, h2] at h ⊢
    exact h
  rw [h1, hx]
theorem own_selPriv {y : MethodName} {kI : Nat} (hI : (Jvm.Cond.instantiable y.cls kI).before args s = true) (hpriv : s.PrivateAt y) (hinst : (Jvm.Cond.instanceMethod y).before args s = true) (hy : y.cls ≠ "java/lang/invoke/MethodHandle" ∧ y.cls ≠ "java/lang/invoke/VarHandle") : (Jvm.Cond.selects y.cls y y).before args s = true := by
  obtain ⟨c, k, h1, h2, -, h4, -⟩ := Cond.instantiable_spec hI
  exact selects_self_of_private h1 h2 (Bool.or_eq_false_iff.mp h4).1 hpriv hinst hy
theorem own_since0 (s : State) : s.Since s.vm 0 := (State.WarmedH.refl s).since _
theorem own_irr32 (x : Int32) : ¬ (x < x) := Int32.lt_irrefl
theorem own_irr64 (x : Int64) : ¬ (x < x) := Int64.lt_irrefl
theorem own_fldInt {Z : State} {args : Array Value} {t : Term} {a : Addr} {C n d : String} {k : Int32} (ev : t.eval args Z none [] Z = some (.ref a)) (h : (Jvm.Cond.eq (.field t C n d) (.int k)).value args Z none Z [] = some true) : Fld Z Z.heap a C n d (.int k) := by
  obtain ⟨x, y, h1, h2, -, -⟩ := cmp_v (Or.inl h)
  have hy : y = .int k := Option.some.inj (h2.symm.trans (Term.int_eval k))
  subst hy
  have hx : x = .int k := by
    cases x <;> simp [Cond.value, h1, h2] at h ⊢
    exact h
  rw [fld_at ev] at h1
  exact Fld.start (hx ▸ h1)
end New
end Jvm.RoadKit
namespace Jvm.Pilot.@@N@@
open Jvm Jvm.ClassFile Sem Op Lib Jvm.Free Jvm.Stand Jvm.LawKit Jvm.RoadKit Bundle Jvm.Pilot.@@N@@.Jvm.D
theorem wd0 {a0 : Array Value} {Z : State} (hw : ∀ d ∈ tables_1, d.before a0 Z = true) : (Jvm.Cond.methodLink "com/example/pival/pival/CompensatedSumRoundingOfSumPinLaw" (7 : Nat) ({ cls := "com/example/pival/pival/CompensatedSum", name := "roundingOfSum", desc := "(DDD)D" } : Jvm.MethodName)).before a0 Z = true := hw _ (List.mem_of_getElem? (i := 0) rfl)
theorem wd1 {a0 : Array Value} {Z : State} (hw : ∀ d ∈ tables_1, d.before a0 Z = true) : (Jvm.Cond.static ({ cls := "com/example/pival/pival/CompensatedSum", name := "roundingOfSum", desc := "(DDD)D" } : Jvm.MethodName)).before a0 Z = true := hw _ (List.mem_of_getElem? (i := 1) rfl)
theorem wd2 {a0 : Array Value} {Z : State} (hw : ∀ d ∈ tables_1, d.before a0 Z = true) : (Jvm.Cond.initialized "com/example/pival/pival/CompensatedSum").before a0 Z = true := hw _ (List.mem_of_getElem? (i := 2) rfl)
theorem wd3 {a0 : Array Value} {Z : State} (hw : ∀ d ∈ tables_1, d.before a0 Z = true) : (Jvm.Cond.code ({ cls := "com/example/pival/pival/CompensatedSum", name := "roundingOfSum", desc := "(DDD)D" } : Jvm.MethodName) prog_8_method_7_code (8 : Nat) (Option.some Jvm.ClassFile.FieldType.double)).before a0 Z = true := hw _ (List.mem_of_getElem? (i := 3) rfl)
-- ===== own laws of rounding, over JvmDerived.FloatLaws 1 to 3 =====
open Jvm.FP.Core in
theorem own_datum (s : Bool) (c : Nat) (q : Int) (hc : c ≤ 2 ^ 53) (h1 : -1074 ≤ q) (h2 : q ≤ 900) :
    ∃ V : Datum, Jvm.FP.Core.fits b64 V ∧ (∃ s c q, V = .fin s c q) ∧ zval b64 V = signed s (c * 2 ^ (q + 1074).toNat) := by
  have key : ∀ (c : Nat) (q : Int), c < 2 ^ 53 → -1074 ≤ q → q ≤ 901 →
      ∃ V : Datum, Jvm.FP.Core.fits b64 V ∧ (∃ s c q, V = .fin s c q) ∧ zval b64 V = signed s (c * 2 ^ (q + 1074).toNat) := by
    intro c q hc h1 h2
    have hm : b64.qmax = 971 := by decide +kernel
    obtain ⟨c', q', e1, e2⟩ := round_exact good_b64 s (c := c) (q := q) hc (by rw [qmin_b64]; exact h1) (by rw [hm]; omega)
    refine ⟨_, round_fits good_b64 (.fin s c q), ⟨s, c', q', e1⟩, ?_⟩
    rw [e1]
    show signed s (inUnits c' q' b64.qmin) = _
    rw [e2]; unfold inUnits; rw [qmin_b64, show q - (-1074) = q + 1074 by omega]
  by_cases h : c < 2 ^ 53
  · exact key c q h h1 (by omega)
  · have e : c = 2 ^ 53 := by omega
    obtain ⟨V, f, k, z⟩ := key (2 ^ 52) (q + 1) (by decide) (by omega) (by omega)
    refine ⟨V, f, k, ?_⟩
    rw [z, e, show (q + 1 + 1074).toNat = (q + 1074).toNat + 1 by omega]
    congr 1
    generalize (q + 1074).toNat = w
    rw [Nat.pow_succ 2 w, Nat.mul_comm (2 ^ w) 2, ← Nat.mul_assoc]

open Jvm.FP.Core in
theorem own_signed_abs (i : Int) : signed (decide (i < 0)) i.natAbs = i := by
  unfold signed
  by_cases h : i < 0
  · simp only [h, decide_true, if_true]; omega
  · simp only [h, decide_false, Bool.false_eq_true, if_false]; omega

open Jvm.FP.Core in
theorem own_rep (m : Nat) (hm : m ≤ 1900) (i : Int) (hi : i.natAbs ≤ 2 ^ 53) :
    ∃ V : Datum, Jvm.FP.Core.fits b64 V ∧ (∃ s c q, V = .fin s c q) ∧ zval b64 V = i * ((2 ^ m : Nat) : Int) := by
  obtain ⟨V, f, k, z⟩ := own_datum (decide (i < 0)) i.natAbs ((m : Int) - 1074) hi (by omega) (by omega)
  refine ⟨V, f, k, ?_⟩
  rw [z, show ((m : Int) - 1074 + 1074).toNat = m by omega, signed_mul, own_signed_abs]

open Jvm.FP.Core in
/-- A finite double of the value `i * 2^(m - 1074)`. -/
def own_P (m : Nat) (x : UInt64) (i : Int) : Prop := DFin x ∧ zval b64 (val64 x) = i * ((2 ^ m : Nat) : Int)

open Jvm.FP.Core in
theorem own_kne {V : Datum} (k : ∃ s c q, V = .fin s c q) : V ≠ .nan := by
  obtain ⟨s, c, q, rfl⟩ := k
  exact Datum.noConfusion

open Jvm.FP.Core in
theorem own_squeeze {z : UInt64} {V W : Datum} (n : val64 z ≠ .nan) (fV : Jvm.FP.Core.fits b64 V) (kV : ∃ s c q, V = .fin s c q)
    (fW : Jvm.FP.Core.fits b64 W) (kW : ∃ s c q, W = .fin s c q) (h1 : zval b64 V ≤ zval b64 (val64 z))
    (h2 : zval b64 (val64 z) ≤ zval b64 W) : DFin z := by
  obtain ⟨s, c, q, rfl⟩ := kV
  obtain ⟨t, d, r, rfl⟩ := kW
  have a := zmag_lt_top good_b64 fV
  have b := zmag_lt_top good_b64 fW
  unfold DFin
  cases hD : val64 z with
  | nan => exact absurd hD n
  | fin s c q => exact ⟨s, c, q, rfl⟩
  | inf u =>
    exfalso
    rw [hD] at h1 h2
    have h1' : signed s (inUnits c q b64.qmin) ≤ signed u (b64.tails * 2 ^ (b64.exps - 2)) := h1
    have h2' : signed u (b64.tails * 2 ^ (b64.exps - 2)) ≤ signed t (inUnits d r b64.qmin) := h2
    clear h1 h2
    generalize b64.tails * 2 ^ (b64.exps - 2) = T at a b h1' h2'
    generalize inUnits c q b64.qmin = C at a h1'
    generalize inUnits d r b64.qmin = D at b h2'
    unfold signed at h1' h2'
    cases u <;> cases s <;> cases t <;> simp only [if_true, Bool.false_eq_true, if_false] at h1' h2' <;> omega

open Jvm.FP.Core in
theorem own_add_ne {x y : UInt64} (hx : DFin x) (hy : DFin y) : val64 (dadd x y) ≠ .nan :=
  (notNaN_iff _).mp (dadd_out hx.notNaN hy)

open Jvm.FP.Core in
theorem own_add_to {x y : UInt64} (hx : DFin x) (hy : DFin y) {V : Datum} (f : Jvm.FP.Core.fits b64 V) (k : ∃ s c q, V = .fin s c q)
    (h : zval b64 (val64 x) + zval b64 (val64 y) = zval b64 V) : DFin (dadd x y) ∧ zval b64 (val64 (dadd x y)) = zval b64 V := by
  have l : zval b64 (val64 (dadd x y)) ≤ zval b64 V := by
    rw [val64_dadd]; exact sum_le good_b64 hx hy (val64_fits x) (val64_fits y) f (own_kne k) (by omega)
  have g : zval b64 V ≤ zval b64 (val64 (dadd x y)) := by
    rw [val64_dadd]; exact sum_ge good_b64 hx hy (val64_fits x) (val64_fits y) f (own_kne k) (by omega)
  exact ⟨own_squeeze (own_add_ne hx hy) f k f k g l, by omega⟩

open Jvm.FP.Core in
theorem own_add {m : Nat} {x y : UInt64} {i j : Int} (hm : m ≤ 1900) (hx : own_P m x i) (hy : own_P m y j)
    (h : (i + j).natAbs ≤ 2 ^ 53) : own_P m (dadd x y) (i + j) := by
  obtain ⟨V, f, k, z⟩ := own_rep m hm (i + j) h
  have := own_add_to hx.1 hy.1 f k (by rw [hx.2, hy.2, z, Int.add_mul])
  rw [z] at this
  exact this

open Jvm.FP.Core in
theorem own_neg {m : Nat} {x : UInt64} {i : Int} (hx : own_P m x i) : own_P m (dneg x) (-i) := by
  obtain ⟨⟨s, c, q, e⟩, z⟩ := hx
  refine ⟨⟨!s, c, q, by rw [val64_dneg, e]; rfl⟩, ?_⟩
  rw [val64_dneg, zval_negate, z, Int.neg_mul]

open Jvm.FP.Core in
theorem own_sub {m : Nat} {x y : UInt64} {i j : Int} (hm : m ≤ 1900) (hx : own_P m x i) (hy : own_P m y j)
    (h : (i - j).natAbs ≤ 2 ^ 53) : own_P m (dsub x y) (i - j) := by
  rw [dsub_eq, Int.sub_eq_add_neg]
  exact own_add hm hx (own_neg hy) (by rw [← Int.sub_eq_add_neg]; exact h)

theorem own_pow_add (m k : Nat) : ((2 ^ (m + k) : Nat) : Int) = ((2 ^ k : Nat) : Int) * ((2 ^ m : Nat) : Int) := by
  rw [Nat.pow_add, Nat.mul_comm, Int.natCast_mul]

theorem own_up_P {m k : Nat} {x : UInt64} {i : Int} (h : own_P m x (i * ((2 ^ k : Nat) : Int))) : own_P (m + k) x i :=
  ⟨h.1, by rw [h.2, own_pow_add, Int.mul_assoc]⟩

theorem own_down_P {m k : Nat} {x : UInt64} {i : Int} (h : own_P (m + k) x i) : own_P m x (i * ((2 ^ k : Nat) : Int)) :=
  ⟨h.1, by rw [h.2, own_pow_add, Int.mul_assoc]⟩

open Jvm.FP.Core in
/-- A sum of whole numbers below 2^63 is a whole number not far from the exact one. -/
theorem own_add_near {x y : UInt64} {i j : Int} (hx : own_P 1074 x i) (hy : own_P 1074 y j)
    (h : (i + j).natAbs ≤ 9223372036854775808 + 1048576) :
    ∃ k, own_P 1074 (dadd x y) k ∧ (i + j) / 2048 * 2048 ≤ k ∧ k ≤ ((i + j) / 2048 + 1) * 2048 := by
  by_cases hs : (i + j).natAbs ≤ 2 ^ 53
  · exact ⟨i + j, own_add (by decide) hx hy hs, by omega, by omega⟩
  · obtain ⟨V, fV, kV, zV⟩ := own_rep 1085 (by decide) ((i + j) / 2048) (by omega)
    obtain ⟨W, fW, kW, zW⟩ := own_rep 1085 (by decide) ((i + j) / 2048 + 1) (by omega)
    have p : ((2 ^ 1085 : Nat) : Int) = 2048 * ((2 ^ 1074 : Nat) : Int) := own_pow_add 1074 11
    have u0 : (0 : Int) < ((2 ^ 1074 : Nat) : Int) := Int.natCast_pos.mpr (Nat.two_pow_pos _)
    have sx := hx.2
    have sy := hy.2
    rw [p] at zV zW
    have g : zval b64 V ≤ zval b64 (val64 (dadd x y)) := by
      rw [val64_dadd]
      refine sum_ge good_b64 hx.1 hy.1 (val64_fits x) (val64_fits y) fV (own_kne kV) ?_
      rw [zV, sx, sy, ← Int.add_mul, ← Int.mul_assoc]
      exact Int.mul_le_mul_of_nonneg_right (by omega) (by omega)
    have l : zval b64 (val64 (dadd x y)) ≤ zval b64 W := by
      rw [val64_dadd]
      refine sum_le good_b64 hx.1 hy.1 (val64_fits x) (val64_fits y) fW (own_kne kW) ?_
      rw [zW, sx, sy, ← Int.add_mul, ← Int.mul_assoc]
      exact Int.mul_le_mul_of_nonneg_right (by omega) (by omega)
    have F := own_squeeze (own_add_ne hx.1 hy.1) fV kV fW kW g l
    obtain ⟨s, c, q, e⟩ := F
    have ft := val64_fits (dadd x y)
    rw [e] at ft
    have hc : c < 2 ^ 53 := ft.1
    have hq : (-1074 : Int) ≤ q := by have := ft.2.1; rw [qmin_b64] at this; exact this
    have zz : zval b64 (val64 (dadd x y)) = signed s (c * 2 ^ (q + 1074).toNat) := by
      rw [e]; show signed s (inUnits c q b64.qmin) = _
      unfold inUnits; rw [qmin_b64, show q - (-1074) = q + 1074 by omega]
    rw [zV, ← Int.mul_assoc] at g
    rw [zW, ← Int.mul_assoc] at l
    by_cases q0 : 0 ≤ q
    · have z2 : zval b64 (val64 (dadd x y)) = signed s (c * 2 ^ q.toNat) * ((2 ^ 1074 : Nat) : Int) := by
        rw [zz, show (q + 1074).toNat = q.toNat + 1074 by omega, Nat.pow_add, ← Nat.mul_assoc, signed_mul]
      rw [z2] at g l
      exact ⟨_, ⟨⟨s, c, q, e⟩, z2⟩, Int.le_of_mul_le_mul_right g u0, Int.le_of_mul_le_mul_right l u0⟩
    · exfalso
      have b1 : c * 2 ^ (q + 1074).toNat ≤ 2 ^ 53 * 2 ^ 1073 :=
        Nat.mul_le_mul (Nat.le_of_lt hc) (Nat.pow_le_pow_right (by decide) (by omega))
      have b2 : 2 ^ 53 * 2 ^ 1073 = 2 ^ 52 * 2 ^ 1074 := by
        rw [← Nat.pow_add, ← Nat.pow_add]
      rw [b2] at b1
      have b3 : ((c * 2 ^ (q + 1074).toNat : Nat) : Int) ≤ 4503599627370496 * ((2 ^ 1074 : Nat) : Int) := by
        have := Int.ofNat_le.mpr b1
        rw [Int.natCast_mul (2 ^ 52)] at this
        exact this
      rw [zz] at g l
      generalize ((2 ^ 1074 : Nat) : Int) = U at *
      generalize c * 2 ^ (q + 1074).toNat = C at *
      have b4 : -(4503599627370496 * U) ≤ signed s C ∧ signed s C ≤ 4503599627370496 * U := by
        unfold signed
        cases s
        · simp only [Bool.false_eq_true, if_false]; omega
        · simp only [if_true]; omega
      have g2 := Int.le_trans g b4.2
      have l2 := Int.le_trans b4.1 l
      rw [← Int.neg_mul] at l2
      have g3 := Int.le_of_mul_le_mul_right g2 u0
      have l3 := Int.le_of_mul_le_mul_right l2 u0
      omega

open Jvm.FP.Core in
theorem own_sub_near {x y : UInt64} {i j : Int} (hx : own_P 1074 x i) (hy : own_P 1074 y j)
    (h : (i - j).natAbs ≤ 9223372036854775808 + 1048576) :
    ∃ k, own_P 1074 (dsub x y) k ∧ (i - j) / 2048 * 2048 ≤ k ∧ k ≤ ((i - j) / 2048 + 1) * 2048 := by
  rw [dsub_eq, Int.sub_eq_add_neg]
  exact own_add_near hx (own_neg hy) (by rw [← Int.sub_eq_add_neg]; exact h)

open Jvm.FP.Core in
theorem own_l2d {n : Int64} {k : Int} {s : Nat} (hs : s ≤ 800) (h : n.toInt = k * ((2 ^ s : Nat) : Int))
    (hk : k.natAbs ≤ 2 ^ 53) : own_P 1074 (l2d n) n.toInt := by
  obtain ⟨V, f, kV, z⟩ := own_rep (1074 + s) (by omega) k hk
  have e := val64_of64 f
  have n1 : val64 (of64 V) ≠ .nan := by rw [e]; exact own_kne kV
  have z2 : zval b64 (val64 (of64 V)) = n.toInt * (one64 : Int) := by
    rw [e, z, own_pow_add, h, Int.mul_assoc]; rfl
  have a := l2d_zval_ge (n := n) n1 (by omega)
  have b := l2d_zval_le (n := n) n1 (by omega)
  exact ⟨l2d_fin n, by rw [z2] at a b; show _ = _ * (one64 : Int); omega⟩

open Jvm.FP.Core in
theorem own_d2l {x : UInt64} {i : Int} (h : own_P 1074 x i) (h1 : -2 ^ 63 ≤ i) (h2 : i < 2 ^ 63) : (d2l x).toInt = i := by
  rw [d2l_val h.1.ne_nan]
  have z : signed (sgn (val64 x)) (zmag b64 (val64 x)) = i * (one64 : Int) := h.2
  have a : zmag b64 (val64 x) = i.natAbs * one64 := by
    have := congrArg Int.natAbs z
    rw [natAbs_signed, Int.natAbs_mul] at this
    exact this
  have b : signed (sgn (val64 x)) (i.natAbs) = i := by
    rw [a, signed_mul] at z
    exact Int.eq_of_mul_eq_mul_right (Int.natCast_ne_zero.mpr (Nat.ne_of_gt one64_pos)) z
  rw [a, Nat.mul_div_cancel _ one64_pos, b]
  omega
open Jvm.FP.Core in
/-- The exact sum in another unit. -/
theorem own_add_x {x y : UInt64} {i j k : Int} {s : Nat} (hs : s ≤ 800) (hx : own_P 1074 x i) (hy : own_P 1074 y j)
    (h : i + j = k * ((2 ^ s : Nat) : Int)) (hk : k.natAbs ≤ 2 ^ 53) : own_P 1074 (dadd x y) (i + j) := by
  obtain ⟨V, f, kV, z⟩ := own_rep (1074 + s) (by omega) k hk
  have := own_add_to hx.1 hy.1 f kV (by rw [hx.2, hy.2, z, own_pow_add, ← Int.mul_assoc, ← h, Int.add_mul])
  rw [z, own_pow_add, ← Int.mul_assoc, ← h] at this
  exact this

open Jvm.FP.Core in
theorem own_sub_x {x y : UInt64} {i j k : Int} {s : Nat} (hs : s ≤ 800) (hx : own_P 1074 x i) (hy : own_P 1074 y j)
    (h : i - j = k * ((2 ^ s : Nat) : Int)) (hk : k.natAbs ≤ 2 ^ 53) : own_P 1074 (dsub x y) (i - j) := by
  rw [dsub_eq, Int.sub_eq_add_neg]
  exact own_add_x hs hx (own_neg hy) (by rw [← Int.sub_eq_add_neg]; exact h) hk

theorem own_big {i x : Int} {s : Nat} (h : i = x * ((2 ^ s : Nat) : Int)) (hx : x.natAbs ≤ 2 ^ 31) (hi : 2 ^ 52 ≤ i.natAbs) :
    ∃ k : Int, i = k * ((2 ^ 21 : Nat) : Int) := by
  by_cases hs : 21 ≤ s
  · refine ⟨x * ((2 ^ (s - 21) : Nat) : Int), ?_⟩
    rw [h, Int.mul_assoc, ← Int.natCast_mul, ← Nat.pow_add, show s - 21 + 21 = s by omega]
  · exfalso
    rw [h, Int.natAbs_mul, Int.natAbs_natCast] at hi
    have := Nat.mul_le_mul hx (Nat.pow_le_pow_right (n := 2) (by decide) (show s ≤ 20 by omega))
    omega

open Jvm.FP.Core in
/-- Knuth's sum of two whole numbers, each of at most 32 digits. -/
theorem own_two {a b S : UInt64} {i j x y : Int} {s t : Nat} (ha : own_P 1074 a i) (hb : own_P 1074 b j)
    (hs : s ≤ 31) (ht : t ≤ 31) (ei : i = x * ((2 ^ s : Nat) : Int)) (ej : j = y * ((2 ^ t : Nat) : Int))
    (hx : x.natAbs ≤ 2 ^ 31) (hy : y.natAbs ≤ 2 ^ 31) {K : Int} (hS : own_P 1074 S K)
    (k1 : (i + j) / 2048 * 2048 ≤ K) (k2 : K ≤ ((i + j) / 2048 + 1) * 2048)
    (kx : ∀ k : Int, i + j = k * ((2 ^ 21 : Nat) : Int) → K = i + j) :
    DFin (dsub S a) ∧ DFin (dsub S (dsub S a)) ∧ DFin (dsub a (dsub S (dsub S a))) ∧ DFin (dsub b (dsub S a)) ∧
    own_P 1074 (dadd (dsub a (dsub S (dsub S a))) (dsub b (dsub S a))) (i + j - K) := by
  have bi : i.natAbs ≤ 2 ^ 62 := by
    rw [ei, Int.natAbs_mul, Int.natAbs_natCast]
    exact Nat.le_trans (Nat.mul_le_mul hx (Nat.pow_le_pow_right (n := 2) (by decide) hs)) (by decide)
  have bj : j.natAbs ≤ 2 ^ 62 := by
    rw [ej, Int.natAbs_mul, Int.natAbs_natCast]
    exact Nat.le_trans (Nat.mul_le_mul hy (Nat.pow_le_pow_right (n := 2) (by decide) ht)) (by decide)
  by_cases cj : j.natAbs < 2 ^ 52
  · have z := own_sub (by decide) hS ha (by omega)
    have w := own_sub_x (k := x) (s := s) (by omega) hS z (by rw [← ei]; omega) (by omega)
    have w' : own_P 1074 (dsub a (dsub S (dsub S a))) (i - (K - (K - i))) := own_sub (by decide) ha w (by omega)
    have v := own_sub (by decide) hb z (by omega)
    have r := own_add (by decide) w' v (by omega)
    rw [show i - (K - (K - i)) + (j - (K - i)) = i + j - K by omega] at r
    exact ⟨z.1, w.1, w'.1, v.1, r⟩
  · by_cases ci : i.natAbs < 2 ^ 52
    · obtain ⟨z, hz, z1, z2⟩ := own_sub_near hS ha (by omega)
      have w := own_sub (by decide) hS hz (by omega)
      have w' := own_sub (by decide) ha w (by omega)
      have v := own_sub (by decide) hb hz (by omega)
      have r := own_add (by decide) w' v (by omega)
      rw [show i - (K - z) + (j - z) = i + j - K by omega] at r
      exact ⟨hz.1, w.1, w'.1, v.1, r⟩
    · obtain ⟨i', ei'⟩ := own_big ei hx (by omega)
      obtain ⟨j', ej'⟩ := own_big ej hy (by omega)
      have e : K = i + j := kx (i' + j') (by rw [Int.add_mul, ← ei', ← ej'])
      subst e
      have z := own_sub_x (k := y) (s := t) (by omega) hS ha (by rw [← ej]; omega) (by omega)
      have w := own_sub_x (k := x) (s := s) (by omega) hS z (by rw [← ei]; omega) (by omega)
      have w' := own_sub (by decide) ha w (by omega)
      have v := own_sub (by decide) hb z (by omega)
      have r := own_add (by decide) w' v (by omega)
      rw [show i - (i + j - (i + j - i)) + (j - (i + j - i)) = i + j - (i + j) by omega] at r
      exact ⟨z.1, w.1, w'.1, v.1, r⟩

open Jvm.FP.Core in
theorem own_cmp_P {m : Nat} {x y : UInt64} {i j : Int} (hx : own_P m x i) (hy : own_P m y j) :
    dcmp x y = some (if i < j then .lt else if i = j then .eq else .gt) := by
  have u0 : (0 : Int) < ((2 ^ m : Nat) : Int) := Int.natCast_pos.mpr (Nat.two_pow_pos _)
  rw [dcmp_zval hx.1.ne_nan hy.1.ne_nan, hx.2, hy.2, compare_ite]
  have c1 : i * ((2 ^ m : Nat) : Int) < j * ((2 ^ m : Nat) : Int) ↔ i < j := Int.mul_lt_mul_right u0
  have c2 : i * ((2 ^ m : Nat) : Int) = j * ((2 ^ m : Nat) : Int) ↔ i = j :=
    ⟨fun h => Int.eq_of_mul_eq_mul_right (Int.ne_of_gt u0) h, fun h => by rw [h]⟩
  simp only [c1, c2]

open Jvm.FP.Core in
def own_ok (a b S : UInt64) : Prop := DFin (dsub S a) ∧ DFin (dsub S (dsub S a)) ∧ DFin (dsub a (dsub S (dsub S a))) ∧ DFin (dsub b (dsub S a)) ∧
    DFin (dadd (dsub a (dsub S (dsub S a))) (dsub b (dsub S a)))

open Jvm.FP.Core in
/-- The law of k701-m2, in plain figures. -/
theorem own_twosum {xl yl : Int64} {x y : Int} {s t : Nat} (hs : s ≤ 31) (ht : t ≤ 31)
    (ei : xl.toInt = x * ((2 ^ s : Nat) : Int)) (ej : yl.toInt = y * ((2 ^ t : Nat) : Int))
    (x1 : -2147483648 ≤ x) (x2 : x ≤ 2147483647) (y1 : -2147483648 ≤ y) (y2 : y ≤ 2147483647) :
    own_ok (l2d xl) (l2d yl) (dadd (l2d xl) (l2d yl)) ∧ own_ok (l2d yl) (l2d xl) (dadd (l2d xl) (l2d yl)) ∧ DFin (dadd (l2d xl) (l2d yl)) ∧
    dcmp (dadd (dsub (l2d xl) (dsub (dadd (l2d xl) (l2d yl)) (dsub (dadd (l2d xl) (l2d yl)) (l2d xl))))
      (dsub (l2d yl) (dsub (dadd (l2d xl) (l2d yl)) (l2d xl))))
      (l2d (xl + yl - d2l (dadd (l2d xl) (l2d yl)))) = some .eq ∧
    dcmp (dadd (dsub (l2d yl) (dsub (dadd (l2d xl) (l2d yl)) (dsub (dadd (l2d xl) (l2d yl)) (l2d yl))))
      (dsub (l2d xl) (dsub (dadd (l2d xl) (l2d yl)) (l2d yl))))
      (l2d (xl + yl - d2l (dadd (l2d xl) (l2d yl)))) = some .eq := by
  have ha : own_P 1074 (l2d xl) xl.toInt := own_l2d (k := x) (s := s) (by omega) ei (by omega)
  have hb : own_P 1074 (l2d yl) yl.toInt := own_l2d (k := y) (s := t) (by omega) ej (by omega)
  have p1 : (0 : Int) < ((2 ^ s : Nat) : Int) := Int.natCast_pos.mpr (Nat.two_pow_pos _)
  have p2 : ((2 ^ s : Nat) : Int) ≤ 2147483648 := Int.ofNat_le.mpr (Nat.pow_le_pow_right (n := 2) (by decide) hs)
  have q1 : (0 : Int) < ((2 ^ t : Nat) : Int) := Int.natCast_pos.mpr (Nat.two_pow_pos _)
  have q2 : ((2 ^ t : Nat) : Int) ≤ 2147483648 := Int.ofNat_le.mpr (Nat.pow_le_pow_right (n := 2) (by decide) ht)
  have bnd : ∀ (z U : Int), -2147483648 ≤ z → z ≤ 2147483647 → 0 < U → U ≤ 2147483648 →
      -4611686018427387904 ≤ z * U ∧ z * U ≤ 4611686016279904256 := by
    intro z U h1 h2 h3 h4
    constructor
    · have a : -2147483648 * U ≤ z * U := Int.mul_le_mul_of_nonneg_right h1 (by omega)
      omega
    · have a : z * U ≤ 2147483647 * U := Int.mul_le_mul_of_nonneg_right h2 (by omega)
      omega
  have bx := bnd x _ x1 x2 p1 p2
  have by' := bnd y _ y1 y2 q1 q2
  rw [← ei] at bx
  rw [← ej] at by'
  obtain ⟨K, hS, k1, k2⟩ := own_add_near ha hb (by omega)
  have kx : ∀ k : Int, xl.toInt + yl.toInt = k * ((2 ^ 21 : Nat) : Int) → K = xl.toInt + yl.toInt := by
    intro k hk
    have hk' : xl.toInt + yl.toInt = k * 2097152 := hk
    have e := own_add_x (k := k) (s := 21) (by decide) ha hb hk (by omega)
    have u0 : ((2 ^ 1074 : Nat) : Int) ≠ 0 := Int.ne_of_gt (Int.natCast_pos.mpr (Nat.two_pow_pos _))
    exact Int.eq_of_mul_eq_mul_right u0 (hS.2.symm.trans e.2)
  have dl : (d2l (dadd (l2d xl) (l2d yl))).toInt = K := own_d2l hS (by omega) (by omega)
  have sm : (xl + yl).toInt = xl.toInt + yl.toInt := int64_add (by omega) (by omega)
  have er : (xl + yl - d2l (dadd (l2d xl) (l2d yl))).toInt = xl.toInt + yl.toInt - K := by
    rw [int64_sub (by rw [sm, dl]; omega) (by rw [sm, dl]; omega), sm, dl]
  have he : own_P 1074 (l2d (xl + yl - d2l (dadd (l2d xl) (l2d yl)))) (xl.toInt + yl.toInt - K) := by
    rw [← er]
    exact own_l2d (k := (xl + yl - d2l (dadd (l2d xl) (l2d yl))).toInt) (s := 0) (by decide) (by simp) (by rw [er]; omega)
  have r1 := own_two ha hb hs ht ei ej (by omega) (by omega) hS k1 k2 kx
  have r2 := own_two hb ha ht hs ej ei (by omega) (by omega) hS (by rw [Int.add_comm yl.toInt xl.toInt]; exact k1) (by rw [Int.add_comm yl.toInt xl.toInt]; exact k2)
    (fun k h => by rw [Int.add_comm yl.toInt]; exact kx k (by rw [Int.add_comm xl.toInt yl.toInt]; exact h))
  rw [Int.add_comm yl.toInt xl.toInt] at r2
  refine ⟨⟨r1.1, r1.2.1, r1.2.2.1, r1.2.2.2.1, r1.2.2.2.2.1⟩, ⟨r2.1, r2.2.1, r2.2.2.1, r2.2.2.2.1, r2.2.2.2.2.1⟩, hS.1, ?_⟩
  have r1 := r1.2.2.2.2
  have r2 := r2.2.2.2.2
  constructor
  · rw [own_cmp_P r1 he, if_neg (by omega), if_pos rfl]
  · rw [own_cmp_P r2 he, if_neg (by omega), if_pos rfl]

abbrev own_sum (a b S : UInt64) : UInt64 := FP.dadd (FP.dsub a (FP.dsub S (FP.dsub S a))) (FP.dsub b (FP.dsub S a))
theorem own_cv0 {x y : UInt64} {o : CmpOp} (h : FP.dcmp x y = some .eq) : cmpValue (FP.dcmp x y) o = 0 := by rw [h]; cases o <;> rfl
theorem own_shl (x k : Int32) : ∃ s : Nat, s ≤ 31 ∧ (x.toInt64 <<< ((k &&& (31 : Int32)) &&& 0x3f).toInt64).toInt = x.toInt * ((2 ^ s : Nat) : Int) := by
  have b : (k &&& (31 : Int32)).toBitVec.toNat ≤ 31 := by
    rw [Int32.toBitVec_and, BitVec.toNat_and]; exact Nat.and_le_right
  refine ⟨(k &&& (31 : Int32)).toBitVec.toNat, b, ?_⟩
  have c := c_lshl x.toInt64 (k &&& (31 : Int32)) _ (Nat.mod_eq_of_lt (by omega))
  have i := c_i2l x
  have r := rng32 x
  have z := rng64 (x.toInt64 <<< ((k &&& (31 : Int32)) &&& 0x3f).toInt64)
  rw [i] at c
  generalize (k &&& (31 : Int32)).toBitVec.toNat = s at *
  have p1 : (0 : Int) < ((2 ^ s : Nat) : Int) := Int.natCast_pos.mpr (Nat.two_pow_pos _)
  have p2 : ((2 ^ s : Nat) : Int) ≤ 2147483648 := Int.ofNat_le.mpr (Nat.pow_le_pow_right (n := 2) (by decide) b)
  generalize ((2 ^ s : Nat) : Int) = U at *
  have a1 : -2147483648 * U ≤ x.toInt * U := Int.mul_le_mul_of_nonneg_right (by omega) (by omega)
  have a2 : x.toInt * U ≤ 2147483647 * U := Int.mul_le_mul_of_nonneg_right (by omega) (by omega)
  generalize x.toInt * U = P at *
  omega
theorem ef_Rs (m : MethodId) (x0 : UInt64) (x1 : UInt64) (x2 : UInt64) : entryFrame m #[(.double x0), (.double x1), (.double x2)] 8 = mkF m 0 #[.val (.double x0), .second, .val (.double x1), .second, .val (.double x2), .second, .unset, .unset] [] := by first | (simp [entryFrame, mkF, argsToLocals, Value.category]; done) | rfl
theorem pn_com_example_pival_pival_CompensatedSum : plainName "com/example/pival/pival/CompensatedSum" = true := by first | (simp [plainName, overriddenIn]; done) | decide +kernel
theorem dd_prog_8_method_7_code_0 : decode prog_8_method_7_code 0 = .ok (.dload 4, 2) := by decide +kernel
theorem dd_prog_8_method_7_code_2 : decode prog_8_method_7_code 2 = .ok (.dload_n 0, 1) := by decide +kernel
theorem dd_prog_8_method_7_code_3 : decode prog_8_method_7_code 3 = .ok (.dsub, 1) := by decide +kernel
theorem dd_prog_8_method_7_code_4 : decode prog_8_method_7_code 4 = .ok (.dstore 6, 2) := by decide +kernel
theorem dd_prog_8_method_7_code_6 : decode prog_8_method_7_code 6 = .ok (.dload_n 0, 1) := by decide +kernel
theorem dd_prog_8_method_7_code_7 : decode prog_8_method_7_code 7 = .ok (.dload 4, 2) := by decide +kernel
theorem dd_prog_8_method_7_code_9 : decode prog_8_method_7_code 9 = .ok (.dload 6, 2) := by decide +kernel
theorem dd_prog_8_method_7_code_11 : decode prog_8_method_7_code 11 = .ok (.dsub, 1) := by decide +kernel
theorem dd_prog_8_method_7_code_12 : decode prog_8_method_7_code 12 = .ok (.dsub, 1) := by decide +kernel
theorem dd_prog_8_method_7_code_13 : decode prog_8_method_7_code 13 = .ok (.dload_n 2, 1) := by decide +kernel
theorem dd_prog_8_method_7_code_14 : decode prog_8_method_7_code 14 = .ok (.dload 6, 2) := by decide +kernel
theorem dd_prog_8_method_7_code_16 : decode prog_8_method_7_code 16 = .ok (.dsub, 1) := by decide +kernel
theorem dd_prog_8_method_7_code_17 : decode prog_8_method_7_code 17 = .ok (.dadd, 1) := by decide +kernel
theorem dd_prog_8_method_7_code_18 : decode prog_8_method_7_code 18 = .ok (.dreturn, 1) := by decide +kernel
def QRs (Z : State) (d0 : UInt64) (d1 : UInt64) (d2 : UInt64) (h0 : Heap) (n0 : Nat) (v : Option Value) (h : Heap) (L : List Loc) : Prop := v = some (.double (own_sum d0 d1 d2)) ∧ Fr n0 L ∧ h = h0
set_option maxRecDepth 65536 in
set_option maxHeartbeats 40000000 in
theorem rmRs (l : Launch) (Z : State) (a0 : Array Value) (hw : ∀ d ∈ tables_1, d.before a0 Z = true) (ws : List Jvm.Cond) (d0 : UInt64) (d1 : UInt64) (d2 : UInt64) (h0 : Heap) (n0 : Nat) (Z0 : n0 ≤ h0.size) (ok : own_ok d0 d1 d2) :
    MetFree l (⟨"com/example/pival/pival/CompensatedSum", "roundingOfSum", "(DDD)D"⟩ : MethodName) (head1 (Jvm.Cond.code (⟨"com/example/pival/pival/CompensatedSum", "roundingOfSum", "(DDD)D"⟩ : MethodName) prog_8_method_7_code 8 (some .double) :: ws) ({ frames := 0, cells := 0, slots := 0, locals := 0 } : Room)) (fun a U => a = #[(.double d0), (.double d1), (.double d2)] ∧ Z.Warmed39 U.vm ∧ U.heap = h0) (fun _ _ _ _ _ => True) (fun _ U o U' => ∃ v L, o = .returned v ∧ QRs Z d0 d1 d2 h0 n0 v U'.heap L ∧ FrameEnd U o U' L ({ frames := 0, cells := 0, slots := 0, locals := 0 } : Room).cells ({ frames := 0, cells := 0, slots := 0, locals := 0 } : Room).slots) := by
  refine MetFree.of_bodySF (plainFor_of_name pn_com_example_pival_pival_CompensatedSum) hisR ?_
  intro p e s m args below meth c s₁ Bd hml0 hP hK
  obtain ⟨rfl, hZ, hh⟩ := hP
  have hx := Bd.exec
  have hby := Bd.bytes
  have hml : c.maxLocals = 8 := hml0
  have hown : s.vm.findClass "com/example/pival/pival/CompensatedSum" = some m.cls := findClass_of_methodNamed Bd.named
  have hnm := (name_of_methodNamed Bd.named Bd.method).1
  have X0 : Stand p l e ({ frames := 0, cells := 0, slots := 0, locals := 0 } : Room) s m #[(.double d0), (.double d1), (.double d2)] below meth c s₁ [] 0 0 := Stand.of_body Bd
  have e0 : s₁.heap = h0 := by rw [← hh, Bd.state]; rfl
  have N0 := Fr.nil n0
  have pre0 : ∀ t, Steps p.tables e below (s₁.setTop (mkF m 0 #[.val (.double d0), .second, .val (.double d1), .second, .val (.double d2), .second, .unset, .unset] [])) t → Steps p.tables e below (s₁.setTop (entryFrame m #[(.double d0), (.double d1), (.double d2)] 8)) t := fun t k => castTop (ef_Rs m d0 d1 d2) k
  obtain ⟨lfs, lhr, lhrun, lhended, lhW, lhsame⟩ := X0.leave (v := some (.double (FP.dadd (FP.dsub d0 (FP.dsub d2 (FP.dsub d2 d0))) (FP.dsub d1 (FP.dsub d2 d0))))) (fun h => by rw [Bd.returns] at h; cases h)
  refine ⟨_, _, pre0 _ ?_, lhrun, lhended, _, _, rfl, ?_, ⟨_, rfl⟩, lhW, lhsame.mono (by decide) (by decide)⟩
  · skip
    show Steps p.tables e below (s₁.setTop (mkF m 0 #[.val (.double d0), .second, .val (.double d1), .second, .val (.double d2), .second, .unset, .unset] [])) _
    refine XS.dload X0.here hx rfl (hb hby dd_prog_8_method_7_code_0) rfl ?_
    show Steps p.tables e below (s₁.setTop (mkF m 2 #[.val (.double d0), .second, .val (.double d1), .second, .val (.double d2), .second, .unset, .unset] [(.double d2)])) _
    refine XS.dloadN X0.here hx rfl (hb hby dd_prog_8_method_7_code_2) rfl ?_
    show Steps p.tables e below (s₁.setTop (mkF m 3 #[.val (.double d0), .second, .val (.double d1), .second, .val (.double d2), .second, .unset, .unset] [(.double d0), (.double d2)])) _
    refine XS.dsubS X0.here hx rfl (hb hby dd_prog_8_method_7_code_3) rfl ((Jvm.Free.Fl.fin64_core.mpr ok.1).noNaN) rfl ?_
    show Steps p.tables e below (s₁.setTop (mkF m 4 #[.val (.double d0), .second, .val (.double d1), .second, .val (.double d2), .second, .unset, .unset] [(.double (FP.dsub d2 d0))])) _
    refine XS.dstore X0.here hx rfl (hb hby dd_prog_8_method_7_code_4) rfl (l' := #[.val (.double d0), .second, .val (.double d1), .second, .val (.double d2), .second, .val (.double (FP.dsub d2 d0)), .second]) rfl ?_
    show Steps p.tables e below (s₁.setTop (mkF m 6 #[.val (.double d0), .second, .val (.double d1), .second, .val (.double d2), .second, .val (.double (FP.dsub d2 d0)), .second] [])) _
    refine XS.dloadN X0.here hx rfl (hb hby dd_prog_8_method_7_code_6) rfl ?_
    show Steps p.tables e below (s₁.setTop (mkF m 7 #[.val (.double d0), .second, .val (.double d1), .second, .val (.double d2), .second, .val (.double (FP.dsub d2 d0)), .second] [(.double d0)])) _
    refine XS.dload X0.here hx rfl (hb hby dd_prog_8_method_7_code_7) rfl ?_
    show Steps p.tables e below (s₁.setTop (mkF m 9 #[.val (.double d0), .second, .val (.double d1), .second, .val (.double d2), .second, .val (.double (FP.dsub d2 d0)), .second] [(.double d2), (.double d0)])) _
    refine XS.dload X0.here hx rfl (hb hby dd_prog_8_method_7_code_9) rfl ?_
    show Steps p.tables e below (s₁.setTop (mkF m 11 #[.val (.double d0), .second, .val (.double d1), .second, .val (.double d2), .second, .val (.double (FP.dsub d2 d0)), .second] [(.double (FP.dsub d2 d0)), (.double d2), (.double d0)])) _
    refine XS.dsubS X0.here hx rfl (hb hby dd_prog_8_method_7_code_11) rfl ((Jvm.Free.Fl.fin64_core.mpr ok.2.1).noNaN) rfl ?_
    show Steps p.tables e below (s₁.setTop (mkF m 12 #[.val (.double d0), .second, .val (.double d1), .second, .val (.double d2), .second, .val (.double (FP.dsub d2 d0)), .second] [(.double (FP.dsub d2 (FP.dsub d2 d0))), (.double d0)])) _
    refine XS.dsubS X0.here hx rfl (hb hby dd_prog_8_method_7_code_12) rfl ((Jvm.Free.Fl.fin64_core.mpr ok.2.2.1).noNaN) rfl ?_
    show Steps p.tables e below (s₁.setTop (mkF m 13 #[.val (.double d0), .second, .val (.double d1), .second, .val (.double d2), .second, .val (.double (FP.dsub d2 d0)), .second] [(.double (FP.dsub d0 (FP.dsub d2 (FP.dsub d2 d0))))])) _
    refine XS.dloadN X0.here hx rfl (hb hby dd_prog_8_method_7_code_13) rfl ?_
    show Steps p.tables e below (s₁.setTop (mkF m 14 #[.val (.double d0), .second, .val (.double d1), .second, .val (.double d2), .second, .val (.double (FP.dsub d2 d0)), .second] [(.double d1), (.double (FP.dsub d0 (FP.dsub d2 (FP.dsub d2 d0))))])) _
    refine XS.dload X0.here hx rfl (hb hby dd_prog_8_method_7_code_14) rfl ?_
    show Steps p.tables e below (s₁.setTop (mkF m 16 #[.val (.double d0), .second, .val (.double d1), .second, .val (.double d2), .second, .val (.double (FP.dsub d2 d0)), .second] [(.double (FP.dsub d2 d0)), (.double d1), (.double (FP.dsub d0 (FP.dsub d2 (FP.dsub d2 d0))))])) _
    refine XS.dsubS X0.here hx rfl (hb hby dd_prog_8_method_7_code_16) rfl ((Jvm.Free.Fl.fin64_core.mpr ok.2.2.2.1).noNaN) rfl ?_
    show Steps p.tables e below (s₁.setTop (mkF m 17 #[.val (.double d0), .second, .val (.double d1), .second, .val (.double d2), .second, .val (.double (FP.dsub d2 d0)), .second] [(.double (FP.dsub d1 (FP.dsub d2 d0))), (.double (FP.dsub d0 (FP.dsub d2 (FP.dsub d2 d0))))])) _
    refine XS.daddS X0.here hx rfl (hb hby dd_prog_8_method_7_code_17) rfl ((Jvm.Free.Fl.fin64_core.mpr ok.2.2.2.2).noNaN) rfl ?_
    show Steps p.tables e below (s₁.setTop (mkF m 18 #[.val (.double d0), .second, .val (.double d1), .second, .val (.double d2), .second, .val (.double (FP.dsub d2 d0)), .second] [(.double (FP.dadd (FP.dsub d0 (FP.dsub d2 (FP.dsub d2 d0))) (FP.dsub d1 (FP.dsub d2 d0))))])) _
    exact retOut X0 hx Bd.returns rfl (Or.inr (Or.inr (Or.inl ⟨rfl, rfl, _, rfl⟩))) (hb hby dd_prog_8_method_7_code_18) lhr
  · skip
    show QRs Z d0 d1 d2 h0 n0 _ s₁.heap _
    rw [e0]
    exact ⟨rfl, N0, rfl⟩
theorem ef_0 (m : MethodId) (x0 : Int32) (x1 : Int32) (x2 : Int32) : entryFrame m #[(.int x0), (.int x1), (.int x2)] maxLocals = mkF m 0 #[.val (.int x0), .val (.int x1), .val (.int x2), .unset, .unset, .unset, .unset, .unset, .unset, .unset, .unset, .unset, .unset, .unset, .unset, .unset, .unset, .unset, .unset, .unset, .unset, .unset, .unset, .unset, .unset] [] := by first | (simp [entryFrame, mkF, argsToLocals, Value.category, maxLocals]; done) | rfl
theorem pn_com_example_pival_pival_CompensatedSumRoundingOfSumPinLaw : plainName "com/example/pival/pival/CompensatedSumRoundingOfSumPinLaw" = true := by first | (simp [plainName, overriddenIn]; done) | decide +kernel
theorem pd__DDD_D : parseMethodDescriptor "(DDD)D" = some ⟨[.double, .double, .double], some .double⟩ := by decide +kernel
def Q0 (Z : State) (x0 : Int32) (x1 : Int32) (x2 : Int32) (h0 : Heap) (n0 : Nat) (v : Option Value) (h : Heap) (L : List Loc) : Prop := v = some (.int 1) ∧ Fr n0 L
set_option maxRecDepth 65536 in
set_option maxHeartbeats 40000000 in
theorem rm0 (l : Launch) (Z : State) (a0 : Array Value) (hw : ∀ d ∈ tables_1, d.before a0 Z = true) (ws : List Jvm.Cond) (x0 : Int32) (x1 : Int32) (x2 : Int32) (h0 : Heap) (n0 : Nat) (Z0 : n0 ≤ h0.size) :
    MetFree l x (head1 (Jvm.Cond.code x code maxLocals ret :: ws) room_1) (fun a U => a = #[(.int x0), (.int x1), (.int x2)] ∧ Z.Warmed39 U.vm ∧ U.heap = h0) (fun _ _ _ _ _ => True) (fun _ U o U' => ∃ v L, o = .returned v ∧ Q0 Z x0 x1 x2 h0 n0 v U'.heap L ∧ FrameEnd U o U' L 0 0) := by
  refine MetFree.of_bodySF (plainFor_of_name pn_com_example_pival_pival_CompensatedSumRoundingOfSumPinLaw) hisR ?_
  intro p e s m args below meth c s₁ Bd hml0 hP hK
  obtain ⟨rfl, hZ, hh⟩ := hP
  have hx := Bd.exec
  have hby := Bd.bytes
  have hml : c.maxLocals = 25 := hml0
  have hown : s.vm.findClass "com/example/pival/pival/CompensatedSumRoundingOfSumPinLaw" = some m.cls := findClass_of_methodNamed Bd.named
  have hnm := (name_of_methodNamed Bd.named Bd.method).1
  have X0 : Stand p l e room_1 s m #[(.int x0), (.int x1), (.int x2)] below meth c s₁ [] 0 0 := Stand.of_body Bd
  have e0 : s₁.heap = h0 := by rw [← hh, Bd.state]; rfl
  have N0 := Fr.nil n0
  have pre0 : ∀ t, Steps p.tables e below (s₁.setTop (mkF m 0 #[.val (.int x0), .val (.int x1), .val (.int x2), .unset, .unset, .unset, .unset, .unset, .unset, .unset, .unset, .unset, .unset, .unset, .unset, .unset, .unset, .unset, .unset, .unset, .unset, .unset, .unset, .unset, .unset] [])) t → Steps p.tables e below (s₁.setTop (entryFrame m #[(.int x0), (.int x1), (.int x2)] maxLocals)) t := fun t k => castTop (ef_0 m x0 x1 x2) k
  obtain ⟨sx, hsx, ex⟩ := own_shl x0 x2
  obtain ⟨sy, hsy, ey⟩ := own_shl x1 ((x2.toUInt32 >>> ((5 : Int32) &&& 31).toUInt32).toInt32)
  have rx := rng32 x0
  have ry := rng32 x1
  have k1 : ∀ t, Steps p.tables e below (s₁.setTop (mkF m 26 #[.val (.int x0), .val (.int x1), .val (.int x2), .val (.int (x2 &&& (31 : Int32))), .val (.int (((x2.toUInt32 >>> ((5 : Int32) &&& 31).toUInt32).toInt32) &&& (31 : Int32))), .val (.long ((x0.toInt64) <<< ((x2 &&& (31 : Int32)) &&& 0x3f).toInt64)), .second, .val (.long ((x1.toInt64) <<< ((((x2.toUInt32 >>> ((5 : Int32) &&& 31).toUInt32).toInt32) &&& (31 : Int32)) &&& 0x3f).toInt64)), .second, .unset, .unset, .unset, .unset, .unset, .unset, .unset, .unset, .unset, .unset, .unset, .unset, .unset, .unset, .unset, .unset] [])) t → Steps p.tables e below (s₁.setTop (entryFrame m #[(.int x0), (.int x1), (.int x2)] maxLocals)) t := by
    intro t kt
    refine pre0 t ?_
    show Steps p.tables e below (s₁.setTop (mkF m 0 #[.val (.int x0), .val (.int x1), .val (.int x2), .unset, .unset, .unset, .unset, .unset, .unset, .unset, .unset, .unset, .unset, .unset, .unset, .unset, .unset, .unset, .unset, .unset, .unset, .unset, .unset, .unset, .unset] [])) _
    refine XS.iloadN X0.here hx rfl (hb hby at_0) rfl ?_
    show Steps p.tables e below (s₁.setTop (mkF m 1 #[.val (.int x0), .val (.int x1), .val (.int x2), .unset, .unset, .unset, .unset, .unset, .unset, .unset, .unset, .unset, .unset, .unset, .unset, .unset, .unset, .unset, .unset, .unset, .unset, .unset, .unset, .unset, .unset] [(.int x2)])) _
    refine XS.bipush X0.here hx rfl (hb hby at_1) ?_
    show Steps p.tables e below (s₁.setTop (mkF m 3 #[.val (.int x0), .val (.int x1), .val (.int x2), .unset, .unset, .unset, .unset, .unset, .unset, .unset, .unset, .unset, .unset, .unset, .unset, .unset, .unset, .unset, .unset, .unset, .unset, .unset, .unset, .unset, .unset] [(.int (31 : Int32)), (.int x2)])) _
    refine XS.iand X0.here hx rfl (hb hby at_3) rfl ?_
    show Steps p.tables e below (s₁.setTop (mkF m 4 #[.val (.int x0), .val (.int x1), .val (.int x2), .unset, .unset, .unset, .unset, .unset, .unset, .unset, .unset, .unset, .unset, .unset, .unset, .unset, .unset, .unset, .unset, .unset, .unset, .unset, .unset, .unset, .unset] [(.int (x2 &&& (31 : Int32)))])) _
    refine XS.istoreN X0.here hx rfl (hb hby at_4) rfl (l' := #[.val (.int x0), .val (.int x1), .val (.int x2), .val (.int (x2 &&& (31 : Int32))), .unset, .unset, .unset, .unset, .unset, .unset, .unset, .unset, .unset, .unset, .unset, .unset, .unset, .unset, .unset, .unset, .unset, .unset, .unset, .unset, .unset]) rfl ?_
    show Steps p.tables e below (s₁.setTop (mkF m 5 #[.val (.int x0), .val (.int x1), .val (.int x2), .val (.int (x2 &&& (31 : Int32))), .unset, .unset, .unset, .unset, .unset, .unset, .unset, .unset, .unset, .unset, .unset, .unset, .unset, .unset, .unset, .unset, .unset, .unset, .unset, .unset, .unset] [])) _
    refine XS.iloadN X0.here hx rfl (hb hby at_5) rfl ?_
    show Steps p.tables e below (s₁.setTop (mkF m 6 #[.val (.int x0), .val (.int x1), .val (.int x2), .val (.int (x2 &&& (31 : Int32))), .unset, .unset, .unset, .unset, .unset, .unset, .unset, .unset, .unset, .unset, .unset, .unset, .unset, .unset, .unset, .unset, .unset, .unset, .unset, .unset, .unset] [(.int x2)])) _
    refine XS.iconst X0.here hx rfl (hb hby at_6) ?_
    show Steps p.tables e below (s₁.setTop (mkF m 7 #[.val (.int x0), .val (.int x1), .val (.int x2), .val (.int (x2 &&& (31 : Int32))), .unset, .unset, .unset, .unset, .unset, .unset, .unset, .unset, .unset, .unset, .unset, .unset, .unset, .unset, .unset, .unset, .unset, .unset, .unset, .unset, .unset] [(.int (5 : Int32)), (.int x2)])) _
    refine XS.iushr X0.here hx rfl (hb hby at_7) rfl ?_
    show Steps p.tables e below (s₁.setTop (mkF m 8 #[.val (.int x0), .val (.int x1), .val (.int x2), .val (.int (x2 &&& (31 : Int32))), .unset, .unset, .unset, .unset, .unset, .unset, .unset, .unset, .unset, .unset, .unset, .unset, .unset, .unset, .unset, .unset, .unset, .unset, .unset, .unset, .unset] [(.int ((x2.toUInt32 >>> ((5 : Int32) &&& 31).toUInt32).toInt32))])) _
    refine XS.bipush X0.here hx rfl (hb hby at_8) ?_
    show Steps p.tables e below (s₁.setTop (mkF m 10 #[.val (.int x0), .val (.int x1), .val (.int x2), .val (.int (x2 &&& (31 : Int32))), .unset, .unset, .unset, .unset, .unset, .unset, .unset, .unset, .unset, .unset, .unset, .unset, .unset, .unset, .unset, .unset, .unset, .unset, .unset, .unset, .unset] [(.int (31 : Int32)), (.int ((x2.toUInt32 >>> ((5 : Int32) &&& 31).toUInt32).toInt32))])) _
    refine XS.iand X0.here hx rfl (hb hby at_10) rfl ?_
    show Steps p.tables e below (s₁.setTop (mkF m 11 #[.val (.int x0), .val (.int x1), .val (.int x2), .val (.int (x2 &&& (31 : Int32))), .unset, .unset, .unset, .unset, .unset, .unset, .unset, .unset, .unset, .unset, .unset, .unset, .unset, .unset, .unset, .unset, .unset, .unset, .unset, .unset, .unset] [(.int (((x2.toUInt32 >>> ((5 : Int32) &&& 31).toUInt32).toInt32) &&& (31 : Int32)))])) _
    refine XS.istore X0.here hx rfl (hb hby at_11) rfl (l' := #[.val (.int x0), .val (.int x1), .val (.int x2), .val (.int (x2 &&& (31 : Int32))), .val (.int (((x2.toUInt32 >>> ((5 : Int32) &&& 31).toUInt32).toInt32) &&& (31 : Int32))), .unset, .unset, .unset, .unset, .unset, .unset, .unset, .unset, .unset, .unset, .unset, .unset, .unset, .unset, .unset, .unset, .unset, .unset, .unset, .unset]) rfl ?_
    show Steps p.tables e below (s₁.setTop (mkF m 13 #[.val (.int x0), .val (.int x1), .val (.int x2), .val (.int (x2 &&& (31 : Int32))), .val (.int (((x2.toUInt32 >>> ((5 : Int32) &&& 31).toUInt32).toInt32) &&& (31 : Int32))), .unset, .unset, .unset, .unset, .unset, .unset, .unset, .unset, .unset, .unset, .unset, .unset, .unset, .unset, .unset, .unset, .unset, .unset, .unset, .unset] [])) _
    refine XS.iloadN X0.here hx rfl (hb hby at_13) rfl ?_
    show Steps p.tables e below (s₁.setTop (mkF m 14 #[.val (.int x0), .val (.int x1), .val (.int x2), .val (.int (x2 &&& (31 : Int32))), .val (.int (((x2.toUInt32 >>> ((5 : Int32) &&& 31).toUInt32).toInt32) &&& (31 : Int32))), .unset, .unset, .unset, .unset, .unset, .unset, .unset, .unset, .unset, .unset, .unset, .unset, .unset, .unset, .unset, .unset, .unset, .unset, .unset, .unset] [(.int x0)])) _
    refine XS.i2l X0.here hx rfl (hb hby at_14) rfl ?_
    show Steps p.tables e below (s₁.setTop (mkF m 15 #[.val (.int x0), .val (.int x1), .val (.int x2), .val (.int (x2 &&& (31 : Int32))), .val (.int (((x2.toUInt32 >>> ((5 : Int32) &&& 31).toUInt32).toInt32) &&& (31 : Int32))), .unset, .unset, .unset, .unset, .unset, .unset, .unset, .unset, .unset, .unset, .unset, .unset, .unset, .unset, .unset, .unset, .unset, .unset, .unset, .unset] [(.long (x0.toInt64))])) _
    refine XS.iloadN X0.here hx rfl (hb hby at_15) rfl ?_
    show Steps p.tables e below (s₁.setTop (mkF m 16 #[.val (.int x0), .val (.int x1), .val (.int x2), .val (.int (x2 &&& (31 : Int32))), .val (.int (((x2.toUInt32 >>> ((5 : Int32) &&& 31).toUInt32).toInt32) &&& (31 : Int32))), .unset, .unset, .unset, .unset, .unset, .unset, .unset, .unset, .unset, .unset, .unset, .unset, .unset, .unset, .unset, .unset, .unset, .unset, .unset, .unset] [(.int (x2 &&& (31 : Int32))), (.long (x0.toInt64))])) _
    refine XS.lshl X0.here hx rfl (hb hby at_16) rfl ?_
    show Steps p.tables e below (s₁.setTop (mkF m 17 #[.val (.int x0), .val (.int x1), .val (.int x2), .val (.int (x2 &&& (31 : Int32))), .val (.int (((x2.toUInt32 >>> ((5 : Int32) &&& 31).toUInt32).toInt32) &&& (31 : Int32))), .unset, .unset, .unset, .unset, .unset, .unset, .unset, .unset, .unset, .unset, .unset, .unset, .unset, .unset, .unset, .unset, .unset, .unset, .unset, .unset] [(.long ((x0.toInt64) <<< ((x2 &&& (31 : Int32)) &&& 0x3f).toInt64))])) _
    refine XS.lstore X0.here hx rfl (hb hby at_17) rfl (l' := #[.val (.int x0), .val (.int x1), .val (.int x2), .val (.int (x2 &&& (31 : Int32))), .val (.int (((x2.toUInt32 >>> ((5 : Int32) &&& 31).toUInt32).toInt32) &&& (31 : Int32))), .val (.long ((x0.toInt64) <<< ((x2 &&& (31 : Int32)) &&& 0x3f).toInt64)), .second, .unset, .unset, .unset, .unset, .unset, .unset, .unset, .unset, .unset, .unset, .unset, .unset, .unset, .unset, .unset, .unset, .unset, .unset]) rfl ?_
    show Steps p.tables e below (s₁.setTop (mkF m 19 #[.val (.int x0), .val (.int x1), .val (.int x2), .val (.int (x2 &&& (31 : Int32))), .val (.int (((x2.toUInt32 >>> ((5 : Int32) &&& 31).toUInt32).toInt32) &&& (31 : Int32))), .val (.long ((x0.toInt64) <<< ((x2 &&& (31 : Int32)) &&& 0x3f).toInt64)), .second, .unset, .unset, .unset, .unset, .unset, .unset, .unset, .unset, .unset, .unset, .unset, .unset, .unset, .unset, .unset, .unset, .unset, .unset] [])) _
    refine XS.iloadN X0.here hx rfl (hb hby at_19) rfl ?_
    show Steps p.tables e below (s₁.setTop (mkF m 20 #[.val (.int x0), .val (.int x1), .val (.int x2), .val (.int (x2 &&& (31 : Int32))), .val (.int (((x2.toUInt32 >>> ((5 : Int32) &&& 31).toUInt32).toInt32) &&& (31 : Int32))), .val (.long ((x0.toInt64) <<< ((x2 &&& (31 : Int32)) &&& 0x3f).toInt64)), .second, .unset, .unset, .unset, .unset, .unset, .unset, .unset, .unset, .unset, .unset, .unset, .unset, .unset, .unset, .unset, .unset, .unset, .unset] [(.int x1)])) _
    refine XS.i2l X0.here hx rfl (hb hby at_20) rfl ?_
    show Steps p.tables e below (s₁.setTop (mkF m 21 #[.val (.int x0), .val (.int x1), .val (.int x2), .val (.int (x2 &&& (31 : Int32))), .val (.int (((x2.toUInt32 >>> ((5 : Int32) &&& 31).toUInt32).toInt32) &&& (31 : Int32))), .val (.long ((x0.toInt64) <<< ((x2 &&& (31 : Int32)) &&& 0x3f).toInt64)), .second, .unset, .unset, .unset, .unset, .unset, .unset, .unset, .unset, .unset, .unset, .unset, .unset, .unset, .unset, .unset, .unset, .unset, .unset] [(.long (x1.toInt64))])) _
    refine XS.iload X0.here hx rfl (hb hby at_21) rfl ?_
    show Steps p.tables e below (s₁.setTop (mkF m 23 #[.val (.int x0), .val (.int x1), .val (.int x2), .val (.int (x2 &&& (31 : Int32))), .val (.int (((x2.toUInt32 >>> ((5 : Int32) &&& 31).toUInt32).toInt32) &&& (31 : Int32))), .val (.long ((x0.toInt64) <<< ((x2 &&& (31 : Int32)) &&& 0x3f).toInt64)), .second, .unset, .unset, .unset, .unset, .unset, .unset, .unset, .unset, .unset, .unset, .unset, .unset, .unset, .unset, .unset, .unset, .unset, .unset] [(.int (((x2.toUInt32 >>> ((5 : Int32) &&& 31).toUInt32).toInt32) &&& (31 : Int32))), (.long (x1.toInt64))])) _
    refine XS.lshl X0.here hx rfl (hb hby at_23) rfl ?_
    show Steps p.tables e below (s₁.setTop (mkF m 24 #[.val (.int x0), .val (.int x1), .val (.int x2), .val (.int (x2 &&& (31 : Int32))), .val (.int (((x2.toUInt32 >>> ((5 : Int32) &&& 31).toUInt32).toInt32) &&& (31 : Int32))), .val (.long ((x0.toInt64) <<< ((x2 &&& (31 : Int32)) &&& 0x3f).toInt64)), .second, .unset, .unset, .unset, .unset, .unset, .unset, .unset, .unset, .unset, .unset, .unset, .unset, .unset, .unset, .unset, .unset, .unset, .unset] [(.long ((x1.toInt64) <<< ((((x2.toUInt32 >>> ((5 : Int32) &&& 31).toUInt32).toInt32) &&& (31 : Int32)) &&& 0x3f).toInt64))])) _
    refine XS.lstore X0.here hx rfl (hb hby at_24) rfl (l' := #[.val (.int x0), .val (.int x1), .val (.int x2), .val (.int (x2 &&& (31 : Int32))), .val (.int (((x2.toUInt32 >>> ((5 : Int32) &&& 31).toUInt32).toInt32) &&& (31 : Int32))), .val (.long ((x0.toInt64) <<< ((x2 &&& (31 : Int32)) &&& 0x3f).toInt64)), .second, .val (.long ((x1.toInt64) <<< ((((x2.toUInt32 >>> ((5 : Int32) &&& 31).toUInt32).toInt32) &&& (31 : Int32)) &&& 0x3f).toInt64)), .second, .unset, .unset, .unset, .unset, .unset, .unset, .unset, .unset, .unset, .unset, .unset, .unset, .unset, .unset, .unset, .unset]) rfl ?_
    exact kt
  obtain ⟨xl, h_xl⟩ : ∃ z : Int64, z = ((x0.toInt64) <<< ((x2 &&& (31 : Int32)) &&& 0x3f).toInt64) := ⟨_, rfl⟩
  rw [← h_xl] at k1
  obtain ⟨yl, h_yl⟩ : ∃ z : Int64, z = ((x1.toInt64) <<< ((((x2.toUInt32 >>> ((5 : Int32) &&& 31).toUInt32).toInt32) &&& (31 : Int32)) &&& 0x3f).toInt64) := ⟨_, rfl⟩
  rw [← h_yl] at k1
  rw [← h_xl] at ex
  rw [← h_yl] at ey
  obtain ⟨ok1, ok2, fS, c1, c2⟩ := own_twosum hsx hsy ex ey (by omega) (by omega) (by omega) (by omega)
  obtain ⟨_, _, ⟨T2, L2, kc2, ks2⟩, -, X2, ⟨Lc2, hQ2, l2, y2, z2⟩, st2⟩ := Jvm.LawKit.callS X0 hx (y := (⟨"com/example/pival/pival/CompensatedSum", "roundingOfSum", "(DDD)D"⟩ : MethodName)) hown (mvT hZ (wd0 hw)) (mvT hZ (wd1 hw)) (mvT hZ (wd2 hw)) (mvT hZ (wd3 hw)) (by decide) (backOf (W := 0) (rmRs l Z a0 hw [] (FP.l2d xl) (FP.l2d yl) (FP.dadd (FP.l2d xl) (FP.l2d yl)) h0 n0 Z0 ok1) hZ (wd3 hw) (wd2 hw) (by decide) (by decide)) (g := (mkF m 69 #[.val (.int x0), .val (.int x1), .val (.int x2), .val (.int (x2 &&& (31 : Int32))), .val (.int (((x2.toUInt32 >>> ((5 : Int32) &&& 31).toUInt32).toInt32) &&& (31 : Int32))), .val (.long xl), .second, .val (.long yl), .second, .val (.double (FP.l2d xl)), .second, .val (.double (FP.l2d yl)), .second, .val (.double (FP.dadd (FP.l2d xl) (FP.l2d yl))), .second, .val (.long (xl + yl)), .second, .val (.long ((xl + yl) - (FP.d2l (FP.dadd (FP.l2d xl) (FP.l2d yl))))), .second, .val (.double (FP.l2d ((xl + yl) - (FP.d2l (FP.dadd (FP.l2d xl) (FP.l2d yl)))))), .second, .unset, .unset, .unset, .unset] [(.double (FP.dadd (FP.l2d xl) (FP.l2d yl))), (.double (FP.l2d yl)), (.double (FP.l2d xl))])) rfl (by rw [hml]; rfl) (argsL := [(.double (FP.l2d xl)), (.double (FP.l2d yl)), (.double (FP.dadd (FP.l2d xl) (FP.l2d yl)))]) (rest := []) (lenOf pd__DDD_D rfl) rfl (by show 2 * 0 + _ ≤ _; exact Nat.le_of_eq rfl) (hb hby at_69) (fun _ _ => ⟨rfl, e0, (by decide : 0 + 0 ≤ _), (by decide : 0 + 0 ≤ _)⟩)
  dsimp only [Pt.U, Pt.locs, Pt.cells, Pt.slots] at X2 l2 y2 z2 st2 hQ2
  subst l2 y2 z2
  obtain ⟨rfl, Nq2, eq2⟩ := hQ2
  have N2 := Fr.app N0 Nq2
  obtain ⟨_, _, ⟨T3, L3, kc3, ks3⟩, -, X3, ⟨Lc3, hQ3, l3, y3, z3⟩, st3⟩ := Jvm.LawKit.callS X2 hx (y := (⟨"com/example/pival/pival/CompensatedSum", "roundingOfSum", "(DDD)D"⟩ : MethodName)) hown (mvT hZ (wd0 hw)) (mvT hZ (wd1 hw)) (mvT hZ (wd2 hw)) (mvT hZ (wd3 hw)) (by decide) (backOf (W := 0) (rmRs l Z a0 hw [] (FP.l2d yl) (FP.l2d xl) (FP.dadd (FP.l2d xl) (FP.l2d yl)) h0 n0 Z0 ok2) hZ (wd3 hw) (wd2 hw) (by decide) (by decide)) (g := (mkF m 80 #[.val (.int x0), .val (.int x1), .val (.int x2), .val (.int (x2 &&& (31 : Int32))), .val (.int (((x2.toUInt32 >>> ((5 : Int32) &&& 31).toUInt32).toInt32) &&& (31 : Int32))), .val (.long xl), .second, .val (.long yl), .second, .val (.double (FP.l2d xl)), .second, .val (.double (FP.l2d yl)), .second, .val (.double (FP.dadd (FP.l2d xl) (FP.l2d yl))), .second, .val (.long (xl + yl)), .second, .val (.long ((xl + yl) - (FP.d2l (FP.dadd (FP.l2d xl) (FP.l2d yl))))), .second, .val (.double (FP.l2d ((xl + yl) - (FP.d2l (FP.dadd (FP.l2d xl) (FP.l2d yl)))))), .second, .val (.double (own_sum (FP.l2d xl) (FP.l2d yl) (FP.dadd (FP.l2d xl) (FP.l2d yl)))), .second, .unset, .unset] [(.double (FP.dadd (FP.l2d xl) (FP.l2d yl))), (.double (FP.l2d xl)), (.double (FP.l2d yl))])) rfl (by rw [hml]; rfl) (argsL := [(.double (FP.l2d yl)), (.double (FP.l2d xl)), (.double (FP.dadd (FP.l2d xl) (FP.l2d yl)))]) (rest := []) (lenOf pd__DDD_D rfl) rfl (by show 2 * 0 + _ ≤ _; exact Nat.le_of_eq rfl) (hb hby at_80) (fun _ _ => ⟨rfl, eq2, (by decide : 0 + 0 ≤ _), (by decide : 0 + 0 ≤ _)⟩)
  dsimp only [Pt.U, Pt.locs, Pt.cells, Pt.slots] at X3 l3 y3 z3 st3 hQ3
  subst l3 y3 z3
  obtain ⟨rfl, Nq3, eq3⟩ := hQ3
  have N3 := Fr.app N2 Nq3
  obtain ⟨lfs, lhr, lhrun, lhended, lhW, lhsame⟩ := X3.leave (v := some (.int (1 : Int32))) (fun h => by rw [Bd.returns] at h; cases h)
  refine ⟨_, _, k1 _ ?_, lhrun, lhended, _, _, rfl, ?_, ⟨_, rfl⟩, lhW, lhsame.mono (by decide) (by decide)⟩
  · skip
    show Steps p.tables e below (s₁.setTop (mkF m 26 #[.val (.int x0), .val (.int x1), .val (.int x2), .val (.int (x2 &&& (31 : Int32))), .val (.int (((x2.toUInt32 >>> ((5 : Int32) &&& 31).toUInt32).toInt32) &&& (31 : Int32))), .val (.long xl), .second, .val (.long yl), .second, .unset, .unset, .unset, .unset, .unset, .unset, .unset, .unset, .unset, .unset, .unset, .unset, .unset, .unset, .unset, .unset] [])) _
    refine XS.lload X0.here hx rfl (hb hby at_26) rfl ?_
    show Steps p.tables e below (s₁.setTop (mkF m 28 #[.val (.int x0), .val (.int x1), .val (.int x2), .val (.int (x2 &&& (31 : Int32))), .val (.int (((x2.toUInt32 >>> ((5 : Int32) &&& 31).toUInt32).toInt32) &&& (31 : Int32))), .val (.long xl), .second, .val (.long yl), .second, .unset, .unset, .unset, .unset, .unset, .unset, .unset, .unset, .unset, .unset, .unset, .unset, .unset, .unset, .unset, .unset] [(.long xl)])) _
    refine XS.l2dS X0.here hx rfl (hb hby at_28) rfl rfl ?_
    show Steps p.tables e below (s₁.setTop (mkF m 29 #[.val (.int x0), .val (.int x1), .val (.int x2), .val (.int (x2 &&& (31 : Int32))), .val (.int (((x2.toUInt32 >>> ((5 : Int32) &&& 31).toUInt32).toInt32) &&& (31 : Int32))), .val (.long xl), .second, .val (.long yl), .second, .unset, .unset, .unset, .unset, .unset, .unset, .unset, .unset, .unset, .unset, .unset, .unset, .unset, .unset, .unset, .unset] [(.double (FP.l2d xl))])) _
    refine XS.dstore X0.here hx rfl (hb hby at_29) rfl (l' := #[.val (.int x0), .val (.int x1), .val (.int x2), .val (.int (x2 &&& (31 : Int32))), .val (.int (((x2.toUInt32 >>> ((5 : Int32) &&& 31).toUInt32).toInt32) &&& (31 : Int32))), .val (.long xl), .second, .val (.long yl), .second, .val (.double (FP.l2d xl)), .second, .unset, .unset, .unset, .unset, .unset, .unset, .unset, .unset, .unset, .unset, .unset, .unset, .unset, .unset]) rfl ?_
    show Steps p.tables e below (s₁.setTop (mkF m 31 #[.val (.int x0), .val (.int x1), .val (.int x2), .val (.int (x2 &&& (31 : Int32))), .val (.int (((x2.toUInt32 >>> ((5 : Int32) &&& 31).toUInt32).toInt32) &&& (31 : Int32))), .val (.long xl), .second, .val (.long yl), .second, .val (.double (FP.l2d xl)), .second, .unset, .unset, .unset, .unset, .unset, .unset, .unset, .unset, .unset, .unset, .unset, .unset, .unset, .unset] [])) _
    refine XS.lload X0.here hx rfl (hb hby at_31) rfl ?_
    show Steps p.tables e below (s₁.setTop (mkF m 33 #[.val (.int x0), .val (.int x1), .val (.int x2), .val (.int (x2 &&& (31 : Int32))), .val (.int (((x2.toUInt32 >>> ((5 : Int32) &&& 31).toUInt32).toInt32) &&& (31 : Int32))), .val (.long xl), .second, .val (.long yl), .second, .val (.double (FP.l2d xl)), .second, .unset, .unset, .unset, .unset, .unset, .unset, .unset, .unset, .unset, .unset, .unset, .unset, .unset, .unset] [(.long yl)])) _
    refine XS.l2dS X0.here hx rfl (hb hby at_33) rfl rfl ?_
    show Steps p.tables e below (s₁.setTop (mkF m 34 #[.val (.int x0), .val (.int x1), .val (.int x2), .val (.int (x2 &&& (31 : Int32))), .val (.int (((x2.toUInt32 >>> ((5 : Int32) &&& 31).toUInt32).toInt32) &&& (31 : Int32))), .val (.long xl), .second, .val (.long yl), .second, .val (.double (FP.l2d xl)), .second, .unset, .unset, .unset, .unset, .unset, .unset, .unset, .unset, .unset, .unset, .unset, .unset, .unset, .unset] [(.double (FP.l2d yl))])) _
    refine XS.dstore X0.here hx rfl (hb hby at_34) rfl (l' := #[.val (.int x0), .val (.int x1), .val (.int x2), .val (.int (x2 &&& (31 : Int32))), .val (.int (((x2.toUInt32 >>> ((5 : Int32) &&& 31).toUInt32).toInt32) &&& (31 : Int32))), .val (.long xl), .second, .val (.long yl), .second, .val (.double (FP.l2d xl)), .second, .val (.double (FP.l2d yl)), .second, .unset, .unset, .unset, .unset, .unset, .unset, .unset, .unset, .unset, .unset, .unset, .unset]) rfl ?_
    show Steps p.tables e below (s₁.setTop (mkF m 36 #[.val (.int x0), .val (.int x1), .val (.int x2), .val (.int (x2 &&& (31 : Int32))), .val (.int (((x2.toUInt32 >>> ((5 : Int32) &&& 31).toUInt32).toInt32) &&& (31 : Int32))), .val (.long xl), .second, .val (.long yl), .second, .val (.double (FP.l2d xl)), .second, .val (.double (FP.l2d yl)), .second, .unset, .unset, .unset, .unset, .unset, .unset, .unset, .unset, .unset, .unset, .unset, .unset] [])) _
    refine XS.dload X0.here hx rfl (hb hby at_36) rfl ?_
    show Steps p.tables e below (s₁.setTop (mkF m 38 #[.val (.int x0), .val (.int x1), .val (.int x2), .val (.int (x2 &&& (31 : Int32))), .val (.int (((x2.toUInt32 >>> ((5 : Int32) &&& 31).toUInt32).toInt32) &&& (31 : Int32))), .val (.long xl), .second, .val (.long yl), .second, .val (.double (FP.l2d xl)), .second, .val (.double (FP.l2d yl)), .second, .unset, .unset, .unset, .unset, .unset, .unset, .unset, .unset, .unset, .unset, .unset, .unset] [(.double (FP.l2d xl))])) _
    refine XS.dload X0.here hx rfl (hb hby at_38) rfl ?_
    show Steps p.tables e below (s₁.setTop (mkF m 40 #[.val (.int x0), .val (.int x1), .val (.int x2), .val (.int (x2 &&& (31 : Int32))), .val (.int (((x2.toUInt32 >>> ((5 : Int32) &&& 31).toUInt32).toInt32) &&& (31 : Int32))), .val (.long xl), .second, .val (.long yl), .second, .val (.double (FP.l2d xl)), .second, .val (.double (FP.l2d yl)), .second, .unset, .unset, .unset, .unset, .unset, .unset, .unset, .unset, .unset, .unset, .unset, .unset] [(.double (FP.l2d yl)), (.double (FP.l2d xl))])) _
    refine XS.daddS X0.here hx rfl (hb hby at_40) rfl ((Jvm.Free.Fl.fin64_core.mpr fS).noNaN) rfl ?_
    show Steps p.tables e below (s₁.setTop (mkF m 41 #[.val (.int x0), .val (.int x1), .val (.int x2), .val (.int (x2 &&& (31 : Int32))), .val (.int (((x2.toUInt32 >>> ((5 : Int32) &&& 31).toUInt32).toInt32) &&& (31 : Int32))), .val (.long xl), .second, .val (.long yl), .second, .val (.double (FP.l2d xl)), .second, .val (.double (FP.l2d yl)), .second, .unset, .unset, .unset, .unset, .unset, .unset, .unset, .unset, .unset, .unset, .unset, .unset] [(.double (FP.dadd (FP.l2d xl) (FP.l2d yl)))])) _
    refine XS.dstore X0.here hx rfl (hb hby at_41) rfl (l' := #[.val (.int x0), .val (.int x1), .val (.int x2), .val (.int (x2 &&& (31 : Int32))), .val (.int (((x2.toUInt32 >>> ((5 : Int32) &&& 31).toUInt32).toInt32) &&& (31 : Int32))), .val (.long xl), .second, .val (.long yl), .second, .val (.double (FP.l2d xl)), .second, .val (.double (FP.l2d yl)), .second, .val (.double (FP.dadd (FP.l2d xl) (FP.l2d yl))), .second, .unset, .unset, .unset, .unset, .unset, .unset, .unset, .unset, .unset, .unset]) rfl ?_
    show Steps p.tables e below (s₁.setTop (mkF m 43 #[.val (.int x0), .val (.int x1), .val (.int x2), .val (.int (x2 &&& (31 : Int32))), .val (.int (((x2.toUInt32 >>> ((5 : Int32) &&& 31).toUInt32).toInt32) &&& (31 : Int32))), .val (.long xl), .second, .val (.long yl), .second, .val (.double (FP.l2d xl)), .second, .val (.double (FP.l2d yl)), .second, .val (.double (FP.dadd (FP.l2d xl) (FP.l2d yl))), .second, .unset, .unset, .unset, .unset, .unset, .unset, .unset, .unset, .unset, .unset] [])) _
    refine XS.lload X0.here hx rfl (hb hby at_43) rfl ?_
    show Steps p.tables e below (s₁.setTop (mkF m 45 #[.val (.int x0), .val (.int x1), .val (.int x2), .val (.int (x2 &&& (31 : Int32))), .val (.int (((x2.toUInt32 >>> ((5 : Int32) &&& 31).toUInt32).toInt32) &&& (31 : Int32))), .val (.long xl), .second, .val (.long yl), .second, .val (.double (FP.l2d xl)), .second, .val (.double (FP.l2d yl)), .second, .val (.double (FP.dadd (FP.l2d xl) (FP.l2d yl))), .second, .unset, .unset, .unset, .unset, .unset, .unset, .unset, .unset, .unset, .unset] [(.long xl)])) _
    refine XS.lload X0.here hx rfl (hb hby at_45) rfl ?_
    show Steps p.tables e below (s₁.setTop (mkF m 47 #[.val (.int x0), .val (.int x1), .val (.int x2), .val (.int (x2 &&& (31 : Int32))), .val (.int (((x2.toUInt32 >>> ((5 : Int32) &&& 31).toUInt32).toInt32) &&& (31 : Int32))), .val (.long xl), .second, .val (.long yl), .second, .val (.double (FP.l2d xl)), .second, .val (.double (FP.l2d yl)), .second, .val (.double (FP.dadd (FP.l2d xl) (FP.l2d yl))), .second, .unset, .unset, .unset, .unset, .unset, .unset, .unset, .unset, .unset, .unset] [(.long yl), (.long xl)])) _
    refine XS.ladd X0.here hx rfl (hb hby at_47) rfl ?_
    show Steps p.tables e below (s₁.setTop (mkF m 48 #[.val (.int x0), .val (.int x1), .val (.int x2), .val (.int (x2 &&& (31 : Int32))), .val (.int (((x2.toUInt32 >>> ((5 : Int32) &&& 31).toUInt32).toInt32) &&& (31 : Int32))), .val (.long xl), .second, .val (.long yl), .second, .val (.double (FP.l2d xl)), .second, .val (.double (FP.l2d yl)), .second, .val (.double (FP.dadd (FP.l2d xl) (FP.l2d yl))), .second, .unset, .unset, .unset, .unset, .unset, .unset, .unset, .unset, .unset, .unset] [(.long (xl + yl))])) _
    refine XS.lstore X0.here hx rfl (hb hby at_48) rfl (l' := #[.val (.int x0), .val (.int x1), .val (.int x2), .val (.int (x2 &&& (31 : Int32))), .val (.int (((x2.toUInt32 >>> ((5 : Int32) &&& 31).toUInt32).toInt32) &&& (31 : Int32))), .val (.long xl), .second, .val (.long yl), .second, .val (.double (FP.l2d xl)), .second, .val (.double (FP.l2d yl)), .second, .val (.double (FP.dadd (FP.l2d xl) (FP.l2d yl))), .second, .val (.long (xl + yl)), .second, .unset, .unset, .unset, .unset, .unset, .unset, .unset, .unset]) rfl ?_
    show Steps p.tables e below (s₁.setTop (mkF m 50 #[.val (.int x0), .val (.int x1), .val (.int x2), .val (.int (x2 &&& (31 : Int32))), .val (.int (((x2.toUInt32 >>> ((5 : Int32) &&& 31).toUInt32).toInt32) &&& (31 : Int32))), .val (.long xl), .second, .val (.long yl), .second, .val (.double (FP.l2d xl)), .second, .val (.double (FP.l2d yl)), .second, .val (.double (FP.dadd (FP.l2d xl) (FP.l2d yl))), .second, .val (.long (xl + yl)), .second, .unset, .unset, .unset, .unset, .unset, .unset, .unset, .unset] [])) _
    refine XS.lload X0.here hx rfl (hb hby at_50) rfl ?_
    show Steps p.tables e below (s₁.setTop (mkF m 52 #[.val (.int x0), .val (.int x1), .val (.int x2), .val (.int (x2 &&& (31 : Int32))), .val (.int (((x2.toUInt32 >>> ((5 : Int32) &&& 31).toUInt32).toInt32) &&& (31 : Int32))), .val (.long xl), .second, .val (.long yl), .second, .val (.double (FP.l2d xl)), .second, .val (.double (FP.l2d yl)), .second, .val (.double (FP.dadd (FP.l2d xl) (FP.l2d yl))), .second, .val (.long (xl + yl)), .second, .unset, .unset, .unset, .unset, .unset, .unset, .unset, .unset] [(.long (xl + yl))])) _
    refine XS.dload X0.here hx rfl (hb hby at_52) rfl ?_
    show Steps p.tables e below (s₁.setTop (mkF m 54 #[.val (.int x0), .val (.int x1), .val (.int x2), .val (.int (x2 &&& (31 : Int32))), .val (.int (((x2.toUInt32 >>> ((5 : Int32) &&& 31).toUInt32).toInt32) &&& (31 : Int32))), .val (.long xl), .second, .val (.long yl), .second, .val (.double (FP.l2d xl)), .second, .val (.double (FP.l2d yl)), .second, .val (.double (FP.dadd (FP.l2d xl) (FP.l2d yl))), .second, .val (.long (xl + yl)), .second, .unset, .unset, .unset, .unset, .unset, .unset, .unset, .unset] [(.double (FP.dadd (FP.l2d xl) (FP.l2d yl))), (.long (xl + yl))])) _
    refine XS.d2lS X0.here hx rfl (hb hby at_54) rfl rfl ?_
    show Steps p.tables e below (s₁.setTop (mkF m 55 #[.val (.int x0), .val (.int x1), .val (.int x2), .val (.int (x2 &&& (31 : Int32))), .val (.int (((x2.toUInt32 >>> ((5 : Int32) &&& 31).toUInt32).toInt32) &&& (31 : Int32))), .val (.long xl), .second, .val (.long yl), .second, .val (.double (FP.l2d xl)), .second, .val (.double (FP.l2d yl)), .second, .val (.double (FP.dadd (FP.l2d xl) (FP.l2d yl))), .second, .val (.long (xl + yl)), .second, .unset, .unset, .unset, .unset, .unset, .unset, .unset, .unset] [(.long (FP.d2l (FP.dadd (FP.l2d xl) (FP.l2d yl)))), (.long (xl + yl))])) _
    refine XS.lsub X0.here hx rfl (hb hby at_55) rfl ?_
    show Steps p.tables e below (s₁.setTop (mkF m 56 #[.val (.int x0), .val (.int x1), .val (.int x2), .val (.int (x2 &&& (31 : Int32))), .val (.int (((x2.toUInt32 >>> ((5 : Int32) &&& 31).toUInt32).toInt32) &&& (31 : Int32))), .val (.long xl), .second, .val (.long yl), .second, .val (.double (FP.l2d xl)), .second, .val (.double (FP.l2d yl)), .second, .val (.double (FP.dadd (FP.l2d xl) (FP.l2d yl))), .second, .val (.long (xl + yl)), .second, .unset, .unset, .unset, .unset, .unset, .unset, .unset, .unset] [(.long ((xl + yl) - (FP.d2l (FP.dadd (FP.l2d xl) (FP.l2d yl)))))])) _
    refine XS.lstore X0.here hx rfl (hb hby at_56) rfl (l' := #[.val (.int x0), .val (.int x1), .val (.int x2), .val (.int (x2 &&& (31 : Int32))), .val (.int (((x2.toUInt32 >>> ((5 : Int32) &&& 31).toUInt32).toInt32) &&& (31 : Int32))), .val (.long xl), .second, .val (.long yl), .second, .val (.double (FP.l2d xl)), .second, .val (.double (FP.l2d yl)), .second, .val (.double (FP.dadd (FP.l2d xl) (FP.l2d yl))), .second, .val (.long (xl + yl)), .second, .val (.long ((xl + yl) - (FP.d2l (FP.dadd (FP.l2d xl) (FP.l2d yl))))), .second, .unset, .unset, .unset, .unset, .unset, .unset]) rfl ?_
    show Steps p.tables e below (s₁.setTop (mkF m 58 #[.val (.int x0), .val (.int x1), .val (.int x2), .val (.int (x2 &&& (31 : Int32))), .val (.int (((x2.toUInt32 >>> ((5 : Int32) &&& 31).toUInt32).toInt32) &&& (31 : Int32))), .val (.long xl), .second, .val (.long yl), .second, .val (.double (FP.l2d xl)), .second, .val (.double (FP.l2d yl)), .second, .val (.double (FP.dadd (FP.l2d xl) (FP.l2d yl))), .second, .val (.long (xl + yl)), .second, .val (.long ((xl + yl) - (FP.d2l (FP.dadd (FP.l2d xl) (FP.l2d yl))))), .second, .unset, .unset, .unset, .unset, .unset, .unset] [])) _
    refine XS.lload X0.here hx rfl (hb hby at_58) rfl ?_
    show Steps p.tables e below (s₁.setTop (mkF m 60 #[.val (.int x0), .val (.int x1), .val (.int x2), .val (.int (x2 &&& (31 : Int32))), .val (.int (((x2.toUInt32 >>> ((5 : Int32) &&& 31).toUInt32).toInt32) &&& (31 : Int32))), .val (.long xl), .second, .val (.long yl), .second, .val (.double (FP.l2d xl)), .second, .val (.double (FP.l2d yl)), .second, .val (.double (FP.dadd (FP.l2d xl) (FP.l2d yl))), .second, .val (.long (xl + yl)), .second, .val (.long ((xl + yl) - (FP.d2l (FP.dadd (FP.l2d xl) (FP.l2d yl))))), .second, .unset, .unset, .unset, .unset, .unset, .unset] [(.long ((xl + yl) - (FP.d2l (FP.dadd (FP.l2d xl) (FP.l2d yl)))))])) _
    refine XS.l2dS X0.here hx rfl (hb hby at_60) rfl rfl ?_
    show Steps p.tables e below (s₁.setTop (mkF m 61 #[.val (.int x0), .val (.int x1), .val (.int x2), .val (.int (x2 &&& (31 : Int32))), .val (.int (((x2.toUInt32 >>> ((5 : Int32) &&& 31).toUInt32).toInt32) &&& (31 : Int32))), .val (.long xl), .second, .val (.long yl), .second, .val (.double (FP.l2d xl)), .second, .val (.double (FP.l2d yl)), .second, .val (.double (FP.dadd (FP.l2d xl) (FP.l2d yl))), .second, .val (.long (xl + yl)), .second, .val (.long ((xl + yl) - (FP.d2l (FP.dadd (FP.l2d xl) (FP.l2d yl))))), .second, .unset, .unset, .unset, .unset, .unset, .unset] [(.double (FP.l2d ((xl + yl) - (FP.d2l (FP.dadd (FP.l2d xl) (FP.l2d yl))))))])) _
    refine XS.dstore X0.here hx rfl (hb hby at_61) rfl (l' := #[.val (.int x0), .val (.int x1), .val (.int x2), .val (.int (x2 &&& (31 : Int32))), .val (.int (((x2.toUInt32 >>> ((5 : Int32) &&& 31).toUInt32).toInt32) &&& (31 : Int32))), .val (.long xl), .second, .val (.long yl), .second, .val (.double (FP.l2d xl)), .second, .val (.double (FP.l2d yl)), .second, .val (.double (FP.dadd (FP.l2d xl) (FP.l2d yl))), .second, .val (.long (xl + yl)), .second, .val (.long ((xl + yl) - (FP.d2l (FP.dadd (FP.l2d xl) (FP.l2d yl))))), .second, .val (.double (FP.l2d ((xl + yl) - (FP.d2l (FP.dadd (FP.l2d xl) (FP.l2d yl)))))), .second, .unset, .unset, .unset, .unset]) rfl ?_
    show Steps p.tables e below (s₁.setTop (mkF m 63 #[.val (.int x0), .val (.int x1), .val (.int x2), .val (.int (x2 &&& (31 : Int32))), .val (.int (((x2.toUInt32 >>> ((5 : Int32) &&& 31).toUInt32).toInt32) &&& (31 : Int32))), .val (.long xl), .second, .val (.long yl), .second, .val (.double (FP.l2d xl)), .second, .val (.double (FP.l2d yl)), .second, .val (.double (FP.dadd (FP.l2d xl) (FP.l2d yl))), .second, .val (.long (xl + yl)), .second, .val (.long ((xl + yl) - (FP.d2l (FP.dadd (FP.l2d xl) (FP.l2d yl))))), .second, .val (.double (FP.l2d ((xl + yl) - (FP.d2l (FP.dadd (FP.l2d xl) (FP.l2d yl)))))), .second, .unset, .unset, .unset, .unset] [])) _
    refine XS.dload X0.here hx rfl (hb hby at_63) rfl ?_
    show Steps p.tables e below (s₁.setTop (mkF m 65 #[.val (.int x0), .val (.int x1), .val (.int x2), .val (.int (x2 &&& (31 : Int32))), .val (.int (((x2.toUInt32 >>> ((5 : Int32) &&& 31).toUInt32).toInt32) &&& (31 : Int32))), .val (.long xl), .second, .val (.long yl), .second, .val (.double (FP.l2d xl)), .second, .val (.double (FP.l2d yl)), .second, .val (.double (FP.dadd (FP.l2d xl) (FP.l2d yl))), .second, .val (.long (xl + yl)), .second, .val (.long ((xl + yl) - (FP.d2l (FP.dadd (FP.l2d xl) (FP.l2d yl))))), .second, .val (.double (FP.l2d ((xl + yl) - (FP.d2l (FP.dadd (FP.l2d xl) (FP.l2d yl)))))), .second, .unset, .unset, .unset, .unset] [(.double (FP.l2d xl))])) _
    refine XS.dload X0.here hx rfl (hb hby at_65) rfl ?_
    show Steps p.tables e below (s₁.setTop (mkF m 67 #[.val (.int x0), .val (.int x1), .val (.int x2), .val (.int (x2 &&& (31 : Int32))), .val (.int (((x2.toUInt32 >>> ((5 : Int32) &&& 31).toUInt32).toInt32) &&& (31 : Int32))), .val (.long xl), .second, .val (.long yl), .second, .val (.double (FP.l2d xl)), .second, .val (.double (FP.l2d yl)), .second, .val (.double (FP.dadd (FP.l2d xl) (FP.l2d yl))), .second, .val (.long (xl + yl)), .second, .val (.long ((xl + yl) - (FP.d2l (FP.dadd (FP.l2d xl) (FP.l2d yl))))), .second, .val (.double (FP.l2d ((xl + yl) - (FP.d2l (FP.dadd (FP.l2d xl) (FP.l2d yl)))))), .second, .unset, .unset, .unset, .unset] [(.double (FP.l2d yl)), (.double (FP.l2d xl))])) _
    refine XS.dload X0.here hx rfl (hb hby at_67) rfl ?_
    show Steps p.tables e below (s₁.setTop (mkF m 69 #[.val (.int x0), .val (.int x1), .val (.int x2), .val (.int (x2 &&& (31 : Int32))), .val (.int (((x2.toUInt32 >>> ((5 : Int32) &&& 31).toUInt32).toInt32) &&& (31 : Int32))), .val (.long xl), .second, .val (.long yl), .second, .val (.double (FP.l2d xl)), .second, .val (.double (FP.l2d yl)), .second, .val (.double (FP.dadd (FP.l2d xl) (FP.l2d yl))), .second, .val (.long (xl + yl)), .second, .val (.long ((xl + yl) - (FP.d2l (FP.dadd (FP.l2d xl) (FP.l2d yl))))), .second, .val (.double (FP.l2d ((xl + yl) - (FP.d2l (FP.dadd (FP.l2d xl) (FP.l2d yl)))))), .second, .unset, .unset, .unset, .unset] [(.double (FP.dadd (FP.l2d xl) (FP.l2d yl))), (.double (FP.l2d yl)), (.double (FP.l2d xl))])) _
    refine st2 _ ?_
    show Steps p.tables e below (T2.setTop (mkF m 72 #[.val (.int x0), .val (.int x1), .val (.int x2), .val (.int (x2 &&& (31 : Int32))), .val (.int (((x2.toUInt32 >>> ((5 : Int32) &&& 31).toUInt32).toInt32) &&& (31 : Int32))), .val (.long xl), .second, .val (.long yl), .second, .val (.double (FP.l2d xl)), .second, .val (.double (FP.l2d yl)), .second, .val (.double (FP.dadd (FP.l2d xl) (FP.l2d yl))), .second, .val (.long (xl + yl)), .second, .val (.long ((xl + yl) - (FP.d2l (FP.dadd (FP.l2d xl) (FP.l2d yl))))), .second, .val (.double (FP.l2d ((xl + yl) - (FP.d2l (FP.dadd (FP.l2d xl) (FP.l2d yl)))))), .second, .unset, .unset, .unset, .unset] [(.double (own_sum (FP.l2d xl) (FP.l2d yl) (FP.dadd (FP.l2d xl) (FP.l2d yl))))])) _
    refine XS.dstore X2.here hx rfl (hb hby at_72) rfl (l' := #[.val (.int x0), .val (.int x1), .val (.int x2), .val (.int (x2 &&& (31 : Int32))), .val (.int (((x2.toUInt32 >>> ((5 : Int32) &&& 31).toUInt32).toInt32) &&& (31 : Int32))), .val (.long xl), .second, .val (.long yl), .second, .val (.double (FP.l2d xl)), .second, .val (.double (FP.l2d yl)), .second, .val (.double (FP.dadd (FP.l2d xl) (FP.l2d yl))), .second, .val (.long (xl + yl)), .second, .val (.long ((xl + yl) - (FP.d2l (FP.dadd (FP.l2d xl) (FP.l2d yl))))), .second, .val (.double (FP.l2d ((xl + yl) - (FP.d2l (FP.dadd (FP.l2d xl) (FP.l2d yl)))))), .second, .val (.double (own_sum (FP.l2d xl) (FP.l2d yl) (FP.dadd (FP.l2d xl) (FP.l2d yl)))), .second, .unset, .unset]) rfl ?_
    show Steps p.tables e below (T2.setTop (mkF m 74 #[.val (.int x0), .val (.int x1), .val (.int x2), .val (.int (x2 &&& (31 : Int32))), .val (.int (((x2.toUInt32 >>> ((5 : Int32) &&& 31).toUInt32).toInt32) &&& (31 : Int32))), .val (.long xl), .second, .val (.long yl), .second, .val (.double (FP.l2d xl)), .second, .val (.double (FP.l2d yl)), .second, .val (.double (FP.dadd (FP.l2d xl) (FP.l2d yl))), .second, .val (.long (xl + yl)), .second, .val (.long ((xl + yl) - (FP.d2l (FP.dadd (FP.l2d xl) (FP.l2d yl))))), .second, .val (.double (FP.l2d ((xl + yl) - (FP.d2l (FP.dadd (FP.l2d xl) (FP.l2d yl)))))), .second, .val (.double (own_sum (FP.l2d xl) (FP.l2d yl) (FP.dadd (FP.l2d xl) (FP.l2d yl)))), .second, .unset, .unset] [])) _
    refine XS.dload X2.here hx rfl (hb hby at_74) rfl ?_
    show Steps p.tables e below (T2.setTop (mkF m 76 #[.val (.int x0), .val (.int x1), .val (.int x2), .val (.int (x2 &&& (31 : Int32))), .val (.int (((x2.toUInt32 >>> ((5 : Int32) &&& 31).toUInt32).toInt32) &&& (31 : Int32))), .val (.long xl), .second, .val (.long yl), .second, .val (.double (FP.l2d xl)), .second, .val (.double (FP.l2d yl)), .second, .val (.double (FP.dadd (FP.l2d xl) (FP.l2d yl))), .second, .val (.long (xl + yl)), .second, .val (.long ((xl + yl) - (FP.d2l (FP.dadd (FP.l2d xl) (FP.l2d yl))))), .second, .val (.double (FP.l2d ((xl + yl) - (FP.d2l (FP.dadd (FP.l2d xl) (FP.l2d yl)))))), .second, .val (.double (own_sum (FP.l2d xl) (FP.l2d yl) (FP.dadd (FP.l2d xl) (FP.l2d yl)))), .second, .unset, .unset] [(.double (FP.l2d yl))])) _
    refine XS.dload X2.here hx rfl (hb hby at_76) rfl ?_
    show Steps p.tables e below (T2.setTop (mkF m 78 #[.val (.int x0), .val (.int x1), .val (.int x2), .val (.int (x2 &&& (31 : Int32))), .val (.int (((x2.toUInt32 >>> ((5 : Int32) &&& 31).toUInt32).toInt32) &&& (31 : Int32))), .val (.long xl), .second, .val (.long yl), .second, .val (.double (FP.l2d xl)), .second, .val (.double (FP.l2d yl)), .second, .val (.double (FP.dadd (FP.l2d xl) (FP.l2d yl))), .second, .val (.long (xl + yl)), .second, .val (.long ((xl + yl) - (FP.d2l (FP.dadd (FP.l2d xl) (FP.l2d yl))))), .second, .val (.double (FP.l2d ((xl + yl) - (FP.d2l (FP.dadd (FP.l2d xl) (FP.l2d yl)))))), .second, .val (.double (own_sum (FP.l2d xl) (FP.l2d yl) (FP.dadd (FP.l2d xl) (FP.l2d yl)))), .second, .unset, .unset] [(.double (FP.l2d xl)), (.double (FP.l2d yl))])) _
    refine XS.dload X2.here hx rfl (hb hby at_78) rfl ?_
    show Steps p.tables e below (T2.setTop (mkF m 80 #[.val (.int x0), .val (.int x1), .val (.int x2), .val (.int (x2 &&& (31 : Int32))), .val (.int (((x2.toUInt32 >>> ((5 : Int32) &&& 31).toUInt32).toInt32) &&& (31 : Int32))), .val (.long xl), .second, .val (.long yl), .second, .val (.double (FP.l2d xl)), .second, .val (.double (FP.l2d yl)), .second, .val (.double (FP.dadd (FP.l2d xl) (FP.l2d yl))), .second, .val (.long (xl + yl)), .second, .val (.long ((xl + yl) - (FP.d2l (FP.dadd (FP.l2d xl) (FP.l2d yl))))), .second, .val (.double (FP.l2d ((xl + yl) - (FP.d2l (FP.dadd (FP.l2d xl) (FP.l2d yl)))))), .second, .val (.double (own_sum (FP.l2d xl) (FP.l2d yl) (FP.dadd (FP.l2d xl) (FP.l2d yl)))), .second, .unset, .unset] [(.double (FP.dadd (FP.l2d xl) (FP.l2d yl))), (.double (FP.l2d xl)), (.double (FP.l2d yl))])) _
    refine st3 _ ?_
    show Steps p.tables e below (T3.setTop (mkF m 83 #[.val (.int x0), .val (.int x1), .val (.int x2), .val (.int (x2 &&& (31 : Int32))), .val (.int (((x2.toUInt32 >>> ((5 : Int32) &&& 31).toUInt32).toInt32) &&& (31 : Int32))), .val (.long xl), .second, .val (.long yl), .second, .val (.double (FP.l2d xl)), .second, .val (.double (FP.l2d yl)), .second, .val (.double (FP.dadd (FP.l2d xl) (FP.l2d yl))), .second, .val (.long (xl + yl)), .second, .val (.long ((xl + yl) - (FP.d2l (FP.dadd (FP.l2d xl) (FP.l2d yl))))), .second, .val (.double (FP.l2d ((xl + yl) - (FP.d2l (FP.dadd (FP.l2d xl) (FP.l2d yl)))))), .second, .val (.double (own_sum (FP.l2d xl) (FP.l2d yl) (FP.dadd (FP.l2d xl) (FP.l2d yl)))), .second, .unset, .unset] [(.double (own_sum (FP.l2d yl) (FP.l2d xl) (FP.dadd (FP.l2d xl) (FP.l2d yl))))])) _
    refine XS.dstore X3.here hx rfl (hb hby at_83) rfl (l' := #[.val (.int x0), .val (.int x1), .val (.int x2), .val (.int (x2 &&& (31 : Int32))), .val (.int (((x2.toUInt32 >>> ((5 : Int32) &&& 31).toUInt32).toInt32) &&& (31 : Int32))), .val (.long xl), .second, .val (.long yl), .second, .val (.double (FP.l2d xl)), .second, .val (.double (FP.l2d yl)), .second, .val (.double (FP.dadd (FP.l2d xl) (FP.l2d yl))), .second, .val (.long (xl + yl)), .second, .val (.long ((xl + yl) - (FP.d2l (FP.dadd (FP.l2d xl) (FP.l2d yl))))), .second, .val (.double (FP.l2d ((xl + yl) - (FP.d2l (FP.dadd (FP.l2d xl) (FP.l2d yl)))))), .second, .val (.double (own_sum (FP.l2d xl) (FP.l2d yl) (FP.dadd (FP.l2d xl) (FP.l2d yl)))), .second, .val (.double (own_sum (FP.l2d yl) (FP.l2d xl) (FP.dadd (FP.l2d xl) (FP.l2d yl)))), .second]) rfl ?_
    show Steps p.tables e below (T3.setTop (mkF m 85 #[.val (.int x0), .val (.int x1), .val (.int x2), .val (.int (x2 &&& (31 : Int32))), .val (.int (((x2.toUInt32 >>> ((5 : Int32) &&& 31).toUInt32).toInt32) &&& (31 : Int32))), .val (.long xl), .second, .val (.long yl), .second, .val (.double (FP.l2d xl)), .second, .val (.double (FP.l2d yl)), .second, .val (.double (FP.dadd (FP.l2d xl) (FP.l2d yl))), .second, .val (.long (xl + yl)), .second, .val (.long ((xl + yl) - (FP.d2l (FP.dadd (FP.l2d xl) (FP.l2d yl))))), .second, .val (.double (FP.l2d ((xl + yl) - (FP.d2l (FP.dadd (FP.l2d xl) (FP.l2d yl)))))), .second, .val (.double (own_sum (FP.l2d xl) (FP.l2d yl) (FP.dadd (FP.l2d xl) (FP.l2d yl)))), .second, .val (.double (own_sum (FP.l2d yl) (FP.l2d xl) (FP.dadd (FP.l2d xl) (FP.l2d yl)))), .second] [])) _
    refine XS.dload X3.here hx rfl (hb hby at_85) rfl ?_
    show Steps p.tables e below (T3.setTop (mkF m 87 #[.val (.int x0), .val (.int x1), .val (.int x2), .val (.int (x2 &&& (31 : Int32))), .val (.int (((x2.toUInt32 >>> ((5 : Int32) &&& 31).toUInt32).toInt32) &&& (31 : Int32))), .val (.long xl), .second, .val (.long yl), .second, .val (.double (FP.l2d xl)), .second, .val (.double (FP.l2d yl)), .second, .val (.double (FP.dadd (FP.l2d xl) (FP.l2d yl))), .second, .val (.long (xl + yl)), .second, .val (.long ((xl + yl) - (FP.d2l (FP.dadd (FP.l2d xl) (FP.l2d yl))))), .second, .val (.double (FP.l2d ((xl + yl) - (FP.d2l (FP.dadd (FP.l2d xl) (FP.l2d yl)))))), .second, .val (.double (own_sum (FP.l2d xl) (FP.l2d yl) (FP.dadd (FP.l2d xl) (FP.l2d yl)))), .second, .val (.double (own_sum (FP.l2d yl) (FP.l2d xl) (FP.dadd (FP.l2d xl) (FP.l2d yl)))), .second] [(.double (own_sum (FP.l2d xl) (FP.l2d yl) (FP.dadd (FP.l2d xl) (FP.l2d yl))))])) _
    refine XS.dload X3.here hx rfl (hb hby at_87) rfl ?_
    show Steps p.tables e below (T3.setTop (mkF m 89 #[.val (.int x0), .val (.int x1), .val (.int x2), .val (.int (x2 &&& (31 : Int32))), .val (.int (((x2.toUInt32 >>> ((5 : Int32) &&& 31).toUInt32).toInt32) &&& (31 : Int32))), .val (.long xl), .second, .val (.long yl), .second, .val (.double (FP.l2d xl)), .second, .val (.double (FP.l2d yl)), .second, .val (.double (FP.dadd (FP.l2d xl) (FP.l2d yl))), .second, .val (.long (xl + yl)), .second, .val (.long ((xl + yl) - (FP.d2l (FP.dadd (FP.l2d xl) (FP.l2d yl))))), .second, .val (.double (FP.l2d ((xl + yl) - (FP.d2l (FP.dadd (FP.l2d xl) (FP.l2d yl)))))), .second, .val (.double (own_sum (FP.l2d xl) (FP.l2d yl) (FP.dadd (FP.l2d xl) (FP.l2d yl)))), .second, .val (.double (own_sum (FP.l2d yl) (FP.l2d xl) (FP.dadd (FP.l2d xl) (FP.l2d yl)))), .second] [(.double (FP.l2d ((xl + yl) - (FP.d2l (FP.dadd (FP.l2d xl) (FP.l2d yl)))))), (.double (own_sum (FP.l2d xl) (FP.l2d yl) (FP.dadd (FP.l2d xl) (FP.l2d yl))))])) _
    refine XS.dcmpS X3.here hx rfl (hb hby at_89) rfl (own_cv0 c1) ?_
    show Steps p.tables e below (T3.setTop (mkF m 90 #[.val (.int x0), .val (.int x1), .val (.int x2), .val (.int (x2 &&& (31 : Int32))), .val (.int (((x2.toUInt32 >>> ((5 : Int32) &&& 31).toUInt32).toInt32) &&& (31 : Int32))), .val (.long xl), .second, .val (.long yl), .second, .val (.double (FP.l2d xl)), .second, .val (.double (FP.l2d yl)), .second, .val (.double (FP.dadd (FP.l2d xl) (FP.l2d yl))), .second, .val (.long (xl + yl)), .second, .val (.long ((xl + yl) - (FP.d2l (FP.dadd (FP.l2d xl) (FP.l2d yl))))), .second, .val (.double (FP.l2d ((xl + yl) - (FP.d2l (FP.dadd (FP.l2d xl) (FP.l2d yl)))))), .second, .val (.double (own_sum (FP.l2d xl) (FP.l2d yl) (FP.dadd (FP.l2d xl) (FP.l2d yl)))), .second, .val (.double (own_sum (FP.l2d yl) (FP.l2d xl) (FP.dadd (FP.l2d xl) (FP.l2d yl)))), .second] [(.int (0 : Int32))])) _
    refine XS.ifNo X3.here hx rfl (hb hby at_90) rfl ((if0 _ _).trans (teq (by decide : (0 : Int32) = (0 : Int32))).2) ?_
    show Steps p.tables e below (T3.setTop (mkF m 93 #[.val (.int x0), .val (.int x1), .val (.int x2), .val (.int (x2 &&& (31 : Int32))), .val (.int (((x2.toUInt32 >>> ((5 : Int32) &&& 31).toUInt32).toInt32) &&& (31 : Int32))), .val (.long xl), .second, .val (.long yl), .second, .val (.double (FP.l2d xl)), .second, .val (.double (FP.l2d yl)), .second, .val (.double (FP.dadd (FP.l2d xl) (FP.l2d yl))), .second, .val (.long (xl + yl)), .second, .val (.long ((xl + yl) - (FP.d2l (FP.dadd (FP.l2d xl) (FP.l2d yl))))), .second, .val (.double (FP.l2d ((xl + yl) - (FP.d2l (FP.dadd (FP.l2d xl) (FP.l2d yl)))))), .second, .val (.double (own_sum (FP.l2d xl) (FP.l2d yl) (FP.dadd (FP.l2d xl) (FP.l2d yl)))), .second, .val (.double (own_sum (FP.l2d yl) (FP.l2d xl) (FP.dadd (FP.l2d xl) (FP.l2d yl)))), .second] [])) _
    refine XS.dload X3.here hx rfl (hb hby at_93) rfl ?_
    show Steps p.tables e below (T3.setTop (mkF m 95 #[.val (.int x0), .val (.int x1), .val (.int x2), .val (.int (x2 &&& (31 : Int32))), .val (.int (((x2.toUInt32 >>> ((5 : Int32) &&& 31).toUInt32).toInt32) &&& (31 : Int32))), .val (.long xl), .second, .val (.long yl), .second, .val (.double (FP.l2d xl)), .second, .val (.double (FP.l2d yl)), .second, .val (.double (FP.dadd (FP.l2d xl) (FP.l2d yl))), .second, .val (.long (xl + yl)), .second, .val (.long ((xl + yl) - (FP.d2l (FP.dadd (FP.l2d xl) (FP.l2d yl))))), .second, .val (.double (FP.l2d ((xl + yl) - (FP.d2l (FP.dadd (FP.l2d xl) (FP.l2d yl)))))), .second, .val (.double (own_sum (FP.l2d xl) (FP.l2d yl) (FP.dadd (FP.l2d xl) (FP.l2d yl)))), .second, .val (.double (own_sum (FP.l2d yl) (FP.l2d xl) (FP.dadd (FP.l2d xl) (FP.l2d yl)))), .second] [(.double (own_sum (FP.l2d yl) (FP.l2d xl) (FP.dadd (FP.l2d xl) (FP.l2d yl))))])) _
    refine XS.dload X3.here hx rfl (hb hby at_95) rfl ?_
    show Steps p.tables e below (T3.setTop (mkF m 97 #[.val (.int x0), .val (.int x1), .val (.int x2), .val (.int (x2 &&& (31 : Int32))), .val (.int (((x2.toUInt32 >>> ((5 : Int32) &&& 31).toUInt32).toInt32) &&& (31 : Int32))), .val (.long xl), .second, .val (.long yl), .second, .val (.double (FP.l2d xl)), .second, .val (.double (FP.l2d yl)), .second, .val (.double (FP.dadd (FP.l2d xl) (FP.l2d yl))), .second, .val (.long (xl + yl)), .second, .val (.long ((xl + yl) - (FP.d2l (FP.dadd (FP.l2d xl) (FP.l2d yl))))), .second, .val (.double (FP.l2d ((xl + yl) - (FP.d2l (FP.dadd (FP.l2d xl) (FP.l2d yl)))))), .second, .val (.double (own_sum (FP.l2d xl) (FP.l2d yl) (FP.dadd (FP.l2d xl) (FP.l2d yl)))), .second, .val (.double (own_sum (FP.l2d yl) (FP.l2d xl) (FP.dadd (FP.l2d xl) (FP.l2d yl)))), .second] [(.double (FP.l2d ((xl + yl) - (FP.d2l (FP.dadd (FP.l2d xl) (FP.l2d yl)))))), (.double (own_sum (FP.l2d yl) (FP.l2d xl) (FP.dadd (FP.l2d xl) (FP.l2d yl))))])) _
    refine XS.dcmpS X3.here hx rfl (hb hby at_97) rfl (own_cv0 c2) ?_
    show Steps p.tables e below (T3.setTop (mkF m 98 #[.val (.int x0), .val (.int x1), .val (.int x2), .val (.int (x2 &&& (31 : Int32))), .val (.int (((x2.toUInt32 >>> ((5 : Int32) &&& 31).toUInt32).toInt32) &&& (31 : Int32))), .val (.long xl), .second, .val (.long yl), .second, .val (.double (FP.l2d xl)), .second, .val (.double (FP.l2d yl)), .second, .val (.double (FP.dadd (FP.l2d xl) (FP.l2d yl))), .second, .val (.long (xl + yl)), .second, .val (.long ((xl + yl) - (FP.d2l (FP.dadd (FP.l2d xl) (FP.l2d yl))))), .second, .val (.double (FP.l2d ((xl + yl) - (FP.d2l (FP.dadd (FP.l2d xl) (FP.l2d yl)))))), .second, .val (.double (own_sum (FP.l2d xl) (FP.l2d yl) (FP.dadd (FP.l2d xl) (FP.l2d yl)))), .second, .val (.double (own_sum (FP.l2d yl) (FP.l2d xl) (FP.dadd (FP.l2d xl) (FP.l2d yl)))), .second] [(.int (0 : Int32))])) _
    refine XS.ifNo X3.here hx rfl (hb hby at_98) rfl ((if0 _ _).trans (teq (by decide : (0 : Int32) = (0 : Int32))).2) ?_
    show Steps p.tables e below (T3.setTop (mkF m 101 #[.val (.int x0), .val (.int x1), .val (.int x2), .val (.int (x2 &&& (31 : Int32))), .val (.int (((x2.toUInt32 >>> ((5 : Int32) &&& 31).toUInt32).toInt32) &&& (31 : Int32))), .val (.long xl), .second, .val (.long yl), .second, .val (.double (FP.l2d xl)), .second, .val (.double (FP.l2d yl)), .second, .val (.double (FP.dadd (FP.l2d xl) (FP.l2d yl))), .second, .val (.long (xl + yl)), .second, .val (.long ((xl + yl) - (FP.d2l (FP.dadd (FP.l2d xl) (FP.l2d yl))))), .second, .val (.double (FP.l2d ((xl + yl) - (FP.d2l (FP.dadd (FP.l2d xl) (FP.l2d yl)))))), .second, .val (.double (own_sum (FP.l2d xl) (FP.l2d yl) (FP.dadd (FP.l2d xl) (FP.l2d yl)))), .second, .val (.double (own_sum (FP.l2d yl) (FP.l2d xl) (FP.dadd (FP.l2d xl) (FP.l2d yl)))), .second] [])) _
    refine XS.iconst X3.here hx rfl (hb hby at_101) ?_
    show Steps p.tables e below (T3.setTop (mkF m 102 #[.val (.int x0), .val (.int x1), .val (.int x2), .val (.int (x2 &&& (31 : Int32))), .val (.int (((x2.toUInt32 >>> ((5 : Int32) &&& 31).toUInt32).toInt32) &&& (31 : Int32))), .val (.long xl), .second, .val (.long yl), .second, .val (.double (FP.l2d xl)), .second, .val (.double (FP.l2d yl)), .second, .val (.double (FP.dadd (FP.l2d xl) (FP.l2d yl))), .second, .val (.long (xl + yl)), .second, .val (.long ((xl + yl) - (FP.d2l (FP.dadd (FP.l2d xl) (FP.l2d yl))))), .second, .val (.double (FP.l2d ((xl + yl) - (FP.d2l (FP.dadd (FP.l2d xl) (FP.l2d yl)))))), .second, .val (.double (own_sum (FP.l2d xl) (FP.l2d yl) (FP.dadd (FP.l2d xl) (FP.l2d yl)))), .second, .val (.double (own_sum (FP.l2d yl) (FP.l2d xl) (FP.dadd (FP.l2d xl) (FP.l2d yl)))), .second] [(.int (1 : Int32))])) _
    refine XS.goto X3.here hx rfl (pc0 := 102) (pc' := 106) rfl (hb hby at_102) (by decide) (by decide) ?_
    show Steps p.tables e below (T3.setTop (mkF m 106 #[.val (.int x0), .val (.int x1), .val (.int x2), .val (.int (x2 &&& (31 : Int32))), .val (.int (((x2.toUInt32 >>> ((5 : Int32) &&& 31).toUInt32).toInt32) &&& (31 : Int32))), .val (.long xl), .second, .val (.long yl), .second, .val (.double (FP.l2d xl)), .second, .val (.double (FP.l2d yl)), .second, .val (.double (FP.dadd (FP.l2d xl) (FP.l2d yl))), .second, .val (.long (xl + yl)), .second, .val (.long ((xl + yl) - (FP.d2l (FP.dadd (FP.l2d xl) (FP.l2d yl))))), .second, .val (.double (FP.l2d ((xl + yl) - (FP.d2l (FP.dadd (FP.l2d xl) (FP.l2d yl)))))), .second, .val (.double (own_sum (FP.l2d xl) (FP.l2d yl) (FP.dadd (FP.l2d xl) (FP.l2d yl)))), .second, .val (.double (own_sum (FP.l2d yl) (FP.l2d xl) (FP.dadd (FP.l2d xl) (FP.l2d yl)))), .second] [(.int (1 : Int32))])) _
    exact retN X3 hx (t := .boolean) Bd.returns (by simp) (hb hby at_106) lhr
  · skip
    show Q0 Z x0 x1 x2 h0 n0 _ T3.heap _
    rw [eq3]
    exact ⟨rfl, N3⟩
set_option maxRecDepth 65536 in
set_option maxHeartbeats 40000000 in
theorem comes_1 {Post : Tables → Env → Array Value → State → Outcome → State → Prop} (hpost : ∀ tb e args s v u, (limb_1_1.after args s (.returned v) u = true ∧ limb_1_2.after args s (.returned v) u = true ∧ True) → FrameEnd s (.returned v) u (Jvm.fieldLocs frame_1_writes args s ++ Jvm.arrayLocs frame_1_arrays args s ++ Jvm.staticLocs frame_1_statics s) 0 0 → Post tb e args s (.returned v) u) :
    ArmFor flags0 classFile x code maxLocals ret World_1 tables_1 room_1 Calls_1 rest_1 Pre_1 Post := by
  intro l hfl _ _ p e ha hc hk s m args below hf hA hF happ hP
  obtain ⟨hcalls, hrest, hpre⟩ := hP
  obtain ⟨-, -, -, hnamed, -, -, -, hat⟩ := (Spec.applies_iff hf).mp happ
  obtain ⟨hg, hn⟩ := and_e (Cond.before_iff.mp (show (Jvm.Cond.and given_1 narrow_1).before args s = true from hpre))
  obtain ⟨g1a, g1b⟩ := and_e hg
  obtain ⟨g2a, g2b⟩ := and_e g1b
  obtain ⟨g3a, g3b⟩ := and_e g2b
  obtain ⟨w0, w1, w2, rfl⟩ : ∃ w0 w1 w2 : Value, args = #[w0, w1, w2] := by
    have hs : args.size = 3 := by simpa [Cond.value, given_1] using g1a
    obtain ⟨L⟩ := args
    match L, hs with
    | [w0, w1, w2], _ => exact ⟨w0, w1, w2, rfl⟩
  have hw := fun d (hd : d ∈ tables_1) => atoms_spec (ws := Jvm.Cond.code x code maxLocals ret :: tables_1) hat d (List.mem_cons_of_mem _ hd)
  have hfit : Fit s := fun {y c} hc i hi => by
    obtain ⟨ha, rfl⟩ := Array.getElem?_eq_some_iff.mp hc
    have q := List.all_eq_true.mp ((Array.all_eq_true_iff_forall_mem.mp hF) _ (Array.getElem_mem ha)) i (List.mem_range.mpr hi)
    simpa [Array.getElem?_eq_getElem hi] using q
  obtain ⟨i0, ei0⟩ := is_v g2a
  obtain rfl : w0 = (.int i0) := Option.some.inj ei0
  obtain ⟨i1, ei1⟩ := is_v g3a
  obtain rfl : w1 = (.int i1) := Option.some.inj ei1
  obtain ⟨i2, ei2⟩ := is_v g3b
  obtain rfl : w2 = (.int i2) := Option.some.inj ei2
  obtain ⟨n, o, h1, h2, h3, _, L, rfl, ⟨rfl, N⟩, hq⟩ := rm0 l s _ hw tables_1 i0 i1 i2 s.heap s.heap.size (Nat.le_refl _) p e ha hc hk s m _ below hf ((Spec.applies_iff_loose hf).mp happ).1 ⟨rfl, State.Warmed39.refl s, rfl⟩ trivial
  refine ⟨n, _, h1, h2, h3, hpost _ _ _ _ _ _ ⟨Cond.after_iff.mpr rfl, Cond.after_iff.mpr (eq_i res_at (Term.int_eval (1)) rfl), trivial⟩ ⟨hq.1, hq.2.1, (hq.2.2.sift fun y hy => Or.inr (N y hy)).mono (by decide) (by decide)⟩⟩
theorem main_1_1 : Claimed_1_1 := comes_1 fun _ _ _ _ _ _ h hF => ⟨h.1, hF⟩
theorem main_1_2 : Claimed_1_2 := comes_1 fun _ _ _ _ _ _ h hF => ⟨h.2.1, hF⟩
end Jvm.Pilot.@@N@@
namespace Jvm.Pilot.@@N@@
open Jvm Jvm.ClassFile Sem Op Lib Jvm.Free Jvm.Stand Jvm.Pilot.@@N@@.Jvm.D
/-! MADE BY PROGRAM (witnessworld.py) out of the Statement's table words and the real class files: 9 classes; the members and pool entries that the words name. The judged class is class 1, her method 1. -/
namespace start1
open Jvm.ClassFile
def u (s : String) : CpInfo := .utf8 (stringToUtf16 s)
/-- a pool by its gaps: so many unusable entries, then the entry; so many at the end -/
def gap : Nat → List CpInfo → List CpInfo
  | 0, r => r
  | n + 1, r => .unusable :: gap n r
def poolList (es : List (Nat × CpInfo)) (last : Nat) : List CpInfo := es.foldr (fun e r => gap e.1 (e.2 :: r)) (gap last [])
def pool (es : List (Nat × CpInfo)) (last : Nat) : Array CpInfo := ⟨poolList es last⟩
def fileOf (pool : Array CpInfo) (this : Nat) (attrs : Array Attribute := #[]) (ms : Array MethodInfo := #[]) (fl : Nat := 33) (sup : Nat := 0) (ifs : Array Nat := #[]) (fds : Array FieldInfo := #[]) : ClassFile where
  minorVersion := 0
  majorVersion := 65
  constantPool := pool
  accessFlags := fl
  thisClass := this
  superClass := sup
  interfaces := ifs
  fields := fds
  methods := ms
  attributes := attrs
def plain (name : String) (sup : Option ClassId) : Class where
  name := name
  kind := .ordinary
  loader := none
  accessFlags := 33
  super := sup
  interfaces := #[]
  cf := none
  fields := #[]
  methods := #[]
  instanceTypes := #[]
  staticTypes := #[]
  resolved := #[]
  callSites := []
  init := .initialized
  statics := none
  mirror := none

def pool0 : Array CpInfo := pool [(5, u "<init>"), (0, u "()V"), (1, .class_ 10), (1, u "java/lang/Object")] 113

def k0m0 : Method := { name := "<init>", desc := "()V", sig := { parameters := [], returnType := none }, accessFlags := 1, code := none }
/-- java/lang/Object -/
def k0 : Class := { plain "java/lang/Object" none with
  accessFlags := 33
  interfaces := #[]
  cf := some (fileOf pool0 8 #[] #[{ accessFlags := 1, nameIndex := 5, descriptorIndex := 6, attributes := #[] }] 33 0 #[] #[])
  fields := #[]
  methods := #[k0m0]
  instanceTypes := #[]
  staticTypes := #[]
  resolved := Array.replicate 124 none
  statics := none }

def pool1 : Array CpInfo := pool [(2, .class_ 4), (1, u "java/lang/Object"), (0, u "<init>"), (0, u "()V"), (0, .methodref 8 9), (0, .class_ 10), (0, .nameAndType 11 12), (0, u "com/example/pival/pival/CompensatedSum"), (0, u "roundingOfSum"), (0, u "(DDD)D"), (0, .class_ 14), (0, u "com/example/pival/pival/CompensatedSumRoundingOfSumPinLaw"), (2, u "law"), (0, u "(III)Z")] 3

def k1m0 : Method := { name := "<init>", desc := "()V", sig := { parameters := [], returnType := none }, accessFlags := 1, code := none }
def k1c1 : Code := { maxStack := 6, maxLocals := 25, code := code, exceptionTable := #[], attributes := #[] }
def k1m1 : Method := { name := "law", desc := "(III)Z", sig := { parameters := [.int, .int, .int], returnType := some .boolean }, accessFlags := 9, code := some k1c1 }
/-- com/example/pival/pival/CompensatedSumRoundingOfSumPinLaw -/
def k1 : Class := { plain "com/example/pival/pival/CompensatedSumRoundingOfSumPinLaw" (some 0) with
  accessFlags := 49
  interfaces := #[]
  cf := some (fileOf pool1 13 #[] #[{ accessFlags := 1, nameIndex := 5, descriptorIndex := 6, attributes := #[] }, { accessFlags := 9, nameIndex := 17, descriptorIndex := 18, attributes := #[] }] 49 2 #[] #[])
  fields := #[]
  methods := #[k1m0, k1m1]
  instanceTypes := #[]
  staticTypes := #[]
  resolved := Array.replicate 22 none
  statics := none }

def pool2 : Array CpInfo := pool [(2, .class_ 4), (1, u "java/lang/Object"), (3, .class_ 10), (1, u "com/example/pival/pival/CompensatedSum"), (0, u "sum"), (0, u "D"), (2, u "lost"), (2, u "roundingOfSum"), (0, u "(DDD)D")] 22

def k2c0 : Code := { maxStack := 6, maxLocals := 8, code := prog_8_method_7_code, exceptionTable := #[], attributes := #[] }
def k2m0 : Method := { name := "roundingOfSum", desc := "(DDD)D", sig := { parameters := [.double, .double, .double], returnType := some .double }, accessFlags := 8, code := some k2c0 }
/-- com/example/pival/pival/CompensatedSum -/
def k2 : Class := { plain "com/example/pival/pival/CompensatedSum" (some 0) with
  accessFlags := 32
  interfaces := #[]
  cf := some (fileOf pool2 8 #[] #[{ accessFlags := 8, nameIndex := 18, descriptorIndex := 19, attributes := #[] }] 32 2 #[] #[{ accessFlags := 2, nameIndex := 11, descriptorIndex := 12, attributes := #[] }, { accessFlags := 2, nameIndex := 15, descriptorIndex := 12, attributes := #[] }])
  fields := #[{ name := "sum", type := .double, accessFlags := 2, slot := 0, constantValue := 0 }, { name := "lost", type := .double, accessFlags := 2, slot := 1, constantValue := 0 }]
  methods := #[k2m0]
  instanceTypes := #[.double, .double]
  staticTypes := #[]
  resolved := Array.replicate 42 none
  statics := none }

def pool3 : Array CpInfo := pool [(1, u "java/lang/Cloneable"), (0, .class_ 1), (0, u "java/lang/Object"), (0, .class_ 3)] 3

/-- java/lang/Cloneable -/
def k3 : Class := { plain "java/lang/Cloneable" (some 0) with
  accessFlags := 1537
  interfaces := #[]
  cf := some (fileOf pool3 2 #[] #[] 1537 4 #[] #[])
  fields := #[]
  methods := #[]
  instanceTypes := #[]
  staticTypes := #[]
  resolved := Array.replicate 8 none
  statics := none }

def pool4 : Array CpInfo := pool [(1, u "java/io/Serializable"), (0, .class_ 1), (0, u "java/lang/Object"), (0, .class_ 3)] 3

/-- java/io/Serializable -/
def k4 : Class := { plain "java/io/Serializable" (some 0) with
  accessFlags := 1537
  interfaces := #[]
  cf := some (fileOf pool4 2 #[] #[] 1537 4 #[] #[])
  fields := #[]
  methods := #[]
  instanceTypes := #[]
  staticTypes := #[]
  resolved := Array.replicate 8 none
  statics := none }

/-- the primitive byte -/
def k5 : Class := { plain "byte" none with kind := .primitive 'B', accessFlags := 0x411 }
/-- [B -/
def k6 : Class := { plain "[B" (some 0) with kind := .array 5 .byte, interfaces := #[3, 4], accessFlags := 1041 }

/-- the primitive int -/
def k7 : Class := { plain "int" none with kind := .primitive 'I', accessFlags := 0x411 }
/-- [I -/
def k8 : Class := { plain "[I" (some 0) with kind := .array 7 .int, interfaces := #[3, 4], accessFlags := 1041 }

def heap : Heap := #[]
def classes : Array Class := #[k0, k1, k2, k3, k4, k5, k6, k7, k8]
def interned : List (Array UInt16 × Addr) := []
def slotsUsed : Nat := 0
def theMethod : MethodId := ⟨1, 1⟩
def args0 : Array Value := #[.int 5, .int 7, .int 9]
def aboutOver (below : List Frame) : State where
  vm := { classes := classes, interned := interned.toArray }
  heap := heap
  slotsUsed := slotsUsed
  threads := #[{ frames := .invoking theMethod args0 :: below }]
def below0 : List Frame := [.native { method := ⟨0, 0⟩, args := #[] }]
def about1 : State := aboutOver below0
def p0 : Program := .bare "" "" ""
def e0 : Env := launch0.env 0 0 0
theorem w_frames : about1.frames = Frame.invoking theMethod args0 :: below0 := rfl
set_option maxRecDepth 65536 in
theorem w_args : argsFit about1.vm theMethod args0 = true := by decide +kernel
set_option maxRecDepth 65536 in
theorem w_heap : heapFits about1 = true := by decide +kernel
set_option maxRecDepth 65536 in
theorem w_runnable : about1.curStatus? = some .runnable := by decide +kernel
set_option maxRecDepth 65536 in
theorem w_alone : about1.alone = true := by decide +kernel
set_option maxRecDepth 65536 in
theorem w_named : about1.methodNamed? x = some theMethod := by decide +kernel
set_option maxRecDepth 65536 in
theorem w_hears : about1.hears theMethod below0 = true := by decide +kernel
set_option maxRecDepth 65536 in
theorem w_ripe : about1.ripe theMethod args0 below0 = true := by decide +kernel
theorem w_running : about1.status = .running := rfl
set_option maxRecDepth 65536 in
theorem w_room : about1.hasRoom e0.platform room_1 = true :=
  launch0.hasRoom_least _ room_1 (by decide +kernel) (by decide +kernel) (by decide +kernel) (by decide +kernel) (by decide +kernel) (by decide +kernel)
theorem allAtoms_all (ts : List Jvm.Cond) (a : Array Jvm.Value) (st : Jvm.State) : (allAtoms ts).before a st = ts.all (fun c => c.before a st) := by
  induction ts with
  | nil => rfl
  | cons c t ih =>
    show (Jvm.Cond.and c (allAtoms t)).before a st = _
    rw [Jvm.Cond.before_and, ih, List.all_cons]
def words1 : List Jvm.Cond := Jvm.Cond.code x code maxLocals ret :: tables_1
/-- a 'code' word, met by the world's own term for the bytes: nothing is compared byte by byte -/
theorem code_word {y : MethodName} {bytes : ByteArray} {mx : Nat} {rt : Option FieldType} {a : Array Value} {s : State} {m : MethodId} {meth : Method} {c : Code} (h1 : s.methodNamed? y = some m) (h2 : s.vm.method? m = some meth) (h3 : meth.code = some c) (h4 : c.code = bytes)
    (h5 : (c.maxLocals == mx && c.exceptionTable.isEmpty && decide (c.maxStack ≤ mostOperands) && decide (meth.sig.returnType = rt) && !meth.locks && decide (parseMethodDescriptor y.desc = some meth.sig)) = true) : (Jvm.Cond.code y bytes mx rt).before a s = true := by
  simp only [Bool.and_eq_true, beq_iff_eq, Bool.not_eq_true', decide_eq_true_eq] at h5
  obtain ⟨⟨⟨⟨⟨g1, g2⟩, g3⟩, g4⟩, g5⟩, g6⟩ := h5
  simp [Cond.before, Cond.holds, Cond.value, h1, h2, h3, h4, g1, g2, g3, g4, g5, g6]
def isCode : Jvm.Cond → Bool
  | .code _ _ _ _ => true
  | _ => false
theorem all_split {L : List Jvm.Cond} {P : Jvm.Cond → Bool} (h1 : L.all (fun c => isCode c || P c) = true) (h2 : ∀ c ∈ L.filter isCode, P c = true) : L.all P = true := by
  refine List.all_eq_true.mpr fun c hc => ?_
  have h := List.all_eq_true.mp h1 c hc
  rcases Bool.eq_false_or_eq_true (isCode c) with hi | hi
  · exact h2 c (List.mem_filter.mpr ⟨hc, hi⟩)
  · simpa [hi] using h
set_option maxRecDepth 65536 in
theorem w_c0 : (Jvm.Cond.code x code maxLocals ret).before args0 about1 = true := code_word (m := ⟨1, 1⟩) (meth := k1m1) (c := k1c1) (by decide +kernel) rfl rfl rfl (by decide +kernel)
set_option maxRecDepth 65536 in
theorem w_c1 : (Jvm.Cond.code ({ cls := "com/example/pival/pival/CompensatedSum", name := "roundingOfSum", desc := "(DDD)D" } : Jvm.MethodName) prog_8_method_7_code (8 : Nat) (Option.some Jvm.ClassFile.FieldType.double)).before args0 about1 = true := code_word (m := ⟨2, 0⟩) (meth := k2m0) (c := k2c0) (by decide +kernel) rfl rfl rfl (by decide +kernel)
def codes1 : List Jvm.Cond := [Jvm.Cond.code x code maxLocals ret, Jvm.Cond.code ({ cls := "com/example/pival/pival/CompensatedSum", name := "roundingOfSum", desc := "(DDD)D" } : Jvm.MethodName) prog_8_method_7_code (8 : Nat) (Option.some Jvm.ClassFile.FieldType.double)]
set_option maxRecDepth 65536 in
theorem codes_eq : words1.filter isCode = codes1 := rfl
theorem w_codes : ∀ c ∈ words1.filter isCode, c.before args0 about1 = true := by
  rw [codes_eq]
  intro c hc
  simp only [codes1, List.mem_cons, List.not_mem_nil, or_false] at hc
  rcases hc with rfl | rfl
  · exact w_c0
  · exact w_c1
set_option maxRecDepth 65536 in
theorem w_t1 : words1.all (fun c => isCode c || c.before args0 about1) = true := by decide +kernel
theorem w_tables : (allAtoms (Jvm.Cond.code x code maxLocals ret :: tables_1)).before args0 about1 = true := by
  rw [allAtoms_all]
  show words1.all (fun c => c.before args0 about1) = true
  refine all_split ?_ w_codes
  rw [w_t1]
set_option maxRecDepth 65536 in
theorem w_case : (Jvm.Cond.and given_1 narrow_1).before args0 about1 = true := by decide +kernel
theorem w_applies : (headSpec (Jvm.Cond.code x code maxLocals ret :: tables_1) room_1).applies x e0.platform about1 = true :=
  (Spec.applies_iff w_frames).mpr ⟨w_running, w_runnable, w_alone, w_named, w_hears, w_ripe, w_room, w_tables⟩
theorem atStart : AtStart classFile x code maxLocals ret World_1 tables_1 room_1 Calls_1 rest_1 Pre_1 launch0 p0 e0 about1 theMethod args0 below0 :=
  ⟨lists_1, trivial, launch0.admits_env _ _ _, launch0.least_env, fairChoices_fair.cas, fairChoices_fair.clock, w_frames, w_args, w_heap, w_applies, trivial, trivial, w_case⟩
end start1
theorem witness_1 : WitnessClaimed_1 := ⟨start1.p0, start1.e0, start1.about1, start1.theMethod, start1.args0, start1.below0, start1.atStart⟩
end Jvm.Pilot.@@N@@
