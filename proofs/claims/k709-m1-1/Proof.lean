import JvmDerived
import JvmDerived.Pilot.@@N@@Statement
import JvmDerived.Pilot.@@N@@Code
set_option linter.unusedVariables false
set_option linter.unusedSimpArgs false
namespace Jvm.RoadKit
open Sem ClassFile Op Lib Jvm.Stand Jvm.Free Jvm.LawKit
section New
variable {p : Program} {l : Launch} {e : Env} {R : Room} {s : State} {m : MethodId} {args : Array Value} {below : List Frame} {meth : Method} {c : Code} {T : State} {locs : List Loc} {cells slots : Nat}
theorem retI (X : Stand p l e R s m args below meth c T locs cells slots) (hx : p.tables.exec = Jvm.exec) {pc : Nat} {Ls : Array Slot} {z : Int32} {rest : List Value} (hret : meth.sig.returnType = some .int) (hd : decode c.code pc = .ok (.ireturn, 1)) {fs : List Frame}
    (hl : ∀ (f : JFrame) (acts : List Action), f.method = m → f.locked = none → f.entered = [] → (doReturn e (T.setTop f) acts (some (.int z))).1 = T.setFrames fs) : Steps p.tables e below (T.setTop (mkF m pc Ls (.int z :: rest))) (T.setFrames fs) :=
  retOut X hx hret rfl (Or.inl ⟨rfl, Or.inl rfl, z, rfl⟩) hd hl
theorem own_lremM {g : JFrame} {target : State} (X : Stand p l e R s m args below meth c T locs cells slots) (hx : p.tables.exec = Jvm.exec) (hg : g.method = m) {x y : Int64} {rest : List Value} (hd : decode c.code g.pc = .ok (.lrem, 1)) (hs : g.stack = .long y :: .long x :: rest) (hy : y ≠ 0)
    (hr : Steps p.tables e below (T.setTop { g with pc := g.pc + 1, stack := .long (x % y) :: rest }) target) : Steps p.tables e below (T.setTop g) target := by
  have q : x - x / y * y = x % y := lrem_mod x y
  exact XS.lrem X.here hx hg hd hs hy (by rw [q]; exact hr)
theorem own_evInt {Z : State} {args : Array Value} {t : Term} {k : Int32} (h : (Jvm.Cond.eq t (.int k)).value args Z none Z [] = some true) : t.eval args Z none [] Z = some (.int k) := by
  obtain ⟨x, y, h1, h2, -, -⟩ := cmp_v (Or.inl h)
  have hy : y = .int k := Option.some.inj (h2.symm.trans (Term.int_eval k))
  subst hy
  have hx : x = .int k := by
    cases x <;> simp [Cond.value, h1, h2] at h ⊢
    exact h
  rw [h1, hx]
theorem own_selPriv {y : MethodName} {kI : Nat} (hI : (Jvm.Cond.instantiable y.cls kI).before args s = true) (hpriv : s.PrivateAt y) (hinst : (Jvm.Cond.instanceMethod y).before args s = true) (hy : y.cls ≠ "java/lang/invoke/MethodHandle" ∧ y.cls ≠ "java/lang/invoke/VarHandle") : (Jvm.Cond.selects y.cls y y).before args s = true := by
  obtain ⟨c, k, h1, h2, -, h4, -⟩ := Cond.instantiable_spec hI
  exact selects_self_of_private h1 h2 (Bool.or_eq_false_iff.mp h4).1 hpriv hinst hy
theorem own_since0 (s : State) : s.Since s.vm 0 := (State.WarmedH.refl s).since _
theorem own_irr32 (x : Int32) : ¬ (x < x) := Int32.lt_irrefl
theorem own_irr64 (x : Int64) : ¬ (x < x) := Int64.lt_irrefl
theorem own_fldInt {Z : State} {args : Array Value} {t : Term} {a : Addr} {C n d : String} {k : Int32} (ev : t.eval args Z none [] Z = some (.ref a)) (h : (Jvm.Cond.eq (.field t C n d) (.int k)).value args Z none Z [] = some true) : Fld Z Z.heap a C n d (.int k) := by
  obtain ⟨x, y, h1, h2, -, -⟩ := cmp_v (Or.inl h)
  have hy : y = .int k := Option.some.inj (h2.symm.trans (Term.int_eval k))
  subst hy
  have hx : x = .int k := by
    cases x <;> simp [Cond.value, h1, h2] at h ⊢
    exact h
  rw [fld_at ev] at h1
  exact Fld.start (hx ▸ h1)
end New
end Jvm.RoadKit
namespace Jvm.Pilot.@@N@@
open Jvm Jvm.ClassFile Sem Op Lib Jvm.Free Jvm.Stand Jvm.LawKit Jvm.RoadKit Bundle Jvm.Pilot.@@N@@.Jvm.D
theorem wd0 {a0 : Array Value} {Z : State} (hw : ∀ d ∈ tables_1, d.before a0 Z = true) : (Jvm.Cond.constantLong "com/example/querymemo/querymemo/cache/CacheStatisticsHitRatioPinLaw" (9 : Nat) (9223372036854775807 : Int64)).before a0 Z = true := hw _ (List.mem_of_getElem? (i := 0) rfl)
theorem wd1 {a0 : Array Value} {Z : State} (hw : ∀ d ∈ tables_1, d.before a0 Z = true) : (Jvm.Cond.classLink "com/example/querymemo/querymemo/cache/CacheStatisticsHitRatioPinLaw" (11 : Nat) "com/example/querymemo/querymemo/cache/CacheStatistics").before a0 Z = true := hw _ (List.mem_of_getElem? (i := 1) rfl)
theorem wd2 {a0 : Array Value} {Z : State} (hw : ∀ d ∈ tables_1, d.before a0 Z = true) : (Jvm.Cond.instantiable "com/example/querymemo/querymemo/cache/CacheStatistics" (3 : Nat)).before a0 Z = true := hw _ (List.mem_of_getElem? (i := 2) rfl)
theorem wd3 {a0 : Array Value} {Z : State} (hw : ∀ d ∈ tables_1, d.before a0 Z = true) : (Jvm.Cond.initialized "com/example/querymemo/querymemo/cache/CacheStatistics").before a0 Z = true := hw _ (List.mem_of_getElem? (i := 3) rfl)
theorem wd4 {a0 : Array Value} {Z : State} (hw : ∀ d ∈ tables_1, d.before a0 Z = true) : (Jvm.Cond.methodLink "com/example/querymemo/querymemo/cache/CacheStatisticsHitRatioPinLaw" (13 : Nat) ({ cls := "com/example/querymemo/querymemo/cache/CacheStatistics", name := "<init>", desc := "(JJI)V" } : Jvm.MethodName)).before a0 Z = true := hw _ (List.mem_of_getElem? (i := 4) rfl)
theorem wd5 {a0 : Array Value} {Z : State} (hw : ∀ d ∈ tables_1, d.before a0 Z = true) : (Jvm.Cond.instanceMethod ({ cls := "com/example/querymemo/querymemo/cache/CacheStatistics", name := "<init>", desc := "(JJI)V" } : Jvm.MethodName)).before a0 Z = true := hw _ (List.mem_of_getElem? (i := 5) rfl)
theorem wd6 {a0 : Array Value} {Z : State} (hw : ∀ d ∈ tables_1, d.before a0 Z = true) : (Jvm.Cond.code ({ cls := "com/example/querymemo/querymemo/cache/CacheStatistics", name := "<init>", desc := "(JJI)V" } : Jvm.MethodName) prog_6_method_1_code (6 : Nat) (Option.none : Option Jvm.ClassFile.FieldType)).before a0 Z = true := hw _ (List.mem_of_getElem? (i := 6) rfl)
theorem wd7 {a0 : Array Value} {Z : State} (hw : ∀ d ∈ tables_1, d.before a0 Z = true) : (Jvm.Cond.methodLink "com/example/querymemo/querymemo/cache/CacheStatistics" (1 : Nat) ({ cls := "java/lang/Record", name := "<init>", desc := "()V" } : Jvm.MethodName)).before a0 Z = true := hw _ (List.mem_of_getElem? (i := 7) rfl)
theorem wd8 {a0 : Array Value} {Z : State} (hw : ∀ d ∈ tables_1, d.before a0 Z = true) : (Jvm.Cond.instanceMethod ({ cls := "java/lang/Record", name := "<init>", desc := "()V" } : Jvm.MethodName)).before a0 Z = true := hw _ (List.mem_of_getElem? (i := 8) rfl)
theorem wd10 {a0 : Array Value} {Z : State} (hw : ∀ d ∈ tables_1, d.before a0 Z = true) : (Jvm.Cond.initialized "java/lang/Record").before a0 Z = true := hw _ (List.mem_of_getElem? (i := 10) rfl)
theorem wd11 {a0 : Array Value} {Z : State} (hw : ∀ d ∈ tables_1, d.before a0 Z = true) : (Jvm.Cond.code ({ cls := "java/lang/Record", name := "<init>", desc := "()V" } : Jvm.MethodName) jdk_30_method_1_code (1 : Nat) (Option.none : Option Jvm.ClassFile.FieldType)).before a0 Z = true := hw _ (List.mem_of_getElem? (i := 11) rfl)
theorem wd12 {a0 : Array Value} {Z : State} (hw : ∀ d ∈ tables_1, d.before a0 Z = true) : (Jvm.Cond.methodLink "java/lang/Record" (1 : Nat) ({ cls := "java/lang/Object", name := "<init>", desc := "()V" } : Jvm.MethodName)).before a0 Z = true := hw _ (List.mem_of_getElem? (i := 12) rfl)
theorem wd13 {a0 : Array Value} {Z : State} (hw : ∀ d ∈ tables_1, d.before a0 Z = true) : (Jvm.Cond.instanceMethod ({ cls := "java/lang/Object", name := "<init>", desc := "()V" } : Jvm.MethodName)).before a0 Z = true := hw _ (List.mem_of_getElem? (i := 13) rfl)
theorem wd14 {a0 : Array Value} {Z : State} (hw : ∀ d ∈ tables_1, d.before a0 Z = true) : (Jvm.Cond.code ({ cls := "java/lang/Object", name := "<init>", desc := "()V" } : Jvm.MethodName) object_method_1_code (1 : Nat) (Option.none : Option Jvm.ClassFile.FieldType)).before a0 Z = true := hw _ (List.mem_of_getElem? (i := 14) rfl)
theorem wd15 {a0 : Array Value} {Z : State} (hw : ∀ d ∈ tables_1, d.before a0 Z = true) : (Jvm.Cond.fieldLink "com/example/querymemo/querymemo/cache/CacheStatistics" (7 : Nat) "com/example/querymemo/querymemo/cache/CacheStatistics" "lookups" "J").before a0 Z = true := hw _ (List.mem_of_getElem? (i := 15) rfl)
theorem wd16 {a0 : Array Value} {Z : State} (hw : ∀ d ∈ tables_1, d.before a0 Z = true) : (Jvm.Cond.laysFinal "com/example/querymemo/querymemo/cache/CacheStatistics" "com/example/querymemo/querymemo/cache/CacheStatistics" "lookups" "J").before a0 Z = true := hw _ (List.mem_of_getElem? (i := 16) rfl)
theorem wd17 {a0 : Array Value} {Z : State} (hw : ∀ d ∈ tables_1, d.before a0 Z = true) : (Jvm.Cond.fieldLink "com/example/querymemo/querymemo/cache/CacheStatistics" (13 : Nat) "com/example/querymemo/querymemo/cache/CacheStatistics" "hits" "J").before a0 Z = true := hw _ (List.mem_of_getElem? (i := 17) rfl)
theorem wd18 {a0 : Array Value} {Z : State} (hw : ∀ d ∈ tables_1, d.before a0 Z = true) : (Jvm.Cond.laysFinal "com/example/querymemo/querymemo/cache/CacheStatistics" "com/example/querymemo/querymemo/cache/CacheStatistics" "hits" "J").before a0 Z = true := hw _ (List.mem_of_getElem? (i := 18) rfl)
theorem wd19 {a0 : Array Value} {Z : State} (hw : ∀ d ∈ tables_1, d.before a0 Z = true) : (Jvm.Cond.fieldLink "com/example/querymemo/querymemo/cache/CacheStatistics" (16 : Nat) "com/example/querymemo/querymemo/cache/CacheStatistics" "entries" "I").before a0 Z = true := hw _ (List.mem_of_getElem? (i := 19) rfl)
theorem wd20 {a0 : Array Value} {Z : State} (hw : ∀ d ∈ tables_1, d.before a0 Z = true) : (Jvm.Cond.laysFinal "com/example/querymemo/querymemo/cache/CacheStatistics" "com/example/querymemo/querymemo/cache/CacheStatistics" "entries" "I").before a0 Z = true := hw _ (List.mem_of_getElem? (i := 20) rfl)
theorem wd21 {a0 : Array Value} {Z : State} (hw : ∀ d ∈ tables_1, d.before a0 Z = true) : (Jvm.Cond.methodLink "com/example/querymemo/querymemo/cache/CacheStatisticsHitRatioPinLaw" (16 : Nat) ({ cls := "com/example/querymemo/querymemo/cache/CacheStatistics", name := "hitRatio", desc := "()D" } : Jvm.MethodName)).before a0 Z = true := hw _ (List.mem_of_getElem? (i := 21) rfl)
theorem wd22 {a0 : Array Value} {Z : State} (hw : ∀ d ∈ tables_1, d.before a0 Z = true) : (Jvm.Cond.declares ({ cls := "com/example/querymemo/querymemo/cache/CacheStatistics", name := "hitRatio", desc := "()D" } : Jvm.MethodName)).before a0 Z = true := hw _ (List.mem_of_getElem? (i := 22) rfl)
theorem wd23 {a0 : Array Value} {Z : State} (hw : ∀ d ∈ tables_1, d.before a0 Z = true) : (Jvm.Cond.instanceMethod ({ cls := "com/example/querymemo/querymemo/cache/CacheStatistics", name := "hitRatio", desc := "()D" } : Jvm.MethodName)).before a0 Z = true := hw _ (List.mem_of_getElem? (i := 23) rfl)
theorem wd24 {a0 : Array Value} {Z : State} (hw : ∀ d ∈ tables_1, d.before a0 Z = true) : (Jvm.Cond.selects "com/example/querymemo/querymemo/cache/CacheStatistics" ({ cls := "com/example/querymemo/querymemo/cache/CacheStatistics", name := "hitRatio", desc := "()D" } : Jvm.MethodName) ({ cls := "com/example/querymemo/querymemo/cache/CacheStatistics", name := "hitRatio", desc := "()D" } : Jvm.MethodName)).before a0 Z = true := hw _ (List.mem_of_getElem? (i := 24) rfl)
theorem wd25 {a0 : Array Value} {Z : State} (hw : ∀ d ∈ tables_1, d.before a0 Z = true) : (Jvm.Cond.code ({ cls := "com/example/querymemo/querymemo/cache/CacheStatistics", name := "hitRatio", desc := "()D" } : Jvm.MethodName) prog_6_method_2_code (1 : Nat) (Option.some Jvm.ClassFile.FieldType.double)).before a0 Z = true := hw _ (List.mem_of_getElem? (i := 25) rfl)
theorem wd26 {a0 : Array Value} {Z : State} (hw : ∀ d ∈ tables_1, d.before a0 Z = true) : (Jvm.Cond.constantDouble "com/example/querymemo/querymemo/cache/CacheStatisticsHitRatioPinLaw" (20 : Nat) (4602678819172646912 : UInt64)).before a0 Z = true := hw _ (List.mem_of_getElem? (i := 26) rfl)
theorem wd27 {a0 : Array Value} {Z : State} (hw : ∀ d ∈ tables_1, d.before a0 Z = true) : (Jvm.Cond.constantLong "com/example/querymemo/querymemo/cache/CacheStatisticsHitRatioPinLaw" (22 : Nat) (4 : Int64)).before a0 Z = true := hw _ (List.mem_of_getElem? (i := 27) rfl)
theorem wd28 {a0 : Array Value} {Z : State} (hw : ∀ d ∈ tables_1, d.before a0 Z = true) : (Jvm.Cond.constantDouble "com/example/querymemo/querymemo/cache/CacheStatisticsHitRatioPinLaw" (24 : Nat) (4598175219545276416 : UInt64)).before a0 Z = true := hw _ (List.mem_of_getElem? (i := 28) rfl)
-- ===== own laws of rounding, over JvmDerived.FloatLaws 1 to 3 =====
open Jvm.FP.Core in
theorem own_datum (s : Bool) (c : Nat) (q : Int) (hc : c ≤ 2 ^ 53) (h1 : -1074 ≤ q) (h2 : q ≤ 900) :
    ∃ V : Datum, Jvm.FP.Core.fits b64 V ∧ (∃ s c q, V = .fin s c q) ∧ zval b64 V = signed s (c * 2 ^ (q + 1074).toNat) := by
  have key : ∀ (c : Nat) (q : Int), c < 2 ^ 53 → -1074 ≤ q → q ≤ 901 →
      ∃ V : Datum, Jvm.FP.Core.fits b64 V ∧ (∃ s c q, V = .fin s c q) ∧ zval b64 V = signed s (c * 2 ^ (q + 1074).toNat) := by
    intro c q hc h1 h2
    have hm : b64.qmax = 971 := by decide +kernel
    obtain ⟨c', q', e1, e2⟩ := round_exact good_b64 s (c := c) (q := q) hc (by rw [qmin_b64]; exact h1) (by rw [hm]; omega)
    refine ⟨_, round_fits good_b64 (.fin s c q), ⟨s, c', q', e1⟩, ?_⟩
    rw [e1]
    show signed s (inUnits c' q' b64.qmin) = _
    rw [e2]; unfold inUnits; rw [qmin_b64, show q - (-1074) = q + 1074 by omega]
  by_cases h : c < 2 ^ 53
  · exact key c q h h1 (by omega)
  · have e : c = 2 ^ 53 := by omega
    obtain ⟨V, f, k, z⟩ := key (2 ^ 52) (q + 1) (by decide) (by omega) (by omega)
    refine ⟨V, f, k, ?_⟩
    rw [z, e, show (q + 1 + 1074).toNat = (q + 1074).toNat + 1 by omega]
    congr 1
    generalize (q + 1074).toNat = w
    rw [Nat.pow_succ 2 w, Nat.mul_comm (2 ^ w) 2, ← Nat.mul_assoc]

open Jvm.FP.Core in
theorem own_signed_abs (i : Int) : signed (decide (i < 0)) i.natAbs = i := by
  unfold signed
  by_cases h : i < 0
  · simp only [h, decide_true, if_true]; omega
  · simp only [h, decide_false, Bool.false_eq_true, if_false]; omega

open Jvm.FP.Core in
theorem own_rep (m : Nat) (hm : m ≤ 1900) (i : Int) (hi : i.natAbs ≤ 2 ^ 53) :
    ∃ V : Datum, Jvm.FP.Core.fits b64 V ∧ (∃ s c q, V = .fin s c q) ∧ zval b64 V = i * ((2 ^ m : Nat) : Int) := by
  obtain ⟨V, f, k, z⟩ := own_datum (decide (i < 0)) i.natAbs ((m : Int) - 1074) hi (by omega) (by omega)
  refine ⟨V, f, k, ?_⟩
  rw [z, show ((m : Int) - 1074 + 1074).toNat = m by omega, signed_mul, own_signed_abs]

open Jvm.FP.Core in
/-- A finite double of the value `i * 2^(m - 1074)`. -/
def own_P (m : Nat) (x : UInt64) (i : Int) : Prop := DFin x ∧ zval b64 (val64 x) = i * ((2 ^ m : Nat) : Int)

open Jvm.FP.Core in
theorem own_kne {V : Datum} (k : ∃ s c q, V = .fin s c q) : V ≠ .nan := by
  obtain ⟨s, c, q, rfl⟩ := k
  exact Datum.noConfusion

open Jvm.FP.Core in
theorem own_squeeze {z : UInt64} {V W : Datum} (n : val64 z ≠ .nan) (fV : Jvm.FP.Core.fits b64 V) (kV : ∃ s c q, V = .fin s c q)
    (fW : Jvm.FP.Core.fits b64 W) (kW : ∃ s c q, W = .fin s c q) (h1 : zval b64 V ≤ zval b64 (val64 z))
    (h2 : zval b64 (val64 z) ≤ zval b64 W) : DFin z := by
  obtain ⟨s, c, q, rfl⟩ := kV
  obtain ⟨t, d, r, rfl⟩ := kW
  have a := zmag_lt_top good_b64 fV
  have b := zmag_lt_top good_b64 fW
  unfold DFin
  cases hD : val64 z with
  | nan => exact absurd hD n
  | fin s c q => exact ⟨s, c, q, rfl⟩
  | inf u =>
    exfalso
    rw [hD] at h1 h2
    have h1' : signed s (inUnits c q b64.qmin) ≤ signed u (b64.tails * 2 ^ (b64.exps - 2)) := h1
    have h2' : signed u (b64.tails * 2 ^ (b64.exps - 2)) ≤ signed t (inUnits d r b64.qmin) := h2
    clear h1 h2
    generalize b64.tails * 2 ^ (b64.exps - 2) = T at a b h1' h2'
    generalize inUnits c q b64.qmin = C at a h1'
    generalize inUnits d r b64.qmin = D at b h2'
    unfold signed at h1' h2'
    cases u <;> cases s <;> cases t <;> simp only [if_true, Bool.false_eq_true, if_false] at h1' h2' <;> omega

open Jvm.FP.Core in
theorem own_add_ne {x y : UInt64} (hx : DFin x) (hy : DFin y) : val64 (dadd x y) ≠ .nan :=
  (notNaN_iff _).mp (dadd_out hx.notNaN hy)

open Jvm.FP.Core in
theorem own_add_to {x y : UInt64} (hx : DFin x) (hy : DFin y) {V : Datum} (f : Jvm.FP.Core.fits b64 V) (k : ∃ s c q, V = .fin s c q)
    (h : zval b64 (val64 x) + zval b64 (val64 y) = zval b64 V) : DFin (dadd x y) ∧ zval b64 (val64 (dadd x y)) = zval b64 V := by
  have l : zval b64 (val64 (dadd x y)) ≤ zval b64 V := by
    rw [val64_dadd]; exact sum_le good_b64 hx hy (val64_fits x) (val64_fits y) f (own_kne k) (by omega)
  have g : zval b64 V ≤ zval b64 (val64 (dadd x y)) := by
    rw [val64_dadd]; exact sum_ge good_b64 hx hy (val64_fits x) (val64_fits y) f (own_kne k) (by omega)
  exact ⟨own_squeeze (own_add_ne hx hy) f k f k g l, by omega⟩

open Jvm.FP.Core in
theorem own_add {m : Nat} {x y : UInt64} {i j : Int} (hm : m ≤ 1900) (hx : own_P m x i) (hy : own_P m y j)
    (h : (i + j).natAbs ≤ 2 ^ 53) : own_P m (dadd x y) (i + j) := by
  obtain ⟨V, f, k, z⟩ := own_rep m hm (i + j) h
  have := own_add_to hx.1 hy.1 f k (by rw [hx.2, hy.2, z, Int.add_mul])
  rw [z] at this
  exact this

open Jvm.FP.Core in
theorem own_neg {m : Nat} {x : UInt64} {i : Int} (hx : own_P m x i) : own_P m (dneg x) (-i) := by
  obtain ⟨⟨s, c, q, e⟩, z⟩ := hx
  refine ⟨⟨!s, c, q, by rw [val64_dneg, e]; rfl⟩, ?_⟩
  rw [val64_dneg, zval_negate, z, Int.neg_mul]

open Jvm.FP.Core in
theorem own_sub {m : Nat} {x y : UInt64} {i j : Int} (hm : m ≤ 1900) (hx : own_P m x i) (hy : own_P m y j)
    (h : (i - j).natAbs ≤ 2 ^ 53) : own_P m (dsub x y) (i - j) := by
  rw [dsub_eq, Int.sub_eq_add_neg]
  exact own_add hm hx (own_neg hy) (by rw [← Int.sub_eq_add_neg]; exact h)

theorem own_pow_add (m k : Nat) : ((2 ^ (m + k) : Nat) : Int) = ((2 ^ k : Nat) : Int) * ((2 ^ m : Nat) : Int) := by
  rw [Nat.pow_add, Nat.mul_comm, Int.natCast_mul]

theorem own_up_P {m k : Nat} {x : UInt64} {i : Int} (h : own_P m x (i * ((2 ^ k : Nat) : Int))) : own_P (m + k) x i :=
  ⟨h.1, by rw [h.2, own_pow_add, Int.mul_assoc]⟩

theorem own_down_P {m k : Nat} {x : UInt64} {i : Int} (h : own_P (m + k) x i) : own_P m x (i * ((2 ^ k : Nat) : Int)) :=
  ⟨h.1, by rw [h.2, own_pow_add, Int.mul_assoc]⟩

open Jvm.FP.Core in
/-- A sum of whole numbers below 2^63 is a whole number not far from the exact one. -/
theorem own_add_near {x y : UInt64} {i j : Int} (hx : own_P 1074 x i) (hy : own_P 1074 y j)
    (h : (i + j).natAbs ≤ 9223372036854775808 + 1048576) :
    ∃ k, own_P 1074 (dadd x y) k ∧ (i + j) / 2048 * 2048 ≤ k ∧ k ≤ ((i + j) / 2048 + 1) * 2048 := by
  by_cases hs : (i + j).natAbs ≤ 2 ^ 53
  · exact ⟨i + j, own_add (by decide) hx hy hs, by omega, by omega⟩
  · obtain ⟨V, fV, kV, zV⟩ := own_rep 1085 (by decide) ((i + j) / 2048) (by omega)
    obtain ⟨W, fW, kW, zW⟩ := own_rep 1085 (by decide) ((i + j) / 2048 + 1) (by omega)
    have p : ((2 ^ 1085 : Nat) : Int) = 2048 * ((2 ^ 1074 : Nat) : Int) := own_pow_add 1074 11
    have u0 : (0 : Int) < ((2 ^ 1074 : Nat) : Int) := Int.natCast_pos.mpr (Nat.two_pow_pos _)
    have sx := hx.2
    have sy := hy.2
    rw [p] at zV zW
    have g : zval b64 V ≤ zval b64 (val64 (dadd x y)) := by
      rw [val64_dadd]
      refine sum_ge good_b64 hx.1 hy.1 (val64_fits x) (val64_fits y) fV (own_kne kV) ?_
      rw [zV, sx, sy, ← Int.add_mul, ← Int.mul_assoc]
      exact Int.mul_le_mul_of_nonneg_right (by omega) (by omega)
    have l : zval b64 (val64 (dadd x y)) ≤ zval b64 W := by
      rw [val64_dadd]
      refine sum_le good_b64 hx.1 hy.1 (val64_fits x) (val64_fits y) fW (own_kne kW) ?_
      rw [zW, sx, sy, ← Int.add_mul, ← Int.mul_assoc]
      exact Int.mul_le_mul_of_nonneg_right (by omega) (by omega)
    have F := own_squeeze (own_add_ne hx.1 hy.1) fV kV fW kW g l
    obtain ⟨s, c, q, e⟩ := F
    have ft := val64_fits (dadd x y)
    rw [e] at ft
    have hc : c < 2 ^ 53 := ft.1
    have hq : (-1074 : Int) ≤ q := by have := ft.2.1; rw [qmin_b64] at this; exact this
    have zz : zval b64 (val64 (dadd x y)) = signed s (c * 2 ^ (q + 1074).toNat) := by
      rw [e]; show signed s (inUnits c q b64.qmin) = _
      unfold inUnits; rw [qmin_b64, show q - (-1074) = q + 1074 by omega]
    rw [zV, ← Int.mul_assoc] at g
    rw [zW, ← Int.mul_assoc] at l
    by_cases q0 : 0 ≤ q
    · have z2 : zval b64 (val64 (dadd x y)) = signed s (c * 2 ^ q.toNat) * ((2 ^ 1074 : Nat) : Int) := by
        rw [zz, show (q + 1074).toNat = q.toNat + 1074 by omega, Nat.pow_add, ← Nat.mul_assoc, signed_mul]
      rw [z2] at g l
      exact ⟨_, ⟨⟨s, c, q, e⟩, z2⟩, Int.le_of_mul_le_mul_right g u0, Int.le_of_mul_le_mul_right l u0⟩
    · exfalso
      have b1 : c * 2 ^ (q + 1074).toNat ≤ 2 ^ 53 * 2 ^ 1073 :=
        Nat.mul_le_mul (Nat.le_of_lt hc) (Nat.pow_le_pow_right (by decide) (by omega))
      have b2 : 2 ^ 53 * 2 ^ 1073 = 2 ^ 52 * 2 ^ 1074 := by
        rw [← Nat.pow_add, ← Nat.pow_add]
      rw [b2] at b1
      have b3 : ((c * 2 ^ (q + 1074).toNat : Nat) : Int) ≤ 4503599627370496 * ((2 ^ 1074 : Nat) : Int) := by
        have := Int.ofNat_le.mpr b1
        rw [Int.natCast_mul (2 ^ 52)] at this
        exact this
      rw [zz] at g l
      generalize ((2 ^ 1074 : Nat) : Int) = U at *
      generalize c * 2 ^ (q + 1074).toNat = C at *
      have b4 : -(4503599627370496 * U) ≤ signed s C ∧ signed s C ≤ 4503599627370496 * U := by
        unfold signed
        cases s
        · simp only [Bool.false_eq_true, if_false]; omega
        · simp only [if_true]; omega
      have g2 := Int.le_trans g b4.2
      have l2 := Int.le_trans b4.1 l
      rw [← Int.neg_mul] at l2
      have g3 := Int.le_of_mul_le_mul_right g2 u0
      have l3 := Int.le_of_mul_le_mul_right l2 u0
      omega

open Jvm.FP.Core in
theorem own_sub_near {x y : UInt64} {i j : Int} (hx : own_P 1074 x i) (hy : own_P 1074 y j)
    (h : (i - j).natAbs ≤ 9223372036854775808 + 1048576) :
    ∃ k, own_P 1074 (dsub x y) k ∧ (i - j) / 2048 * 2048 ≤ k ∧ k ≤ ((i - j) / 2048 + 1) * 2048 := by
  rw [dsub_eq, Int.sub_eq_add_neg]
  exact own_add_near hx (own_neg hy) (by rw [← Int.sub_eq_add_neg]; exact h)

open Jvm.FP.Core in
theorem own_l2d {n : Int64} {k : Int} {s : Nat} (hs : s ≤ 800) (h : n.toInt = k * ((2 ^ s : Nat) : Int))
    (hk : k.natAbs ≤ 2 ^ 53) : own_P 1074 (l2d n) n.toInt := by
  obtain ⟨V, f, kV, z⟩ := own_rep (1074 + s) (by omega) k hk
  have e := val64_of64 f
  have n1 : val64 (of64 V) ≠ .nan := by rw [e]; exact own_kne kV
  have z2 : zval b64 (val64 (of64 V)) = n.toInt * (one64 : Int) := by
    rw [e, z, own_pow_add, h, Int.mul_assoc]; rfl
  have a := l2d_zval_ge (n := n) n1 (by omega)
  have b := l2d_zval_le (n := n) n1 (by omega)
  exact ⟨l2d_fin n, by rw [z2] at a b; show _ = _ * (one64 : Int); omega⟩

open Jvm.FP.Core in
theorem own_d2l {x : UInt64} {i : Int} (h : own_P 1074 x i) (h1 : -2 ^ 63 ≤ i) (h2 : i < 2 ^ 63) : (d2l x).toInt = i := by
  rw [d2l_val h.1.ne_nan]
  have z : signed (sgn (val64 x)) (zmag b64 (val64 x)) = i * (one64 : Int) := h.2
  have a : zmag b64 (val64 x) = i.natAbs * one64 := by
    have := congrArg Int.natAbs z
    rw [natAbs_signed, Int.natAbs_mul] at this
    exact this
  have b : signed (sgn (val64 x)) (i.natAbs) = i := by
    rw [a, signed_mul] at z
    exact Int.eq_of_mul_eq_mul_right (Int.natCast_ne_zero.mpr (Nat.ne_of_gt one64_pos)) z
  rw [a, Nat.mul_div_cancel _ one64_pos, b]
  omega
open Jvm.FP.Core in
theorem own_quot {x y : UInt64} (hx : DFin x) (hy : DFin y) (sx : sgn (val64 x) = false) (sy : sgn (val64 y) = false)
    (y0 : zmag b64 (val64 y) ≠ 0) : ∃ c d q r, val64 x = .fin false c q ∧ val64 y = .fin false d r ∧ 0 < d ∧
      -1074 ≤ q ∧ -1074 ≤ r ∧ val64 (ddiv x y) = roundRatio b64 false c d (q - r) ∧
      (∀ e : Int, inUnits c (q - r) (2 * b64.qmin - r) = zmag b64 (val64 x) * one64) ∧
      2 ^ (b64.qmin - (2 * b64.qmin - r)).toNat * d = zmag b64 (val64 y) := by
  obtain ⟨s, c, q, e1⟩ := hx
  obtain ⟨t, d, r, e2⟩ := hy
  have f1 := val64_fits x
  have f2 := val64_fits y
  have hd := val64_ddiv x y
  rw [e1] at sx f1 hd ⊢
  rw [e2] at sy f2 y0 hd ⊢
  have sx' : s = false := sx
  have sy' : t = false := sy
  subst sx' sy'
  have q1 : (-1074 : Int) ≤ q := by have := f1.2.1; rw [qmin_b64] at this; exact this
  have r1 : (-1074 : Int) ≤ r := by have := f2.2.1; rw [qmin_b64] at this; exact this
  have hd0 : d ≠ 0 := by
    rintro rfl
    exact y0 (Nat.zero_mul _)
  refine ⟨c, d, q, r, rfl, rfl, Nat.pos_of_ne_zero hd0, q1, r1, ?_, ?_, ?_⟩
  · rw [hd]; simp only [quotient, if_neg hd0]; rfl
  · intro _
    show c * _ = c * _ * 2 ^ 1074
    rw [Nat.mul_assoc, ← Nat.pow_add, qmin_b64]; congr 2; omega
  · show _ = d * _
    rw [Nat.mul_comm, qmin_b64]; congr 2; omega

open Jvm.FP.Core in
theorem own_div_sgn {x y : UInt64} (hx : DFin x) (hy : DFin y) (sx : sgn (val64 x) = false) (sy : sgn (val64 y) = false)
    (y0 : zmag b64 (val64 y) ≠ 0) : sgn (val64 (ddiv x y)) = false ∧ val64 (ddiv x y) ≠ .nan := by
  obtain ⟨c, d, q, r, e1, e2, d0, q1, r1, e, u1, u2⟩ := own_quot hx hy sx sy y0
  rw [e]
  exact ⟨sgn_roundRatio .., roundRatio_ne_nan _ _ _ _ _⟩

open Jvm.FP.Core in
theorem own_div_le {x y : UInt64} (hx : DFin x) (hy : DFin y) (sx : sgn (val64 x) = false) (sy : sgn (val64 y) = false)
    (y0 : zmag b64 (val64 y) ≠ 0) {V : Datum} (f : Jvm.FP.Core.fits b64 V) (n : V ≠ .nan)
    (h : zmag b64 (val64 x) * one64 ≤ zmag b64 V * zmag b64 (val64 y)) : zmag b64 (val64 (ddiv x y)) ≤ zmag b64 V := by
  obtain ⟨c, d, q, r, e1, e2, d0, q1, r1, e, u1, u2⟩ := own_quot hx hy sx sy y0
  rw [e]
  have qm := qmin_b64
  refine zmag_roundRatio_le good_b64 d0 f n (e0 := 2 * b64.qmin - r) (by omega) (by omega) ?_
  rw [u1 0, Nat.mul_assoc, u2]
  exact h

open Jvm.FP.Core in
theorem own_div_ge {x y : UInt64} (hx : DFin x) (hy : DFin y) (sx : sgn (val64 x) = false) (sy : sgn (val64 y) = false)
    (y0 : zmag b64 (val64 y) ≠ 0) {V : Datum} (f : Jvm.FP.Core.fits b64 V)
    (h : zmag b64 V * zmag b64 (val64 y) ≤ zmag b64 (val64 x) * one64) : zmag b64 V ≤ zmag b64 (val64 (ddiv x y)) := by
  obtain ⟨c, d, q, r, e1, e2, d0, q1, r1, e, u1, u2⟩ := own_quot hx hy sx sy y0
  rw [e]
  have qm := qmin_b64
  refine zmag_roundRatio_ge good_b64 d0 f (e0 := 2 * b64.qmin - r) (by omega) (by omega) ?_
  rw [u1 0, Nat.mul_assoc, u2]
  exact h

open Jvm.FP.Core in
theorem own_zval {d : Datum} (s : sgn d = false) : zval b64 d = (zmag b64 d : Int) := by
  unfold zval signed; rw [s]; rfl
open Jvm.FP.Core in
/-- Rounding keeps the order (finite results). -/
theorem own_mono {A B A' B' c c' : Nat} {e e' e0 q q' : Int} (hB : 0 < B) (hB' : 0 < B') (h0 : e0 ≤ b64.qmin)
    (h1 : e0 ≤ e) (h2 : e0 ≤ e') (h : inUnits A e e0 * B' ≤ inUnits A' e' e0 * B)
    (r1 : roundRatio b64 false A B e = .fin false c q) (r2 : roundRatio b64 false A' B' e' = .fin false c' q') :
    inUnits c q b64.qmin ≤ inUnits c' q' b64.qmin := by
  have f1 := roundRatio_fits good_b64 false A hB e
  have f2 := roundRatio_fits good_b64 false A' hB' e'
  rw [r1] at f1
  rw [r2] at f2
  by_cases g : inUnits c q b64.qmin ≤ inUnits c' q' b64.qmin
  · exact g
  exfalso
  have g' : inUnits c' q' e0 < inUnits c q e0 := by
    rw [units_fin f1 h0, units_fin f2 h0]
    exact Nat.mul_lt_mul_of_pos_right (by show inUnits c' q' b64.qmin < inUnits c q b64.qmin; omega) (Nat.two_pow_pos _)
  have n1 := roundRatio_nearest good_b64 hB r1 f2.1 f2.2.1 h0 h1
  have n2 := roundRatio_nearest good_b64 hB' r2 f1.1 f1.2.1 h0 h2
  have cong : inUnits A e e0 * B' = inUnits A' e' e0 * B → False := by
    intro he
    have k : A * B' * 2 ^ (e - e').toNat = A' * B * 2 ^ (e' - e).toNat := by
      unfold inUnits at he
      have a1 : (e - e0).toNat = (e - e').toNat + (min e e' - e0).toNat := by omega
      have a2 : (e' - e0).toNat = (e' - e).toNat + (min e e' - e0).toNat := by omega
      rw [a1, a2, Nat.pow_add, Nat.pow_add] at he
      refine Nat.eq_of_mul_eq_mul_right (Nat.two_pow_pos (min e e' - e0).toNat) ?_
      calc A * B' * 2 ^ (e - e').toNat * 2 ^ (min e e' - e0).toNat
          = A * (2 ^ (e - e').toNat * 2 ^ (min e e' - e0).toNat) * B' := by ac_rfl
        _ = A' * (2 ^ (e' - e).toNat * 2 ^ (min e e' - e0).toNat) * B := he
        _ = A' * B * 2 ^ (e' - e).toNat * 2 ^ (min e e' - e0).toNat := by ac_rfl
    have := roundRatio_congr (f := b64) (s := false) hB hB' k
    rw [r1, r2] at this
    injection this with _ t1 t2
    subst t1 t2
    exact g (Nat.le_refl _)
  unfold distance at n1 n2
  generalize inUnits A e e0 = X at *
  generalize inUnits A' e' e0 = Y at *
  generalize inUnits c q e0 = W at *
  generalize inUnits c' q' e0 = V at *
  have m1 : (W + V) * B ≤ 2 * X := by
    have a : V * B < W * B := Nat.mul_lt_mul_of_pos_right g' hB
    rw [← Int.natCast_mul, ← Int.natCast_mul] at n1
    rw [Nat.add_mul]
    generalize V * B = p at *
    generalize W * B = r at *
    omega
  have m2 : 2 * Y ≤ (W + V) * B' := by
    have a : V * B' < W * B' := Nat.mul_lt_mul_of_pos_right g' hB'
    rw [← Int.natCast_mul, ← Int.natCast_mul] at n2
    rw [Nat.add_mul]
    generalize V * B' = p at *
    generalize W * B' = r at *
    omega
  have m3 := Nat.mul_le_mul_right B' m1
  have m4 := Nat.mul_le_mul_right B m2
  rw [Nat.mul_assoc] at m3 m4
  rw [Nat.mul_assoc] at m3 m4
  rw [Nat.mul_comm B' B] at m4
  apply cong
  generalize (W + V) * (B * B') = Z at *
  generalize X * B' = p at *
  generalize Y * B = r at *
  omega

open Jvm.FP.Core in
theorem own_l2d_round {n : Int64} (h : 0 ≤ n.toInt) : val64 (l2d n) = roundRatio b64 false n.toInt.toNat 1 0 := by
  rw [val64_l2d]
  show roundRatio b64 (decide (n.toInt < 0)) n.toInt.natAbs 1 0 = _
  rw [show decide (n.toInt < 0) = false from decide_eq_false (by omega), show n.toInt.natAbs = n.toInt.toNat by omega]

open Jvm.FP.Core in
/-- A whole number times a power of two rounds to the rounded number times that power. -/
theorem own_scale {H k c : Nat} {q : Int} (h0 : 0 < H) (h1 : H < 2 ^ 63) (hk : k ≤ 100)
    (r : roundRatio b64 false H 1 0 = .fin false c q) : roundRatio b64 false H 1 (k : Int) = .fin false c (q + k) := by
  have sp := leading_spec h0 (show 0 < 1 by decide)
  have l1 : 0 < leading H 1 + 1 := lt_of_below (a := 0) (by unfold Below; simp; omega) sp.2
  have l2 : leading H 1 < 63 := lt_of_below sp.1 (by unfold Below; simp; omega)
  have qm := qmin_b64
  have hp : ((b64.p : Nat) : Int) = 53 := by decide +kernel
  have hx : b64.qmax = 971 := by decide +kernel
  have q1 : quantum b64 H 1 0 = leading H 1 - 52 := by unfold quantum; omega
  have q2 : quantum b64 H 1 (k : Int) = leading H 1 - 52 + k := by unfold quantum; omega
  unfold roundRatio at r ⊢
  rw [if_neg (by omega)] at r ⊢
  unfold roundAt at r ⊢
  rw [q1] at r
  rw [q2]
  have u1 : unitsNum H (k : Int) (leading H 1 - 52 + k) = unitsNum H 0 (leading H 1 - 52) := by
    unfold unitsNum; congr 2; omega
  have u2 : unitsDen 1 (k : Int) (leading H 1 - 52 + k) = unitsDen 1 0 (leading H 1 - 52) := by
    unfold unitsDen; congr 2; omega
  rw [u1, u2]
  generalize nearest (unitsNum H 0 (leading H 1 - 52)) (unitsDen 1 0 (leading H 1 - 52)) = m at *
  unfold settle bound at r ⊢
  by_cases hm : m < 2 ^ b64.p
  · rw [if_pos hm, if_pos (by omega)] at r ⊢
    injection r with _ t1 t2
    rw [t1, ← t2]
  · rw [if_neg hm, if_pos (by omega)] at r ⊢
    injection r with _ t1 t2
    rw [t1, ← t2]
    congr 1
    omega

open Jvm.FP.Core in
theorem own_l2d_fin (n : Int64) (h : 0 ≤ n.toInt) : ∃ c q, val64 (l2d n) = .fin false c q ∧ -1074 ≤ q ∧
    roundRatio b64 false n.toInt.toNat 1 0 = .fin false c q := by
  obtain ⟨c, q, e⟩ := l2d_shape n
  rw [show decide (n.toInt < 0) = false from decide_eq_false (by omega)] at e
  have f := val64_fits (l2d n)
  rw [e] at f
  refine ⟨c, q, e, by have := f.2.1; rw [qmin_b64] at this; exact this, ?_⟩
  rw [← own_l2d_round h, e]

open Jvm.FP.Core in
theorem own_l2d_mono {a b : Int64} {k : Nat} (hk : k ≤ 100) (h0 : 0 ≤ a.toInt) (hb : 0 ≤ b.toInt) (h : a.toInt * ((2 ^ k : Nat) : Int) ≤ b.toInt) :
    zmag b64 (val64 (l2d a)) * 2 ^ k ≤ zmag b64 (val64 (l2d b)) := by
  obtain ⟨c, q, e, hq, r⟩ := own_l2d_fin a h0
  obtain ⟨c', q', e', hq', r'⟩ := own_l2d_fin b hb
  have qm := qmin_b64
  rw [e, e']
  show inUnits c q b64.qmin * 2 ^ k ≤ inUnits c' q' b64.qmin
  by_cases a0 : a.toInt.toNat = 0
  · rw [a0] at r
    have : roundRatio b64 false 0 1 0 = .fin false 0 b64.qmin := rfl
    rw [this] at r
    injection r with _ t1 t2
    subst t1
    unfold inUnits
    simp
  · have s := own_scale (k := k) (Nat.pos_of_ne_zero a0) (by have := a.toInt_lt; omega) hk r
    have m := own_mono (e0 := b64.qmin) (by decide) (by decide) (Int.le_refl _) (by omega) (by omega) ?_ s r'
    · have : inUnits c (q + k) b64.qmin = inUnits c q b64.qmin * 2 ^ k := by
        unfold inUnits
        rw [Nat.mul_assoc, ← Nat.pow_add]; congr 2; omega
      rw [← this]; exact m
    · unfold inUnits
      rw [Nat.mul_one, Nat.mul_one, show ((k : Int) - b64.qmin).toNat = k + (0 - b64.qmin).toNat by omega, Nat.pow_add, ← Nat.mul_assoc]
      refine Nat.mul_le_mul_right _ ?_
      have := Int.toNat_le_toNat h
      rw [Int.toNat_mul h0 (Int.natCast_nonneg _), Int.toNat_natCast] at this
      exact this

open Jvm.FP.Core in
theorem own_l2d_mono' {a b : Int64} {k : Nat} (hk : k ≤ 100) (h0 : 0 ≤ a.toInt) (hb : 0 ≤ b.toInt) (h : b.toInt ≤ a.toInt * ((2 ^ k : Nat) : Int)) :
    zmag b64 (val64 (l2d b)) ≤ zmag b64 (val64 (l2d a)) * 2 ^ k := by
  obtain ⟨c, q, e, hq, r⟩ := own_l2d_fin a h0
  obtain ⟨c', q', e', hq', r'⟩ := own_l2d_fin b hb
  have qm := qmin_b64
  rw [e, e']
  show inUnits c' q' b64.qmin ≤ inUnits c q b64.qmin * 2 ^ k
  by_cases a0 : a.toInt.toNat = 0
  · have a1 : a.toInt = 0 := by omega
    rw [a1, Int.zero_mul] at h
    have b0 : b.toInt.toNat = 0 := by omega
    rw [b0] at r'
    have : roundRatio b64 false 0 1 0 = .fin false 0 b64.qmin := rfl
    rw [this] at r'
    injection r' with _ t1 t2
    subst t1
    unfold inUnits
    simp
  · have s := own_scale (k := k) (Nat.pos_of_ne_zero a0) (by have := a.toInt_lt; omega) hk r
    have m := own_mono (e0 := b64.qmin) (by decide) (by decide) (Int.le_refl _) (by omega) (by omega) ?_ r' s
    · have : inUnits c (q + k) b64.qmin = inUnits c q b64.qmin * 2 ^ k := by
        unfold inUnits
        rw [Nat.mul_assoc, ← Nat.pow_add]; congr 2; omega
      rw [← this]; exact m
    · unfold inUnits
      rw [Nat.mul_one, Nat.mul_one, show ((k : Int) - b64.qmin).toNat = k + (0 - b64.qmin).toNat by omega, Nat.pow_add, ← Nat.mul_assoc]
      refine Nat.mul_le_mul_right _ ?_
      have := Int.toNat_le_toNat h
      rw [Int.toNat_mul h0 (Int.natCast_nonneg _), Int.toNat_natCast] at this
      exact this

open Jvm.FP.Core in
theorem own_l2d_sgn {a : Int64} (h : 0 ≤ a.toInt) : sgn (val64 (l2d a)) = false := by
  obtain ⟨c, q, e, _, _⟩ := own_l2d_fin a h
  rw [e]; rfl

open Jvm.FP.Core in
theorem own_l2d_pos {a : Int64} (h : 0 < a.toInt) : zmag b64 (val64 (l2d a)) ≠ 0 := by
  have := own_l2d_mono (a := 1) (b := a) (k := 0) (by decide) (by decide) (by omega) (by show (1 : Int) * 1 ≤ _; omega)
  have e : zmag b64 (val64 (l2d 1)) ≠ 0 := by decide +kernel
  omega

open Jvm.FP.Core in
/-- Quotients of one divisor keep the order. -/
theorem own_div_mono {x x' y : UInt64} (hx : DFin x) (hx' : DFin x') (hy : DFin y) (sx : sgn (val64 x) = false) (sx' : sgn (val64 x') = false)
    (sy : sgn (val64 y) = false) (y0 : zmag b64 (val64 y) ≠ 0) (h : zmag b64 (val64 x) ≤ zmag b64 (val64 x'))
    (f : DFin (ddiv x y)) (f' : DFin (ddiv x' y)) : zmag b64 (val64 (ddiv x y)) ≤ zmag b64 (val64 (ddiv x' y)) := by
  obtain ⟨c, d, q, r, e1, e2, d0, q1, r1, e, u1, u2⟩ := own_quot hx hy sx sy y0
  obtain ⟨c', d', q', r', e1', e2', d0', q1', r1', e', u1', u2'⟩ := own_quot hx' hy sx' sy y0
  rw [e2] at e2'
  injection e2' with _ t1 t2
  subst t1 t2
  have g := (own_div_sgn hx hy sx sy y0).1
  have g' := (own_div_sgn hx' hy sx' sy y0).1
  obtain ⟨s, m, p, w⟩ := f
  obtain ⟨s', m', p', w'⟩ := f'
  rw [w] at g e ⊢
  rw [w'] at g' e' ⊢
  have gs : s = false := g
  have gs' : s' = false := g'
  subst gs gs'
  have qm := qmin_b64
  refine own_mono (e0 := 2 * b64.qmin - r) d0 d0 (by omega) (by omega) (by omega) ?_ e.symm e'.symm
  rw [u1 0, u1' 0]
  exact Nat.mul_le_mul_right _ (Nat.mul_le_mul_right _ h)
open Jvm.FP.Core in
theorem own_m0 : zmag b64 (val64 0) = 0 := by decide +kernel
open Jvm.FP.Core in
theorem own_m1 : zmag b64 (val64 4607182418800017408) = one64 := by decide +kernel
open Jvm.FP.Core in
theorem own_mh : zmag b64 (val64 4602678819172646912) * 2 ^ 1 = one64 := by decide +kernel
open Jvm.FP.Core in
theorem own_mq : zmag b64 (val64 4598175219545276416) * 2 ^ 2 = one64 := by decide +kernel

open Jvm.FP.Core in
/-- The ratio of two counts. -/
def own_R (r : UInt64) : Prop := DFin r ∧ sgn (val64 r) = false ∧ zmag b64 (val64 r) ≤ one64

open Jvm.FP.Core in
theorem own_ratio {L H : Int64} (hL : 0 < L.toInt) (h0 : 0 ≤ H.toInt) (h1 : H.toInt ≤ L.toInt) : own_R (ddiv (l2d H) (l2d L)) := by
  have fx := l2d_fin H
  have fy := l2d_fin L
  have sx := own_l2d_sgn h0
  have sy := own_l2d_sgn (Int.le_of_lt hL)
  have y0 := own_l2d_pos hL
  have m := own_l2d_mono (a := H) (b := L) (k := 0) (by decide) h0 (by omega) (by show H.toInt * 1 ≤ _; omega)
  have le : zmag b64 (val64 (ddiv (l2d H) (l2d L))) ≤ zmag b64 (val64 4607182418800017408) := by
    refine own_div_le fx fy sx sy y0 (val64_fits _) (by decide +kernel) ?_
    rw [own_m1, Nat.mul_comm one64]
    exact Nat.mul_le_mul_right _ (by simpa using m)
  have g := own_div_sgn fx fy sx sy y0
  refine ⟨?_, g.1, own_m1 ▸ le⟩
  refine own_squeeze g.2 (V := val64 0) (W := val64 4607182418800017408) (val64_fits _) ⟨_, _, _, val64_zero⟩ (val64_fits _) ?_ ?_ ?_
  · exact ⟨_, _, _, val64_dconst1⟩
  · rw [own_zval g.1, zval64_zero]; omega
  · rw [own_zval g.1, own_zval (d := val64 4607182418800017408) (by decide +kernel)]; omega

open Jvm.FP.Core in
theorem own_ratio_le {L H : Int64} (hL : 0 < L.toInt) (h0 : 0 ≤ H.toInt) {k : Nat} (hk : k ≤ 100) (h : H.toInt * ((2 ^ k : Nat) : Int) ≤ L.toInt)
    {V : UInt64} (n : val64 V ≠ .nan) (hV : zmag b64 (val64 V) * 2 ^ k = one64) : zmag b64 (val64 (ddiv (l2d H) (l2d L))) ≤ zmag b64 (val64 V) := by
  have m := own_l2d_mono (a := H) (b := L) hk h0 (by omega) h
  refine own_div_le (l2d_fin H) (l2d_fin L) (own_l2d_sgn h0) (own_l2d_sgn (Int.le_of_lt hL)) (own_l2d_pos hL) (val64_fits _) n ?_
  rw [← hV]
  generalize zmag b64 (val64 V) = v at *
  generalize zmag b64 (val64 (l2d H)) = a at *
  generalize zmag b64 (val64 (l2d L)) = b at *
  calc a * (v * 2 ^ k) = v * (a * 2 ^ k) := by ac_rfl
    _ ≤ v * b := Nat.mul_le_mul_left _ m

open Jvm.FP.Core in
theorem own_ratio_ge {L H : Int64} (hL : 0 < L.toInt) (h0 : 0 ≤ H.toInt) {k : Nat} (hk : k ≤ 100) (h : L.toInt ≤ H.toInt * ((2 ^ k : Nat) : Int))
    {V : UInt64} (hV : zmag b64 (val64 V) * 2 ^ k = one64) : zmag b64 (val64 V) ≤ zmag b64 (val64 (ddiv (l2d H) (l2d L))) := by
  have m := own_l2d_mono' (a := H) (b := L) hk h0 (by omega) h
  refine own_div_ge (l2d_fin H) (l2d_fin L) (own_l2d_sgn h0) (own_l2d_sgn (Int.le_of_lt hL)) (own_l2d_pos hL) (val64_fits _) ?_
  rw [← hV]
  generalize zmag b64 (val64 V) = v at *
  generalize zmag b64 (val64 (l2d H)) = a at *
  generalize zmag b64 (val64 (l2d L)) = b at *
  calc v * b ≤ v * (a * 2 ^ k) := Nat.mul_le_mul_left _ m
    _ = a * (v * 2 ^ k) := by ac_rfl

open Jvm.FP.Core in
theorem own_ratio_mono {L H H' : Int64} (hL : 0 < L.toInt) (h0 : 0 ≤ H.toInt) (h1 : H.toInt ≤ H'.toInt) (h2 : H'.toInt ≤ L.toInt) :
    zmag b64 (val64 (ddiv (l2d H) (l2d L))) ≤ zmag b64 (val64 (ddiv (l2d H') (l2d L))) := by
  have m := own_l2d_mono (a := H) (b := H') (k := 0) (by decide) h0 (by omega) (by show H.toInt * 1 ≤ _; omega)
  exact own_div_mono (l2d_fin H) (l2d_fin H') (l2d_fin L) (own_l2d_sgn h0) (own_l2d_sgn (by omega)) (own_l2d_sgn (Int.le_of_lt hL)) (own_l2d_pos hL)
    (by simpa using m) (own_ratio hL h0 (by omega)).1 (own_ratio hL (by omega) h2).1

open Jvm.FP.Core in
theorem own_cmp_z {x y : UInt64} (nx : val64 x ≠ .nan) (ny : val64 y ≠ .nan) (sx : sgn (val64 x) = false) (sy : sgn (val64 y) = false) :
    dcmp x y = some (if zmag b64 (val64 x) < zmag b64 (val64 y) then .lt else if zmag b64 (val64 x) = zmag b64 (val64 y) then .eq else .gt) := by
  rw [dcmp_zval nx ny, compare_ite, own_zval sx, own_zval sy]
  simp only [Int.ofNat_lt, Int.ofNat_inj]

open Jvm.FP.Core in
/-- `x ≤ y`, as `dcmpg .. ifgt` asks it. -/
theorem own_cmp_le {x y : UInt64} (nx : val64 x ≠ .nan) (ny : val64 y ≠ .nan) (sx : sgn (val64 x) = false) (sy : sgn (val64 y) = false)
    (h : zmag b64 (val64 x) ≤ zmag b64 (val64 y)) (o : CmpOp) : ¬ ((0 : Int32) < cmpValue (FP.dcmp x y) o) := by
  rw [show FP.dcmp x y = _ from own_cmp_z nx ny sx sy]
  by_cases q : zmag b64 (val64 x) < zmag b64 (val64 y)
  · rw [if_pos q]; cases o <;> decide
  · rw [if_neg q, if_pos (by omega)]; cases o <;> decide

open Jvm.FP.Core in
theorem own_cmp_ge {x y : UInt64} (nx : val64 x ≠ .nan) (ny : val64 y ≠ .nan) (sx : sgn (val64 x) = false) (sy : sgn (val64 y) = false)
    (h : zmag b64 (val64 y) ≤ zmag b64 (val64 x)) (o : CmpOp) : ¬ (cmpValue (FP.dcmp x y) o < (0 : Int32)) := by
  rw [show FP.dcmp x y = _ from own_cmp_z nx ny sx sy]
  by_cases q : zmag b64 (val64 x) = zmag b64 (val64 y)
  · rw [if_neg (by omega), if_pos q]; cases o <;> decide
  · rw [if_neg (by omega), if_neg q]; cases o <;> decide

open Jvm.FP.Core in
theorem own_cmp_eq {x y : UInt64} (nx : val64 x ≠ .nan) (ny : val64 y ≠ .nan) (sx : sgn (val64 x) = false) (sy : sgn (val64 y) = false)
    (h : zmag b64 (val64 x) = zmag b64 (val64 y)) (o : CmpOp) : cmpValue (FP.dcmp x y) o = 0 := by
  rw [show FP.dcmp x y = _ from own_cmp_z nx ny sx sy, if_neg (by omega), if_pos h]
  cases o <;> decide

theorem own_and63 (x : Int64) : 0 ≤ (x &&& (9223372036854775807 : Int64)).toInt := by
  exact (c_andSL x 9223372036854775807).2.2 (by decide)
theorem own_rem63 (x : Int64) {l : Int64} (hl : 0 < l.toInt) : 0 ≤ ((x &&& (9223372036854775807 : Int64)) % l).toInt ∧ ((x &&& (9223372036854775807 : Int64)) % l).toInt ≤ l.toInt := by
  have h := own_and63 x
  rw [Int64.toInt_mod]
  generalize (x &&& (9223372036854775807 : Int64)).toInt = y at *
  have a := Int.tmod_nonneg l.toInt h
  have b := Int.tmod_lt_of_pos y hl
  omega
theorem own_nlt {a b : Int64} (h : ¬ a < b) : b.toInt ≤ a.toInt := by rw [Int64.lt_iff_toInt_lt] at h; omega
theorem own_lt {a b : Int64} (h : a < b) : a.toInt ≤ b.toInt := by rw [Int64.lt_iff_toInt_lt] at h; omega
open Jvm.FP.Core in
theorem own_z0 {l h : Int64} (hl : 0 < l.toInt) (e : h = (0 : Int64)) : zmag b64 (val64 (ddiv (l2d h) (l2d l))) = zmag b64 (val64 0) := by
  subst e
  have := own_div_le (l2d_fin 0) (l2d_fin l) (own_l2d_sgn (a := 0) (by decide)) (own_l2d_sgn (Int.le_of_lt hl)) (own_l2d_pos hl) (V := val64 0) (val64_fits _) (by decide +kernel)
    (by rw [show zmag b64 (val64 (l2d 0)) = 0 by decide +kernel, Nat.zero_mul]; exact Nat.zero_le _)
  rw [own_m0] at this ⊢
  omega
open Jvm.FP.Core in
theorem own_z1 {l h : Int64} (hl : 0 < l.toInt) (h0 : 0 ≤ h.toInt) (e : h = l) : zmag b64 (val64 (ddiv (l2d h) (l2d l))) = zmag b64 (val64 4607182418800017408) := by
  subst e
  have a := own_ratio_le (k := 0) hl h0 (by decide) (by show h.toInt * 1 ≤ _; omega) (V := 4607182418800017408) (by decide +kernel) (by rw [own_m1, Nat.pow_zero, Nat.mul_one])
  have b := own_ratio_ge (k := 0) hl h0 (by decide) (by show _ ≤ h.toInt * 1; omega) (V := 4607182418800017408) (by rw [own_m1, Nat.pow_zero, Nat.mul_one])
  exact Nat.le_antisymm a b
open Jvm.FP.Core in
theorem own_half_le {l h : Int64} (hl : 0 < l.toInt) (h0 : 0 ≤ h.toInt) (h1 : h.toInt ≤ l.toInt) (c : ¬ (l - h) < h) : zmag b64 (val64 (ddiv (l2d h) (l2d l))) ≤ zmag b64 (val64 4602678819172646912) := by
  have r := rng64 l
  have s := int64_sub (a := l) (b := h) (by omega) (by omega)
  rw [Int64.lt_iff_toInt_lt, s] at c
  exact own_ratio_le (k := 1) hl h0 (by decide) (by show h.toInt * 2 ≤ _; omega) (by decide +kernel) own_mh
open Jvm.FP.Core in
theorem own_half_ge {l h : Int64} (hl : 0 < l.toInt) (h0 : 0 ≤ h.toInt) (h1 : h.toInt ≤ l.toInt) (c : ¬ h < (l - h)) : zmag b64 (val64 4602678819172646912) ≤ zmag b64 (val64 (ddiv (l2d h) (l2d l))) := by
  have r := rng64 l
  have s := int64_sub (a := l) (b := h) (by omega) (by omega)
  rw [Int64.lt_iff_toInt_lt, s] at c
  exact own_ratio_ge (k := 1) hl h0 (by decide) (by show _ ≤ h.toInt * 2; omega) own_mh
theorem own_div4 {l : Int64} (hl : 0 < l.toInt) : (l / (4 : Int64)).toInt = l.toInt / 4 := by
  have c := c_ldiv l 4 4 rfl (by decide)
  omega
theorem own_mod4 {l : Int64} (hl : 0 < l.toInt) (h : (l % (4 : Int64)) = (0 : Int64)) : l.toInt % 4 = 0 := by
  have e := congrArg Int64.toInt h
  rw [Int64.toInt_mod] at e
  have f : l.toInt.tmod 4 = 0 := e
  rw [Int.tmod_eq_emod_of_nonneg (by omega)] at f
  exact f
open Jvm.FP.Core in
theorem own_q_le {l h : Int64} (hl : 0 < l.toInt) (h0 : 0 ≤ h.toInt) (h1 : h.toInt ≤ l.toInt) (c : ¬ (l / (4 : Int64)) < h) : zmag b64 (val64 (ddiv (l2d h) (l2d l))) ≤ zmag b64 (val64 4598175219545276416) := by
  rw [Int64.lt_iff_toInt_lt, own_div4 hl] at c
  exact own_ratio_le (k := 2) hl h0 (by decide) (by show h.toInt * 4 ≤ _; omega) (by decide +kernel) own_mq
open Jvm.FP.Core in
theorem own_q_ge {l h q : Int64} (hl : 0 < l.toInt) (h0 : 0 ≤ h.toInt) (h1 : h.toInt ≤ l.toInt) (hq : (q = (0 : Int64) ∧ (l % (4 : Int64)) = (0 : Int64)) ∨ (q = (1 : Int64))) (c : ¬ h < ((l / (4 : Int64)) + q)) : zmag b64 (val64 4598175219545276416) ≤ zmag b64 (val64 (ddiv (l2d h) (l2d l))) := by
  have r := rng64 l
  have d := own_div4 hl
  have q1 : 0 ≤ q.toInt ∧ q.toInt ≤ 1 := by rcases hq with ⟨e, _⟩ | e <;> subst e <;> decide
  have s := int64_add (a := l / (4 : Int64)) (b := q) (by omega) (by omega)
  rw [Int64.lt_iff_toInt_lt, s, d] at c
  refine own_ratio_ge (k := 2) hl h0 (by decide) ?_ own_mq
  show _ ≤ h.toInt * 4
  rcases hq with ⟨e, m⟩ | e
  · subst e
    have := own_mod4 hl m
    have o0 : (0 : Int64).toInt = 0 := rfl
    omega
  · subst e
    have o0 : (1 : Int64).toInt = 1 := rfl
    omega
theorem ef_Rc (m : MethodId) (x0 : Addr) : entryFrame m #[(.ref x0)] 1 = mkF m 0 #[.val (.ref x0)] [] := by first | (simp [entryFrame, mkF, argsToLocals, Value.category]; done) | rfl
theorem pn_java_lang_Record : plainName "java/lang/Record" = true := by first | (simp [plainName, overriddenIn]; done) | decide +kernel
theorem dd_jdk_30_method_1_code_0 : decode jdk_30_method_1_code 0 = .ok (.aload_n 0, 1) := by decide +kernel
theorem dd_jdk_30_method_1_code_1 : decode jdk_30_method_1_code 1 = .ok (.invokespecial 1, 3) := by decide +kernel
theorem dd_jdk_30_method_1_code_4 : decode jdk_30_method_1_code 4 = .ok (.return_, 1) := by decide +kernel
def QRc (Z : State) (o : Addr) (h0 : Heap) (n0 : Nat) (v : Option Value) (h : Heap) (L : List Loc) : Prop := v = none ∧ Fr n0 L ∧ h = h0
set_option maxRecDepth 65536 in
set_option maxHeartbeats 40000000 in
theorem rmRc (l : Launch) (Z : State) (a0 : Array Value) (hw : ∀ d ∈ tables_1, d.before a0 Z = true) (ws : List Jvm.Cond) (o : Addr) (h0 : Heap) (n0 : Nat) (Z0 : n0 ≤ h0.size) :
    MetFree l (⟨"java/lang/Record", "<init>", "()V"⟩ : MethodName) (head1 (Jvm.Cond.code (⟨"java/lang/Record", "<init>", "()V"⟩ : MethodName) jdk_30_method_1_code 1 none :: ws) ({ frames := 1, cells := 0, slots := 0, locals := 12 } : Room)) (fun a U => a = #[(.ref o)] ∧ Z.Warmed39 U.vm ∧ U.heap = h0) (fun _ _ _ _ _ => True) (fun _ U oc_ U' => ∃ v L, oc_ = .returned v ∧ QRc Z o h0 n0 v U'.heap L ∧ FrameEnd U oc_ U' L ({ frames := 1, cells := 0, slots := 0, locals := 12 } : Room).cells ({ frames := 1, cells := 0, slots := 0, locals := 12 } : Room).slots) := by
  refine MetFree.of_bodySF (plainFor_of_name pn_java_lang_Record) hisR ?_
  intro p e s m args below meth c s₁ Bd hml0 hP hK
  obtain ⟨rfl, hZ, hh⟩ := hP
  have hx := Bd.exec
  have hby := Bd.bytes
  have hml : c.maxLocals = 1 := hml0
  have hown : s.vm.findClass "java/lang/Record" = some m.cls := findClass_of_methodNamed Bd.named
  have hnm := (name_of_methodNamed Bd.named Bd.method).1
  have X0 : Stand p l e ({ frames := 1, cells := 0, slots := 0, locals := 12 } : Room) s m #[(.ref o)] below meth c s₁ [] 0 0 := Stand.of_body Bd
  have e0 : s₁.heap = h0 := by rw [← hh, Bd.state]; rfl
  have N0 := Fr.nil n0
  have pre0 : ∀ t, Steps p.tables e below (s₁.setTop (mkF m 0 #[.val (.ref o)] [])) t → Steps p.tables e below (s₁.setTop (entryFrame m #[(.ref o)] 1)) t := fun t k => castTop (ef_Rc m o) k
  obtain ⟨T1, X1, e1, st1⟩ := initO X0 hx hZ hown (wd12 hw) (wd13 hw) (wd14 hw) e0 (g := (mkF m 1 #[.val (.ref o)] [(.ref o)])) rfl (by rw [hml]; rfl) rfl (hb hby dd_jdk_30_method_1_code_1) (by decide) (W := 0) (by show 2 * 0 + _ ≤ _; exact Nat.le_of_eq rfl) (by decide)
  obtain ⟨lfs, lhr, lhrun, lhended, lhW, lhsame⟩ := X1.leave (v := none) (fun _ => rfl)
  refine ⟨_, _, pre0 _ ?_, lhrun, lhended, _, _, rfl, ?_, ⟨_, rfl⟩, lhW, lhsame.mono (by decide) (by decide)⟩
  · skip
    show Steps p.tables e below (s₁.setTop (mkF m 0 #[.val (.ref o)] [])) _
    refine XS.aloadN X0.here hx rfl (hb hby dd_jdk_30_method_1_code_0) rfl rfl ?_
    show Steps p.tables e below (s₁.setTop (mkF m 1 #[.val (.ref o)] [(.ref o)])) _
    refine st1 _ ?_
    show Steps p.tables e below (T1.setTop (mkF m 4 #[.val (.ref o)] [])) _
    exact X1.returnOut hx Bd.returns (hb hby dd_jdk_30_method_1_code_4) lhr
  · skip
    show QRc Z o h0 n0 _ T1.heap _
    rw [e1]
    exact ⟨rfl, N0, rfl⟩
theorem ef_Ini (m : MethodId) (x0 : Addr) (x1 : Int64) (x2 : Int64) (x3 : Int32) : entryFrame m #[(.ref x0), (.long x1), (.long x2), (.int x3)] 6 = mkF m 0 #[.val (.ref x0), .val (.long x1), .second, .val (.long x2), .second, .val (.int x3)] [] := by first | (simp [entryFrame, mkF, argsToLocals, Value.category]; done) | rfl
theorem pn_com_example_querymemo_querymemo_cache_CacheStatistics : plainName "com/example/querymemo/querymemo/cache/CacheStatistics" = true := by first | (simp [plainName, overriddenIn]; done) | decide +kernel
theorem dd_prog_6_method_1_code_0 : decode prog_6_method_1_code 0 = .ok (.aload_n 0, 1) := by decide +kernel
theorem dd_prog_6_method_1_code_1 : decode prog_6_method_1_code 1 = .ok (.invokespecial 1, 3) := by decide +kernel
theorem pd___V : parseMethodDescriptor "()V" = some ⟨[], none⟩ := by decide +kernel
theorem dd_prog_6_method_1_code_4 : decode prog_6_method_1_code 4 = .ok (.aload_n 0, 1) := by decide +kernel
theorem dd_prog_6_method_1_code_5 : decode prog_6_method_1_code 5 = .ok (.lload_n 1, 1) := by decide +kernel
theorem dd_prog_6_method_1_code_6 : decode prog_6_method_1_code 6 = .ok (.putfield 7, 3) := by decide +kernel
theorem dd_prog_6_method_1_code_9 : decode prog_6_method_1_code 9 = .ok (.aload_n 0, 1) := by decide +kernel
theorem dd_prog_6_method_1_code_10 : decode prog_6_method_1_code 10 = .ok (.lload_n 3, 1) := by decide +kernel
theorem dd_prog_6_method_1_code_11 : decode prog_6_method_1_code 11 = .ok (.putfield 13, 3) := by decide +kernel
theorem dd_prog_6_method_1_code_14 : decode prog_6_method_1_code 14 = .ok (.aload_n 0, 1) := by decide +kernel
theorem dd_prog_6_method_1_code_15 : decode prog_6_method_1_code 15 = .ok (.iload 5, 2) := by decide +kernel
theorem dd_prog_6_method_1_code_17 : decode prog_6_method_1_code 17 = .ok (.putfield 16, 3) := by decide +kernel
theorem dd_prog_6_method_1_code_20 : decode prog_6_method_1_code 20 = .ok (.return_, 1) := by decide +kernel
def QIni (Z : State) (o : Addr) (l1 : Int64) (l2 : Int64) (i3 : Int32) (u0 : Value) (u1 : Value) (u2 : Value) (h0 : Heap) (n0 : Nat) (v : Option Value) (h : Heap) (L : List Loc) : Prop := v = none ∧ Fr n0 L ∧ Keep h0 h [o] ∧ Exa Z h o "com/example/querymemo/querymemo/cache/CacheStatistics" ∧ Fld Z h o "com/example/querymemo/querymemo/cache/CacheStatistics" "lookups" "J" (.long l1) ∧ Fld Z h o "com/example/querymemo/querymemo/cache/CacheStatistics" "hits" "J" (.long l2)
set_option maxRecDepth 65536 in
set_option maxHeartbeats 40000000 in
theorem rmIni (l : Launch) (Z : State) (a0 : Array Value) (hw : ∀ d ∈ tables_1, d.before a0 Z = true) (ws : List Jvm.Cond) (o : Addr) (l1 : Int64) (l2 : Int64) (i3 : Int32) (u0 : Value) (u1 : Value) (u2 : Value) (h0 : Heap) (n0 : Nat) (Z0 : n0 ≤ h0.size) (g_o : n0 ≤ o) (E_o : Exa Z h0 o "com/example/querymemo/querymemo/cache/CacheStatistics") (F_0 : Fld Z h0 o "com/example/querymemo/querymemo/cache/CacheStatistics" "lookups" "J" u0) (F_1 : Fld Z h0 o "com/example/querymemo/querymemo/cache/CacheStatistics" "hits" "J" u1) (F_2 : Fld Z h0 o "com/example/querymemo/querymemo/cache/CacheStatistics" "entries" "I" u2) :
    MetFree l (⟨"com/example/querymemo/querymemo/cache/CacheStatistics", "<init>", "(JJI)V"⟩ : MethodName) (head1 (Jvm.Cond.code (⟨"com/example/querymemo/querymemo/cache/CacheStatistics", "<init>", "(JJI)V"⟩ : MethodName) prog_6_method_1_code 6 none :: ws) ({ frames := 2, cells := 0, slots := 0, locals := 29 } : Room)) (fun a U => a = #[(.ref o), (.long l1), (.long l2), (.int i3)] ∧ Z.Warmed39 U.vm ∧ U.heap = h0) (fun _ _ _ _ _ => True) (fun _ U oc_ U' => ∃ v L, oc_ = .returned v ∧ QIni Z o l1 l2 i3 u0 u1 u2 h0 n0 v U'.heap L ∧ FrameEnd U oc_ U' L ({ frames := 2, cells := 0, slots := 0, locals := 29 } : Room).cells ({ frames := 2, cells := 0, slots := 0, locals := 29 } : Room).slots) := by
  refine MetFree.of_bodySF (plainFor_of_name pn_com_example_querymemo_querymemo_cache_CacheStatistics) hisR ?_
  intro p e s m args below meth c s₁ Bd hml0 hP hK
  obtain ⟨rfl, hZ, hh⟩ := hP
  have hx := Bd.exec
  have hby := Bd.bytes
  have hml : c.maxLocals = 6 := hml0
  have hown : s.vm.findClass "com/example/querymemo/querymemo/cache/CacheStatistics" = some m.cls := findClass_of_methodNamed Bd.named
  have hnm := (name_of_methodNamed Bd.named Bd.method).1
  have X0 : Stand p l e ({ frames := 2, cells := 0, slots := 0, locals := 29 } : Room) s m #[(.ref o), (.long l1), (.long l2), (.int i3)] below meth c s₁ [] 0 0 := Stand.of_body Bd
  have e0 : s₁.heap = h0 := by rw [← hh, Bd.state]; rfl
  have N0 := Fr.nil n0
  have pre0 : ∀ t, Steps p.tables e below (s₁.setTop (mkF m 0 #[.val (.ref o), .val (.long l1), .second, .val (.long l2), .second, .val (.int i3)] [])) t → Steps p.tables e below (s₁.setTop (entryFrame m #[(.ref o), (.long l1), (.long l2), (.int i3)] 6)) t := fun t k => castTop (ef_Ini m o l1 l2 i3) k
  obtain ⟨_, _, ⟨T1, L1, kc1, ks1⟩, -, X1, ⟨Lc1, hQ1, l1, y1, z1⟩, st1⟩ := X0.specialBack hx (y := (⟨"java/lang/Record", "<init>", "()V"⟩ : MethodName)) rfl hown (mvT hZ (wd7 hw)) (mvT hZ (wd8 hw)) (mvT hZ (wd11 hw)) (by decide) (backOf (W := 0) (rmRc l Z a0 hw [] o h0 n0 Z0) hZ (wd11 hw) (wd10 hw) (by decide) (by decide)) (g := (mkF m 1 #[.val (.ref o), .val (.long l1), .second, .val (.long l2), .second, .val (.int i3)] [(.ref o)])) rfl (by rw [hml]; rfl) (Steps.refl _) (a := o) (argsL := []) (rest := []) (lenOf pd___V rfl) rfl (by show 2 * 0 + _ ≤ _; exact Nat.le_of_eq rfl) (hb hby dd_prog_6_method_1_code_1) (fun _ _ => ⟨rfl, e0, (by decide : 0 + 0 ≤ _), (by decide : 0 + 0 ≤ _)⟩)
  dsimp only [Pt.U, Pt.locs, Pt.cells, Pt.slots] at X1 l1 y1 z1 st1 hQ1
  subst l1 y1 z1
  obtain ⟨rfl, Nq1, eq1⟩ := hQ1
  have N1 := Fr.app N0 Nq1
  obtain ⟨T2, h2, X2, e2, W2, st2⟩ := putF X1 hx hZ hown (host := "") (Or.inl (wd15 hw)) Via.refl eq1 F_0 E_o (Or.inr ⟨(wd16 hw), rfl, hnm⟩) (wd2 hw) (ty := .long) (by decide) rfl rfl (g := (mkF m 6 #[.val (.ref o), .val (.long l1), .second, .val (.long l2), .second, .val (.int i3)] [(.long l1), (.ref o)])) rfl rfl (hb hby dd_prog_6_method_1_code_6)
  have N2 := Fr.snoc X2 N1 g_o
  have Z2 : n0 ≤ h2.size := by rw [W2.size]; exact Z0
  have K2 : Keep h0 h2 [o] := ((Keep.refl h0 [o]).wr W2 (Or.inl (List.mem_of_getElem? (i := 0) rfl)))
  have Fw2 := F_0.same W2
  have f3 := (E_o.wr W2)
  have f4 := (F_1.other W2 (Or.inr (slot_ne (Or.inr (wd18 hw)) (Or.inr (wd16 hw)) (by decide) (t := .long) (t' := .long) (by decide) (by decide))))
  obtain ⟨T5, h5, X5, e5, W5, st5⟩ := putF X2 hx hZ hown (host := "") (Or.inl (wd17 hw)) Via.refl e2 f4 f3 (Or.inr ⟨(wd18 hw), rfl, hnm⟩) (wd2 hw) (ty := .long) (by decide) rfl rfl (g := (mkF m 11 #[.val (.ref o), .val (.long l1), .second, .val (.long l2), .second, .val (.int i3)] [(.long l2), (.ref o)])) rfl rfl (hb hby dd_prog_6_method_1_code_11)
  have N5 := Fr.snoc X5 N2 g_o
  have Z5 : n0 ≤ h5.size := by rw [W5.size]; exact Z2
  have K5 : Keep h0 h5 [o] := (K2.wr W5 (Or.inl (List.mem_of_getElem? (i := 0) rfl)))
  have Fw5 := f4.same W5
  have f6 := (f3.wr W5)
  have f7 := ((F_2.other W2 (Or.inr (slot_ne (Or.inr (wd20 hw)) (Or.inr (wd16 hw)) (by decide) (t := .int) (t' := .long) (by decide) (by decide)))).other W5 (Or.inr (slot_ne (Or.inr (wd20 hw)) (Or.inr (wd18 hw)) (by decide) (t := .int) (t' := .long) (by decide) (by decide))))
  obtain ⟨T8, h8, X8, e8, W8, st8⟩ := putF X5 hx hZ hown (host := "") (Or.inl (wd19 hw)) Via.refl e5 f7 f6 (Or.inr ⟨(wd20 hw), rfl, hnm⟩) (wd2 hw) (ty := .int) (by decide) rfl rfl (g := (mkF m 17 #[.val (.ref o), .val (.long l1), .second, .val (.long l2), .second, .val (.int i3)] [(.int i3), (.ref o)])) rfl rfl (hb hby dd_prog_6_method_1_code_17)
  have N8 := Fr.snoc X8 N5 g_o
  have Z8 : n0 ≤ h8.size := by rw [W8.size]; exact Z5
  have K8 : Keep h0 h8 [o] := (K5.wr W8 (Or.inl (List.mem_of_getElem? (i := 0) rfl)))
  have Fw8 := f7.same W8
  obtain ⟨lfs, lhr, lhrun, lhended, lhW, lhsame⟩ := X8.leave (v := none) (fun _ => rfl)
  refine ⟨_, _, pre0 _ ?_, lhrun, lhended, _, _, rfl, ?_, ⟨_, rfl⟩, lhW, lhsame.mono (by decide) (by decide)⟩
  · skip
    show Steps p.tables e below (s₁.setTop (mkF m 0 #[.val (.ref o), .val (.long l1), .second, .val (.long l2), .second, .val (.int i3)] [])) _
    refine XS.aloadN X0.here hx rfl (hb hby dd_prog_6_method_1_code_0) rfl rfl ?_
    show Steps p.tables e below (s₁.setTop (mkF m 1 #[.val (.ref o), .val (.long l1), .second, .val (.long l2), .second, .val (.int i3)] [(.ref o)])) _
    refine st1.trans ?_
    show Steps p.tables e below (T1.setTop (mkF m 4 #[.val (.ref o), .val (.long l1), .second, .val (.long l2), .second, .val (.int i3)] [])) _
    refine XS.aloadN X1.here hx rfl (hb hby dd_prog_6_method_1_code_4) rfl rfl ?_
    show Steps p.tables e below (T1.setTop (mkF m 5 #[.val (.ref o), .val (.long l1), .second, .val (.long l2), .second, .val (.int i3)] [(.ref o)])) _
    refine XS.lloadN X1.here hx rfl (hb hby dd_prog_6_method_1_code_5) rfl ?_
    show Steps p.tables e below (T1.setTop (mkF m 6 #[.val (.ref o), .val (.long l1), .second, .val (.long l2), .second, .val (.int i3)] [(.long l1), (.ref o)])) _
    refine st2 _ ?_
    show Steps p.tables e below (T2.setTop (mkF m 9 #[.val (.ref o), .val (.long l1), .second, .val (.long l2), .second, .val (.int i3)] [])) _
    refine XS.aloadN X2.here hx rfl (hb hby dd_prog_6_method_1_code_9) rfl rfl ?_
    show Steps p.tables e below (T2.setTop (mkF m 10 #[.val (.ref o), .val (.long l1), .second, .val (.long l2), .second, .val (.int i3)] [(.ref o)])) _
    refine XS.lloadN X2.here hx rfl (hb hby dd_prog_6_method_1_code_10) rfl ?_
    show Steps p.tables e below (T2.setTop (mkF m 11 #[.val (.ref o), .val (.long l1), .second, .val (.long l2), .second, .val (.int i3)] [(.long l2), (.ref o)])) _
    refine st5 _ ?_
    show Steps p.tables e below (T5.setTop (mkF m 14 #[.val (.ref o), .val (.long l1), .second, .val (.long l2), .second, .val (.int i3)] [])) _
    refine XS.aloadN X5.here hx rfl (hb hby dd_prog_6_method_1_code_14) rfl rfl ?_
    show Steps p.tables e below (T5.setTop (mkF m 15 #[.val (.ref o), .val (.long l1), .second, .val (.long l2), .second, .val (.int i3)] [(.ref o)])) _
    refine XS.iload X5.here hx rfl (hb hby dd_prog_6_method_1_code_15) rfl ?_
    show Steps p.tables e below (T5.setTop (mkF m 17 #[.val (.ref o), .val (.long l1), .second, .val (.long l2), .second, .val (.int i3)] [(.int i3), (.ref o)])) _
    refine st8 _ ?_
    show Steps p.tables e below (T8.setTop (mkF m 20 #[.val (.ref o), .val (.long l1), .second, .val (.long l2), .second, .val (.int i3)] [])) _
    exact X8.returnOut hx Bd.returns (hb hby dd_prog_6_method_1_code_20) lhr
  · skip
    show QIni Z o l1 l2 i3 u0 u1 u2 h0 n0 _ T8.heap _
    rw [e8]
    have f9 := (f6.wr W8)
    have f10 := ((Fw2.other W5 (Or.inr (slot_ne (Or.inr (wd16 hw)) (Or.inr (wd18 hw)) (by decide) (t := .long) (t' := .long) (by decide) (by decide)))).other W8 (Or.inr (slot_ne (Or.inr (wd16 hw)) (Or.inr (wd20 hw)) (by decide) (t := .long) (t' := .int) (by decide) (by decide))))
    have f11 := (Fw5.other W8 (Or.inr (slot_ne (Or.inr (wd18 hw)) (Or.inr (wd20 hw)) (by decide) (t := .long) (t' := .int) (by decide) (by decide))))
    exact ⟨rfl, N8, K8, f9, f10, f11⟩
theorem ef_H0 (m : MethodId) (x0 : Addr) : entryFrame m #[(.ref x0)] 1 = mkF m 0 #[.val (.ref x0)] [] := by first | (simp [entryFrame, mkF, argsToLocals, Value.category]; done) | rfl
theorem dd_prog_6_method_2_code_0 : decode prog_6_method_2_code 0 = .ok (.aload_n 0, 1) := by decide +kernel
theorem dd_prog_6_method_2_code_1 : decode prog_6_method_2_code 1 = .ok (.getfield 7, 3) := by decide +kernel
theorem dd_prog_6_method_2_code_4 : decode prog_6_method_2_code 4 = .ok (.lconst 0, 1) := by decide +kernel
theorem dd_prog_6_method_2_code_5 : decode prog_6_method_2_code 5 = .ok (.lcmp, 1) := by decide +kernel
theorem dd_prog_6_method_2_code_6 : decode prog_6_method_2_code 6 = .ok (.ifCond .ne 7, 3) := by decide +kernel
theorem dd_prog_6_method_2_code_9 : decode prog_6_method_2_code 9 = .ok (.dconst 0, 1) := by decide +kernel
theorem dd_prog_6_method_2_code_10 : decode prog_6_method_2_code 10 = .ok (.goto 14, 3) := by decide +kernel
theorem dd_prog_6_method_2_code_24 : decode prog_6_method_2_code 24 = .ok (.dreturn, 1) := by decide +kernel
def QH0 (Z : State) (o : Addr) (h0 : Heap) (n0 : Nat) (v : Option Value) (h : Heap) (L : List Loc) : Prop := v = some (.double (0 : UInt64)) ∧ Fr n0 L ∧ h = h0
set_option maxRecDepth 65536 in
set_option maxHeartbeats 40000000 in
theorem rmH0 (l : Launch) (Z : State) (a0 : Array Value) (hw : ∀ d ∈ tables_1, d.before a0 Z = true) (ws : List Jvm.Cond) (o : Addr) (h0 : Heap) (n0 : Nat) (Z0 : n0 ≤ h0.size) (F_l : Fld Z h0 o "com/example/querymemo/querymemo/cache/CacheStatistics" "lookups" "J" (.long (0 : Int64))) :
    MetFree l (⟨"com/example/querymemo/querymemo/cache/CacheStatistics", "hitRatio", "()D"⟩ : MethodName) (head1 (Jvm.Cond.code (⟨"com/example/querymemo/querymemo/cache/CacheStatistics", "hitRatio", "()D"⟩ : MethodName) prog_6_method_2_code 1 (some .double) :: ws) ({ frames := 0, cells := 0, slots := 0, locals := 0 } : Room)) (fun a U => a = #[(.ref o)] ∧ Z.Warmed39 U.vm ∧ U.heap = h0) (fun _ _ _ _ _ => True) (fun _ U oc_ U' => ∃ v L, oc_ = .returned v ∧ QH0 Z o h0 n0 v U'.heap L ∧ FrameEnd U oc_ U' L ({ frames := 0, cells := 0, slots := 0, locals := 0 } : Room).cells ({ frames := 0, cells := 0, slots := 0, locals := 0 } : Room).slots) := by
  refine MetFree.of_bodySF (plainFor_of_name pn_com_example_querymemo_querymemo_cache_CacheStatistics) hisR ?_
  intro p e s m args below meth c s₁ Bd hml0 hP hK
  obtain ⟨rfl, hZ, hh⟩ := hP
  have hx := Bd.exec
  have hby := Bd.bytes
  have hml : c.maxLocals = 1 := hml0
  have hown : s.vm.findClass "com/example/querymemo/querymemo/cache/CacheStatistics" = some m.cls := findClass_of_methodNamed Bd.named
  have hnm := (name_of_methodNamed Bd.named Bd.method).1
  have X0 : Stand p l e ({ frames := 0, cells := 0, slots := 0, locals := 0 } : Room) s m #[(.ref o)] below meth c s₁ [] 0 0 := Stand.of_body Bd
  have e0 : s₁.heap = h0 := by rw [← hh, Bd.state]; rfl
  have N0 := Fr.nil n0
  have pre0 : ∀ t, Steps p.tables e below (s₁.setTop (mkF m 0 #[.val (.ref o)] [])) t → Steps p.tables e below (s₁.setTop (entryFrame m #[(.ref o)] 1)) t := fun t k => castTop (ef_H0 m o) k
  obtain ⟨T1, X1, e1, st1⟩ := getF X0 hx hZ hown (host := "") (Or.inl (wd15 hw)) Via.refl e0 F_l (g := (mkF m 1 #[.val (.ref o)] [(.ref o)])) rfl rfl (hb hby dd_prog_6_method_2_code_1)
  obtain ⟨lfs, lhr, lhrun, lhended, lhW, lhsame⟩ := X1.leave (v := some (.double (0 : UInt64))) (fun h => by rw [Bd.returns] at h; cases h)
  refine ⟨_, _, pre0 _ ?_, lhrun, lhended, _, _, rfl, ?_, ⟨_, rfl⟩, lhW, lhsame.mono (by decide) (by decide)⟩
  · skip
    show Steps p.tables e below (s₁.setTop (mkF m 0 #[.val (.ref o)] [])) _
    refine XS.aloadN X0.here hx rfl (hb hby dd_prog_6_method_2_code_0) rfl rfl ?_
    show Steps p.tables e below (s₁.setTop (mkF m 1 #[.val (.ref o)] [(.ref o)])) _
    refine st1 _ ?_
    show Steps p.tables e below (T1.setTop (mkF m 4 #[.val (.ref o)] [(.long (0 : Int64))])) _
    refine XS.lconst X1.here hx rfl (hb hby dd_prog_6_method_2_code_4) ?_
    show Steps p.tables e below (T1.setTop (mkF m 5 #[.val (.ref o)] [(.long (0 : Int64)), (.long (0 : Int64))])) _
    refine XS.lcmp X1.here hx rfl (hb hby dd_prog_6_method_2_code_5) rfl ?_
    show Steps p.tables e below (T1.setTop (mkF m 6 #[.val (.ref o)] [(.int (lcmpW (0 : Int64) (0 : Int64)))])) _
    refine XS.ifNo X1.here hx rfl (hb hby dd_prog_6_method_2_code_6) rfl ((if0 _ _).trans (teq ((lw_eq (0 : Int64) (0 : Int64)).mpr (by decide : (0 : Int64) = (0 : Int64)))).2) ?_
    show Steps p.tables e below (T1.setTop (mkF m 9 #[.val (.ref o)] [])) _
    refine XS.dconst0 X1.here hx rfl (hb hby dd_prog_6_method_2_code_9) (rfl : FP.dconst0 = (0 : UInt64)) ?_
    show Steps p.tables e below (T1.setTop (mkF m 10 #[.val (.ref o)] [(.double (0 : UInt64))])) _
    refine XS.goto X1.here hx rfl (pc0 := 10) (pc' := 24) rfl (hb hby dd_prog_6_method_2_code_10) (by decide) (by decide) ?_
    show Steps p.tables e below (T1.setTop (mkF m 24 #[.val (.ref o)] [(.double (0 : UInt64))])) _
    exact retOut X1 hx Bd.returns rfl (Or.inr (Or.inr (Or.inl ⟨rfl, rfl, _, rfl⟩))) (hb hby dd_prog_6_method_2_code_24) lhr
  · skip
    show QH0 Z o h0 n0 _ T1.heap _
    rw [e1]
    exact ⟨rfl, N0, rfl⟩
theorem ef_H1 (m : MethodId) (x0 : Addr) : entryFrame m #[(.ref x0)] 1 = mkF m 0 #[.val (.ref x0)] [] := by first | (simp [entryFrame, mkF, argsToLocals, Value.category]; done) | rfl
theorem dd_prog_6_method_2_code_13 : decode prog_6_method_2_code 13 = .ok (.aload_n 0, 1) := by decide +kernel
theorem dd_prog_6_method_2_code_14 : decode prog_6_method_2_code 14 = .ok (.getfield 13, 3) := by decide +kernel
theorem dd_prog_6_method_2_code_17 : decode prog_6_method_2_code 17 = .ok (.l2d, 1) := by decide +kernel
theorem dd_prog_6_method_2_code_18 : decode prog_6_method_2_code 18 = .ok (.aload_n 0, 1) := by decide +kernel
theorem dd_prog_6_method_2_code_19 : decode prog_6_method_2_code 19 = .ok (.getfield 7, 3) := by decide +kernel
theorem dd_prog_6_method_2_code_22 : decode prog_6_method_2_code 22 = .ok (.l2d, 1) := by decide +kernel
theorem dd_prog_6_method_2_code_23 : decode prog_6_method_2_code 23 = .ok (.ddiv, 1) := by decide +kernel
def QH1 (Z : State) (o : Addr) (ll : Int64) (hv : Int64) (h0 : Heap) (n0 : Nat) (v : Option Value) (h : Heap) (L : List Loc) : Prop := v = some (.double (FP.ddiv (FP.l2d hv) (FP.l2d ll))) ∧ Fr n0 L ∧ h = h0
set_option maxRecDepth 65536 in
set_option maxHeartbeats 40000000 in
theorem rmH1 (l : Launch) (Z : State) (a0 : Array Value) (hw : ∀ d ∈ tables_1, d.before a0 Z = true) (ws : List Jvm.Cond) (o : Addr) (ll : Int64) (hv : Int64) (h0 : Heap) (n0 : Nat) (Z0 : n0 ≤ h0.size) (F_l : Fld Z h0 o "com/example/querymemo/querymemo/cache/CacheStatistics" "lookups" "J" (.long ll)) (F_h : Fld Z h0 o "com/example/querymemo/querymemo/cache/CacheStatistics" "hits" "J" (.long hv)) (l0 : ¬ ll = (0 : Int64)) (nr : Jvm.FP.Core.DFin (FP.ddiv (FP.l2d hv) (FP.l2d ll))) :
    MetFree l (⟨"com/example/querymemo/querymemo/cache/CacheStatistics", "hitRatio", "()D"⟩ : MethodName) (head1 (Jvm.Cond.code (⟨"com/example/querymemo/querymemo/cache/CacheStatistics", "hitRatio", "()D"⟩ : MethodName) prog_6_method_2_code 1 (some .double) :: ws) ({ frames := 0, cells := 0, slots := 0, locals := 0 } : Room)) (fun a U => a = #[(.ref o)] ∧ Z.Warmed39 U.vm ∧ U.heap = h0) (fun _ _ _ _ _ => True) (fun _ U oc_ U' => ∃ v L, oc_ = .returned v ∧ QH1 Z o ll hv h0 n0 v U'.heap L ∧ FrameEnd U oc_ U' L ({ frames := 0, cells := 0, slots := 0, locals := 0 } : Room).cells ({ frames := 0, cells := 0, slots := 0, locals := 0 } : Room).slots) := by
  refine MetFree.of_bodySF (plainFor_of_name pn_com_example_querymemo_querymemo_cache_CacheStatistics) hisR ?_
  intro p e s m args below meth c s₁ Bd hml0 hP hK
  obtain ⟨rfl, hZ, hh⟩ := hP
  have hx := Bd.exec
  have hby := Bd.bytes
  have hml : c.maxLocals = 1 := hml0
  have hown : s.vm.findClass "com/example/querymemo/querymemo/cache/CacheStatistics" = some m.cls := findClass_of_methodNamed Bd.named
  have hnm := (name_of_methodNamed Bd.named Bd.method).1
  have X0 : Stand p l e ({ frames := 0, cells := 0, slots := 0, locals := 0 } : Room) s m #[(.ref o)] below meth c s₁ [] 0 0 := Stand.of_body Bd
  have e0 : s₁.heap = h0 := by rw [← hh, Bd.state]; rfl
  have N0 := Fr.nil n0
  have pre0 : ∀ t, Steps p.tables e below (s₁.setTop (mkF m 0 #[.val (.ref o)] [])) t → Steps p.tables e below (s₁.setTop (entryFrame m #[(.ref o)] 1)) t := fun t k => castTop (ef_H1 m o) k
  obtain ⟨T1, X1, e1, st1⟩ := getF X0 hx hZ hown (host := "") (Or.inl (wd15 hw)) Via.refl e0 F_l (g := (mkF m 1 #[.val (.ref o)] [(.ref o)])) rfl rfl (hb hby dd_prog_6_method_2_code_1)
  obtain ⟨T2, X2, e2, st2⟩ := getF X1 hx hZ hown (host := "") (Or.inl (wd17 hw)) Via.refl e1 F_h (g := (mkF m 14 #[.val (.ref o)] [(.ref o)])) rfl rfl (hb hby dd_prog_6_method_2_code_14)
  obtain ⟨T3, X3, e3, st3⟩ := getF X2 hx hZ hown (host := "") (Or.inl (wd15 hw)) Via.refl e2 F_l (g := (mkF m 19 #[.val (.ref o)] [(.ref o), (.double (FP.l2d hv))])) rfl rfl (hb hby dd_prog_6_method_2_code_19)
  obtain ⟨lfs, lhr, lhrun, lhended, lhW, lhsame⟩ := X3.leave (v := some (.double (FP.ddiv (FP.l2d hv) (FP.l2d ll)))) (fun h => by rw [Bd.returns] at h; cases h)
  refine ⟨_, _, pre0 _ ?_, lhrun, lhended, _, _, rfl, ?_, ⟨_, rfl⟩, lhW, lhsame.mono (by decide) (by decide)⟩
  · skip
    show Steps p.tables e below (s₁.setTop (mkF m 0 #[.val (.ref o)] [])) _
    refine XS.aloadN X0.here hx rfl (hb hby dd_prog_6_method_2_code_0) rfl rfl ?_
    show Steps p.tables e below (s₁.setTop (mkF m 1 #[.val (.ref o)] [(.ref o)])) _
    refine st1 _ ?_
    show Steps p.tables e below (T1.setTop (mkF m 4 #[.val (.ref o)] [(.long ll)])) _
    refine XS.lconst X1.here hx rfl (hb hby dd_prog_6_method_2_code_4) ?_
    show Steps p.tables e below (T1.setTop (mkF m 5 #[.val (.ref o)] [(.long (0 : Int64)), (.long ll)])) _
    refine XS.lcmp X1.here hx rfl (hb hby dd_prog_6_method_2_code_5) rfl ?_
    show Steps p.tables e below (T1.setTop (mkF m 6 #[.val (.ref o)] [(.int (lcmpW ll (0 : Int64)))])) _
    refine XS.ifYes X1.here hx rfl (pc0 := 6) (pc' := 13) rfl (hb hby dd_prog_6_method_2_code_6) rfl ((if0 _ _).trans (feq (fun q => l0 ((lw_eq ll (0 : Int64)).mp q))).2) (by decide) (by decide) ?_
    show Steps p.tables e below (T1.setTop (mkF m 13 #[.val (.ref o)] [])) _
    refine XS.aloadN X1.here hx rfl (hb hby dd_prog_6_method_2_code_13) rfl rfl ?_
    show Steps p.tables e below (T1.setTop (mkF m 14 #[.val (.ref o)] [(.ref o)])) _
    refine st2 _ ?_
    show Steps p.tables e below (T2.setTop (mkF m 17 #[.val (.ref o)] [(.long hv)])) _
    refine XS.l2dS X2.here hx rfl (hb hby dd_prog_6_method_2_code_17) rfl rfl ?_
    show Steps p.tables e below (T2.setTop (mkF m 18 #[.val (.ref o)] [(.double (FP.l2d hv))])) _
    refine XS.aloadN X2.here hx rfl (hb hby dd_prog_6_method_2_code_18) rfl rfl ?_
    show Steps p.tables e below (T2.setTop (mkF m 19 #[.val (.ref o)] [(.ref o), (.double (FP.l2d hv))])) _
    refine st3 _ ?_
    show Steps p.tables e below (T3.setTop (mkF m 22 #[.val (.ref o)] [(.long ll), (.double (FP.l2d hv))])) _
    refine XS.l2dS X3.here hx rfl (hb hby dd_prog_6_method_2_code_22) rfl rfl ?_
    show Steps p.tables e below (T3.setTop (mkF m 23 #[.val (.ref o)] [(.double (FP.l2d ll)), (.double (FP.l2d hv))])) _
    refine XS.ddivS X3.here hx rfl (hb hby dd_prog_6_method_2_code_23) rfl ((Jvm.Free.Fl.fin64_core.mpr nr).noNaN) rfl ?_
    show Steps p.tables e below (T3.setTop (mkF m 24 #[.val (.ref o)] [(.double (FP.ddiv (FP.l2d hv) (FP.l2d ll)))])) _
    exact retOut X3 hx Bd.returns rfl (Or.inr (Or.inr (Or.inl ⟨rfl, rfl, _, rfl⟩))) (hb hby dd_prog_6_method_2_code_24) lhr
  · skip
    show QH1 Z o ll hv h0 n0 _ T3.heap _
    rw [e3]
    exact ⟨rfl, N0, rfl⟩
theorem ef_0 (m : MethodId) (x0 : Int64) (x1 : Int64) (x2 : Int64) (x3 : Int32) (x4 : Int32) : entryFrame m #[(.long x0), (.long x1), (.long x2), (.int x3), (.int x4)] maxLocals = mkF m 0 #[.val (.long x0), .second, .val (.long x1), .second, .val (.long x2), .second, .val (.int x3), .val (.int x4), .unset, .unset, .unset, .unset, .unset, .unset, .unset, .unset, .unset, .unset, .unset, .unset, .unset, .unset, .unset, .unset, .unset] [] := by first | (simp [entryFrame, mkF, argsToLocals, Value.category, maxLocals]; done) | rfl
theorem pn_com_example_querymemo_querymemo_cache_CacheStatisticsHitRatioPinLaw : plainName "com/example/querymemo/querymemo/cache/CacheStatisticsHitRatioPinLaw" = true := by first | (simp [plainName, overriddenIn]; done) | decide +kernel
theorem pd__JJI_V : parseMethodDescriptor "(JJI)V" = some ⟨[.long, .long, .int], none⟩ := by decide +kernel
theorem pd___D : parseMethodDescriptor "()D" = some ⟨[], some .double⟩ := by decide +kernel
def Q0 (Z : State) (x0 : Int64) (x1 : Int64) (x2 : Int64) (x3 : Int32) (x4 : Int32) (h0 : Heap) (n0 : Nat) (v : Option Value) (h : Heap) (L : List Loc) : Prop := v = some (.int 1) ∧ Fr n0 L
set_option maxRecDepth 65536 in
set_option maxHeartbeats 40000000 in
theorem rm0 (l : Launch) (Z : State) (a0 : Array Value) (hw : ∀ d ∈ tables_1, d.before a0 Z = true) (ws : List Jvm.Cond) (x0 : Int64) (x1 : Int64) (x2 : Int64) (x3 : Int32) (x4 : Int32) (h0 : Heap) (n0 : Nat) (Z0 : n0 ≤ h0.size) :
    MetFree l x (head1 (Jvm.Cond.code x code maxLocals ret :: ws) room_1) (fun a U => a = #[(.long x0), (.long x1), (.long x2), (.int x3), (.int x4)] ∧ Z.Warmed39 U.vm ∧ U.heap = h0) (fun _ _ _ _ _ => True) (fun _ U oc_ U' => ∃ v L, oc_ = .returned v ∧ Q0 Z x0 x1 x2 x3 x4 h0 n0 v U'.heap L ∧ FrameEnd U oc_ U' L 16 128) := by
  refine MetFree.of_bodySF (plainFor_of_name pn_com_example_querymemo_querymemo_cache_CacheStatisticsHitRatioPinLaw) hisR ?_
  intro p e s m args below meth c s₁ Bd hml0 hP hK
  obtain ⟨rfl, hZ, hh⟩ := hP
  have hx := Bd.exec
  have hby := Bd.bytes
  have hml : c.maxLocals = 25 := hml0
  have hown : s.vm.findClass "com/example/querymemo/querymemo/cache/CacheStatisticsHitRatioPinLaw" = some m.cls := findClass_of_methodNamed Bd.named
  have hnm := (name_of_methodNamed Bd.named Bd.method).1
  have X0 : Stand p l e room_1 s m #[(.long x0), (.long x1), (.long x2), (.int x3), (.int x4)] below meth c s₁ [] 0 0 := Stand.of_body Bd
  have e0 : s₁.heap = h0 := by rw [← hh, Bd.state]; rfl
  have N0 := Fr.nil n0
  have pre0 : ∀ t, Steps p.tables e below (s₁.setTop (mkF m 0 #[.val (.long x0), .second, .val (.long x1), .second, .val (.long x2), .second, .val (.int x3), .val (.int x4), .unset, .unset, .unset, .unset, .unset, .unset, .unset, .unset, .unset, .unset, .unset, .unset, .unset, .unset, .unset, .unset, .unset] [])) t → Steps p.tables e below (s₁.setTop (entryFrame m #[(.long x0), (.long x1), (.long x2), (.int x3), (.int x4)] maxLocals)) t := fun t k => castTop (ef_0 m x0 x1 x2 x3 x4) k
  have k1 : ∀ t, Steps p.tables e below (s₁.setTop (mkF m 11 #[.val (.long x0), .second, .val (.long x1), .second, .val (.long x2), .second, .val (.int x3), .val (.int x4), .val (.long (x0 &&& (9223372036854775807 : Int64))), .second, .unset, .unset, .unset, .unset, .unset, .unset, .unset, .unset, .unset, .unset, .unset, .unset, .unset, .unset, .unset] [(.int (lcmpW (x0 &&& (9223372036854775807 : Int64)) (0 : Int64)))])) t → Steps p.tables e below (s₁.setTop (entryFrame m #[(.long x0), (.long x1), (.long x2), (.int x3), (.int x4)] maxLocals)) t := by
    intro t kt
    refine pre0 t ?_
    show Steps p.tables e below (s₁.setTop (mkF m 0 #[.val (.long x0), .second, .val (.long x1), .second, .val (.long x2), .second, .val (.int x3), .val (.int x4), .unset, .unset, .unset, .unset, .unset, .unset, .unset, .unset, .unset, .unset, .unset, .unset, .unset, .unset, .unset, .unset, .unset] [])) _
    refine XS.lloadN X0.here hx rfl (hb hby at_0) rfl ?_
    show Steps p.tables e below (s₁.setTop (mkF m 1 #[.val (.long x0), .second, .val (.long x1), .second, .val (.long x2), .second, .val (.int x3), .val (.int x4), .unset, .unset, .unset, .unset, .unset, .unset, .unset, .unset, .unset, .unset, .unset, .unset, .unset, .unset, .unset, .unset, .unset] [(.long x0)])) _
    refine X0.ldc2Long hx hown (mvT hZ (wd0 hw)) (g := (mkF m 1 #[.val (.long x0), .second, .val (.long x1), .second, .val (.long x2), .second, .val (.int x3), .val (.int x4), .unset, .unset, .unset, .unset, .unset, .unset, .unset, .unset, .unset, .unset, .unset, .unset, .unset, .unset, .unset, .unset, .unset] [(.long x0)])) rfl (hb hby at_1) _ ?_
    show Steps p.tables e below (s₁.setTop (mkF m 4 #[.val (.long x0), .second, .val (.long x1), .second, .val (.long x2), .second, .val (.int x3), .val (.int x4), .unset, .unset, .unset, .unset, .unset, .unset, .unset, .unset, .unset, .unset, .unset, .unset, .unset, .unset, .unset, .unset, .unset] [(.long (9223372036854775807 : Int64)), (.long x0)])) _
    refine XS.land X0.here hx rfl (hb hby at_4) rfl ?_
    show Steps p.tables e below (s₁.setTop (mkF m 5 #[.val (.long x0), .second, .val (.long x1), .second, .val (.long x2), .second, .val (.int x3), .val (.int x4), .unset, .unset, .unset, .unset, .unset, .unset, .unset, .unset, .unset, .unset, .unset, .unset, .unset, .unset, .unset, .unset, .unset] [(.long (x0 &&& (9223372036854775807 : Int64)))])) _
    refine XS.lstore X0.here hx rfl (hb hby at_5) rfl (l' := #[.val (.long x0), .second, .val (.long x1), .second, .val (.long x2), .second, .val (.int x3), .val (.int x4), .val (.long (x0 &&& (9223372036854775807 : Int64))), .second, .unset, .unset, .unset, .unset, .unset, .unset, .unset, .unset, .unset, .unset, .unset, .unset, .unset, .unset, .unset]) rfl ?_
    show Steps p.tables e below (s₁.setTop (mkF m 7 #[.val (.long x0), .second, .val (.long x1), .second, .val (.long x2), .second, .val (.int x3), .val (.int x4), .val (.long (x0 &&& (9223372036854775807 : Int64))), .second, .unset, .unset, .unset, .unset, .unset, .unset, .unset, .unset, .unset, .unset, .unset, .unset, .unset, .unset, .unset] [])) _
    refine XS.lload X0.here hx rfl (hb hby at_7) rfl ?_
    show Steps p.tables e below (s₁.setTop (mkF m 9 #[.val (.long x0), .second, .val (.long x1), .second, .val (.long x2), .second, .val (.int x3), .val (.int x4), .val (.long (x0 &&& (9223372036854775807 : Int64))), .second, .unset, .unset, .unset, .unset, .unset, .unset, .unset, .unset, .unset, .unset, .unset, .unset, .unset, .unset, .unset] [(.long (x0 &&& (9223372036854775807 : Int64)))])) _
    refine XS.lconst X0.here hx rfl (hb hby at_9) ?_
    show Steps p.tables e below (s₁.setTop (mkF m 10 #[.val (.long x0), .second, .val (.long x1), .second, .val (.long x2), .second, .val (.int x3), .val (.int x4), .val (.long (x0 &&& (9223372036854775807 : Int64))), .second, .unset, .unset, .unset, .unset, .unset, .unset, .unset, .unset, .unset, .unset, .unset, .unset, .unset, .unset, .unset] [(.long (0 : Int64)), (.long (x0 &&& (9223372036854775807 : Int64)))])) _
    refine XS.lcmp X0.here hx rfl (hb hby at_10) rfl ?_
    exact kt
  by_cases hc2 : (x0 &&& (9223372036854775807 : Int64)) = (0 : Int64)
  · skip
    obtain ⟨T3, h3, X3, e3, E3, A3, D3, -, st3⟩ := newO X0 hx hZ hown (wd1 hw) (wd2 hw) (wd3 hw) e0 (g := (mkF m 14 #[.val (.long x0), .second, .val (.long x1), .second, .val (.long x2), .second, .val (.int x3), .val (.int x4), .val (.long (x0 &&& (9223372036854775807 : Int64))), .second, .unset, .unset, .unset, .unset, .unset, .unset, .unset, .unset, .unset, .unset, .unset, .unset, .unset, .unset, .unset] [])) rfl (hb hby at_14) (by decide) (by decide)
    obtain ⟨b3, g3⟩ : ∃ z, z = h0.size := ⟨_, rfl⟩
    rw [← g3] at A3 D3 st3
    have ge_b3 : n0 ≤ b3 := Nat.le_trans Z0 (Nat.le_of_eq g3.symm)
    have sz_b3 : h0.size ≤ b3 := Nat.le_trans (Nat.le_refl _) (Nat.le_of_eq g3.symm)
    have Z3 : n0 ≤ h3.size := Nat.le_trans Z0 E3.1
    have K3 : Keep h0 h3 [] := ((Keep.refl h0 []).ext E3)
    have F3_lookups : Fld Z h3 b3 "com/example/querymemo/querymemo/cache/CacheStatistics" "lookups" "J" (.long (0 : Int64)) := D3 (Or.inr (wd16 hw)) (ty := .long) (by decide)
    have F3_hits : Fld Z h3 b3 "com/example/querymemo/querymemo/cache/CacheStatistics" "hits" "J" (.long (0 : Int64)) := D3 (Or.inr (wd18 hw)) (ty := .long) (by decide)
    have F3_entries : Fld Z h3 b3 "com/example/querymemo/querymemo/cache/CacheStatistics" "entries" "I" (.int (0 : Int32)) := D3 (Or.inr (wd20 hw)) (ty := .int) (by decide)
    obtain ⟨_, _, ⟨T4, L4, kc4, ks4⟩, -, X4, ⟨Lc4, hQ4, l4, y4, z4⟩, st4⟩ := X3.specialBack hx (y := (⟨"com/example/querymemo/querymemo/cache/CacheStatistics", "<init>", "(JJI)V"⟩ : MethodName)) rfl hown (mvT hZ (wd4 hw)) (mvT hZ (wd5 hw)) (mvT hZ (wd6 hw)) (by decide) (backOf (W := 1) (rmIni l Z a0 hw [] b3 (0 : Int64) x1 x3 _ _ _ h3 n0 Z3 ge_b3 A3 F3_lookups F3_hits F3_entries) hZ (wd6 hw) (wd3 hw) (by decide) (by decide)) (g := (mkF m 22 #[.val (.long x0), .second, .val (.long x1), .second, .val (.long x2), .second, .val (.int x3), .val (.int x4), .val (.long (x0 &&& (9223372036854775807 : Int64))), .second, .unset, .unset, .unset, .unset, .unset, .unset, .unset, .unset, .unset, .unset, .unset, .unset, .unset, .unset, .unset] [(.int x3), (.long x1), (.long (0 : Int64)), (.ref b3), (.ref b3)])) rfl (by rw [hml]; rfl) (Steps.refl _) (a := b3) (argsL := [(.long (0 : Int64)), (.long x1), (.int x3)]) (rest := [(.ref b3)]) (lenOf pd__JJI_V rfl) rfl (by show 2 * 0 + _ ≤ _; exact Nat.le_of_eq rfl) (hb hby at_22) (fun _ _ => ⟨rfl, e3, (by decide : 1 + 0 ≤ _), (by decide : 3 + 0 ≤ _)⟩)
    dsimp only [Pt.U, Pt.locs, Pt.cells, Pt.slots] at X4 l4 y4 z4 st4 hQ4
    subst l4 y4 z4
    obtain ⟨rfl, Nq4, Kq4, gE4, gL4, gH4⟩ := hQ4
    have N4 := Fr.app N0 Nq4
    have Z4 : n0 ≤ T4.heap.size := Nat.le_trans Z3 Kq4.1
    have K4 : Keep h0 T4.heap [] := Keep.trans K3 Kq4 (allS (Or.inr sz_b3) all0)
    obtain ⟨cq5, kq5, q5a, q5b, q5c⟩ := isOf hZ rfl gE4
    obtain ⟨_, _, ⟨T5, L5, kc5, ks5⟩, -, X5, ⟨Lc5, hQ5, l5, y5, z5⟩, st5⟩ := X4.virtualBack hx (y := (⟨"com/example/querymemo/querymemo/cache/CacheStatistics", "hitRatio", "()D"⟩ : MethodName)) (z := (⟨"com/example/querymemo/querymemo/cache/CacheStatistics", "hitRatio", "()D"⟩ : MethodName)) hown (mvT hZ (wd21 hw)) (mvT hZ (wd22 hw)) (notFace_of_selects (args := #[]) (mvT hZ (wd24 hw))) (mvT hZ (wd24 hw)) (mvT hZ (wd23 hw)) (by decide) (backOf (W := 0) (rmH0 l Z a0 hw [] b3 T4.heap n0 Z4 gL4) hZ (wd25 hw) (wd3 hw) (by decide) (by decide)) q5a q5c (g := (mkF m 25 #[.val (.long x0), .second, .val (.long x1), .second, .val (.long x2), .second, .val (.int x3), .val (.int x4), .val (.long (x0 &&& (9223372036854775807 : Int64))), .second, .unset, .unset, .unset, .unset, .unset, .unset, .unset, .unset, .unset, .unset, .unset, .unset, .unset, .unset, .unset] [(.ref b3)])) rfl (by rw [hml]; rfl) (Steps.refl _) (argsL := []) (rest := []) (lenOf pd___D rfl) rfl (by show 2 * 0 + _ ≤ _; exact Nat.le_of_eq rfl) (hb hby at_25) (fun _ _ => ⟨rfl, rfl, (by decide : 1 + 0 ≤ _), (by decide : 3 + 0 ≤ _)⟩)
    dsimp only [Pt.U, Pt.locs, Pt.cells, Pt.slots] at X5 l5 y5 z5 st5 hQ5
    subst l5 y5 z5
    obtain ⟨rfl, Nq5, eq5⟩ := hQ5
    have N5 := Fr.app N4 Nq5
    obtain ⟨lfs, lhr, lhrun, lhended, lhW, lhsame⟩ := X5.leave (v := some (.int (1 : Int32))) (fun h => by rw [Bd.returns] at h; cases h)
    refine ⟨_, _, k1 _ ?_, lhrun, lhended, _, _, rfl, ?_, ⟨_, rfl⟩, lhW, lhsame.mono (by decide) (by decide)⟩
    · skip
      show Steps p.tables e below (s₁.setTop (mkF m 11 #[.val (.long x0), .second, .val (.long x1), .second, .val (.long x2), .second, .val (.int x3), .val (.int x4), .val (.long (x0 &&& (9223372036854775807 : Int64))), .second, .unset, .unset, .unset, .unset, .unset, .unset, .unset, .unset, .unset, .unset, .unset, .unset, .unset, .unset, .unset] [(.int (lcmpW (x0 &&& (9223372036854775807 : Int64)) (0 : Int64)))])) _
      refine XS.ifNo X0.here hx rfl (hb hby at_11) rfl ((if0 _ _).trans (teq ((lw_eq (x0 &&& (9223372036854775807 : Int64)) (0 : Int64)).mpr hc2)).2) ?_
      show Steps p.tables e below (s₁.setTop (mkF m 14 #[.val (.long x0), .second, .val (.long x1), .second, .val (.long x2), .second, .val (.int x3), .val (.int x4), .val (.long (x0 &&& (9223372036854775807 : Int64))), .second, .unset, .unset, .unset, .unset, .unset, .unset, .unset, .unset, .unset, .unset, .unset, .unset, .unset, .unset, .unset] [])) _
      refine st3 _ ?_
      show Steps p.tables e below (T3.setTop (mkF m 17 #[.val (.long x0), .second, .val (.long x1), .second, .val (.long x2), .second, .val (.int x3), .val (.int x4), .val (.long (x0 &&& (9223372036854775807 : Int64))), .second, .unset, .unset, .unset, .unset, .unset, .unset, .unset, .unset, .unset, .unset, .unset, .unset, .unset, .unset, .unset] [(.ref b3)])) _
      refine XS.dup X3.here hx rfl (hb hby at_17) rfl rfl ?_
      show Steps p.tables e below (T3.setTop (mkF m 18 #[.val (.long x0), .second, .val (.long x1), .second, .val (.long x2), .second, .val (.int x3), .val (.int x4), .val (.long (x0 &&& (9223372036854775807 : Int64))), .second, .unset, .unset, .unset, .unset, .unset, .unset, .unset, .unset, .unset, .unset, .unset, .unset, .unset, .unset, .unset] [(.ref b3), (.ref b3)])) _
      refine XS.lconst X3.here hx rfl (hb hby at_18) ?_
      show Steps p.tables e below (T3.setTop (mkF m 19 #[.val (.long x0), .second, .val (.long x1), .second, .val (.long x2), .second, .val (.int x3), .val (.int x4), .val (.long (x0 &&& (9223372036854775807 : Int64))), .second, .unset, .unset, .unset, .unset, .unset, .unset, .unset, .unset, .unset, .unset, .unset, .unset, .unset, .unset, .unset] [(.long (0 : Int64)), (.ref b3), (.ref b3)])) _
      refine XS.lloadN X3.here hx rfl (hb hby at_19) rfl ?_
      show Steps p.tables e below (T3.setTop (mkF m 20 #[.val (.long x0), .second, .val (.long x1), .second, .val (.long x2), .second, .val (.int x3), .val (.int x4), .val (.long (x0 &&& (9223372036854775807 : Int64))), .second, .unset, .unset, .unset, .unset, .unset, .unset, .unset, .unset, .unset, .unset, .unset, .unset, .unset, .unset, .unset] [(.long x1), (.long (0 : Int64)), (.ref b3), (.ref b3)])) _
      refine XS.iload X3.here hx rfl (hb hby at_20) rfl ?_
      show Steps p.tables e below (T3.setTop (mkF m 22 #[.val (.long x0), .second, .val (.long x1), .second, .val (.long x2), .second, .val (.int x3), .val (.int x4), .val (.long (x0 &&& (9223372036854775807 : Int64))), .second, .unset, .unset, .unset, .unset, .unset, .unset, .unset, .unset, .unset, .unset, .unset, .unset, .unset, .unset, .unset] [(.int x3), (.long x1), (.long (0 : Int64)), (.ref b3), (.ref b3)])) _
      refine st4.trans ?_
      show Steps p.tables e below (T4.setTop (mkF m 25 #[.val (.long x0), .second, .val (.long x1), .second, .val (.long x2), .second, .val (.int x3), .val (.int x4), .val (.long (x0 &&& (9223372036854775807 : Int64))), .second, .unset, .unset, .unset, .unset, .unset, .unset, .unset, .unset, .unset, .unset, .unset, .unset, .unset, .unset, .unset] [(.ref b3)])) _
      refine st5.trans ?_
      show Steps p.tables e below (T5.setTop (mkF m 28 #[.val (.long x0), .second, .val (.long x1), .second, .val (.long x2), .second, .val (.int x3), .val (.int x4), .val (.long (x0 &&& (9223372036854775807 : Int64))), .second, .unset, .unset, .unset, .unset, .unset, .unset, .unset, .unset, .unset, .unset, .unset, .unset, .unset, .unset, .unset] [(.double (0 : UInt64))])) _
      refine XS.dstore X5.here hx rfl (hb hby at_28) rfl (l' := #[.val (.long x0), .second, .val (.long x1), .second, .val (.long x2), .second, .val (.int x3), .val (.int x4), .val (.long (x0 &&& (9223372036854775807 : Int64))), .second, .val (.double (0 : UInt64)), .second, .unset, .unset, .unset, .unset, .unset, .unset, .unset, .unset, .unset, .unset, .unset, .unset, .unset]) rfl ?_
      show Steps p.tables e below (T5.setTop (mkF m 30 #[.val (.long x0), .second, .val (.long x1), .second, .val (.long x2), .second, .val (.int x3), .val (.int x4), .val (.long (x0 &&& (9223372036854775807 : Int64))), .second, .val (.double (0 : UInt64)), .second, .unset, .unset, .unset, .unset, .unset, .unset, .unset, .unset, .unset, .unset, .unset, .unset, .unset] [])) _
      refine XS.dload X5.here hx rfl (hb hby at_30) rfl ?_
      show Steps p.tables e below (T5.setTop (mkF m 32 #[.val (.long x0), .second, .val (.long x1), .second, .val (.long x2), .second, .val (.int x3), .val (.int x4), .val (.long (x0 &&& (9223372036854775807 : Int64))), .second, .val (.double (0 : UInt64)), .second, .unset, .unset, .unset, .unset, .unset, .unset, .unset, .unset, .unset, .unset, .unset, .unset, .unset] [(.double (0 : UInt64))])) _
      refine XS.dconst0 X5.here hx rfl (hb hby at_32) (rfl : FP.dconst0 = (0 : UInt64)) ?_
      show Steps p.tables e below (T5.setTop (mkF m 33 #[.val (.long x0), .second, .val (.long x1), .second, .val (.long x2), .second, .val (.int x3), .val (.int x4), .val (.long (x0 &&& (9223372036854775807 : Int64))), .second, .val (.double (0 : UInt64)), .second, .unset, .unset, .unset, .unset, .unset, .unset, .unset, .unset, .unset, .unset, .unset, .unset, .unset] [(.double (0 : UInt64)), (.double (0 : UInt64))])) _
      refine XS.dcmpS X5.here hx rfl (hb hby at_33) rfl (by decide +kernel : cmpValue (FP.dcmp (0 : UInt64) (0 : UInt64)) .l = (0 : Int32)) ?_
      show Steps p.tables e below (T5.setTop (mkF m 34 #[.val (.long x0), .second, .val (.long x1), .second, .val (.long x2), .second, .val (.int x3), .val (.int x4), .val (.long (x0 &&& (9223372036854775807 : Int64))), .second, .val (.double (0 : UInt64)), .second, .unset, .unset, .unset, .unset, .unset, .unset, .unset, .unset, .unset, .unset, .unset, .unset, .unset] [(.int (0 : Int32))])) _
      refine XS.ifNo X5.here hx rfl (hb hby at_34) rfl ((if0 _ _).trans (teq (by decide : (0 : Int32) = (0 : Int32))).2) ?_
      show Steps p.tables e below (T5.setTop (mkF m 37 #[.val (.long x0), .second, .val (.long x1), .second, .val (.long x2), .second, .val (.int x3), .val (.int x4), .val (.long (x0 &&& (9223372036854775807 : Int64))), .second, .val (.double (0 : UInt64)), .second, .unset, .unset, .unset, .unset, .unset, .unset, .unset, .unset, .unset, .unset, .unset, .unset, .unset] [])) _
      refine XS.iconst X5.here hx rfl (hb hby at_37) ?_
      show Steps p.tables e below (T5.setTop (mkF m 38 #[.val (.long x0), .second, .val (.long x1), .second, .val (.long x2), .second, .val (.int x3), .val (.int x4), .val (.long (x0 &&& (9223372036854775807 : Int64))), .second, .val (.double (0 : UInt64)), .second, .unset, .unset, .unset, .unset, .unset, .unset, .unset, .unset, .unset, .unset, .unset, .unset, .unset] [(.int (1 : Int32))])) _
      refine XS.goto X5.here hx rfl (pc0 := 38) (pc' := 42) rfl (hb hby at_38) (by decide) (by decide) ?_
      show Steps p.tables e below (T5.setTop (mkF m 42 #[.val (.long x0), .second, .val (.long x1), .second, .val (.long x2), .second, .val (.int x3), .val (.int x4), .val (.long (x0 &&& (9223372036854775807 : Int64))), .second, .val (.double (0 : UInt64)), .second, .unset, .unset, .unset, .unset, .unset, .unset, .unset, .unset, .unset, .unset, .unset, .unset, .unset] [(.int (1 : Int32))])) _
      exact retN X5 hx (t := .boolean) Bd.returns (by simp) (hb hby at_42) lhr
    · skip
      show Q0 Z x0 x1 x2 x3 x4 h0 n0 _ T5.heap _
      rw [eq5]
      exact ⟨rfl, N5⟩
  · skip
    have k6 : ∀ t, Steps p.tables e below (s₁.setTop (mkF m 43 #[.val (.long x0), .second, .val (.long x1), .second, .val (.long x2), .second, .val (.int x3), .val (.int x4), .val (.long (x0 &&& (9223372036854775807 : Int64))), .second, .unset, .unset, .unset, .unset, .unset, .unset, .unset, .unset, .unset, .unset, .unset, .unset, .unset, .unset, .unset] [])) t → Steps p.tables e below (s₁.setTop (entryFrame m #[(.long x0), (.long x1), (.long x2), (.int x3), (.int x4)] maxLocals)) t := by
      intro t kt
      refine k1 t ?_
      show Steps p.tables e below (s₁.setTop (mkF m 11 #[.val (.long x0), .second, .val (.long x1), .second, .val (.long x2), .second, .val (.int x3), .val (.int x4), .val (.long (x0 &&& (9223372036854775807 : Int64))), .second, .unset, .unset, .unset, .unset, .unset, .unset, .unset, .unset, .unset, .unset, .unset, .unset, .unset, .unset, .unset] [(.int (lcmpW (x0 &&& (9223372036854775807 : Int64)) (0 : Int64)))])) _
      refine XS.ifYes X0.here hx rfl (pc0 := 11) (pc' := 43) rfl (hb hby at_11) rfl ((if0 _ _).trans (feq (fun q => hc2 ((lw_eq (x0 &&& (9223372036854775807 : Int64)) (0 : Int64)).mp q))).2) (by decide) (by decide) ?_
      exact kt
    obtain ⟨ll, h_ll⟩ : ∃ z : Int64, z = (x0 &&& (9223372036854775807 : Int64)) := ⟨_, rfl⟩
    rw [← h_ll] at k6
    have hq := own_and63 x0
    rw [← h_ll] at hq
    have hl00 : ¬ ll = (0 : Int64) := by rw [h_ll]; exact hc2
    have hl0 : 0 < ll.toInt := by
      have z : ¬ ll.toInt = (0 : Int64).toInt := fun q => hl00 (Int64.toInt_inj.mp q)
      have o0 : (0 : Int64).toInt = 0 := rfl
      omega
    have k7 : ∀ t, Steps p.tables e below (s₁.setTop (mkF m 47 #[.val (.long x0), .second, .val (.long x1), .second, .val (.long x2), .second, .val (.int x3), .val (.int x4), .val (.long ll), .second, .unset, .unset, .unset, .unset, .unset, .unset, .unset, .unset, .unset, .unset, .unset, .unset, .unset, .unset, .unset] [(.int (x4 &&& (1 : Int32)))])) t → Steps p.tables e below (s₁.setTop (entryFrame m #[(.long x0), (.long x1), (.long x2), (.int x3), (.int x4)] maxLocals)) t := by
      intro t kt
      refine k6 t ?_
      show Steps p.tables e below (s₁.setTop (mkF m 43 #[.val (.long x0), .second, .val (.long x1), .second, .val (.long x2), .second, .val (.int x3), .val (.int x4), .val (.long ll), .second, .unset, .unset, .unset, .unset, .unset, .unset, .unset, .unset, .unset, .unset, .unset, .unset, .unset, .unset, .unset] [])) _
      refine XS.iload X0.here hx rfl (hb hby at_43) rfl ?_
      show Steps p.tables e below (s₁.setTop (mkF m 45 #[.val (.long x0), .second, .val (.long x1), .second, .val (.long x2), .second, .val (.int x3), .val (.int x4), .val (.long ll), .second, .unset, .unset, .unset, .unset, .unset, .unset, .unset, .unset, .unset, .unset, .unset, .unset, .unset, .unset, .unset] [(.int x4)])) _
      refine XS.iconst X0.here hx rfl (hb hby at_45) ?_
      show Steps p.tables e below (s₁.setTop (mkF m 46 #[.val (.long x0), .second, .val (.long x1), .second, .val (.long x2), .second, .val (.int x3), .val (.int x4), .val (.long ll), .second, .unset, .unset, .unset, .unset, .unset, .unset, .unset, .unset, .unset, .unset, .unset, .unset, .unset, .unset, .unset] [(.int (1 : Int32)), (.int x4)])) _
      refine XS.iand X0.here hx rfl (hb hby at_46) rfl ?_
      exact kt
    obtain ⟨hv, hj8, k8⟩ : ∃ (hv : Int64), (0 ≤ hv.toInt ∧ hv.toInt ≤ ll.toInt) ∧ ∀ t, Steps p.tables e below (s₁.setTop (mkF m 63 #[.val (.long x0), .second, .val (.long x1), .second, .val (.long x2), .second, .val (.int x3), .val (.int x4), .val (.long ll), .second, .unset, .unset, .unset, .unset, .unset, .unset, .unset, .unset, .unset, .unset, .unset, .unset, .unset, .unset, .unset] [(.long hv)])) t → Steps p.tables e below (s₁.setTop (entryFrame m #[(.long x0), (.long x1), (.long x2), (.int x3), (.int x4)] maxLocals)) t := by
      by_cases hc9 : (x4 &&& (1 : Int32)) = (0 : Int32)
      · skip
        have k10 : ∀ t, Steps p.tables e below (s₁.setTop (mkF m 63 #[.val (.long x0), .second, .val (.long x1), .second, .val (.long x2), .second, .val (.int x3), .val (.int x4), .val (.long ll), .second, .unset, .unset, .unset, .unset, .unset, .unset, .unset, .unset, .unset, .unset, .unset, .unset, .unset, .unset, .unset] [(.long ((x1 &&& (9223372036854775807 : Int64)) % ll))])) t → Steps p.tables e below (s₁.setTop (entryFrame m #[(.long x0), (.long x1), (.long x2), (.int x3), (.int x4)] maxLocals)) t := by
          intro t kt
          refine k7 t ?_
          show Steps p.tables e below (s₁.setTop (mkF m 47 #[.val (.long x0), .second, .val (.long x1), .second, .val (.long x2), .second, .val (.int x3), .val (.int x4), .val (.long ll), .second, .unset, .unset, .unset, .unset, .unset, .unset, .unset, .unset, .unset, .unset, .unset, .unset, .unset, .unset, .unset] [(.int (x4 &&& (1 : Int32)))])) _
          refine XS.ifYes X0.here hx rfl (pc0 := 47) (pc' := 55) rfl (hb hby at_47) rfl ((if0 _ _).trans (teq hc9).1) (by decide) (by decide) ?_
          show Steps p.tables e below (s₁.setTop (mkF m 55 #[.val (.long x0), .second, .val (.long x1), .second, .val (.long x2), .second, .val (.int x3), .val (.int x4), .val (.long ll), .second, .unset, .unset, .unset, .unset, .unset, .unset, .unset, .unset, .unset, .unset, .unset, .unset, .unset, .unset, .unset] [])) _
          refine XS.lloadN X0.here hx rfl (hb hby at_55) rfl ?_
          show Steps p.tables e below (s₁.setTop (mkF m 56 #[.val (.long x0), .second, .val (.long x1), .second, .val (.long x2), .second, .val (.int x3), .val (.int x4), .val (.long ll), .second, .unset, .unset, .unset, .unset, .unset, .unset, .unset, .unset, .unset, .unset, .unset, .unset, .unset, .unset, .unset] [(.long x1)])) _
          refine X0.ldc2Long hx hown (mvT hZ (wd0 hw)) (g := (mkF m 56 #[.val (.long x0), .second, .val (.long x1), .second, .val (.long x2), .second, .val (.int x3), .val (.int x4), .val (.long ll), .second, .unset, .unset, .unset, .unset, .unset, .unset, .unset, .unset, .unset, .unset, .unset, .unset, .unset, .unset, .unset] [(.long x1)])) rfl (hb hby at_56) _ ?_
          show Steps p.tables e below (s₁.setTop (mkF m 59 #[.val (.long x0), .second, .val (.long x1), .second, .val (.long x2), .second, .val (.int x3), .val (.int x4), .val (.long ll), .second, .unset, .unset, .unset, .unset, .unset, .unset, .unset, .unset, .unset, .unset, .unset, .unset, .unset, .unset, .unset] [(.long (9223372036854775807 : Int64)), (.long x1)])) _
          refine XS.land X0.here hx rfl (hb hby at_59) rfl ?_
          show Steps p.tables e below (s₁.setTop (mkF m 60 #[.val (.long x0), .second, .val (.long x1), .second, .val (.long x2), .second, .val (.int x3), .val (.int x4), .val (.long ll), .second, .unset, .unset, .unset, .unset, .unset, .unset, .unset, .unset, .unset, .unset, .unset, .unset, .unset, .unset, .unset] [(.long (x1 &&& (9223372036854775807 : Int64)))])) _
          refine XS.lload X0.here hx rfl (hb hby at_60) rfl ?_
          show Steps p.tables e below (s₁.setTop (mkF m 62 #[.val (.long x0), .second, .val (.long x1), .second, .val (.long x2), .second, .val (.int x3), .val (.int x4), .val (.long ll), .second, .unset, .unset, .unset, .unset, .unset, .unset, .unset, .unset, .unset, .unset, .unset, .unset, .unset, .unset, .unset] [(.long ll), (.long (x1 &&& (9223372036854775807 : Int64)))])) _
          refine own_lremM X0 hx rfl (hb hby at_62) rfl hl00 ?_
          exact kt
        exact ⟨((x1 &&& (9223372036854775807 : Int64)) % ll), (own_rem63 x1 hl0), k10⟩
      · skip
        have k11 : ∀ t, Steps p.tables e below (s₁.setTop (mkF m 63 #[.val (.long x0), .second, .val (.long x1), .second, .val (.long x2), .second, .val (.int x3), .val (.int x4), .val (.long ll), .second, .unset, .unset, .unset, .unset, .unset, .unset, .unset, .unset, .unset, .unset, .unset, .unset, .unset, .unset, .unset] [(.long ll)])) t → Steps p.tables e below (s₁.setTop (entryFrame m #[(.long x0), (.long x1), (.long x2), (.int x3), (.int x4)] maxLocals)) t := by
          intro t kt
          refine k7 t ?_
          show Steps p.tables e below (s₁.setTop (mkF m 47 #[.val (.long x0), .second, .val (.long x1), .second, .val (.long x2), .second, .val (.int x3), .val (.int x4), .val (.long ll), .second, .unset, .unset, .unset, .unset, .unset, .unset, .unset, .unset, .unset, .unset, .unset, .unset, .unset, .unset, .unset] [(.int (x4 &&& (1 : Int32)))])) _
          refine XS.ifNo X0.here hx rfl (hb hby at_47) rfl ((if0 _ _).trans (feq hc9).1) ?_
          show Steps p.tables e below (s₁.setTop (mkF m 50 #[.val (.long x0), .second, .val (.long x1), .second, .val (.long x2), .second, .val (.int x3), .val (.int x4), .val (.long ll), .second, .unset, .unset, .unset, .unset, .unset, .unset, .unset, .unset, .unset, .unset, .unset, .unset, .unset, .unset, .unset] [])) _
          refine XS.lload X0.here hx rfl (hb hby at_50) rfl ?_
          show Steps p.tables e below (s₁.setTop (mkF m 52 #[.val (.long x0), .second, .val (.long x1), .second, .val (.long x2), .second, .val (.int x3), .val (.int x4), .val (.long ll), .second, .unset, .unset, .unset, .unset, .unset, .unset, .unset, .unset, .unset, .unset, .unset, .unset, .unset, .unset, .unset] [(.long ll)])) _
          refine XS.goto X0.here hx rfl (pc0 := 52) (pc' := 63) rfl (hb hby at_52) (by decide) (by decide) ?_
          exact kt
        exact ⟨ll, ⟨Int.le_of_lt hl0, Int.le_refl _⟩, k11⟩
    have k12 : ∀ t, Steps p.tables e below (s₁.setTop (mkF m 69 #[.val (.long x0), .second, .val (.long x1), .second, .val (.long x2), .second, .val (.int x3), .val (.int x4), .val (.long ll), .second, .val (.long hv), .second, .unset, .unset, .unset, .unset, .unset, .unset, .unset, .unset, .unset, .unset, .unset, .unset, .unset] [(.int (x4 &&& (2 : Int32)))])) t → Steps p.tables e below (s₁.setTop (entryFrame m #[(.long x0), (.long x1), (.long x2), (.int x3), (.int x4)] maxLocals)) t := by
      intro t kt
      refine k8 t ?_
      show Steps p.tables e below (s₁.setTop (mkF m 63 #[.val (.long x0), .second, .val (.long x1), .second, .val (.long x2), .second, .val (.int x3), .val (.int x4), .val (.long ll), .second, .unset, .unset, .unset, .unset, .unset, .unset, .unset, .unset, .unset, .unset, .unset, .unset, .unset, .unset, .unset] [(.long hv)])) _
      refine XS.lstore X0.here hx rfl (hb hby at_63) rfl (l' := #[.val (.long x0), .second, .val (.long x1), .second, .val (.long x2), .second, .val (.int x3), .val (.int x4), .val (.long ll), .second, .val (.long hv), .second, .unset, .unset, .unset, .unset, .unset, .unset, .unset, .unset, .unset, .unset, .unset, .unset, .unset]) rfl ?_
      show Steps p.tables e below (s₁.setTop (mkF m 65 #[.val (.long x0), .second, .val (.long x1), .second, .val (.long x2), .second, .val (.int x3), .val (.int x4), .val (.long ll), .second, .val (.long hv), .second, .unset, .unset, .unset, .unset, .unset, .unset, .unset, .unset, .unset, .unset, .unset, .unset, .unset] [])) _
      refine XS.iload X0.here hx rfl (hb hby at_65) rfl ?_
      show Steps p.tables e below (s₁.setTop (mkF m 67 #[.val (.long x0), .second, .val (.long x1), .second, .val (.long x2), .second, .val (.int x3), .val (.int x4), .val (.long ll), .second, .val (.long hv), .second, .unset, .unset, .unset, .unset, .unset, .unset, .unset, .unset, .unset, .unset, .unset, .unset, .unset] [(.int x4)])) _
      refine XS.iconst X0.here hx rfl (hb hby at_67) ?_
      show Steps p.tables e below (s₁.setTop (mkF m 68 #[.val (.long x0), .second, .val (.long x1), .second, .val (.long x2), .second, .val (.int x3), .val (.int x4), .val (.long ll), .second, .val (.long hv), .second, .unset, .unset, .unset, .unset, .unset, .unset, .unset, .unset, .unset, .unset, .unset, .unset, .unset] [(.int (2 : Int32)), (.int x4)])) _
      refine XS.iand X0.here hx rfl (hb hby at_68) rfl ?_
      exact kt
    obtain ⟨h2, hj13, k13⟩ : ∃ (h2 : Int64), (0 ≤ h2.toInt ∧ h2.toInt ≤ ll.toInt) ∧ ∀ t, Steps p.tables e below (s₁.setTop (mkF m 86 #[.val (.long x0), .second, .val (.long x1), .second, .val (.long x2), .second, .val (.int x3), .val (.int x4), .val (.long ll), .second, .val (.long hv), .second, .unset, .unset, .unset, .unset, .unset, .unset, .unset, .unset, .unset, .unset, .unset, .unset, .unset] [(.long h2)])) t → Steps p.tables e below (s₁.setTop (entryFrame m #[(.long x0), (.long x1), (.long x2), (.int x3), (.int x4)] maxLocals)) t := by
      by_cases hc14 : (x4 &&& (2 : Int32)) = (0 : Int32)
      · skip
        have k15 : ∀ t, Steps p.tables e below (s₁.setTop (mkF m 86 #[.val (.long x0), .second, .val (.long x1), .second, .val (.long x2), .second, .val (.int x3), .val (.int x4), .val (.long ll), .second, .val (.long hv), .second, .unset, .unset, .unset, .unset, .unset, .unset, .unset, .unset, .unset, .unset, .unset, .unset, .unset] [(.long ((x2 &&& (9223372036854775807 : Int64)) % ll))])) t → Steps p.tables e below (s₁.setTop (entryFrame m #[(.long x0), (.long x1), (.long x2), (.int x3), (.int x4)] maxLocals)) t := by
          intro t kt
          refine k12 t ?_
          show Steps p.tables e below (s₁.setTop (mkF m 69 #[.val (.long x0), .second, .val (.long x1), .second, .val (.long x2), .second, .val (.int x3), .val (.int x4), .val (.long ll), .second, .val (.long hv), .second, .unset, .unset, .unset, .unset, .unset, .unset, .unset, .unset, .unset, .unset, .unset, .unset, .unset] [(.int (x4 &&& (2 : Int32)))])) _
          refine XS.ifYes X0.here hx rfl (pc0 := 69) (pc' := 77) rfl (hb hby at_69) rfl ((if0 _ _).trans (teq hc14).1) (by decide) (by decide) ?_
          show Steps p.tables e below (s₁.setTop (mkF m 77 #[.val (.long x0), .second, .val (.long x1), .second, .val (.long x2), .second, .val (.int x3), .val (.int x4), .val (.long ll), .second, .val (.long hv), .second, .unset, .unset, .unset, .unset, .unset, .unset, .unset, .unset, .unset, .unset, .unset, .unset, .unset] [])) _
          refine XS.lload X0.here hx rfl (hb hby at_77) rfl ?_
          show Steps p.tables e below (s₁.setTop (mkF m 79 #[.val (.long x0), .second, .val (.long x1), .second, .val (.long x2), .second, .val (.int x3), .val (.int x4), .val (.long ll), .second, .val (.long hv), .second, .unset, .unset, .unset, .unset, .unset, .unset, .unset, .unset, .unset, .unset, .unset, .unset, .unset] [(.long x2)])) _
          refine X0.ldc2Long hx hown (mvT hZ (wd0 hw)) (g := (mkF m 79 #[.val (.long x0), .second, .val (.long x1), .second, .val (.long x2), .second, .val (.int x3), .val (.int x4), .val (.long ll), .second, .val (.long hv), .second, .unset, .unset, .unset, .unset, .unset, .unset, .unset, .unset, .unset, .unset, .unset, .unset, .unset] [(.long x2)])) rfl (hb hby at_79) _ ?_
          show Steps p.tables e below (s₁.setTop (mkF m 82 #[.val (.long x0), .second, .val (.long x1), .second, .val (.long x2), .second, .val (.int x3), .val (.int x4), .val (.long ll), .second, .val (.long hv), .second, .unset, .unset, .unset, .unset, .unset, .unset, .unset, .unset, .unset, .unset, .unset, .unset, .unset] [(.long (9223372036854775807 : Int64)), (.long x2)])) _
          refine XS.land X0.here hx rfl (hb hby at_82) rfl ?_
          show Steps p.tables e below (s₁.setTop (mkF m 83 #[.val (.long x0), .second, .val (.long x1), .second, .val (.long x2), .second, .val (.int x3), .val (.int x4), .val (.long ll), .second, .val (.long hv), .second, .unset, .unset, .unset, .unset, .unset, .unset, .unset, .unset, .unset, .unset, .unset, .unset, .unset] [(.long (x2 &&& (9223372036854775807 : Int64)))])) _
          refine XS.lload X0.here hx rfl (hb hby at_83) rfl ?_
          show Steps p.tables e below (s₁.setTop (mkF m 85 #[.val (.long x0), .second, .val (.long x1), .second, .val (.long x2), .second, .val (.int x3), .val (.int x4), .val (.long ll), .second, .val (.long hv), .second, .unset, .unset, .unset, .unset, .unset, .unset, .unset, .unset, .unset, .unset, .unset, .unset, .unset] [(.long ll), (.long (x2 &&& (9223372036854775807 : Int64)))])) _
          refine own_lremM X0 hx rfl (hb hby at_85) rfl hl00 ?_
          exact kt
        exact ⟨((x2 &&& (9223372036854775807 : Int64)) % ll), (own_rem63 x2 hl0), k15⟩
      · skip
        have k16 : ∀ t, Steps p.tables e below (s₁.setTop (mkF m 86 #[.val (.long x0), .second, .val (.long x1), .second, .val (.long x2), .second, .val (.int x3), .val (.int x4), .val (.long ll), .second, .val (.long hv), .second, .unset, .unset, .unset, .unset, .unset, .unset, .unset, .unset, .unset, .unset, .unset, .unset, .unset] [(.long ll)])) t → Steps p.tables e below (s₁.setTop (entryFrame m #[(.long x0), (.long x1), (.long x2), (.int x3), (.int x4)] maxLocals)) t := by
          intro t kt
          refine k12 t ?_
          show Steps p.tables e below (s₁.setTop (mkF m 69 #[.val (.long x0), .second, .val (.long x1), .second, .val (.long x2), .second, .val (.int x3), .val (.int x4), .val (.long ll), .second, .val (.long hv), .second, .unset, .unset, .unset, .unset, .unset, .unset, .unset, .unset, .unset, .unset, .unset, .unset, .unset] [(.int (x4 &&& (2 : Int32)))])) _
          refine XS.ifNo X0.here hx rfl (hb hby at_69) rfl ((if0 _ _).trans (feq hc14).1) ?_
          show Steps p.tables e below (s₁.setTop (mkF m 72 #[.val (.long x0), .second, .val (.long x1), .second, .val (.long x2), .second, .val (.int x3), .val (.int x4), .val (.long ll), .second, .val (.long hv), .second, .unset, .unset, .unset, .unset, .unset, .unset, .unset, .unset, .unset, .unset, .unset, .unset, .unset] [])) _
          refine XS.lload X0.here hx rfl (hb hby at_72) rfl ?_
          show Steps p.tables e below (s₁.setTop (mkF m 74 #[.val (.long x0), .second, .val (.long x1), .second, .val (.long x2), .second, .val (.int x3), .val (.int x4), .val (.long ll), .second, .val (.long hv), .second, .unset, .unset, .unset, .unset, .unset, .unset, .unset, .unset, .unset, .unset, .unset, .unset, .unset] [(.long ll)])) _
          refine XS.goto X0.here hx rfl (pc0 := 74) (pc' := 86) rfl (hb hby at_74) (by decide) (by decide) ?_
          exact kt
        exact ⟨ll, ⟨Int.le_of_lt hl0, Int.le_refl _⟩, k16⟩
    obtain ⟨T17, h17, X17, e17, E17, A17, D17, -, st17⟩ := newO X0 hx hZ hown (wd1 hw) (wd2 hw) (wd3 hw) e0 (g := (mkF m 88 #[.val (.long x0), .second, .val (.long x1), .second, .val (.long x2), .second, .val (.int x3), .val (.int x4), .val (.long ll), .second, .val (.long hv), .second, .val (.long h2), .second, .unset, .unset, .unset, .unset, .unset, .unset, .unset, .unset, .unset, .unset, .unset] [])) rfl (hb hby at_88) (by decide) (by decide)
    obtain ⟨b17, g17⟩ : ∃ z, z = h0.size := ⟨_, rfl⟩
    rw [← g17] at A17 D17 st17
    have ge_b17 : n0 ≤ b17 := Nat.le_trans Z0 (Nat.le_of_eq g17.symm)
    have sz_b17 : h0.size ≤ b17 := Nat.le_trans (Nat.le_refl _) (Nat.le_of_eq g17.symm)
    have Z17 : n0 ≤ h17.size := Nat.le_trans Z0 E17.1
    have K17 : Keep h0 h17 [] := ((Keep.refl h0 []).ext E17)
    have F17_lookups : Fld Z h17 b17 "com/example/querymemo/querymemo/cache/CacheStatistics" "lookups" "J" (.long (0 : Int64)) := D17 (Or.inr (wd16 hw)) (ty := .long) (by decide)
    have F17_hits : Fld Z h17 b17 "com/example/querymemo/querymemo/cache/CacheStatistics" "hits" "J" (.long (0 : Int64)) := D17 (Or.inr (wd18 hw)) (ty := .long) (by decide)
    have F17_entries : Fld Z h17 b17 "com/example/querymemo/querymemo/cache/CacheStatistics" "entries" "I" (.int (0 : Int32)) := D17 (Or.inr (wd20 hw)) (ty := .int) (by decide)
    obtain ⟨_, _, ⟨T18, L18, kc18, ks18⟩, -, X18, ⟨Lc18, hQ18, l18, y18, z18⟩, st18⟩ := X17.specialBack hx (y := (⟨"com/example/querymemo/querymemo/cache/CacheStatistics", "<init>", "(JJI)V"⟩ : MethodName)) rfl hown (mvT hZ (wd4 hw)) (mvT hZ (wd5 hw)) (mvT hZ (wd6 hw)) (by decide) (backOf (W := 1) (rmIni l Z a0 hw [] b17 ll hv x3 _ _ _ h17 n0 Z17 ge_b17 A17 F17_lookups F17_hits F17_entries) hZ (wd6 hw) (wd3 hw) (by decide) (by decide)) (g := (mkF m 98 #[.val (.long x0), .second, .val (.long x1), .second, .val (.long x2), .second, .val (.int x3), .val (.int x4), .val (.long ll), .second, .val (.long hv), .second, .val (.long h2), .second, .unset, .unset, .unset, .unset, .unset, .unset, .unset, .unset, .unset, .unset, .unset] [(.int x3), (.long hv), (.long ll), (.ref b17), (.ref b17)])) rfl (by rw [hml]; rfl) (Steps.refl _) (a := b17) (argsL := [(.long ll), (.long hv), (.int x3)]) (rest := [(.ref b17)]) (lenOf pd__JJI_V rfl) rfl (by show 2 * 0 + _ ≤ _; exact Nat.le_of_eq rfl) (hb hby at_98) (fun _ _ => ⟨rfl, e17, (by decide : 1 + 0 ≤ _), (by decide : 3 + 0 ≤ _)⟩)
    dsimp only [Pt.U, Pt.locs, Pt.cells, Pt.slots] at X18 l18 y18 z18 st18 hQ18
    subst l18 y18 z18
    obtain ⟨rfl, Nq18, Kq18, gE18, gL18, gH18⟩ := hQ18
    have N18 := Fr.app N0 Nq18
    have Z18 : n0 ≤ T18.heap.size := Nat.le_trans Z17 Kq18.1
    have K18 : Keep h0 T18.heap [] := Keep.trans K17 Kq18 (allS (Or.inr sz_b17) all0)
    obtain ⟨cq19, kq19, q19a, q19b, q19c⟩ := isOf hZ rfl gE18
    obtain ⟨_, _, ⟨T19, L19, kc19, ks19⟩, -, X19, ⟨Lc19, hQ19, l19, y19, z19⟩, st19⟩ := X18.virtualBack hx (y := (⟨"com/example/querymemo/querymemo/cache/CacheStatistics", "hitRatio", "()D"⟩ : MethodName)) (z := (⟨"com/example/querymemo/querymemo/cache/CacheStatistics", "hitRatio", "()D"⟩ : MethodName)) hown (mvT hZ (wd21 hw)) (mvT hZ (wd22 hw)) (notFace_of_selects (args := #[]) (mvT hZ (wd24 hw))) (mvT hZ (wd24 hw)) (mvT hZ (wd23 hw)) (by decide) (backOf (W := 0) (rmH1 l Z a0 hw [] b17 ll hv T18.heap n0 Z18 gL18 gH18 hl00 (own_ratio hl0 hj8.1 hj8.2).1) hZ (wd25 hw) (wd3 hw) (by decide) (by decide)) q19a q19c (g := (mkF m 101 #[.val (.long x0), .second, .val (.long x1), .second, .val (.long x2), .second, .val (.int x3), .val (.int x4), .val (.long ll), .second, .val (.long hv), .second, .val (.long h2), .second, .unset, .unset, .unset, .unset, .unset, .unset, .unset, .unset, .unset, .unset, .unset] [(.ref b17)])) rfl (by rw [hml]; rfl) (Steps.refl _) (argsL := []) (rest := []) (lenOf pd___D rfl) rfl (by show 2 * 0 + _ ≤ _; exact Nat.le_of_eq rfl) (hb hby at_101) (fun _ _ => ⟨rfl, rfl, (by decide : 1 + 0 ≤ _), (by decide : 3 + 0 ≤ _)⟩)
    dsimp only [Pt.U, Pt.locs, Pt.cells, Pt.slots] at X19 l19 y19 z19 st19 hQ19
    subst l19 y19 z19
    obtain ⟨rfl, Nq19, eq19⟩ := hQ19
    have N19 := Fr.app N18 Nq19
    obtain ⟨T20, h20, X20, e20, E20, A20, D20, -, st20⟩ := newO X19 hx hZ hown (wd1 hw) (wd2 hw) (wd3 hw) eq19 (g := (mkF m 106 #[.val (.long x0), .second, .val (.long x1), .second, .val (.long x2), .second, .val (.int x3), .val (.int x4), .val (.long ll), .second, .val (.long hv), .second, .val (.long h2), .second, .val (.double (FP.ddiv (FP.l2d hv) (FP.l2d ll))), .second, .unset, .unset, .unset, .unset, .unset, .unset, .unset, .unset, .unset] [])) rfl (hb hby at_106) (by decide) (by decide)
    obtain ⟨b20, g20⟩ : ∃ z, z = T18.heap.size := ⟨_, rfl⟩
    rw [← g20] at A20 D20 st20
    have ne_b17_b20 : b17 ≠ b20 := Nat.ne_of_lt (Nat.lt_of_lt_of_le gE18.lt (Nat.le_of_eq g20.symm))
    have ge_b20 : n0 ≤ b20 := Nat.le_trans Z18 (Nat.le_of_eq g20.symm)
    have sz_b20 : h0.size ≤ b20 := Nat.le_trans K18.1 (Nat.le_of_eq g20.symm)
    have Z20 : n0 ≤ h20.size := Nat.le_trans Z18 E20.1
    have K20 : Keep h0 h20 [] := (K18.ext E20)
    have F20_lookups : Fld Z h20 b20 "com/example/querymemo/querymemo/cache/CacheStatistics" "lookups" "J" (.long (0 : Int64)) := D20 (Or.inr (wd16 hw)) (ty := .long) (by decide)
    have F20_hits : Fld Z h20 b20 "com/example/querymemo/querymemo/cache/CacheStatistics" "hits" "J" (.long (0 : Int64)) := D20 (Or.inr (wd18 hw)) (ty := .long) (by decide)
    have F20_entries : Fld Z h20 b20 "com/example/querymemo/querymemo/cache/CacheStatistics" "entries" "I" (.int (0 : Int32)) := D20 (Or.inr (wd20 hw)) (ty := .int) (by decide)
    obtain ⟨_, _, ⟨T21, L21, kc21, ks21⟩, -, X21, ⟨Lc21, hQ21, l21, y21, z21⟩, st21⟩ := X20.specialBack hx (y := (⟨"com/example/querymemo/querymemo/cache/CacheStatistics", "<init>", "(JJI)V"⟩ : MethodName)) rfl hown (mvT hZ (wd4 hw)) (mvT hZ (wd5 hw)) (mvT hZ (wd6 hw)) (by decide) (backOf (W := 1) (rmIni l Z a0 hw [] b20 ll h2 x3 _ _ _ h20 n0 Z20 ge_b20 A20 F20_lookups F20_hits F20_entries) hZ (wd6 hw) (wd3 hw) (by decide) (by decide)) (g := (mkF m 116 #[.val (.long x0), .second, .val (.long x1), .second, .val (.long x2), .second, .val (.int x3), .val (.int x4), .val (.long ll), .second, .val (.long hv), .second, .val (.long h2), .second, .val (.double (FP.ddiv (FP.l2d hv) (FP.l2d ll))), .second, .unset, .unset, .unset, .unset, .unset, .unset, .unset, .unset, .unset] [(.int x3), (.long h2), (.long ll), (.ref b20), (.ref b20)])) rfl (by rw [hml]; rfl) (Steps.refl _) (a := b20) (argsL := [(.long ll), (.long h2), (.int x3)]) (rest := [(.ref b20)]) (lenOf pd__JJI_V rfl) rfl (by show 2 * 0 + _ ≤ _; exact Nat.le_of_eq rfl) (hb hby at_116) (fun _ _ => ⟨rfl, e20, (by decide : 2 + 0 ≤ _), (by decide : 6 + 0 ≤ _)⟩)
    dsimp only [Pt.U, Pt.locs, Pt.cells, Pt.slots] at X21 l21 y21 z21 st21 hQ21
    subst l21 y21 z21
    obtain ⟨rfl, Nq21, Kq21, gE21, gL21, gH21⟩ := hQ21
    have N21 := Fr.app N19 Nq21
    have Z21 : n0 ≤ T21.heap.size := Nat.le_trans Z20 Kq21.1
    have K21 : Keep h0 T21.heap [] := Keep.trans K20 Kq21 (allS (Or.inr sz_b20) all0)
    obtain ⟨cq22, kq22, q22a, q22b, q22c⟩ := isOf hZ rfl gE21
    obtain ⟨_, _, ⟨T22, L22, kc22, ks22⟩, -, X22, ⟨Lc22, hQ22, l22, y22, z22⟩, st22⟩ := X21.virtualBack hx (y := (⟨"com/example/querymemo/querymemo/cache/CacheStatistics", "hitRatio", "()D"⟩ : MethodName)) (z := (⟨"com/example/querymemo/querymemo/cache/CacheStatistics", "hitRatio", "()D"⟩ : MethodName)) hown (mvT hZ (wd21 hw)) (mvT hZ (wd22 hw)) (notFace_of_selects (args := #[]) (mvT hZ (wd24 hw))) (mvT hZ (wd24 hw)) (mvT hZ (wd23 hw)) (by decide) (backOf (W := 0) (rmH1 l Z a0 hw [] b20 ll h2 T21.heap n0 Z21 gL21 gH21 hl00 (own_ratio hl0 hj13.1 hj13.2).1) hZ (wd25 hw) (wd3 hw) (by decide) (by decide)) q22a q22c (g := (mkF m 119 #[.val (.long x0), .second, .val (.long x1), .second, .val (.long x2), .second, .val (.int x3), .val (.int x4), .val (.long ll), .second, .val (.long hv), .second, .val (.long h2), .second, .val (.double (FP.ddiv (FP.l2d hv) (FP.l2d ll))), .second, .unset, .unset, .unset, .unset, .unset, .unset, .unset, .unset, .unset] [(.ref b20)])) rfl (by rw [hml]; rfl) (Steps.refl _) (argsL := []) (rest := []) (lenOf pd___D rfl) rfl (by show 2 * 0 + _ ≤ _; exact Nat.le_of_eq rfl) (hb hby at_119) (fun _ _ => ⟨rfl, rfl, (by decide : 2 + 0 ≤ _), (by decide : 6 + 0 ≤ _)⟩)
    dsimp only [Pt.U, Pt.locs, Pt.cells, Pt.slots] at X22 l22 y22 z22 st22 hQ22
    subst l22 y22 z22
    obtain ⟨rfl, Nq22, eq22⟩ := hQ22
    have N22 := Fr.app N21 Nq22
    have k23 : ∀ t, Steps p.tables e below (T22.setTop (mkF m 124 #[.val (.long x0), .second, .val (.long x1), .second, .val (.long x2), .second, .val (.int x3), .val (.int x4), .val (.long ll), .second, .val (.long hv), .second, .val (.long h2), .second, .val (.double (FP.ddiv (FP.l2d hv) (FP.l2d ll))), .second, .val (.double (FP.ddiv (FP.l2d h2) (FP.l2d ll))), .second, .unset, .unset, .unset, .unset, .unset, .unset, .unset] [])) t → Steps p.tables e below (s₁.setTop (entryFrame m #[(.long x0), (.long x1), (.long x2), (.int x3), (.int x4)] maxLocals)) t := by
      intro t kt
      refine k13 t ?_
      show Steps p.tables e below (s₁.setTop (mkF m 86 #[.val (.long x0), .second, .val (.long x1), .second, .val (.long x2), .second, .val (.int x3), .val (.int x4), .val (.long ll), .second, .val (.long hv), .second, .unset, .unset, .unset, .unset, .unset, .unset, .unset, .unset, .unset, .unset, .unset, .unset, .unset] [(.long h2)])) _
      refine XS.lstore X0.here hx rfl (hb hby at_86) rfl (l' := #[.val (.long x0), .second, .val (.long x1), .second, .val (.long x2), .second, .val (.int x3), .val (.int x4), .val (.long ll), .second, .val (.long hv), .second, .val (.long h2), .second, .unset, .unset, .unset, .unset, .unset, .unset, .unset, .unset, .unset, .unset, .unset]) rfl ?_
      show Steps p.tables e below (s₁.setTop (mkF m 88 #[.val (.long x0), .second, .val (.long x1), .second, .val (.long x2), .second, .val (.int x3), .val (.int x4), .val (.long ll), .second, .val (.long hv), .second, .val (.long h2), .second, .unset, .unset, .unset, .unset, .unset, .unset, .unset, .unset, .unset, .unset, .unset] [])) _
      refine st17 _ ?_
      show Steps p.tables e below (T17.setTop (mkF m 91 #[.val (.long x0), .second, .val (.long x1), .second, .val (.long x2), .second, .val (.int x3), .val (.int x4), .val (.long ll), .second, .val (.long hv), .second, .val (.long h2), .second, .unset, .unset, .unset, .unset, .unset, .unset, .unset, .unset, .unset, .unset, .unset] [(.ref b17)])) _
      refine XS.dup X17.here hx rfl (hb hby at_91) rfl rfl ?_
      show Steps p.tables e below (T17.setTop (mkF m 92 #[.val (.long x0), .second, .val (.long x1), .second, .val (.long x2), .second, .val (.int x3), .val (.int x4), .val (.long ll), .second, .val (.long hv), .second, .val (.long h2), .second, .unset, .unset, .unset, .unset, .unset, .unset, .unset, .unset, .unset, .unset, .unset] [(.ref b17), (.ref b17)])) _
      refine XS.lload X17.here hx rfl (hb hby at_92) rfl ?_
      show Steps p.tables e below (T17.setTop (mkF m 94 #[.val (.long x0), .second, .val (.long x1), .second, .val (.long x2), .second, .val (.int x3), .val (.int x4), .val (.long ll), .second, .val (.long hv), .second, .val (.long h2), .second, .unset, .unset, .unset, .unset, .unset, .unset, .unset, .unset, .unset, .unset, .unset] [(.long ll), (.ref b17), (.ref b17)])) _
      refine XS.lload X17.here hx rfl (hb hby at_94) rfl ?_
      show Steps p.tables e below (T17.setTop (mkF m 96 #[.val (.long x0), .second, .val (.long x1), .second, .val (.long x2), .second, .val (.int x3), .val (.int x4), .val (.long ll), .second, .val (.long hv), .second, .val (.long h2), .second, .unset, .unset, .unset, .unset, .unset, .unset, .unset, .unset, .unset, .unset, .unset] [(.long hv), (.long ll), (.ref b17), (.ref b17)])) _
      refine XS.iload X17.here hx rfl (hb hby at_96) rfl ?_
      show Steps p.tables e below (T17.setTop (mkF m 98 #[.val (.long x0), .second, .val (.long x1), .second, .val (.long x2), .second, .val (.int x3), .val (.int x4), .val (.long ll), .second, .val (.long hv), .second, .val (.long h2), .second, .unset, .unset, .unset, .unset, .unset, .unset, .unset, .unset, .unset, .unset, .unset] [(.int x3), (.long hv), (.long ll), (.ref b17), (.ref b17)])) _
      refine st18.trans ?_
      show Steps p.tables e below (T18.setTop (mkF m 101 #[.val (.long x0), .second, .val (.long x1), .second, .val (.long x2), .second, .val (.int x3), .val (.int x4), .val (.long ll), .second, .val (.long hv), .second, .val (.long h2), .second, .unset, .unset, .unset, .unset, .unset, .unset, .unset, .unset, .unset, .unset, .unset] [(.ref b17)])) _
      refine st19.trans ?_
      show Steps p.tables e below (T19.setTop (mkF m 104 #[.val (.long x0), .second, .val (.long x1), .second, .val (.long x2), .second, .val (.int x3), .val (.int x4), .val (.long ll), .second, .val (.long hv), .second, .val (.long h2), .second, .unset, .unset, .unset, .unset, .unset, .unset, .unset, .unset, .unset, .unset, .unset] [(.double (FP.ddiv (FP.l2d hv) (FP.l2d ll)))])) _
      refine XS.dstore X19.here hx rfl (hb hby at_104) rfl (l' := #[.val (.long x0), .second, .val (.long x1), .second, .val (.long x2), .second, .val (.int x3), .val (.int x4), .val (.long ll), .second, .val (.long hv), .second, .val (.long h2), .second, .val (.double (FP.ddiv (FP.l2d hv) (FP.l2d ll))), .second, .unset, .unset, .unset, .unset, .unset, .unset, .unset, .unset, .unset]) rfl ?_
      show Steps p.tables e below (T19.setTop (mkF m 106 #[.val (.long x0), .second, .val (.long x1), .second, .val (.long x2), .second, .val (.int x3), .val (.int x4), .val (.long ll), .second, .val (.long hv), .second, .val (.long h2), .second, .val (.double (FP.ddiv (FP.l2d hv) (FP.l2d ll))), .second, .unset, .unset, .unset, .unset, .unset, .unset, .unset, .unset, .unset] [])) _
      refine st20 _ ?_
      show Steps p.tables e below (T20.setTop (mkF m 109 #[.val (.long x0), .second, .val (.long x1), .second, .val (.long x2), .second, .val (.int x3), .val (.int x4), .val (.long ll), .second, .val (.long hv), .second, .val (.long h2), .second, .val (.double (FP.ddiv (FP.l2d hv) (FP.l2d ll))), .second, .unset, .unset, .unset, .unset, .unset, .unset, .unset, .unset, .unset] [(.ref b20)])) _
      refine XS.dup X20.here hx rfl (hb hby at_109) rfl rfl ?_
      show Steps p.tables e below (T20.setTop (mkF m 110 #[.val (.long x0), .second, .val (.long x1), .second, .val (.long x2), .second, .val (.int x3), .val (.int x4), .val (.long ll), .second, .val (.long hv), .second, .val (.long h2), .second, .val (.double (FP.ddiv (FP.l2d hv) (FP.l2d ll))), .second, .unset, .unset, .unset, .unset, .unset, .unset, .unset, .unset, .unset] [(.ref b20), (.ref b20)])) _
      refine XS.lload X20.here hx rfl (hb hby at_110) rfl ?_
      show Steps p.tables e below (T20.setTop (mkF m 112 #[.val (.long x0), .second, .val (.long x1), .second, .val (.long x2), .second, .val (.int x3), .val (.int x4), .val (.long ll), .second, .val (.long hv), .second, .val (.long h2), .second, .val (.double (FP.ddiv (FP.l2d hv) (FP.l2d ll))), .second, .unset, .unset, .unset, .unset, .unset, .unset, .unset, .unset, .unset] [(.long ll), (.ref b20), (.ref b20)])) _
      refine XS.lload X20.here hx rfl (hb hby at_112) rfl ?_
      show Steps p.tables e below (T20.setTop (mkF m 114 #[.val (.long x0), .second, .val (.long x1), .second, .val (.long x2), .second, .val (.int x3), .val (.int x4), .val (.long ll), .second, .val (.long hv), .second, .val (.long h2), .second, .val (.double (FP.ddiv (FP.l2d hv) (FP.l2d ll))), .second, .unset, .unset, .unset, .unset, .unset, .unset, .unset, .unset, .unset] [(.long h2), (.long ll), (.ref b20), (.ref b20)])) _
      refine XS.iload X20.here hx rfl (hb hby at_114) rfl ?_
      show Steps p.tables e below (T20.setTop (mkF m 116 #[.val (.long x0), .second, .val (.long x1), .second, .val (.long x2), .second, .val (.int x3), .val (.int x4), .val (.long ll), .second, .val (.long hv), .second, .val (.long h2), .second, .val (.double (FP.ddiv (FP.l2d hv) (FP.l2d ll))), .second, .unset, .unset, .unset, .unset, .unset, .unset, .unset, .unset, .unset] [(.int x3), (.long h2), (.long ll), (.ref b20), (.ref b20)])) _
      refine st21.trans ?_
      show Steps p.tables e below (T21.setTop (mkF m 119 #[.val (.long x0), .second, .val (.long x1), .second, .val (.long x2), .second, .val (.int x3), .val (.int x4), .val (.long ll), .second, .val (.long hv), .second, .val (.long h2), .second, .val (.double (FP.ddiv (FP.l2d hv) (FP.l2d ll))), .second, .unset, .unset, .unset, .unset, .unset, .unset, .unset, .unset, .unset] [(.ref b20)])) _
      refine st22.trans ?_
      show Steps p.tables e below (T22.setTop (mkF m 122 #[.val (.long x0), .second, .val (.long x1), .second, .val (.long x2), .second, .val (.int x3), .val (.int x4), .val (.long ll), .second, .val (.long hv), .second, .val (.long h2), .second, .val (.double (FP.ddiv (FP.l2d hv) (FP.l2d ll))), .second, .unset, .unset, .unset, .unset, .unset, .unset, .unset, .unset, .unset] [(.double (FP.ddiv (FP.l2d h2) (FP.l2d ll)))])) _
      refine XS.dstore X22.here hx rfl (hb hby at_122) rfl (l' := #[.val (.long x0), .second, .val (.long x1), .second, .val (.long x2), .second, .val (.int x3), .val (.int x4), .val (.long ll), .second, .val (.long hv), .second, .val (.long h2), .second, .val (.double (FP.ddiv (FP.l2d hv) (FP.l2d ll))), .second, .val (.double (FP.ddiv (FP.l2d h2) (FP.l2d ll))), .second, .unset, .unset, .unset, .unset, .unset, .unset, .unset]) rfl ?_
      exact kt
    have R1 := own_ratio hl0 hj8.1 hj8.2
    have R2 := own_ratio hl0 hj13.1 hj13.2
    have rn := rng64 hv
    have rl := rng64 ll
    obtain ⟨jh1, jh2⟩ := hj8
    obtain ⟨jk1, jk2⟩ := hj13
    have k24 : ∀ t, Steps p.tables e below (T22.setTop (mkF m 149 #[.val (.long x0), .second, .val (.long x1), .second, .val (.long x2), .second, .val (.int x3), .val (.int x4), .val (.long ll), .second, .val (.long hv), .second, .val (.long h2), .second, .val (.double (FP.ddiv (FP.l2d hv) (FP.l2d ll))), .second, .val (.double (FP.ddiv (FP.l2d h2) (FP.l2d ll))), .second, .val (.int (1 : Int32)), .unset, .unset, .unset, .unset, .unset, .unset] [(.int (lcmpW hv (0 : Int64)))])) t → Steps p.tables e below (s₁.setTop (entryFrame m #[(.long x0), (.long x1), (.long x2), (.int x3), (.int x4)] maxLocals)) t := by
      intro t kt
      refine k23 t ?_
      show Steps p.tables e below (T22.setTop (mkF m 124 #[.val (.long x0), .second, .val (.long x1), .second, .val (.long x2), .second, .val (.int x3), .val (.int x4), .val (.long ll), .second, .val (.long hv), .second, .val (.long h2), .second, .val (.double (FP.ddiv (FP.l2d hv) (FP.l2d ll))), .second, .val (.double (FP.ddiv (FP.l2d h2) (FP.l2d ll))), .second, .unset, .unset, .unset, .unset, .unset, .unset, .unset] [])) _
      refine XS.dconst0 X22.here hx rfl (hb hby at_124) (rfl : FP.dconst0 = (0 : UInt64)) ?_
      show Steps p.tables e below (T22.setTop (mkF m 125 #[.val (.long x0), .second, .val (.long x1), .second, .val (.long x2), .second, .val (.int x3), .val (.int x4), .val (.long ll), .second, .val (.long hv), .second, .val (.long h2), .second, .val (.double (FP.ddiv (FP.l2d hv) (FP.l2d ll))), .second, .val (.double (FP.ddiv (FP.l2d h2) (FP.l2d ll))), .second, .unset, .unset, .unset, .unset, .unset, .unset, .unset] [(.double (0 : UInt64))])) _
      refine XS.dload X22.here hx rfl (hb hby at_125) rfl ?_
      show Steps p.tables e below (T22.setTop (mkF m 127 #[.val (.long x0), .second, .val (.long x1), .second, .val (.long x2), .second, .val (.int x3), .val (.int x4), .val (.long ll), .second, .val (.long hv), .second, .val (.long h2), .second, .val (.double (FP.ddiv (FP.l2d hv) (FP.l2d ll))), .second, .val (.double (FP.ddiv (FP.l2d h2) (FP.l2d ll))), .second, .unset, .unset, .unset, .unset, .unset, .unset, .unset] [(.double (FP.ddiv (FP.l2d hv) (FP.l2d ll))), (.double (0 : UInt64))])) _
      refine XS.dcmpS X22.here hx rfl (hb hby at_127) rfl rfl ?_
      show Steps p.tables e below (T22.setTop (mkF m 128 #[.val (.long x0), .second, .val (.long x1), .second, .val (.long x2), .second, .val (.int x3), .val (.int x4), .val (.long ll), .second, .val (.long hv), .second, .val (.long h2), .second, .val (.double (FP.ddiv (FP.l2d hv) (FP.l2d ll))), .second, .val (.double (FP.ddiv (FP.l2d h2) (FP.l2d ll))), .second, .unset, .unset, .unset, .unset, .unset, .unset, .unset] [(.int (cmpValue (FP.dcmp (0 : UInt64) (FP.ddiv (FP.l2d hv) (FP.l2d ll))) .g))])) _
      refine XS.ifNo X22.here hx rfl (hb hby at_128) rfl ((if0 _ _).trans (flt (own_cmp_le (by decide +kernel) R1.1.ne_nan (by decide +kernel) R1.2.1 (by rw [own_m0]; exact Nat.zero_le _) .g)).2.2.1) ?_
      show Steps p.tables e below (T22.setTop (mkF m 131 #[.val (.long x0), .second, .val (.long x1), .second, .val (.long x2), .second, .val (.int x3), .val (.int x4), .val (.long ll), .second, .val (.long hv), .second, .val (.long h2), .second, .val (.double (FP.ddiv (FP.l2d hv) (FP.l2d ll))), .second, .val (.double (FP.ddiv (FP.l2d h2) (FP.l2d ll))), .second, .unset, .unset, .unset, .unset, .unset, .unset, .unset] [])) _
      refine XS.dload X22.here hx rfl (hb hby at_131) rfl ?_
      show Steps p.tables e below (T22.setTop (mkF m 133 #[.val (.long x0), .second, .val (.long x1), .second, .val (.long x2), .second, .val (.int x3), .val (.int x4), .val (.long ll), .second, .val (.long hv), .second, .val (.long h2), .second, .val (.double (FP.ddiv (FP.l2d hv) (FP.l2d ll))), .second, .val (.double (FP.ddiv (FP.l2d h2) (FP.l2d ll))), .second, .unset, .unset, .unset, .unset, .unset, .unset, .unset] [(.double (FP.ddiv (FP.l2d hv) (FP.l2d ll)))])) _
      refine XS.dconst1 X22.here hx rfl (hb hby at_133) (rfl : FP.dconst1 = (4607182418800017408 : UInt64)) ?_
      show Steps p.tables e below (T22.setTop (mkF m 134 #[.val (.long x0), .second, .val (.long x1), .second, .val (.long x2), .second, .val (.int x3), .val (.int x4), .val (.long ll), .second, .val (.long hv), .second, .val (.long h2), .second, .val (.double (FP.ddiv (FP.l2d hv) (FP.l2d ll))), .second, .val (.double (FP.ddiv (FP.l2d h2) (FP.l2d ll))), .second, .unset, .unset, .unset, .unset, .unset, .unset, .unset] [(.double (4607182418800017408 : UInt64)), (.double (FP.ddiv (FP.l2d hv) (FP.l2d ll)))])) _
      refine XS.dcmpS X22.here hx rfl (hb hby at_134) rfl rfl ?_
      show Steps p.tables e below (T22.setTop (mkF m 135 #[.val (.long x0), .second, .val (.long x1), .second, .val (.long x2), .second, .val (.int x3), .val (.int x4), .val (.long ll), .second, .val (.long hv), .second, .val (.long h2), .second, .val (.double (FP.ddiv (FP.l2d hv) (FP.l2d ll))), .second, .val (.double (FP.ddiv (FP.l2d h2) (FP.l2d ll))), .second, .unset, .unset, .unset, .unset, .unset, .unset, .unset] [(.int (cmpValue (FP.dcmp (FP.ddiv (FP.l2d hv) (FP.l2d ll)) (4607182418800017408 : UInt64)) .g))])) _
      refine XS.ifNo X22.here hx rfl (hb hby at_135) rfl ((if0 _ _).trans (flt (own_cmp_le R1.1.ne_nan (by decide +kernel) R1.2.1 (by decide +kernel) (own_m1.symm ▸ R1.2.2) .g)).2.2.1) ?_
      show Steps p.tables e below (T22.setTop (mkF m 138 #[.val (.long x0), .second, .val (.long x1), .second, .val (.long x2), .second, .val (.int x3), .val (.int x4), .val (.long ll), .second, .val (.long hv), .second, .val (.long h2), .second, .val (.double (FP.ddiv (FP.l2d hv) (FP.l2d ll))), .second, .val (.double (FP.ddiv (FP.l2d h2) (FP.l2d ll))), .second, .unset, .unset, .unset, .unset, .unset, .unset, .unset] [])) _
      refine XS.iconst X22.here hx rfl (hb hby at_138) ?_
      show Steps p.tables e below (T22.setTop (mkF m 139 #[.val (.long x0), .second, .val (.long x1), .second, .val (.long x2), .second, .val (.int x3), .val (.int x4), .val (.long ll), .second, .val (.long hv), .second, .val (.long h2), .second, .val (.double (FP.ddiv (FP.l2d hv) (FP.l2d ll))), .second, .val (.double (FP.ddiv (FP.l2d h2) (FP.l2d ll))), .second, .unset, .unset, .unset, .unset, .unset, .unset, .unset] [(.int (1 : Int32))])) _
      refine XS.goto X22.here hx rfl (pc0 := 139) (pc' := 143) rfl (hb hby at_139) (by decide) (by decide) ?_
      show Steps p.tables e below (T22.setTop (mkF m 143 #[.val (.long x0), .second, .val (.long x1), .second, .val (.long x2), .second, .val (.int x3), .val (.int x4), .val (.long ll), .second, .val (.long hv), .second, .val (.long h2), .second, .val (.double (FP.ddiv (FP.l2d hv) (FP.l2d ll))), .second, .val (.double (FP.ddiv (FP.l2d h2) (FP.l2d ll))), .second, .unset, .unset, .unset, .unset, .unset, .unset, .unset] [(.int (1 : Int32))])) _
      refine XS.istore X22.here hx rfl (hb hby at_143) rfl (l' := #[.val (.long x0), .second, .val (.long x1), .second, .val (.long x2), .second, .val (.int x3), .val (.int x4), .val (.long ll), .second, .val (.long hv), .second, .val (.long h2), .second, .val (.double (FP.ddiv (FP.l2d hv) (FP.l2d ll))), .second, .val (.double (FP.ddiv (FP.l2d h2) (FP.l2d ll))), .second, .val (.int (1 : Int32)), .unset, .unset, .unset, .unset, .unset, .unset]) rfl ?_
      show Steps p.tables e below (T22.setTop (mkF m 145 #[.val (.long x0), .second, .val (.long x1), .second, .val (.long x2), .second, .val (.int x3), .val (.int x4), .val (.long ll), .second, .val (.long hv), .second, .val (.long h2), .second, .val (.double (FP.ddiv (FP.l2d hv) (FP.l2d ll))), .second, .val (.double (FP.ddiv (FP.l2d h2) (FP.l2d ll))), .second, .val (.int (1 : Int32)), .unset, .unset, .unset, .unset, .unset, .unset] [])) _
      refine XS.lload X22.here hx rfl (hb hby at_145) rfl ?_
      show Steps p.tables e below (T22.setTop (mkF m 147 #[.val (.long x0), .second, .val (.long x1), .second, .val (.long x2), .second, .val (.int x3), .val (.int x4), .val (.long ll), .second, .val (.long hv), .second, .val (.long h2), .second, .val (.double (FP.ddiv (FP.l2d hv) (FP.l2d ll))), .second, .val (.double (FP.ddiv (FP.l2d h2) (FP.l2d ll))), .second, .val (.int (1 : Int32)), .unset, .unset, .unset, .unset, .unset, .unset] [(.long hv)])) _
      refine XS.lconst X22.here hx rfl (hb hby at_147) ?_
      show Steps p.tables e below (T22.setTop (mkF m 148 #[.val (.long x0), .second, .val (.long x1), .second, .val (.long x2), .second, .val (.int x3), .val (.int x4), .val (.long ll), .second, .val (.long hv), .second, .val (.long h2), .second, .val (.double (FP.ddiv (FP.l2d hv) (FP.l2d ll))), .second, .val (.double (FP.ddiv (FP.l2d h2) (FP.l2d ll))), .second, .val (.int (1 : Int32)), .unset, .unset, .unset, .unset, .unset, .unset] [(.long (0 : Int64)), (.long hv)])) _
      refine XS.lcmp X22.here hx rfl (hb hby at_148) rfl ?_
      exact kt
    obtain ⟨hj25, k25⟩ : (True) ∧ ∀ t, Steps p.tables e below (T22.setTop (mkF m 171 #[.val (.long x0), .second, .val (.long x1), .second, .val (.long x2), .second, .val (.int x3), .val (.int x4), .val (.long ll), .second, .val (.long hv), .second, .val (.long h2), .second, .val (.double (FP.ddiv (FP.l2d hv) (FP.l2d ll))), .second, .val (.double (FP.ddiv (FP.l2d h2) (FP.l2d ll))), .second, .val (.int (1 : Int32)), .unset, .unset, .unset, .unset, .unset, .unset] [])) t → Steps p.tables e below (s₁.setTop (entryFrame m #[(.long x0), (.long x1), (.long x2), (.int x3), (.int x4)] maxLocals)) t := by
      by_cases hc26 : hv = (0 : Int64)
      · skip
        have k27 : ∀ t, Steps p.tables e below (T22.setTop (mkF m 171 #[.val (.long x0), .second, .val (.long x1), .second, .val (.long x2), .second, .val (.int x3), .val (.int x4), .val (.long ll), .second, .val (.long hv), .second, .val (.long h2), .second, .val (.double (FP.ddiv (FP.l2d hv) (FP.l2d ll))), .second, .val (.double (FP.ddiv (FP.l2d h2) (FP.l2d ll))), .second, .val (.int (1 : Int32)), .unset, .unset, .unset, .unset, .unset, .unset] [])) t → Steps p.tables e below (s₁.setTop (entryFrame m #[(.long x0), (.long x1), (.long x2), (.int x3), (.int x4)] maxLocals)) t := by
          intro t kt
          refine k24 t ?_
          show Steps p.tables e below (T22.setTop (mkF m 149 #[.val (.long x0), .second, .val (.long x1), .second, .val (.long x2), .second, .val (.int x3), .val (.int x4), .val (.long ll), .second, .val (.long hv), .second, .val (.long h2), .second, .val (.double (FP.ddiv (FP.l2d hv) (FP.l2d ll))), .second, .val (.double (FP.ddiv (FP.l2d h2) (FP.l2d ll))), .second, .val (.int (1 : Int32)), .unset, .unset, .unset, .unset, .unset, .unset] [(.int (lcmpW hv (0 : Int64)))])) _
          refine XS.ifNo X22.here hx rfl (hb hby at_149) rfl ((if0 _ _).trans (teq ((lw_eq hv (0 : Int64)).mpr hc26)).2) ?_
          show Steps p.tables e below (T22.setTop (mkF m 152 #[.val (.long x0), .second, .val (.long x1), .second, .val (.long x2), .second, .val (.int x3), .val (.int x4), .val (.long ll), .second, .val (.long hv), .second, .val (.long h2), .second, .val (.double (FP.ddiv (FP.l2d hv) (FP.l2d ll))), .second, .val (.double (FP.ddiv (FP.l2d h2) (FP.l2d ll))), .second, .val (.int (1 : Int32)), .unset, .unset, .unset, .unset, .unset, .unset] [])) _
          refine XS.iload X22.here hx rfl (hb hby at_152) rfl ?_
          show Steps p.tables e below (T22.setTop (mkF m 154 #[.val (.long x0), .second, .val (.long x1), .second, .val (.long x2), .second, .val (.int x3), .val (.int x4), .val (.long ll), .second, .val (.long hv), .second, .val (.long h2), .second, .val (.double (FP.ddiv (FP.l2d hv) (FP.l2d ll))), .second, .val (.double (FP.ddiv (FP.l2d h2) (FP.l2d ll))), .second, .val (.int (1 : Int32)), .unset, .unset, .unset, .unset, .unset, .unset] [(.int (1 : Int32))])) _
          refine XS.ifNo X22.here hx rfl (hb hby at_154) rfl ((if0 _ _).trans (feq (by decide : ¬ ((1 : Int32) = (0 : Int32)))).1) ?_
          show Steps p.tables e below (T22.setTop (mkF m 157 #[.val (.long x0), .second, .val (.long x1), .second, .val (.long x2), .second, .val (.int x3), .val (.int x4), .val (.long ll), .second, .val (.long hv), .second, .val (.long h2), .second, .val (.double (FP.ddiv (FP.l2d hv) (FP.l2d ll))), .second, .val (.double (FP.ddiv (FP.l2d h2) (FP.l2d ll))), .second, .val (.int (1 : Int32)), .unset, .unset, .unset, .unset, .unset, .unset] [])) _
          refine XS.dload X22.here hx rfl (hb hby at_157) rfl ?_
          show Steps p.tables e below (T22.setTop (mkF m 159 #[.val (.long x0), .second, .val (.long x1), .second, .val (.long x2), .second, .val (.int x3), .val (.int x4), .val (.long ll), .second, .val (.long hv), .second, .val (.long h2), .second, .val (.double (FP.ddiv (FP.l2d hv) (FP.l2d ll))), .second, .val (.double (FP.ddiv (FP.l2d h2) (FP.l2d ll))), .second, .val (.int (1 : Int32)), .unset, .unset, .unset, .unset, .unset, .unset] [(.double (FP.ddiv (FP.l2d hv) (FP.l2d ll)))])) _
          refine XS.dconst0 X22.here hx rfl (hb hby at_159) (rfl : FP.dconst0 = (0 : UInt64)) ?_
          show Steps p.tables e below (T22.setTop (mkF m 160 #[.val (.long x0), .second, .val (.long x1), .second, .val (.long x2), .second, .val (.int x3), .val (.int x4), .val (.long ll), .second, .val (.long hv), .second, .val (.long h2), .second, .val (.double (FP.ddiv (FP.l2d hv) (FP.l2d ll))), .second, .val (.double (FP.ddiv (FP.l2d h2) (FP.l2d ll))), .second, .val (.int (1 : Int32)), .unset, .unset, .unset, .unset, .unset, .unset] [(.double (0 : UInt64)), (.double (FP.ddiv (FP.l2d hv) (FP.l2d ll)))])) _
          refine XS.dcmpS X22.here hx rfl (hb hby at_160) rfl rfl ?_
          show Steps p.tables e below (T22.setTop (mkF m 161 #[.val (.long x0), .second, .val (.long x1), .second, .val (.long x2), .second, .val (.int x3), .val (.int x4), .val (.long ll), .second, .val (.long hv), .second, .val (.long h2), .second, .val (.double (FP.ddiv (FP.l2d hv) (FP.l2d ll))), .second, .val (.double (FP.ddiv (FP.l2d h2) (FP.l2d ll))), .second, .val (.int (1 : Int32)), .unset, .unset, .unset, .unset, .unset, .unset] [(.int (cmpValue (FP.dcmp (FP.ddiv (FP.l2d hv) (FP.l2d ll)) (0 : UInt64)) .l))])) _
          refine XS.ifNo X22.here hx rfl (hb hby at_161) rfl ((if0 _ _).trans (teq (own_cmp_eq R1.1.ne_nan (by decide +kernel) R1.2.1 (by decide +kernel) (own_z0 hl0 hc26) .l)).2) ?_
          show Steps p.tables e below (T22.setTop (mkF m 164 #[.val (.long x0), .second, .val (.long x1), .second, .val (.long x2), .second, .val (.int x3), .val (.int x4), .val (.long ll), .second, .val (.long hv), .second, .val (.long h2), .second, .val (.double (FP.ddiv (FP.l2d hv) (FP.l2d ll))), .second, .val (.double (FP.ddiv (FP.l2d h2) (FP.l2d ll))), .second, .val (.int (1 : Int32)), .unset, .unset, .unset, .unset, .unset, .unset] [])) _
          refine XS.iconst X22.here hx rfl (hb hby at_164) ?_
          show Steps p.tables e below (T22.setTop (mkF m 165 #[.val (.long x0), .second, .val (.long x1), .second, .val (.long x2), .second, .val (.int x3), .val (.int x4), .val (.long ll), .second, .val (.long hv), .second, .val (.long h2), .second, .val (.double (FP.ddiv (FP.l2d hv) (FP.l2d ll))), .second, .val (.double (FP.ddiv (FP.l2d h2) (FP.l2d ll))), .second, .val (.int (1 : Int32)), .unset, .unset, .unset, .unset, .unset, .unset] [(.int (1 : Int32))])) _
          refine XS.goto X22.here hx rfl (pc0 := 165) (pc' := 169) rfl (hb hby at_165) (by decide) (by decide) ?_
          show Steps p.tables e below (T22.setTop (mkF m 169 #[.val (.long x0), .second, .val (.long x1), .second, .val (.long x2), .second, .val (.int x3), .val (.int x4), .val (.long ll), .second, .val (.long hv), .second, .val (.long h2), .second, .val (.double (FP.ddiv (FP.l2d hv) (FP.l2d ll))), .second, .val (.double (FP.ddiv (FP.l2d h2) (FP.l2d ll))), .second, .val (.int (1 : Int32)), .unset, .unset, .unset, .unset, .unset, .unset] [(.int (1 : Int32))])) _
          refine XS.istore X22.here hx rfl (hb hby at_169) rfl (l' := #[.val (.long x0), .second, .val (.long x1), .second, .val (.long x2), .second, .val (.int x3), .val (.int x4), .val (.long ll), .second, .val (.long hv), .second, .val (.long h2), .second, .val (.double (FP.ddiv (FP.l2d hv) (FP.l2d ll))), .second, .val (.double (FP.ddiv (FP.l2d h2) (FP.l2d ll))), .second, .val (.int (1 : Int32)), .unset, .unset, .unset, .unset, .unset, .unset]) rfl ?_
          exact kt
        exact ⟨trivial, k27⟩
      · skip
        have k28 : ∀ t, Steps p.tables e below (T22.setTop (mkF m 171 #[.val (.long x0), .second, .val (.long x1), .second, .val (.long x2), .second, .val (.int x3), .val (.int x4), .val (.long ll), .second, .val (.long hv), .second, .val (.long h2), .second, .val (.double (FP.ddiv (FP.l2d hv) (FP.l2d ll))), .second, .val (.double (FP.ddiv (FP.l2d h2) (FP.l2d ll))), .second, .val (.int (1 : Int32)), .unset, .unset, .unset, .unset, .unset, .unset] [])) t → Steps p.tables e below (s₁.setTop (entryFrame m #[(.long x0), (.long x1), (.long x2), (.int x3), (.int x4)] maxLocals)) t := by
          intro t kt
          refine k24 t ?_
          show Steps p.tables e below (T22.setTop (mkF m 149 #[.val (.long x0), .second, .val (.long x1), .second, .val (.long x2), .second, .val (.int x3), .val (.int x4), .val (.long ll), .second, .val (.long hv), .second, .val (.long h2), .second, .val (.double (FP.ddiv (FP.l2d hv) (FP.l2d ll))), .second, .val (.double (FP.ddiv (FP.l2d h2) (FP.l2d ll))), .second, .val (.int (1 : Int32)), .unset, .unset, .unset, .unset, .unset, .unset] [(.int (lcmpW hv (0 : Int64)))])) _
          refine XS.ifYes X22.here hx rfl (pc0 := 149) (pc' := 171) rfl (hb hby at_149) rfl ((if0 _ _).trans (feq (fun q => hc26 ((lw_eq hv (0 : Int64)).mp q))).2) (by decide) (by decide) ?_
          exact kt
        exact ⟨trivial, k28⟩
    have k29 : ∀ t, Steps p.tables e below (T22.setTop (mkF m 176 #[.val (.long x0), .second, .val (.long x1), .second, .val (.long x2), .second, .val (.int x3), .val (.int x4), .val (.long ll), .second, .val (.long hv), .second, .val (.long h2), .second, .val (.double (FP.ddiv (FP.l2d hv) (FP.l2d ll))), .second, .val (.double (FP.ddiv (FP.l2d h2) (FP.l2d ll))), .second, .val (.int (1 : Int32)), .unset, .unset, .unset, .unset, .unset, .unset] [(.int (lcmpW hv ll))])) t → Steps p.tables e below (s₁.setTop (entryFrame m #[(.long x0), (.long x1), (.long x2), (.int x3), (.int x4)] maxLocals)) t := by
      intro t kt
      refine k25 t ?_
      show Steps p.tables e below (T22.setTop (mkF m 171 #[.val (.long x0), .second, .val (.long x1), .second, .val (.long x2), .second, .val (.int x3), .val (.int x4), .val (.long ll), .second, .val (.long hv), .second, .val (.long h2), .second, .val (.double (FP.ddiv (FP.l2d hv) (FP.l2d ll))), .second, .val (.double (FP.ddiv (FP.l2d h2) (FP.l2d ll))), .second, .val (.int (1 : Int32)), .unset, .unset, .unset, .unset, .unset, .unset] [])) _
      refine XS.lload X22.here hx rfl (hb hby at_171) rfl ?_
      show Steps p.tables e below (T22.setTop (mkF m 173 #[.val (.long x0), .second, .val (.long x1), .second, .val (.long x2), .second, .val (.int x3), .val (.int x4), .val (.long ll), .second, .val (.long hv), .second, .val (.long h2), .second, .val (.double (FP.ddiv (FP.l2d hv) (FP.l2d ll))), .second, .val (.double (FP.ddiv (FP.l2d h2) (FP.l2d ll))), .second, .val (.int (1 : Int32)), .unset, .unset, .unset, .unset, .unset, .unset] [(.long hv)])) _
      refine XS.lload X22.here hx rfl (hb hby at_173) rfl ?_
      show Steps p.tables e below (T22.setTop (mkF m 175 #[.val (.long x0), .second, .val (.long x1), .second, .val (.long x2), .second, .val (.int x3), .val (.int x4), .val (.long ll), .second, .val (.long hv), .second, .val (.long h2), .second, .val (.double (FP.ddiv (FP.l2d hv) (FP.l2d ll))), .second, .val (.double (FP.ddiv (FP.l2d h2) (FP.l2d ll))), .second, .val (.int (1 : Int32)), .unset, .unset, .unset, .unset, .unset, .unset] [(.long ll), (.long hv)])) _
      refine XS.lcmp X22.here hx rfl (hb hby at_175) rfl ?_
      exact kt
    obtain ⟨hj30, k30⟩ : (True) ∧ ∀ t, Steps p.tables e below (T22.setTop (mkF m 198 #[.val (.long x0), .second, .val (.long x1), .second, .val (.long x2), .second, .val (.int x3), .val (.int x4), .val (.long ll), .second, .val (.long hv), .second, .val (.long h2), .second, .val (.double (FP.ddiv (FP.l2d hv) (FP.l2d ll))), .second, .val (.double (FP.ddiv (FP.l2d h2) (FP.l2d ll))), .second, .val (.int (1 : Int32)), .unset, .unset, .unset, .unset, .unset, .unset] [])) t → Steps p.tables e below (s₁.setTop (entryFrame m #[(.long x0), (.long x1), (.long x2), (.int x3), (.int x4)] maxLocals)) t := by
      by_cases hc31 : hv = ll
      · skip
        have k32 : ∀ t, Steps p.tables e below (T22.setTop (mkF m 198 #[.val (.long x0), .second, .val (.long x1), .second, .val (.long x2), .second, .val (.int x3), .val (.int x4), .val (.long ll), .second, .val (.long hv), .second, .val (.long h2), .second, .val (.double (FP.ddiv (FP.l2d hv) (FP.l2d ll))), .second, .val (.double (FP.ddiv (FP.l2d h2) (FP.l2d ll))), .second, .val (.int (1 : Int32)), .unset, .unset, .unset, .unset, .unset, .unset] [])) t → Steps p.tables e below (s₁.setTop (entryFrame m #[(.long x0), (.long x1), (.long x2), (.int x3), (.int x4)] maxLocals)) t := by
          intro t kt
          refine k29 t ?_
          show Steps p.tables e below (T22.setTop (mkF m 176 #[.val (.long x0), .second, .val (.long x1), .second, .val (.long x2), .second, .val (.int x3), .val (.int x4), .val (.long ll), .second, .val (.long hv), .second, .val (.long h2), .second, .val (.double (FP.ddiv (FP.l2d hv) (FP.l2d ll))), .second, .val (.double (FP.ddiv (FP.l2d h2) (FP.l2d ll))), .second, .val (.int (1 : Int32)), .unset, .unset, .unset, .unset, .unset, .unset] [(.int (lcmpW hv ll))])) _
          refine XS.ifNo X22.here hx rfl (hb hby at_176) rfl ((if0 _ _).trans (teq ((lw_eq hv ll).mpr hc31)).2) ?_
          show Steps p.tables e below (T22.setTop (mkF m 179 #[.val (.long x0), .second, .val (.long x1), .second, .val (.long x2), .second, .val (.int x3), .val (.int x4), .val (.long ll), .second, .val (.long hv), .second, .val (.long h2), .second, .val (.double (FP.ddiv (FP.l2d hv) (FP.l2d ll))), .second, .val (.double (FP.ddiv (FP.l2d h2) (FP.l2d ll))), .second, .val (.int (1 : Int32)), .unset, .unset, .unset, .unset, .unset, .unset] [])) _
          refine XS.iload X22.here hx rfl (hb hby at_179) rfl ?_
          show Steps p.tables e below (T22.setTop (mkF m 181 #[.val (.long x0), .second, .val (.long x1), .second, .val (.long x2), .second, .val (.int x3), .val (.int x4), .val (.long ll), .second, .val (.long hv), .second, .val (.long h2), .second, .val (.double (FP.ddiv (FP.l2d hv) (FP.l2d ll))), .second, .val (.double (FP.ddiv (FP.l2d h2) (FP.l2d ll))), .second, .val (.int (1 : Int32)), .unset, .unset, .unset, .unset, .unset, .unset] [(.int (1 : Int32))])) _
          refine XS.ifNo X22.here hx rfl (hb hby at_181) rfl ((if0 _ _).trans (feq (by decide : ¬ ((1 : Int32) = (0 : Int32)))).1) ?_
          show Steps p.tables e below (T22.setTop (mkF m 184 #[.val (.long x0), .second, .val (.long x1), .second, .val (.long x2), .second, .val (.int x3), .val (.int x4), .val (.long ll), .second, .val (.long hv), .second, .val (.long h2), .second, .val (.double (FP.ddiv (FP.l2d hv) (FP.l2d ll))), .second, .val (.double (FP.ddiv (FP.l2d h2) (FP.l2d ll))), .second, .val (.int (1 : Int32)), .unset, .unset, .unset, .unset, .unset, .unset] [])) _
          refine XS.dload X22.here hx rfl (hb hby at_184) rfl ?_
          show Steps p.tables e below (T22.setTop (mkF m 186 #[.val (.long x0), .second, .val (.long x1), .second, .val (.long x2), .second, .val (.int x3), .val (.int x4), .val (.long ll), .second, .val (.long hv), .second, .val (.long h2), .second, .val (.double (FP.ddiv (FP.l2d hv) (FP.l2d ll))), .second, .val (.double (FP.ddiv (FP.l2d h2) (FP.l2d ll))), .second, .val (.int (1 : Int32)), .unset, .unset, .unset, .unset, .unset, .unset] [(.double (FP.ddiv (FP.l2d hv) (FP.l2d ll)))])) _
          refine XS.dconst1 X22.here hx rfl (hb hby at_186) (rfl : FP.dconst1 = (4607182418800017408 : UInt64)) ?_
          show Steps p.tables e below (T22.setTop (mkF m 187 #[.val (.long x0), .second, .val (.long x1), .second, .val (.long x2), .second, .val (.int x3), .val (.int x4), .val (.long ll), .second, .val (.long hv), .second, .val (.long h2), .second, .val (.double (FP.ddiv (FP.l2d hv) (FP.l2d ll))), .second, .val (.double (FP.ddiv (FP.l2d h2) (FP.l2d ll))), .second, .val (.int (1 : Int32)), .unset, .unset, .unset, .unset, .unset, .unset] [(.double (4607182418800017408 : UInt64)), (.double (FP.ddiv (FP.l2d hv) (FP.l2d ll)))])) _
          refine XS.dcmpS X22.here hx rfl (hb hby at_187) rfl rfl ?_
          show Steps p.tables e below (T22.setTop (mkF m 188 #[.val (.long x0), .second, .val (.long x1), .second, .val (.long x2), .second, .val (.int x3), .val (.int x4), .val (.long ll), .second, .val (.long hv), .second, .val (.long h2), .second, .val (.double (FP.ddiv (FP.l2d hv) (FP.l2d ll))), .second, .val (.double (FP.ddiv (FP.l2d h2) (FP.l2d ll))), .second, .val (.int (1 : Int32)), .unset, .unset, .unset, .unset, .unset, .unset] [(.int (cmpValue (FP.dcmp (FP.ddiv (FP.l2d hv) (FP.l2d ll)) (4607182418800017408 : UInt64)) .l))])) _
          refine XS.ifNo X22.here hx rfl (hb hby at_188) rfl ((if0 _ _).trans (teq (own_cmp_eq R1.1.ne_nan (by decide +kernel) R1.2.1 (by decide +kernel) (own_z1 hl0 jh1 hc31) .l)).2) ?_
          show Steps p.tables e below (T22.setTop (mkF m 191 #[.val (.long x0), .second, .val (.long x1), .second, .val (.long x2), .second, .val (.int x3), .val (.int x4), .val (.long ll), .second, .val (.long hv), .second, .val (.long h2), .second, .val (.double (FP.ddiv (FP.l2d hv) (FP.l2d ll))), .second, .val (.double (FP.ddiv (FP.l2d h2) (FP.l2d ll))), .second, .val (.int (1 : Int32)), .unset, .unset, .unset, .unset, .unset, .unset] [])) _
          refine XS.iconst X22.here hx rfl (hb hby at_191) ?_
          show Steps p.tables e below (T22.setTop (mkF m 192 #[.val (.long x0), .second, .val (.long x1), .second, .val (.long x2), .second, .val (.int x3), .val (.int x4), .val (.long ll), .second, .val (.long hv), .second, .val (.long h2), .second, .val (.double (FP.ddiv (FP.l2d hv) (FP.l2d ll))), .second, .val (.double (FP.ddiv (FP.l2d h2) (FP.l2d ll))), .second, .val (.int (1 : Int32)), .unset, .unset, .unset, .unset, .unset, .unset] [(.int (1 : Int32))])) _
          refine XS.goto X22.here hx rfl (pc0 := 192) (pc' := 196) rfl (hb hby at_192) (by decide) (by decide) ?_
          show Steps p.tables e below (T22.setTop (mkF m 196 #[.val (.long x0), .second, .val (.long x1), .second, .val (.long x2), .second, .val (.int x3), .val (.int x4), .val (.long ll), .second, .val (.long hv), .second, .val (.long h2), .second, .val (.double (FP.ddiv (FP.l2d hv) (FP.l2d ll))), .second, .val (.double (FP.ddiv (FP.l2d h2) (FP.l2d ll))), .second, .val (.int (1 : Int32)), .unset, .unset, .unset, .unset, .unset, .unset] [(.int (1 : Int32))])) _
          refine XS.istore X22.here hx rfl (hb hby at_196) rfl (l' := #[.val (.long x0), .second, .val (.long x1), .second, .val (.long x2), .second, .val (.int x3), .val (.int x4), .val (.long ll), .second, .val (.long hv), .second, .val (.long h2), .second, .val (.double (FP.ddiv (FP.l2d hv) (FP.l2d ll))), .second, .val (.double (FP.ddiv (FP.l2d h2) (FP.l2d ll))), .second, .val (.int (1 : Int32)), .unset, .unset, .unset, .unset, .unset, .unset]) rfl ?_
          exact kt
        exact ⟨trivial, k32⟩
      · skip
        have k33 : ∀ t, Steps p.tables e below (T22.setTop (mkF m 198 #[.val (.long x0), .second, .val (.long x1), .second, .val (.long x2), .second, .val (.int x3), .val (.int x4), .val (.long ll), .second, .val (.long hv), .second, .val (.long h2), .second, .val (.double (FP.ddiv (FP.l2d hv) (FP.l2d ll))), .second, .val (.double (FP.ddiv (FP.l2d h2) (FP.l2d ll))), .second, .val (.int (1 : Int32)), .unset, .unset, .unset, .unset, .unset, .unset] [])) t → Steps p.tables e below (s₁.setTop (entryFrame m #[(.long x0), (.long x1), (.long x2), (.int x3), (.int x4)] maxLocals)) t := by
          intro t kt
          refine k29 t ?_
          show Steps p.tables e below (T22.setTop (mkF m 176 #[.val (.long x0), .second, .val (.long x1), .second, .val (.long x2), .second, .val (.int x3), .val (.int x4), .val (.long ll), .second, .val (.long hv), .second, .val (.long h2), .second, .val (.double (FP.ddiv (FP.l2d hv) (FP.l2d ll))), .second, .val (.double (FP.ddiv (FP.l2d h2) (FP.l2d ll))), .second, .val (.int (1 : Int32)), .unset, .unset, .unset, .unset, .unset, .unset] [(.int (lcmpW hv ll))])) _
          refine XS.ifYes X22.here hx rfl (pc0 := 176) (pc' := 198) rfl (hb hby at_176) rfl ((if0 _ _).trans (feq (fun q => hc31 ((lw_eq hv ll).mp q))).2) (by decide) (by decide) ?_
          exact kt
        exact ⟨trivial, k33⟩
    have k34 : ∀ t, Steps p.tables e below (T22.setTop (mkF m 210 #[.val (.long x0), .second, .val (.long x1), .second, .val (.long x2), .second, .val (.int x3), .val (.int x4), .val (.long ll), .second, .val (.long hv), .second, .val (.long h2), .second, .val (.double (FP.ddiv (FP.l2d hv) (FP.l2d ll))), .second, .val (.double (FP.ddiv (FP.l2d h2) (FP.l2d ll))), .second, .val (.int (1 : Int32)), .val (.long (ll - hv)), .second, .unset, .unset, .unset, .unset] [(.int (lcmpW hv (ll - hv)))])) t → Steps p.tables e below (s₁.setTop (entryFrame m #[(.long x0), (.long x1), (.long x2), (.int x3), (.int x4)] maxLocals)) t := by
      intro t kt
      refine k30 t ?_
      show Steps p.tables e below (T22.setTop (mkF m 198 #[.val (.long x0), .second, .val (.long x1), .second, .val (.long x2), .second, .val (.int x3), .val (.int x4), .val (.long ll), .second, .val (.long hv), .second, .val (.long h2), .second, .val (.double (FP.ddiv (FP.l2d hv) (FP.l2d ll))), .second, .val (.double (FP.ddiv (FP.l2d h2) (FP.l2d ll))), .second, .val (.int (1 : Int32)), .unset, .unset, .unset, .unset, .unset, .unset] [])) _
      refine XS.lload X22.here hx rfl (hb hby at_198) rfl ?_
      show Steps p.tables e below (T22.setTop (mkF m 200 #[.val (.long x0), .second, .val (.long x1), .second, .val (.long x2), .second, .val (.int x3), .val (.int x4), .val (.long ll), .second, .val (.long hv), .second, .val (.long h2), .second, .val (.double (FP.ddiv (FP.l2d hv) (FP.l2d ll))), .second, .val (.double (FP.ddiv (FP.l2d h2) (FP.l2d ll))), .second, .val (.int (1 : Int32)), .unset, .unset, .unset, .unset, .unset, .unset] [(.long ll)])) _
      refine XS.lload X22.here hx rfl (hb hby at_200) rfl ?_
      show Steps p.tables e below (T22.setTop (mkF m 202 #[.val (.long x0), .second, .val (.long x1), .second, .val (.long x2), .second, .val (.int x3), .val (.int x4), .val (.long ll), .second, .val (.long hv), .second, .val (.long h2), .second, .val (.double (FP.ddiv (FP.l2d hv) (FP.l2d ll))), .second, .val (.double (FP.ddiv (FP.l2d h2) (FP.l2d ll))), .second, .val (.int (1 : Int32)), .unset, .unset, .unset, .unset, .unset, .unset] [(.long hv), (.long ll)])) _
      refine XS.lsub X22.here hx rfl (hb hby at_202) rfl ?_
      show Steps p.tables e below (T22.setTop (mkF m 203 #[.val (.long x0), .second, .val (.long x1), .second, .val (.long x2), .second, .val (.int x3), .val (.int x4), .val (.long ll), .second, .val (.long hv), .second, .val (.long h2), .second, .val (.double (FP.ddiv (FP.l2d hv) (FP.l2d ll))), .second, .val (.double (FP.ddiv (FP.l2d h2) (FP.l2d ll))), .second, .val (.int (1 : Int32)), .unset, .unset, .unset, .unset, .unset, .unset] [(.long (ll - hv))])) _
      refine XS.lstore X22.here hx rfl (hb hby at_203) rfl (l' := #[.val (.long x0), .second, .val (.long x1), .second, .val (.long x2), .second, .val (.int x3), .val (.int x4), .val (.long ll), .second, .val (.long hv), .second, .val (.long h2), .second, .val (.double (FP.ddiv (FP.l2d hv) (FP.l2d ll))), .second, .val (.double (FP.ddiv (FP.l2d h2) (FP.l2d ll))), .second, .val (.int (1 : Int32)), .val (.long (ll - hv)), .second, .unset, .unset, .unset, .unset]) rfl ?_
      show Steps p.tables e below (T22.setTop (mkF m 205 #[.val (.long x0), .second, .val (.long x1), .second, .val (.long x2), .second, .val (.int x3), .val (.int x4), .val (.long ll), .second, .val (.long hv), .second, .val (.long h2), .second, .val (.double (FP.ddiv (FP.l2d hv) (FP.l2d ll))), .second, .val (.double (FP.ddiv (FP.l2d h2) (FP.l2d ll))), .second, .val (.int (1 : Int32)), .val (.long (ll - hv)), .second, .unset, .unset, .unset, .unset] [])) _
      refine XS.lload X22.here hx rfl (hb hby at_205) rfl ?_
      show Steps p.tables e below (T22.setTop (mkF m 207 #[.val (.long x0), .second, .val (.long x1), .second, .val (.long x2), .second, .val (.int x3), .val (.int x4), .val (.long ll), .second, .val (.long hv), .second, .val (.long h2), .second, .val (.double (FP.ddiv (FP.l2d hv) (FP.l2d ll))), .second, .val (.double (FP.ddiv (FP.l2d h2) (FP.l2d ll))), .second, .val (.int (1 : Int32)), .val (.long (ll - hv)), .second, .unset, .unset, .unset, .unset] [(.long hv)])) _
      refine XS.lload X22.here hx rfl (hb hby at_207) rfl ?_
      show Steps p.tables e below (T22.setTop (mkF m 209 #[.val (.long x0), .second, .val (.long x1), .second, .val (.long x2), .second, .val (.int x3), .val (.int x4), .val (.long ll), .second, .val (.long hv), .second, .val (.long h2), .second, .val (.double (FP.ddiv (FP.l2d hv) (FP.l2d ll))), .second, .val (.double (FP.ddiv (FP.l2d h2) (FP.l2d ll))), .second, .val (.int (1 : Int32)), .val (.long (ll - hv)), .second, .unset, .unset, .unset, .unset] [(.long (ll - hv)), (.long hv)])) _
      refine XS.lcmp X22.here hx rfl (hb hby at_209) rfl ?_
      exact kt
    obtain ⟨hj35, k35⟩ : (True) ∧ ∀ t, Steps p.tables e below (T22.setTop (mkF m 234 #[.val (.long x0), .second, .val (.long x1), .second, .val (.long x2), .second, .val (.int x3), .val (.int x4), .val (.long ll), .second, .val (.long hv), .second, .val (.long h2), .second, .val (.double (FP.ddiv (FP.l2d hv) (FP.l2d ll))), .second, .val (.double (FP.ddiv (FP.l2d h2) (FP.l2d ll))), .second, .val (.int (1 : Int32)), .val (.long (ll - hv)), .second, .unset, .unset, .unset, .unset] [])) t → Steps p.tables e below (s₁.setTop (entryFrame m #[(.long x0), (.long x1), (.long x2), (.int x3), (.int x4)] maxLocals)) t := by
      by_cases hc36 : (ll - hv) < hv
      · skip
        have k37 : ∀ t, Steps p.tables e below (T22.setTop (mkF m 234 #[.val (.long x0), .second, .val (.long x1), .second, .val (.long x2), .second, .val (.int x3), .val (.int x4), .val (.long ll), .second, .val (.long hv), .second, .val (.long h2), .second, .val (.double (FP.ddiv (FP.l2d hv) (FP.l2d ll))), .second, .val (.double (FP.ddiv (FP.l2d h2) (FP.l2d ll))), .second, .val (.int (1 : Int32)), .val (.long (ll - hv)), .second, .unset, .unset, .unset, .unset] [])) t → Steps p.tables e below (s₁.setTop (entryFrame m #[(.long x0), (.long x1), (.long x2), (.int x3), (.int x4)] maxLocals)) t := by
          intro t kt
          refine k34 t ?_
          show Steps p.tables e below (T22.setTop (mkF m 210 #[.val (.long x0), .second, .val (.long x1), .second, .val (.long x2), .second, .val (.int x3), .val (.int x4), .val (.long ll), .second, .val (.long hv), .second, .val (.long h2), .second, .val (.double (FP.ddiv (FP.l2d hv) (FP.l2d ll))), .second, .val (.double (FP.ddiv (FP.l2d h2) (FP.l2d ll))), .second, .val (.int (1 : Int32)), .val (.long (ll - hv)), .second, .unset, .unset, .unset, .unset] [(.int (lcmpW hv (ll - hv)))])) _
          refine XS.ifYes X22.here hx rfl (pc0 := 210) (pc' := 234) rfl (hb hby at_210) rfl ((if0 _ _).trans (tlt ((lw_gt hv (ll - hv)).mpr hc36)).2.2.1) (by decide) (by decide) ?_
          exact kt
        exact ⟨trivial, k37⟩
      · skip
        have k38 : ∀ t, Steps p.tables e below (T22.setTop (mkF m 234 #[.val (.long x0), .second, .val (.long x1), .second, .val (.long x2), .second, .val (.int x3), .val (.int x4), .val (.long ll), .second, .val (.long hv), .second, .val (.long h2), .second, .val (.double (FP.ddiv (FP.l2d hv) (FP.l2d ll))), .second, .val (.double (FP.ddiv (FP.l2d h2) (FP.l2d ll))), .second, .val (.int (1 : Int32)), .val (.long (ll - hv)), .second, .unset, .unset, .unset, .unset] [])) t → Steps p.tables e below (s₁.setTop (entryFrame m #[(.long x0), (.long x1), (.long x2), (.int x3), (.int x4)] maxLocals)) t := by
          intro t kt
          refine k34 t ?_
          show Steps p.tables e below (T22.setTop (mkF m 210 #[.val (.long x0), .second, .val (.long x1), .second, .val (.long x2), .second, .val (.int x3), .val (.int x4), .val (.long ll), .second, .val (.long hv), .second, .val (.long h2), .second, .val (.double (FP.ddiv (FP.l2d hv) (FP.l2d ll))), .second, .val (.double (FP.ddiv (FP.l2d h2) (FP.l2d ll))), .second, .val (.int (1 : Int32)), .val (.long (ll - hv)), .second, .unset, .unset, .unset, .unset] [(.int (lcmpW hv (ll - hv)))])) _
          refine XS.ifNo X22.here hx rfl (hb hby at_210) rfl ((if0 _ _).trans (flt (fun q => hc36 ((lw_gt hv (ll - hv)).mp q))).2.2.1) ?_
          show Steps p.tables e below (T22.setTop (mkF m 213 #[.val (.long x0), .second, .val (.long x1), .second, .val (.long x2), .second, .val (.int x3), .val (.int x4), .val (.long ll), .second, .val (.long hv), .second, .val (.long h2), .second, .val (.double (FP.ddiv (FP.l2d hv) (FP.l2d ll))), .second, .val (.double (FP.ddiv (FP.l2d h2) (FP.l2d ll))), .second, .val (.int (1 : Int32)), .val (.long (ll - hv)), .second, .unset, .unset, .unset, .unset] [])) _
          refine XS.iload X22.here hx rfl (hb hby at_213) rfl ?_
          show Steps p.tables e below (T22.setTop (mkF m 215 #[.val (.long x0), .second, .val (.long x1), .second, .val (.long x2), .second, .val (.int x3), .val (.int x4), .val (.long ll), .second, .val (.long hv), .second, .val (.long h2), .second, .val (.double (FP.ddiv (FP.l2d hv) (FP.l2d ll))), .second, .val (.double (FP.ddiv (FP.l2d h2) (FP.l2d ll))), .second, .val (.int (1 : Int32)), .val (.long (ll - hv)), .second, .unset, .unset, .unset, .unset] [(.int (1 : Int32))])) _
          refine XS.ifNo X22.here hx rfl (hb hby at_215) rfl ((if0 _ _).trans (feq (by decide : ¬ ((1 : Int32) = (0 : Int32)))).1) ?_
          show Steps p.tables e below (T22.setTop (mkF m 218 #[.val (.long x0), .second, .val (.long x1), .second, .val (.long x2), .second, .val (.int x3), .val (.int x4), .val (.long ll), .second, .val (.long hv), .second, .val (.long h2), .second, .val (.double (FP.ddiv (FP.l2d hv) (FP.l2d ll))), .second, .val (.double (FP.ddiv (FP.l2d h2) (FP.l2d ll))), .second, .val (.int (1 : Int32)), .val (.long (ll - hv)), .second, .unset, .unset, .unset, .unset] [])) _
          refine XS.dload X22.here hx rfl (hb hby at_218) rfl ?_
          show Steps p.tables e below (T22.setTop (mkF m 220 #[.val (.long x0), .second, .val (.long x1), .second, .val (.long x2), .second, .val (.int x3), .val (.int x4), .val (.long ll), .second, .val (.long hv), .second, .val (.long h2), .second, .val (.double (FP.ddiv (FP.l2d hv) (FP.l2d ll))), .second, .val (.double (FP.ddiv (FP.l2d h2) (FP.l2d ll))), .second, .val (.int (1 : Int32)), .val (.long (ll - hv)), .second, .unset, .unset, .unset, .unset] [(.double (FP.ddiv (FP.l2d hv) (FP.l2d ll)))])) _
          refine X22.ldc2DoubleC hx hown (mvT hZ (wd26 hw)) (g := (mkF m 220 #[.val (.long x0), .second, .val (.long x1), .second, .val (.long x2), .second, .val (.int x3), .val (.int x4), .val (.long ll), .second, .val (.long hv), .second, .val (.long h2), .second, .val (.double (FP.ddiv (FP.l2d hv) (FP.l2d ll))), .second, .val (.double (FP.ddiv (FP.l2d h2) (FP.l2d ll))), .second, .val (.int (1 : Int32)), .val (.long (ll - hv)), .second, .unset, .unset, .unset, .unset] [(.double (FP.ddiv (FP.l2d hv) (FP.l2d ll)))])) rfl (hb hby at_220) _ ?_
          show Steps p.tables e below (T22.setTop (mkF m 223 #[.val (.long x0), .second, .val (.long x1), .second, .val (.long x2), .second, .val (.int x3), .val (.int x4), .val (.long ll), .second, .val (.long hv), .second, .val (.long h2), .second, .val (.double (FP.ddiv (FP.l2d hv) (FP.l2d ll))), .second, .val (.double (FP.ddiv (FP.l2d h2) (FP.l2d ll))), .second, .val (.int (1 : Int32)), .val (.long (ll - hv)), .second, .unset, .unset, .unset, .unset] [(.double (4602678819172646912 : UInt64)), (.double (FP.ddiv (FP.l2d hv) (FP.l2d ll)))])) _
          refine XS.dcmpS X22.here hx rfl (hb hby at_223) rfl rfl ?_
          show Steps p.tables e below (T22.setTop (mkF m 224 #[.val (.long x0), .second, .val (.long x1), .second, .val (.long x2), .second, .val (.int x3), .val (.int x4), .val (.long ll), .second, .val (.long hv), .second, .val (.long h2), .second, .val (.double (FP.ddiv (FP.l2d hv) (FP.l2d ll))), .second, .val (.double (FP.ddiv (FP.l2d h2) (FP.l2d ll))), .second, .val (.int (1 : Int32)), .val (.long (ll - hv)), .second, .unset, .unset, .unset, .unset] [(.int (cmpValue (FP.dcmp (FP.ddiv (FP.l2d hv) (FP.l2d ll)) (4602678819172646912 : UInt64)) .g))])) _
          refine XS.ifNo X22.here hx rfl (hb hby at_224) rfl ((if0 _ _).trans (flt (own_cmp_le R1.1.ne_nan (by decide +kernel) R1.2.1 (by decide +kernel) (own_half_le hl0 jh1 jh2 hc36) .g)).2.2.1) ?_
          show Steps p.tables e below (T22.setTop (mkF m 227 #[.val (.long x0), .second, .val (.long x1), .second, .val (.long x2), .second, .val (.int x3), .val (.int x4), .val (.long ll), .second, .val (.long hv), .second, .val (.long h2), .second, .val (.double (FP.ddiv (FP.l2d hv) (FP.l2d ll))), .second, .val (.double (FP.ddiv (FP.l2d h2) (FP.l2d ll))), .second, .val (.int (1 : Int32)), .val (.long (ll - hv)), .second, .unset, .unset, .unset, .unset] [])) _
          refine XS.iconst X22.here hx rfl (hb hby at_227) ?_
          show Steps p.tables e below (T22.setTop (mkF m 228 #[.val (.long x0), .second, .val (.long x1), .second, .val (.long x2), .second, .val (.int x3), .val (.int x4), .val (.long ll), .second, .val (.long hv), .second, .val (.long h2), .second, .val (.double (FP.ddiv (FP.l2d hv) (FP.l2d ll))), .second, .val (.double (FP.ddiv (FP.l2d h2) (FP.l2d ll))), .second, .val (.int (1 : Int32)), .val (.long (ll - hv)), .second, .unset, .unset, .unset, .unset] [(.int (1 : Int32))])) _
          refine XS.goto X22.here hx rfl (pc0 := 228) (pc' := 232) rfl (hb hby at_228) (by decide) (by decide) ?_
          show Steps p.tables e below (T22.setTop (mkF m 232 #[.val (.long x0), .second, .val (.long x1), .second, .val (.long x2), .second, .val (.int x3), .val (.int x4), .val (.long ll), .second, .val (.long hv), .second, .val (.long h2), .second, .val (.double (FP.ddiv (FP.l2d hv) (FP.l2d ll))), .second, .val (.double (FP.ddiv (FP.l2d h2) (FP.l2d ll))), .second, .val (.int (1 : Int32)), .val (.long (ll - hv)), .second, .unset, .unset, .unset, .unset] [(.int (1 : Int32))])) _
          refine XS.istore X22.here hx rfl (hb hby at_232) rfl (l' := #[.val (.long x0), .second, .val (.long x1), .second, .val (.long x2), .second, .val (.int x3), .val (.int x4), .val (.long ll), .second, .val (.long hv), .second, .val (.long h2), .second, .val (.double (FP.ddiv (FP.l2d hv) (FP.l2d ll))), .second, .val (.double (FP.ddiv (FP.l2d h2) (FP.l2d ll))), .second, .val (.int (1 : Int32)), .val (.long (ll - hv)), .second, .unset, .unset, .unset, .unset]) rfl ?_
          exact kt
        exact ⟨trivial, k38⟩
    have k39 : ∀ t, Steps p.tables e below (T22.setTop (mkF m 239 #[.val (.long x0), .second, .val (.long x1), .second, .val (.long x2), .second, .val (.int x3), .val (.int x4), .val (.long ll), .second, .val (.long hv), .second, .val (.long h2), .second, .val (.double (FP.ddiv (FP.l2d hv) (FP.l2d ll))), .second, .val (.double (FP.ddiv (FP.l2d h2) (FP.l2d ll))), .second, .val (.int (1 : Int32)), .val (.long (ll - hv)), .second, .unset, .unset, .unset, .unset] [(.int (lcmpW hv (ll - hv)))])) t → Steps p.tables e below (s₁.setTop (entryFrame m #[(.long x0), (.long x1), (.long x2), (.int x3), (.int x4)] maxLocals)) t := by
      intro t kt
      refine k35 t ?_
      show Steps p.tables e below (T22.setTop (mkF m 234 #[.val (.long x0), .second, .val (.long x1), .second, .val (.long x2), .second, .val (.int x3), .val (.int x4), .val (.long ll), .second, .val (.long hv), .second, .val (.long h2), .second, .val (.double (FP.ddiv (FP.l2d hv) (FP.l2d ll))), .second, .val (.double (FP.ddiv (FP.l2d h2) (FP.l2d ll))), .second, .val (.int (1 : Int32)), .val (.long (ll - hv)), .second, .unset, .unset, .unset, .unset] [])) _
      refine XS.lload X22.here hx rfl (hb hby at_234) rfl ?_
      show Steps p.tables e below (T22.setTop (mkF m 236 #[.val (.long x0), .second, .val (.long x1), .second, .val (.long x2), .second, .val (.int x3), .val (.int x4), .val (.long ll), .second, .val (.long hv), .second, .val (.long h2), .second, .val (.double (FP.ddiv (FP.l2d hv) (FP.l2d ll))), .second, .val (.double (FP.ddiv (FP.l2d h2) (FP.l2d ll))), .second, .val (.int (1 : Int32)), .val (.long (ll - hv)), .second, .unset, .unset, .unset, .unset] [(.long hv)])) _
      refine XS.lload X22.here hx rfl (hb hby at_236) rfl ?_
      show Steps p.tables e below (T22.setTop (mkF m 238 #[.val (.long x0), .second, .val (.long x1), .second, .val (.long x2), .second, .val (.int x3), .val (.int x4), .val (.long ll), .second, .val (.long hv), .second, .val (.long h2), .second, .val (.double (FP.ddiv (FP.l2d hv) (FP.l2d ll))), .second, .val (.double (FP.ddiv (FP.l2d h2) (FP.l2d ll))), .second, .val (.int (1 : Int32)), .val (.long (ll - hv)), .second, .unset, .unset, .unset, .unset] [(.long (ll - hv)), (.long hv)])) _
      refine XS.lcmp X22.here hx rfl (hb hby at_238) rfl ?_
      exact kt
    obtain ⟨hj40, k40⟩ : (True) ∧ ∀ t, Steps p.tables e below (T22.setTop (mkF m 263 #[.val (.long x0), .second, .val (.long x1), .second, .val (.long x2), .second, .val (.int x3), .val (.int x4), .val (.long ll), .second, .val (.long hv), .second, .val (.long h2), .second, .val (.double (FP.ddiv (FP.l2d hv) (FP.l2d ll))), .second, .val (.double (FP.ddiv (FP.l2d h2) (FP.l2d ll))), .second, .val (.int (1 : Int32)), .val (.long (ll - hv)), .second, .unset, .unset, .unset, .unset] [])) t → Steps p.tables e below (s₁.setTop (entryFrame m #[(.long x0), (.long x1), (.long x2), (.int x3), (.int x4)] maxLocals)) t := by
      by_cases hc41 : hv < (ll - hv)
      · skip
        have k42 : ∀ t, Steps p.tables e below (T22.setTop (mkF m 263 #[.val (.long x0), .second, .val (.long x1), .second, .val (.long x2), .second, .val (.int x3), .val (.int x4), .val (.long ll), .second, .val (.long hv), .second, .val (.long h2), .second, .val (.double (FP.ddiv (FP.l2d hv) (FP.l2d ll))), .second, .val (.double (FP.ddiv (FP.l2d h2) (FP.l2d ll))), .second, .val (.int (1 : Int32)), .val (.long (ll - hv)), .second, .unset, .unset, .unset, .unset] [])) t → Steps p.tables e below (s₁.setTop (entryFrame m #[(.long x0), (.long x1), (.long x2), (.int x3), (.int x4)] maxLocals)) t := by
          intro t kt
          refine k39 t ?_
          show Steps p.tables e below (T22.setTop (mkF m 239 #[.val (.long x0), .second, .val (.long x1), .second, .val (.long x2), .second, .val (.int x3), .val (.int x4), .val (.long ll), .second, .val (.long hv), .second, .val (.long h2), .second, .val (.double (FP.ddiv (FP.l2d hv) (FP.l2d ll))), .second, .val (.double (FP.ddiv (FP.l2d h2) (FP.l2d ll))), .second, .val (.int (1 : Int32)), .val (.long (ll - hv)), .second, .unset, .unset, .unset, .unset] [(.int (lcmpW hv (ll - hv)))])) _
          refine XS.ifYes X22.here hx rfl (pc0 := 239) (pc' := 263) rfl (hb hby at_239) rfl ((if0 _ _).trans (tlt ((lw_lt hv (ll - hv)).mpr hc41)).1) (by decide) (by decide) ?_
          exact kt
        exact ⟨trivial, k42⟩
      · skip
        have k43 : ∀ t, Steps p.tables e below (T22.setTop (mkF m 263 #[.val (.long x0), .second, .val (.long x1), .second, .val (.long x2), .second, .val (.int x3), .val (.int x4), .val (.long ll), .second, .val (.long hv), .second, .val (.long h2), .second, .val (.double (FP.ddiv (FP.l2d hv) (FP.l2d ll))), .second, .val (.double (FP.ddiv (FP.l2d h2) (FP.l2d ll))), .second, .val (.int (1 : Int32)), .val (.long (ll - hv)), .second, .unset, .unset, .unset, .unset] [])) t → Steps p.tables e below (s₁.setTop (entryFrame m #[(.long x0), (.long x1), (.long x2), (.int x3), (.int x4)] maxLocals)) t := by
          intro t kt
          refine k39 t ?_
          show Steps p.tables e below (T22.setTop (mkF m 239 #[.val (.long x0), .second, .val (.long x1), .second, .val (.long x2), .second, .val (.int x3), .val (.int x4), .val (.long ll), .second, .val (.long hv), .second, .val (.long h2), .second, .val (.double (FP.ddiv (FP.l2d hv) (FP.l2d ll))), .second, .val (.double (FP.ddiv (FP.l2d h2) (FP.l2d ll))), .second, .val (.int (1 : Int32)), .val (.long (ll - hv)), .second, .unset, .unset, .unset, .unset] [(.int (lcmpW hv (ll - hv)))])) _
          refine XS.ifNo X22.here hx rfl (hb hby at_239) rfl ((if0 _ _).trans (flt (fun q => hc41 ((lw_lt hv (ll - hv)).mp q))).1) ?_
          show Steps p.tables e below (T22.setTop (mkF m 242 #[.val (.long x0), .second, .val (.long x1), .second, .val (.long x2), .second, .val (.int x3), .val (.int x4), .val (.long ll), .second, .val (.long hv), .second, .val (.long h2), .second, .val (.double (FP.ddiv (FP.l2d hv) (FP.l2d ll))), .second, .val (.double (FP.ddiv (FP.l2d h2) (FP.l2d ll))), .second, .val (.int (1 : Int32)), .val (.long (ll - hv)), .second, .unset, .unset, .unset, .unset] [])) _
          refine XS.iload X22.here hx rfl (hb hby at_242) rfl ?_
          show Steps p.tables e below (T22.setTop (mkF m 244 #[.val (.long x0), .second, .val (.long x1), .second, .val (.long x2), .second, .val (.int x3), .val (.int x4), .val (.long ll), .second, .val (.long hv), .second, .val (.long h2), .second, .val (.double (FP.ddiv (FP.l2d hv) (FP.l2d ll))), .second, .val (.double (FP.ddiv (FP.l2d h2) (FP.l2d ll))), .second, .val (.int (1 : Int32)), .val (.long (ll - hv)), .second, .unset, .unset, .unset, .unset] [(.int (1 : Int32))])) _
          refine XS.ifNo X22.here hx rfl (hb hby at_244) rfl ((if0 _ _).trans (feq (by decide : ¬ ((1 : Int32) = (0 : Int32)))).1) ?_
          show Steps p.tables e below (T22.setTop (mkF m 247 #[.val (.long x0), .second, .val (.long x1), .second, .val (.long x2), .second, .val (.int x3), .val (.int x4), .val (.long ll), .second, .val (.long hv), .second, .val (.long h2), .second, .val (.double (FP.ddiv (FP.l2d hv) (FP.l2d ll))), .second, .val (.double (FP.ddiv (FP.l2d h2) (FP.l2d ll))), .second, .val (.int (1 : Int32)), .val (.long (ll - hv)), .second, .unset, .unset, .unset, .unset] [])) _
          refine XS.dload X22.here hx rfl (hb hby at_247) rfl ?_
          show Steps p.tables e below (T22.setTop (mkF m 249 #[.val (.long x0), .second, .val (.long x1), .second, .val (.long x2), .second, .val (.int x3), .val (.int x4), .val (.long ll), .second, .val (.long hv), .second, .val (.long h2), .second, .val (.double (FP.ddiv (FP.l2d hv) (FP.l2d ll))), .second, .val (.double (FP.ddiv (FP.l2d h2) (FP.l2d ll))), .second, .val (.int (1 : Int32)), .val (.long (ll - hv)), .second, .unset, .unset, .unset, .unset] [(.double (FP.ddiv (FP.l2d hv) (FP.l2d ll)))])) _
          refine X22.ldc2DoubleC hx hown (mvT hZ (wd26 hw)) (g := (mkF m 249 #[.val (.long x0), .second, .val (.long x1), .second, .val (.long x2), .second, .val (.int x3), .val (.int x4), .val (.long ll), .second, .val (.long hv), .second, .val (.long h2), .second, .val (.double (FP.ddiv (FP.l2d hv) (FP.l2d ll))), .second, .val (.double (FP.ddiv (FP.l2d h2) (FP.l2d ll))), .second, .val (.int (1 : Int32)), .val (.long (ll - hv)), .second, .unset, .unset, .unset, .unset] [(.double (FP.ddiv (FP.l2d hv) (FP.l2d ll)))])) rfl (hb hby at_249) _ ?_
          show Steps p.tables e below (T22.setTop (mkF m 252 #[.val (.long x0), .second, .val (.long x1), .second, .val (.long x2), .second, .val (.int x3), .val (.int x4), .val (.long ll), .second, .val (.long hv), .second, .val (.long h2), .second, .val (.double (FP.ddiv (FP.l2d hv) (FP.l2d ll))), .second, .val (.double (FP.ddiv (FP.l2d h2) (FP.l2d ll))), .second, .val (.int (1 : Int32)), .val (.long (ll - hv)), .second, .unset, .unset, .unset, .unset] [(.double (4602678819172646912 : UInt64)), (.double (FP.ddiv (FP.l2d hv) (FP.l2d ll)))])) _
          refine XS.dcmpS X22.here hx rfl (hb hby at_252) rfl rfl ?_
          show Steps p.tables e below (T22.setTop (mkF m 253 #[.val (.long x0), .second, .val (.long x1), .second, .val (.long x2), .second, .val (.int x3), .val (.int x4), .val (.long ll), .second, .val (.long hv), .second, .val (.long h2), .second, .val (.double (FP.ddiv (FP.l2d hv) (FP.l2d ll))), .second, .val (.double (FP.ddiv (FP.l2d h2) (FP.l2d ll))), .second, .val (.int (1 : Int32)), .val (.long (ll - hv)), .second, .unset, .unset, .unset, .unset] [(.int (cmpValue (FP.dcmp (FP.ddiv (FP.l2d hv) (FP.l2d ll)) (4602678819172646912 : UInt64)) .l))])) _
          refine XS.ifNo X22.here hx rfl (hb hby at_253) rfl ((if0 _ _).trans (flt (own_cmp_ge R1.1.ne_nan (by decide +kernel) R1.2.1 (by decide +kernel) (own_half_ge hl0 jh1 jh2 hc41) .l)).1) ?_
          show Steps p.tables e below (T22.setTop (mkF m 256 #[.val (.long x0), .second, .val (.long x1), .second, .val (.long x2), .second, .val (.int x3), .val (.int x4), .val (.long ll), .second, .val (.long hv), .second, .val (.long h2), .second, .val (.double (FP.ddiv (FP.l2d hv) (FP.l2d ll))), .second, .val (.double (FP.ddiv (FP.l2d h2) (FP.l2d ll))), .second, .val (.int (1 : Int32)), .val (.long (ll - hv)), .second, .unset, .unset, .unset, .unset] [])) _
          refine XS.iconst X22.here hx rfl (hb hby at_256) ?_
          show Steps p.tables e below (T22.setTop (mkF m 257 #[.val (.long x0), .second, .val (.long x1), .second, .val (.long x2), .second, .val (.int x3), .val (.int x4), .val (.long ll), .second, .val (.long hv), .second, .val (.long h2), .second, .val (.double (FP.ddiv (FP.l2d hv) (FP.l2d ll))), .second, .val (.double (FP.ddiv (FP.l2d h2) (FP.l2d ll))), .second, .val (.int (1 : Int32)), .val (.long (ll - hv)), .second, .unset, .unset, .unset, .unset] [(.int (1 : Int32))])) _
          refine XS.goto X22.here hx rfl (pc0 := 257) (pc' := 261) rfl (hb hby at_257) (by decide) (by decide) ?_
          show Steps p.tables e below (T22.setTop (mkF m 261 #[.val (.long x0), .second, .val (.long x1), .second, .val (.long x2), .second, .val (.int x3), .val (.int x4), .val (.long ll), .second, .val (.long hv), .second, .val (.long h2), .second, .val (.double (FP.ddiv (FP.l2d hv) (FP.l2d ll))), .second, .val (.double (FP.ddiv (FP.l2d h2) (FP.l2d ll))), .second, .val (.int (1 : Int32)), .val (.long (ll - hv)), .second, .unset, .unset, .unset, .unset] [(.int (1 : Int32))])) _
          refine XS.istore X22.here hx rfl (hb hby at_261) rfl (l' := #[.val (.long x0), .second, .val (.long x1), .second, .val (.long x2), .second, .val (.int x3), .val (.int x4), .val (.long ll), .second, .val (.long hv), .second, .val (.long h2), .second, .val (.double (FP.ddiv (FP.l2d hv) (FP.l2d ll))), .second, .val (.double (FP.ddiv (FP.l2d h2) (FP.l2d ll))), .second, .val (.int (1 : Int32)), .val (.long (ll - hv)), .second, .unset, .unset, .unset, .unset]) rfl ?_
          exact kt
        exact ⟨trivial, k43⟩
    have k44 : ∀ t, Steps p.tables e below (T22.setTop (mkF m 281 #[.val (.long x0), .second, .val (.long x1), .second, .val (.long x2), .second, .val (.int x3), .val (.int x4), .val (.long ll), .second, .val (.long hv), .second, .val (.long h2), .second, .val (.double (FP.ddiv (FP.l2d hv) (FP.l2d ll))), .second, .val (.double (FP.ddiv (FP.l2d h2) (FP.l2d ll))), .second, .val (.int (1 : Int32)), .val (.long (ll - hv)), .second, .val (.long (ll / (4 : Int64))), .second, .unset, .unset] [(.int (lcmpW (ll % (4 : Int64)) (0 : Int64))), (.long (ll / (4 : Int64)))])) t → Steps p.tables e below (s₁.setTop (entryFrame m #[(.long x0), (.long x1), (.long x2), (.int x3), (.int x4)] maxLocals)) t := by
      intro t kt
      refine k40 t ?_
      show Steps p.tables e below (T22.setTop (mkF m 263 #[.val (.long x0), .second, .val (.long x1), .second, .val (.long x2), .second, .val (.int x3), .val (.int x4), .val (.long ll), .second, .val (.long hv), .second, .val (.long h2), .second, .val (.double (FP.ddiv (FP.l2d hv) (FP.l2d ll))), .second, .val (.double (FP.ddiv (FP.l2d h2) (FP.l2d ll))), .second, .val (.int (1 : Int32)), .val (.long (ll - hv)), .second, .unset, .unset, .unset, .unset] [])) _
      refine XS.lload X22.here hx rfl (hb hby at_263) rfl ?_
      show Steps p.tables e below (T22.setTop (mkF m 265 #[.val (.long x0), .second, .val (.long x1), .second, .val (.long x2), .second, .val (.int x3), .val (.int x4), .val (.long ll), .second, .val (.long hv), .second, .val (.long h2), .second, .val (.double (FP.ddiv (FP.l2d hv) (FP.l2d ll))), .second, .val (.double (FP.ddiv (FP.l2d h2) (FP.l2d ll))), .second, .val (.int (1 : Int32)), .val (.long (ll - hv)), .second, .unset, .unset, .unset, .unset] [(.long ll)])) _
      refine X22.ldc2Long hx hown (mvT hZ (wd27 hw)) (g := (mkF m 265 #[.val (.long x0), .second, .val (.long x1), .second, .val (.long x2), .second, .val (.int x3), .val (.int x4), .val (.long ll), .second, .val (.long hv), .second, .val (.long h2), .second, .val (.double (FP.ddiv (FP.l2d hv) (FP.l2d ll))), .second, .val (.double (FP.ddiv (FP.l2d h2) (FP.l2d ll))), .second, .val (.int (1 : Int32)), .val (.long (ll - hv)), .second, .unset, .unset, .unset, .unset] [(.long ll)])) rfl (hb hby at_265) _ ?_
      show Steps p.tables e below (T22.setTop (mkF m 268 #[.val (.long x0), .second, .val (.long x1), .second, .val (.long x2), .second, .val (.int x3), .val (.int x4), .val (.long ll), .second, .val (.long hv), .second, .val (.long h2), .second, .val (.double (FP.ddiv (FP.l2d hv) (FP.l2d ll))), .second, .val (.double (FP.ddiv (FP.l2d h2) (FP.l2d ll))), .second, .val (.int (1 : Int32)), .val (.long (ll - hv)), .second, .unset, .unset, .unset, .unset] [(.long (4 : Int64)), (.long ll)])) _
      refine XS.ldiv X22.here hx rfl (hb hby at_268) rfl (by decide) ?_
      show Steps p.tables e below (T22.setTop (mkF m 269 #[.val (.long x0), .second, .val (.long x1), .second, .val (.long x2), .second, .val (.int x3), .val (.int x4), .val (.long ll), .second, .val (.long hv), .second, .val (.long h2), .second, .val (.double (FP.ddiv (FP.l2d hv) (FP.l2d ll))), .second, .val (.double (FP.ddiv (FP.l2d h2) (FP.l2d ll))), .second, .val (.int (1 : Int32)), .val (.long (ll - hv)), .second, .unset, .unset, .unset, .unset] [(.long (ll / (4 : Int64)))])) _
      refine XS.lstore X22.here hx rfl (hb hby at_269) rfl (l' := #[.val (.long x0), .second, .val (.long x1), .second, .val (.long x2), .second, .val (.int x3), .val (.int x4), .val (.long ll), .second, .val (.long hv), .second, .val (.long h2), .second, .val (.double (FP.ddiv (FP.l2d hv) (FP.l2d ll))), .second, .val (.double (FP.ddiv (FP.l2d h2) (FP.l2d ll))), .second, .val (.int (1 : Int32)), .val (.long (ll - hv)), .second, .val (.long (ll / (4 : Int64))), .second, .unset, .unset]) rfl ?_
      show Steps p.tables e below (T22.setTop (mkF m 271 #[.val (.long x0), .second, .val (.long x1), .second, .val (.long x2), .second, .val (.int x3), .val (.int x4), .val (.long ll), .second, .val (.long hv), .second, .val (.long h2), .second, .val (.double (FP.ddiv (FP.l2d hv) (FP.l2d ll))), .second, .val (.double (FP.ddiv (FP.l2d h2) (FP.l2d ll))), .second, .val (.int (1 : Int32)), .val (.long (ll - hv)), .second, .val (.long (ll / (4 : Int64))), .second, .unset, .unset] [])) _
      refine XS.lload X22.here hx rfl (hb hby at_271) rfl ?_
      show Steps p.tables e below (T22.setTop (mkF m 273 #[.val (.long x0), .second, .val (.long x1), .second, .val (.long x2), .second, .val (.int x3), .val (.int x4), .val (.long ll), .second, .val (.long hv), .second, .val (.long h2), .second, .val (.double (FP.ddiv (FP.l2d hv) (FP.l2d ll))), .second, .val (.double (FP.ddiv (FP.l2d h2) (FP.l2d ll))), .second, .val (.int (1 : Int32)), .val (.long (ll - hv)), .second, .val (.long (ll / (4 : Int64))), .second, .unset, .unset] [(.long (ll / (4 : Int64)))])) _
      refine XS.lload X22.here hx rfl (hb hby at_273) rfl ?_
      show Steps p.tables e below (T22.setTop (mkF m 275 #[.val (.long x0), .second, .val (.long x1), .second, .val (.long x2), .second, .val (.int x3), .val (.int x4), .val (.long ll), .second, .val (.long hv), .second, .val (.long h2), .second, .val (.double (FP.ddiv (FP.l2d hv) (FP.l2d ll))), .second, .val (.double (FP.ddiv (FP.l2d h2) (FP.l2d ll))), .second, .val (.int (1 : Int32)), .val (.long (ll - hv)), .second, .val (.long (ll / (4 : Int64))), .second, .unset, .unset] [(.long ll), (.long (ll / (4 : Int64)))])) _
      refine X22.ldc2Long hx hown (mvT hZ (wd27 hw)) (g := (mkF m 275 #[.val (.long x0), .second, .val (.long x1), .second, .val (.long x2), .second, .val (.int x3), .val (.int x4), .val (.long ll), .second, .val (.long hv), .second, .val (.long h2), .second, .val (.double (FP.ddiv (FP.l2d hv) (FP.l2d ll))), .second, .val (.double (FP.ddiv (FP.l2d h2) (FP.l2d ll))), .second, .val (.int (1 : Int32)), .val (.long (ll - hv)), .second, .val (.long (ll / (4 : Int64))), .second, .unset, .unset] [(.long ll), (.long (ll / (4 : Int64)))])) rfl (hb hby at_275) _ ?_
      show Steps p.tables e below (T22.setTop (mkF m 278 #[.val (.long x0), .second, .val (.long x1), .second, .val (.long x2), .second, .val (.int x3), .val (.int x4), .val (.long ll), .second, .val (.long hv), .second, .val (.long h2), .second, .val (.double (FP.ddiv (FP.l2d hv) (FP.l2d ll))), .second, .val (.double (FP.ddiv (FP.l2d h2) (FP.l2d ll))), .second, .val (.int (1 : Int32)), .val (.long (ll - hv)), .second, .val (.long (ll / (4 : Int64))), .second, .unset, .unset] [(.long (4 : Int64)), (.long ll), (.long (ll / (4 : Int64)))])) _
      refine own_lremM X22 hx rfl (hb hby at_278) rfl (by decide) ?_
      show Steps p.tables e below (T22.setTop (mkF m 279 #[.val (.long x0), .second, .val (.long x1), .second, .val (.long x2), .second, .val (.int x3), .val (.int x4), .val (.long ll), .second, .val (.long hv), .second, .val (.long h2), .second, .val (.double (FP.ddiv (FP.l2d hv) (FP.l2d ll))), .second, .val (.double (FP.ddiv (FP.l2d h2) (FP.l2d ll))), .second, .val (.int (1 : Int32)), .val (.long (ll - hv)), .second, .val (.long (ll / (4 : Int64))), .second, .unset, .unset] [(.long (ll % (4 : Int64))), (.long (ll / (4 : Int64)))])) _
      refine XS.lconst X22.here hx rfl (hb hby at_279) ?_
      show Steps p.tables e below (T22.setTop (mkF m 280 #[.val (.long x0), .second, .val (.long x1), .second, .val (.long x2), .second, .val (.int x3), .val (.int x4), .val (.long ll), .second, .val (.long hv), .second, .val (.long h2), .second, .val (.double (FP.ddiv (FP.l2d hv) (FP.l2d ll))), .second, .val (.double (FP.ddiv (FP.l2d h2) (FP.l2d ll))), .second, .val (.int (1 : Int32)), .val (.long (ll - hv)), .second, .val (.long (ll / (4 : Int64))), .second, .unset, .unset] [(.long (0 : Int64)), (.long (ll % (4 : Int64))), (.long (ll / (4 : Int64)))])) _
      refine XS.lcmp X22.here hx rfl (hb hby at_280) rfl ?_
      exact kt
    obtain ⟨qc, hj45, k45⟩ : ∃ (qc : Int64), ((qc = (0 : Int64) ∧ (ll % (4 : Int64)) = (0 : Int64)) ∨ (qc = (1 : Int64))) ∧ ∀ t, Steps p.tables e below (T22.setTop (mkF m 289 #[.val (.long x0), .second, .val (.long x1), .second, .val (.long x2), .second, .val (.int x3), .val (.int x4), .val (.long ll), .second, .val (.long hv), .second, .val (.long h2), .second, .val (.double (FP.ddiv (FP.l2d hv) (FP.l2d ll))), .second, .val (.double (FP.ddiv (FP.l2d h2) (FP.l2d ll))), .second, .val (.int (1 : Int32)), .val (.long (ll - hv)), .second, .val (.long (ll / (4 : Int64))), .second, .unset, .unset] [(.long qc), (.long (ll / (4 : Int64)))])) t → Steps p.tables e below (s₁.setTop (entryFrame m #[(.long x0), (.long x1), (.long x2), (.int x3), (.int x4)] maxLocals)) t := by
      by_cases hc46 : (ll % (4 : Int64)) = (0 : Int64)
      · skip
        have k47 : ∀ t, Steps p.tables e below (T22.setTop (mkF m 289 #[.val (.long x0), .second, .val (.long x1), .second, .val (.long x2), .second, .val (.int x3), .val (.int x4), .val (.long ll), .second, .val (.long hv), .second, .val (.long h2), .second, .val (.double (FP.ddiv (FP.l2d hv) (FP.l2d ll))), .second, .val (.double (FP.ddiv (FP.l2d h2) (FP.l2d ll))), .second, .val (.int (1 : Int32)), .val (.long (ll - hv)), .second, .val (.long (ll / (4 : Int64))), .second, .unset, .unset] [(.long (0 : Int64)), (.long (ll / (4 : Int64)))])) t → Steps p.tables e below (s₁.setTop (entryFrame m #[(.long x0), (.long x1), (.long x2), (.int x3), (.int x4)] maxLocals)) t := by
          intro t kt
          refine k44 t ?_
          show Steps p.tables e below (T22.setTop (mkF m 281 #[.val (.long x0), .second, .val (.long x1), .second, .val (.long x2), .second, .val (.int x3), .val (.int x4), .val (.long ll), .second, .val (.long hv), .second, .val (.long h2), .second, .val (.double (FP.ddiv (FP.l2d hv) (FP.l2d ll))), .second, .val (.double (FP.ddiv (FP.l2d h2) (FP.l2d ll))), .second, .val (.int (1 : Int32)), .val (.long (ll - hv)), .second, .val (.long (ll / (4 : Int64))), .second, .unset, .unset] [(.int (lcmpW (ll % (4 : Int64)) (0 : Int64))), (.long (ll / (4 : Int64)))])) _
          refine XS.ifYes X22.here hx rfl (pc0 := 281) (pc' := 288) rfl (hb hby at_281) rfl ((if0 _ _).trans (teq ((lw_eq (ll % (4 : Int64)) (0 : Int64)).mpr hc46)).1) (by decide) (by decide) ?_
          show Steps p.tables e below (T22.setTop (mkF m 288 #[.val (.long x0), .second, .val (.long x1), .second, .val (.long x2), .second, .val (.int x3), .val (.int x4), .val (.long ll), .second, .val (.long hv), .second, .val (.long h2), .second, .val (.double (FP.ddiv (FP.l2d hv) (FP.l2d ll))), .second, .val (.double (FP.ddiv (FP.l2d h2) (FP.l2d ll))), .second, .val (.int (1 : Int32)), .val (.long (ll - hv)), .second, .val (.long (ll / (4 : Int64))), .second, .unset, .unset] [(.long (ll / (4 : Int64)))])) _
          refine XS.lconst X22.here hx rfl (hb hby at_288) ?_
          exact kt
        exact ⟨(0 : Int64), (Or.inl ⟨rfl, by assumption⟩), k47⟩
      · skip
        have k48 : ∀ t, Steps p.tables e below (T22.setTop (mkF m 289 #[.val (.long x0), .second, .val (.long x1), .second, .val (.long x2), .second, .val (.int x3), .val (.int x4), .val (.long ll), .second, .val (.long hv), .second, .val (.long h2), .second, .val (.double (FP.ddiv (FP.l2d hv) (FP.l2d ll))), .second, .val (.double (FP.ddiv (FP.l2d h2) (FP.l2d ll))), .second, .val (.int (1 : Int32)), .val (.long (ll - hv)), .second, .val (.long (ll / (4 : Int64))), .second, .unset, .unset] [(.long (1 : Int64)), (.long (ll / (4 : Int64)))])) t → Steps p.tables e below (s₁.setTop (entryFrame m #[(.long x0), (.long x1), (.long x2), (.int x3), (.int x4)] maxLocals)) t := by
          intro t kt
          refine k44 t ?_
          show Steps p.tables e below (T22.setTop (mkF m 281 #[.val (.long x0), .second, .val (.long x1), .second, .val (.long x2), .second, .val (.int x3), .val (.int x4), .val (.long ll), .second, .val (.long hv), .second, .val (.long h2), .second, .val (.double (FP.ddiv (FP.l2d hv) (FP.l2d ll))), .second, .val (.double (FP.ddiv (FP.l2d h2) (FP.l2d ll))), .second, .val (.int (1 : Int32)), .val (.long (ll - hv)), .second, .val (.long (ll / (4 : Int64))), .second, .unset, .unset] [(.int (lcmpW (ll % (4 : Int64)) (0 : Int64))), (.long (ll / (4 : Int64)))])) _
          refine XS.ifNo X22.here hx rfl (hb hby at_281) rfl ((if0 _ _).trans (feq (fun q => hc46 ((lw_eq (ll % (4 : Int64)) (0 : Int64)).mp q))).1) ?_
          show Steps p.tables e below (T22.setTop (mkF m 284 #[.val (.long x0), .second, .val (.long x1), .second, .val (.long x2), .second, .val (.int x3), .val (.int x4), .val (.long ll), .second, .val (.long hv), .second, .val (.long h2), .second, .val (.double (FP.ddiv (FP.l2d hv) (FP.l2d ll))), .second, .val (.double (FP.ddiv (FP.l2d h2) (FP.l2d ll))), .second, .val (.int (1 : Int32)), .val (.long (ll - hv)), .second, .val (.long (ll / (4 : Int64))), .second, .unset, .unset] [(.long (ll / (4 : Int64)))])) _
          refine XS.lconst X22.here hx rfl (hb hby at_284) ?_
          show Steps p.tables e below (T22.setTop (mkF m 285 #[.val (.long x0), .second, .val (.long x1), .second, .val (.long x2), .second, .val (.int x3), .val (.int x4), .val (.long ll), .second, .val (.long hv), .second, .val (.long h2), .second, .val (.double (FP.ddiv (FP.l2d hv) (FP.l2d ll))), .second, .val (.double (FP.ddiv (FP.l2d h2) (FP.l2d ll))), .second, .val (.int (1 : Int32)), .val (.long (ll - hv)), .second, .val (.long (ll / (4 : Int64))), .second, .unset, .unset] [(.long (1 : Int64)), (.long (ll / (4 : Int64)))])) _
          refine XS.goto X22.here hx rfl (pc0 := 285) (pc' := 289) rfl (hb hby at_285) (by decide) (by decide) ?_
          exact kt
        exact ⟨(1 : Int64), (Or.inr rfl), k48⟩
    have k49 : ∀ t, Steps p.tables e below (T22.setTop (mkF m 297 #[.val (.long x0), .second, .val (.long x1), .second, .val (.long x2), .second, .val (.int x3), .val (.int x4), .val (.long ll), .second, .val (.long hv), .second, .val (.long h2), .second, .val (.double (FP.ddiv (FP.l2d hv) (FP.l2d ll))), .second, .val (.double (FP.ddiv (FP.l2d h2) (FP.l2d ll))), .second, .val (.int (1 : Int32)), .val (.long (ll - hv)), .second, .val (.long (ll / (4 : Int64))), .second, .val (.long ((ll / (4 : Int64)) + qc)), .second] [(.int (lcmpW hv (ll / (4 : Int64))))])) t → Steps p.tables e below (s₁.setTop (entryFrame m #[(.long x0), (.long x1), (.long x2), (.int x3), (.int x4)] maxLocals)) t := by
      intro t kt
      refine k45 t ?_
      show Steps p.tables e below (T22.setTop (mkF m 289 #[.val (.long x0), .second, .val (.long x1), .second, .val (.long x2), .second, .val (.int x3), .val (.int x4), .val (.long ll), .second, .val (.long hv), .second, .val (.long h2), .second, .val (.double (FP.ddiv (FP.l2d hv) (FP.l2d ll))), .second, .val (.double (FP.ddiv (FP.l2d h2) (FP.l2d ll))), .second, .val (.int (1 : Int32)), .val (.long (ll - hv)), .second, .val (.long (ll / (4 : Int64))), .second, .unset, .unset] [(.long qc), (.long (ll / (4 : Int64)))])) _
      refine XS.ladd X22.here hx rfl (hb hby at_289) rfl ?_
      show Steps p.tables e below (T22.setTop (mkF m 290 #[.val (.long x0), .second, .val (.long x1), .second, .val (.long x2), .second, .val (.int x3), .val (.int x4), .val (.long ll), .second, .val (.long hv), .second, .val (.long h2), .second, .val (.double (FP.ddiv (FP.l2d hv) (FP.l2d ll))), .second, .val (.double (FP.ddiv (FP.l2d h2) (FP.l2d ll))), .second, .val (.int (1 : Int32)), .val (.long (ll - hv)), .second, .val (.long (ll / (4 : Int64))), .second, .unset, .unset] [(.long ((ll / (4 : Int64)) + qc))])) _
      refine XS.lstore X22.here hx rfl (hb hby at_290) rfl (l' := #[.val (.long x0), .second, .val (.long x1), .second, .val (.long x2), .second, .val (.int x3), .val (.int x4), .val (.long ll), .second, .val (.long hv), .second, .val (.long h2), .second, .val (.double (FP.ddiv (FP.l2d hv) (FP.l2d ll))), .second, .val (.double (FP.ddiv (FP.l2d h2) (FP.l2d ll))), .second, .val (.int (1 : Int32)), .val (.long (ll - hv)), .second, .val (.long (ll / (4 : Int64))), .second, .val (.long ((ll / (4 : Int64)) + qc)), .second]) rfl ?_
      show Steps p.tables e below (T22.setTop (mkF m 292 #[.val (.long x0), .second, .val (.long x1), .second, .val (.long x2), .second, .val (.int x3), .val (.int x4), .val (.long ll), .second, .val (.long hv), .second, .val (.long h2), .second, .val (.double (FP.ddiv (FP.l2d hv) (FP.l2d ll))), .second, .val (.double (FP.ddiv (FP.l2d h2) (FP.l2d ll))), .second, .val (.int (1 : Int32)), .val (.long (ll - hv)), .second, .val (.long (ll / (4 : Int64))), .second, .val (.long ((ll / (4 : Int64)) + qc)), .second] [])) _
      refine XS.lload X22.here hx rfl (hb hby at_292) rfl ?_
      show Steps p.tables e below (T22.setTop (mkF m 294 #[.val (.long x0), .second, .val (.long x1), .second, .val (.long x2), .second, .val (.int x3), .val (.int x4), .val (.long ll), .second, .val (.long hv), .second, .val (.long h2), .second, .val (.double (FP.ddiv (FP.l2d hv) (FP.l2d ll))), .second, .val (.double (FP.ddiv (FP.l2d h2) (FP.l2d ll))), .second, .val (.int (1 : Int32)), .val (.long (ll - hv)), .second, .val (.long (ll / (4 : Int64))), .second, .val (.long ((ll / (4 : Int64)) + qc)), .second] [(.long hv)])) _
      refine XS.lload X22.here hx rfl (hb hby at_294) rfl ?_
      show Steps p.tables e below (T22.setTop (mkF m 296 #[.val (.long x0), .second, .val (.long x1), .second, .val (.long x2), .second, .val (.int x3), .val (.int x4), .val (.long ll), .second, .val (.long hv), .second, .val (.long h2), .second, .val (.double (FP.ddiv (FP.l2d hv) (FP.l2d ll))), .second, .val (.double (FP.ddiv (FP.l2d h2) (FP.l2d ll))), .second, .val (.int (1 : Int32)), .val (.long (ll - hv)), .second, .val (.long (ll / (4 : Int64))), .second, .val (.long ((ll / (4 : Int64)) + qc)), .second] [(.long (ll / (4 : Int64))), (.long hv)])) _
      refine XS.lcmp X22.here hx rfl (hb hby at_296) rfl ?_
      exact kt
    obtain ⟨hj50, k50⟩ : (True) ∧ ∀ t, Steps p.tables e below (T22.setTop (mkF m 321 #[.val (.long x0), .second, .val (.long x1), .second, .val (.long x2), .second, .val (.int x3), .val (.int x4), .val (.long ll), .second, .val (.long hv), .second, .val (.long h2), .second, .val (.double (FP.ddiv (FP.l2d hv) (FP.l2d ll))), .second, .val (.double (FP.ddiv (FP.l2d h2) (FP.l2d ll))), .second, .val (.int (1 : Int32)), .val (.long (ll - hv)), .second, .val (.long (ll / (4 : Int64))), .second, .val (.long ((ll / (4 : Int64)) + qc)), .second] [])) t → Steps p.tables e below (s₁.setTop (entryFrame m #[(.long x0), (.long x1), (.long x2), (.int x3), (.int x4)] maxLocals)) t := by
      by_cases hc51 : (ll / (4 : Int64)) < hv
      · skip
        have k52 : ∀ t, Steps p.tables e below (T22.setTop (mkF m 321 #[.val (.long x0), .second, .val (.long x1), .second, .val (.long x2), .second, .val (.int x3), .val (.int x4), .val (.long ll), .second, .val (.long hv), .second, .val (.long h2), .second, .val (.double (FP.ddiv (FP.l2d hv) (FP.l2d ll))), .second, .val (.double (FP.ddiv (FP.l2d h2) (FP.l2d ll))), .second, .val (.int (1 : Int32)), .val (.long (ll - hv)), .second, .val (.long (ll / (4 : Int64))), .second, .val (.long ((ll / (4 : Int64)) + qc)), .second] [])) t → Steps p.tables e below (s₁.setTop (entryFrame m #[(.long x0), (.long x1), (.long x2), (.int x3), (.int x4)] maxLocals)) t := by
          intro t kt
          refine k49 t ?_
          show Steps p.tables e below (T22.setTop (mkF m 297 #[.val (.long x0), .second, .val (.long x1), .second, .val (.long x2), .second, .val (.int x3), .val (.int x4), .val (.long ll), .second, .val (.long hv), .second, .val (.long h2), .second, .val (.double (FP.ddiv (FP.l2d hv) (FP.l2d ll))), .second, .val (.double (FP.ddiv (FP.l2d h2) (FP.l2d ll))), .second, .val (.int (1 : Int32)), .val (.long (ll - hv)), .second, .val (.long (ll / (4 : Int64))), .second, .val (.long ((ll / (4 : Int64)) + qc)), .second] [(.int (lcmpW hv (ll / (4 : Int64))))])) _
          refine XS.ifYes X22.here hx rfl (pc0 := 297) (pc' := 321) rfl (hb hby at_297) rfl ((if0 _ _).trans (tlt ((lw_gt hv (ll / (4 : Int64))).mpr hc51)).2.2.1) (by decide) (by decide) ?_
          exact kt
        exact ⟨trivial, k52⟩
      · skip
        have k53 : ∀ t, Steps p.tables e below (T22.setTop (mkF m 321 #[.val (.long x0), .second, .val (.long x1), .second, .val (.long x2), .second, .val (.int x3), .val (.int x4), .val (.long ll), .second, .val (.long hv), .second, .val (.long h2), .second, .val (.double (FP.ddiv (FP.l2d hv) (FP.l2d ll))), .second, .val (.double (FP.ddiv (FP.l2d h2) (FP.l2d ll))), .second, .val (.int (1 : Int32)), .val (.long (ll - hv)), .second, .val (.long (ll / (4 : Int64))), .second, .val (.long ((ll / (4 : Int64)) + qc)), .second] [])) t → Steps p.tables e below (s₁.setTop (entryFrame m #[(.long x0), (.long x1), (.long x2), (.int x3), (.int x4)] maxLocals)) t := by
          intro t kt
          refine k49 t ?_
          show Steps p.tables e below (T22.setTop (mkF m 297 #[.val (.long x0), .second, .val (.long x1), .second, .val (.long x2), .second, .val (.int x3), .val (.int x4), .val (.long ll), .second, .val (.long hv), .second, .val (.long h2), .second, .val (.double (FP.ddiv (FP.l2d hv) (FP.l2d ll))), .second, .val (.double (FP.ddiv (FP.l2d h2) (FP.l2d ll))), .second, .val (.int (1 : Int32)), .val (.long (ll - hv)), .second, .val (.long (ll / (4 : Int64))), .second, .val (.long ((ll / (4 : Int64)) + qc)), .second] [(.int (lcmpW hv (ll / (4 : Int64))))])) _
          refine XS.ifNo X22.here hx rfl (hb hby at_297) rfl ((if0 _ _).trans (flt (fun q => hc51 ((lw_gt hv (ll / (4 : Int64))).mp q))).2.2.1) ?_
          show Steps p.tables e below (T22.setTop (mkF m 300 #[.val (.long x0), .second, .val (.long x1), .second, .val (.long x2), .second, .val (.int x3), .val (.int x4), .val (.long ll), .second, .val (.long hv), .second, .val (.long h2), .second, .val (.double (FP.ddiv (FP.l2d hv) (FP.l2d ll))), .second, .val (.double (FP.ddiv (FP.l2d h2) (FP.l2d ll))), .second, .val (.int (1 : Int32)), .val (.long (ll - hv)), .second, .val (.long (ll / (4 : Int64))), .second, .val (.long ((ll / (4 : Int64)) + qc)), .second] [])) _
          refine XS.iload X22.here hx rfl (hb hby at_300) rfl ?_
          show Steps p.tables e below (T22.setTop (mkF m 302 #[.val (.long x0), .second, .val (.long x1), .second, .val (.long x2), .second, .val (.int x3), .val (.int x4), .val (.long ll), .second, .val (.long hv), .second, .val (.long h2), .second, .val (.double (FP.ddiv (FP.l2d hv) (FP.l2d ll))), .second, .val (.double (FP.ddiv (FP.l2d h2) (FP.l2d ll))), .second, .val (.int (1 : Int32)), .val (.long (ll - hv)), .second, .val (.long (ll / (4 : Int64))), .second, .val (.long ((ll / (4 : Int64)) + qc)), .second] [(.int (1 : Int32))])) _
          refine XS.ifNo X22.here hx rfl (hb hby at_302) rfl ((if0 _ _).trans (feq (by decide : ¬ ((1 : Int32) = (0 : Int32)))).1) ?_
          show Steps p.tables e below (T22.setTop (mkF m 305 #[.val (.long x0), .second, .val (.long x1), .second, .val (.long x2), .second, .val (.int x3), .val (.int x4), .val (.long ll), .second, .val (.long hv), .second, .val (.long h2), .second, .val (.double (FP.ddiv (FP.l2d hv) (FP.l2d ll))), .second, .val (.double (FP.ddiv (FP.l2d h2) (FP.l2d ll))), .second, .val (.int (1 : Int32)), .val (.long (ll - hv)), .second, .val (.long (ll / (4 : Int64))), .second, .val (.long ((ll / (4 : Int64)) + qc)), .second] [])) _
          refine XS.dload X22.here hx rfl (hb hby at_305) rfl ?_
          show Steps p.tables e below (T22.setTop (mkF m 307 #[.val (.long x0), .second, .val (.long x1), .second, .val (.long x2), .second, .val (.int x3), .val (.int x4), .val (.long ll), .second, .val (.long hv), .second, .val (.long h2), .second, .val (.double (FP.ddiv (FP.l2d hv) (FP.l2d ll))), .second, .val (.double (FP.ddiv (FP.l2d h2) (FP.l2d ll))), .second, .val (.int (1 : Int32)), .val (.long (ll - hv)), .second, .val (.long (ll / (4 : Int64))), .second, .val (.long ((ll / (4 : Int64)) + qc)), .second] [(.double (FP.ddiv (FP.l2d hv) (FP.l2d ll)))])) _
          refine X22.ldc2DoubleC hx hown (mvT hZ (wd28 hw)) (g := (mkF m 307 #[.val (.long x0), .second, .val (.long x1), .second, .val (.long x2), .second, .val (.int x3), .val (.int x4), .val (.long ll), .second, .val (.long hv), .second, .val (.long h2), .second, .val (.double (FP.ddiv (FP.l2d hv) (FP.l2d ll))), .second, .val (.double (FP.ddiv (FP.l2d h2) (FP.l2d ll))), .second, .val (.int (1 : Int32)), .val (.long (ll - hv)), .second, .val (.long (ll / (4 : Int64))), .second, .val (.long ((ll / (4 : Int64)) + qc)), .second] [(.double (FP.ddiv (FP.l2d hv) (FP.l2d ll)))])) rfl (hb hby at_307) _ ?_
          show Steps p.tables e below (T22.setTop (mkF m 310 #[.val (.long x0), .second, .val (.long x1), .second, .val (.long x2), .second, .val (.int x3), .val (.int x4), .val (.long ll), .second, .val (.long hv), .second, .val (.long h2), .second, .val (.double (FP.ddiv (FP.l2d hv) (FP.l2d ll))), .second, .val (.double (FP.ddiv (FP.l2d h2) (FP.l2d ll))), .second, .val (.int (1 : Int32)), .val (.long (ll - hv)), .second, .val (.long (ll / (4 : Int64))), .second, .val (.long ((ll / (4 : Int64)) + qc)), .second] [(.double (4598175219545276416 : UInt64)), (.double (FP.ddiv (FP.l2d hv) (FP.l2d ll)))])) _
          refine XS.dcmpS X22.here hx rfl (hb hby at_310) rfl rfl ?_
          show Steps p.tables e below (T22.setTop (mkF m 311 #[.val (.long x0), .second, .val (.long x1), .second, .val (.long x2), .second, .val (.int x3), .val (.int x4), .val (.long ll), .second, .val (.long hv), .second, .val (.long h2), .second, .val (.double (FP.ddiv (FP.l2d hv) (FP.l2d ll))), .second, .val (.double (FP.ddiv (FP.l2d h2) (FP.l2d ll))), .second, .val (.int (1 : Int32)), .val (.long (ll - hv)), .second, .val (.long (ll / (4 : Int64))), .second, .val (.long ((ll / (4 : Int64)) + qc)), .second] [(.int (cmpValue (FP.dcmp (FP.ddiv (FP.l2d hv) (FP.l2d ll)) (4598175219545276416 : UInt64)) .g))])) _
          refine XS.ifNo X22.here hx rfl (hb hby at_311) rfl ((if0 _ _).trans (flt (own_cmp_le R1.1.ne_nan (by decide +kernel) R1.2.1 (by decide +kernel) (own_q_le hl0 jh1 jh2 hc51) .g)).2.2.1) ?_
          show Steps p.tables e below (T22.setTop (mkF m 314 #[.val (.long x0), .second, .val (.long x1), .second, .val (.long x2), .second, .val (.int x3), .val (.int x4), .val (.long ll), .second, .val (.long hv), .second, .val (.long h2), .second, .val (.double (FP.ddiv (FP.l2d hv) (FP.l2d ll))), .second, .val (.double (FP.ddiv (FP.l2d h2) (FP.l2d ll))), .second, .val (.int (1 : Int32)), .val (.long (ll - hv)), .second, .val (.long (ll / (4 : Int64))), .second, .val (.long ((ll / (4 : Int64)) + qc)), .second] [])) _
          refine XS.iconst X22.here hx rfl (hb hby at_314) ?_
          show Steps p.tables e below (T22.setTop (mkF m 315 #[.val (.long x0), .second, .val (.long x1), .second, .val (.long x2), .second, .val (.int x3), .val (.int x4), .val (.long ll), .second, .val (.long hv), .second, .val (.long h2), .second, .val (.double (FP.ddiv (FP.l2d hv) (FP.l2d ll))), .second, .val (.double (FP.ddiv (FP.l2d h2) (FP.l2d ll))), .second, .val (.int (1 : Int32)), .val (.long (ll - hv)), .second, .val (.long (ll / (4 : Int64))), .second, .val (.long ((ll / (4 : Int64)) + qc)), .second] [(.int (1 : Int32))])) _
          refine XS.goto X22.here hx rfl (pc0 := 315) (pc' := 319) rfl (hb hby at_315) (by decide) (by decide) ?_
          show Steps p.tables e below (T22.setTop (mkF m 319 #[.val (.long x0), .second, .val (.long x1), .second, .val (.long x2), .second, .val (.int x3), .val (.int x4), .val (.long ll), .second, .val (.long hv), .second, .val (.long h2), .second, .val (.double (FP.ddiv (FP.l2d hv) (FP.l2d ll))), .second, .val (.double (FP.ddiv (FP.l2d h2) (FP.l2d ll))), .second, .val (.int (1 : Int32)), .val (.long (ll - hv)), .second, .val (.long (ll / (4 : Int64))), .second, .val (.long ((ll / (4 : Int64)) + qc)), .second] [(.int (1 : Int32))])) _
          refine XS.istore X22.here hx rfl (hb hby at_319) rfl (l' := #[.val (.long x0), .second, .val (.long x1), .second, .val (.long x2), .second, .val (.int x3), .val (.int x4), .val (.long ll), .second, .val (.long hv), .second, .val (.long h2), .second, .val (.double (FP.ddiv (FP.l2d hv) (FP.l2d ll))), .second, .val (.double (FP.ddiv (FP.l2d h2) (FP.l2d ll))), .second, .val (.int (1 : Int32)), .val (.long (ll - hv)), .second, .val (.long (ll / (4 : Int64))), .second, .val (.long ((ll / (4 : Int64)) + qc)), .second]) rfl ?_
          exact kt
        exact ⟨trivial, k53⟩
    have k54 : ∀ t, Steps p.tables e below (T22.setTop (mkF m 326 #[.val (.long x0), .second, .val (.long x1), .second, .val (.long x2), .second, .val (.int x3), .val (.int x4), .val (.long ll), .second, .val (.long hv), .second, .val (.long h2), .second, .val (.double (FP.ddiv (FP.l2d hv) (FP.l2d ll))), .second, .val (.double (FP.ddiv (FP.l2d h2) (FP.l2d ll))), .second, .val (.int (1 : Int32)), .val (.long (ll - hv)), .second, .val (.long (ll / (4 : Int64))), .second, .val (.long ((ll / (4 : Int64)) + qc)), .second] [(.int (lcmpW hv ((ll / (4 : Int64)) + qc)))])) t → Steps p.tables e below (s₁.setTop (entryFrame m #[(.long x0), (.long x1), (.long x2), (.int x3), (.int x4)] maxLocals)) t := by
      intro t kt
      refine k50 t ?_
      show Steps p.tables e below (T22.setTop (mkF m 321 #[.val (.long x0), .second, .val (.long x1), .second, .val (.long x2), .second, .val (.int x3), .val (.int x4), .val (.long ll), .second, .val (.long hv), .second, .val (.long h2), .second, .val (.double (FP.ddiv (FP.l2d hv) (FP.l2d ll))), .second, .val (.double (FP.ddiv (FP.l2d h2) (FP.l2d ll))), .second, .val (.int (1 : Int32)), .val (.long (ll - hv)), .second, .val (.long (ll / (4 : Int64))), .second, .val (.long ((ll / (4 : Int64)) + qc)), .second] [])) _
      refine XS.lload X22.here hx rfl (hb hby at_321) rfl ?_
      show Steps p.tables e below (T22.setTop (mkF m 323 #[.val (.long x0), .second, .val (.long x1), .second, .val (.long x2), .second, .val (.int x3), .val (.int x4), .val (.long ll), .second, .val (.long hv), .second, .val (.long h2), .second, .val (.double (FP.ddiv (FP.l2d hv) (FP.l2d ll))), .second, .val (.double (FP.ddiv (FP.l2d h2) (FP.l2d ll))), .second, .val (.int (1 : Int32)), .val (.long (ll - hv)), .second, .val (.long (ll / (4 : Int64))), .second, .val (.long ((ll / (4 : Int64)) + qc)), .second] [(.long hv)])) _
      refine XS.lload X22.here hx rfl (hb hby at_323) rfl ?_
      show Steps p.tables e below (T22.setTop (mkF m 325 #[.val (.long x0), .second, .val (.long x1), .second, .val (.long x2), .second, .val (.int x3), .val (.int x4), .val (.long ll), .second, .val (.long hv), .second, .val (.long h2), .second, .val (.double (FP.ddiv (FP.l2d hv) (FP.l2d ll))), .second, .val (.double (FP.ddiv (FP.l2d h2) (FP.l2d ll))), .second, .val (.int (1 : Int32)), .val (.long (ll - hv)), .second, .val (.long (ll / (4 : Int64))), .second, .val (.long ((ll / (4 : Int64)) + qc)), .second] [(.long ((ll / (4 : Int64)) + qc)), (.long hv)])) _
      refine XS.lcmp X22.here hx rfl (hb hby at_325) rfl ?_
      exact kt
    obtain ⟨hj55, k55⟩ : (True) ∧ ∀ t, Steps p.tables e below (T22.setTop (mkF m 350 #[.val (.long x0), .second, .val (.long x1), .second, .val (.long x2), .second, .val (.int x3), .val (.int x4), .val (.long ll), .second, .val (.long hv), .second, .val (.long h2), .second, .val (.double (FP.ddiv (FP.l2d hv) (FP.l2d ll))), .second, .val (.double (FP.ddiv (FP.l2d h2) (FP.l2d ll))), .second, .val (.int (1 : Int32)), .val (.long (ll - hv)), .second, .val (.long (ll / (4 : Int64))), .second, .val (.long ((ll / (4 : Int64)) + qc)), .second] [])) t → Steps p.tables e below (s₁.setTop (entryFrame m #[(.long x0), (.long x1), (.long x2), (.int x3), (.int x4)] maxLocals)) t := by
      by_cases hc56 : hv < ((ll / (4 : Int64)) + qc)
      · skip
        have k57 : ∀ t, Steps p.tables e below (T22.setTop (mkF m 350 #[.val (.long x0), .second, .val (.long x1), .second, .val (.long x2), .second, .val (.int x3), .val (.int x4), .val (.long ll), .second, .val (.long hv), .second, .val (.long h2), .second, .val (.double (FP.ddiv (FP.l2d hv) (FP.l2d ll))), .second, .val (.double (FP.ddiv (FP.l2d h2) (FP.l2d ll))), .second, .val (.int (1 : Int32)), .val (.long (ll - hv)), .second, .val (.long (ll / (4 : Int64))), .second, .val (.long ((ll / (4 : Int64)) + qc)), .second] [])) t → Steps p.tables e below (s₁.setTop (entryFrame m #[(.long x0), (.long x1), (.long x2), (.int x3), (.int x4)] maxLocals)) t := by
          intro t kt
          refine k54 t ?_
          show Steps p.tables e below (T22.setTop (mkF m 326 #[.val (.long x0), .second, .val (.long x1), .second, .val (.long x2), .second, .val (.int x3), .val (.int x4), .val (.long ll), .second, .val (.long hv), .second, .val (.long h2), .second, .val (.double (FP.ddiv (FP.l2d hv) (FP.l2d ll))), .second, .val (.double (FP.ddiv (FP.l2d h2) (FP.l2d ll))), .second, .val (.int (1 : Int32)), .val (.long (ll - hv)), .second, .val (.long (ll / (4 : Int64))), .second, .val (.long ((ll / (4 : Int64)) + qc)), .second] [(.int (lcmpW hv ((ll / (4 : Int64)) + qc)))])) _
          refine XS.ifYes X22.here hx rfl (pc0 := 326) (pc' := 350) rfl (hb hby at_326) rfl ((if0 _ _).trans (tlt ((lw_lt hv ((ll / (4 : Int64)) + qc)).mpr hc56)).1) (by decide) (by decide) ?_
          exact kt
        exact ⟨trivial, k57⟩
      · skip
        have k58 : ∀ t, Steps p.tables e below (T22.setTop (mkF m 350 #[.val (.long x0), .second, .val (.long x1), .second, .val (.long x2), .second, .val (.int x3), .val (.int x4), .val (.long ll), .second, .val (.long hv), .second, .val (.long h2), .second, .val (.double (FP.ddiv (FP.l2d hv) (FP.l2d ll))), .second, .val (.double (FP.ddiv (FP.l2d h2) (FP.l2d ll))), .second, .val (.int (1 : Int32)), .val (.long (ll - hv)), .second, .val (.long (ll / (4 : Int64))), .second, .val (.long ((ll / (4 : Int64)) + qc)), .second] [])) t → Steps p.tables e below (s₁.setTop (entryFrame m #[(.long x0), (.long x1), (.long x2), (.int x3), (.int x4)] maxLocals)) t := by
          intro t kt
          refine k54 t ?_
          show Steps p.tables e below (T22.setTop (mkF m 326 #[.val (.long x0), .second, .val (.long x1), .second, .val (.long x2), .second, .val (.int x3), .val (.int x4), .val (.long ll), .second, .val (.long hv), .second, .val (.long h2), .second, .val (.double (FP.ddiv (FP.l2d hv) (FP.l2d ll))), .second, .val (.double (FP.ddiv (FP.l2d h2) (FP.l2d ll))), .second, .val (.int (1 : Int32)), .val (.long (ll - hv)), .second, .val (.long (ll / (4 : Int64))), .second, .val (.long ((ll / (4 : Int64)) + qc)), .second] [(.int (lcmpW hv ((ll / (4 : Int64)) + qc)))])) _
          refine XS.ifNo X22.here hx rfl (hb hby at_326) rfl ((if0 _ _).trans (flt (fun q => hc56 ((lw_lt hv ((ll / (4 : Int64)) + qc)).mp q))).1) ?_
          show Steps p.tables e below (T22.setTop (mkF m 329 #[.val (.long x0), .second, .val (.long x1), .second, .val (.long x2), .second, .val (.int x3), .val (.int x4), .val (.long ll), .second, .val (.long hv), .second, .val (.long h2), .second, .val (.double (FP.ddiv (FP.l2d hv) (FP.l2d ll))), .second, .val (.double (FP.ddiv (FP.l2d h2) (FP.l2d ll))), .second, .val (.int (1 : Int32)), .val (.long (ll - hv)), .second, .val (.long (ll / (4 : Int64))), .second, .val (.long ((ll / (4 : Int64)) + qc)), .second] [])) _
          refine XS.iload X22.here hx rfl (hb hby at_329) rfl ?_
          show Steps p.tables e below (T22.setTop (mkF m 331 #[.val (.long x0), .second, .val (.long x1), .second, .val (.long x2), .second, .val (.int x3), .val (.int x4), .val (.long ll), .second, .val (.long hv), .second, .val (.long h2), .second, .val (.double (FP.ddiv (FP.l2d hv) (FP.l2d ll))), .second, .val (.double (FP.ddiv (FP.l2d h2) (FP.l2d ll))), .second, .val (.int (1 : Int32)), .val (.long (ll - hv)), .second, .val (.long (ll / (4 : Int64))), .second, .val (.long ((ll / (4 : Int64)) + qc)), .second] [(.int (1 : Int32))])) _
          refine XS.ifNo X22.here hx rfl (hb hby at_331) rfl ((if0 _ _).trans (feq (by decide : ¬ ((1 : Int32) = (0 : Int32)))).1) ?_
          show Steps p.tables e below (T22.setTop (mkF m 334 #[.val (.long x0), .second, .val (.long x1), .second, .val (.long x2), .second, .val (.int x3), .val (.int x4), .val (.long ll), .second, .val (.long hv), .second, .val (.long h2), .second, .val (.double (FP.ddiv (FP.l2d hv) (FP.l2d ll))), .second, .val (.double (FP.ddiv (FP.l2d h2) (FP.l2d ll))), .second, .val (.int (1 : Int32)), .val (.long (ll - hv)), .second, .val (.long (ll / (4 : Int64))), .second, .val (.long ((ll / (4 : Int64)) + qc)), .second] [])) _
          refine XS.dload X22.here hx rfl (hb hby at_334) rfl ?_
          show Steps p.tables e below (T22.setTop (mkF m 336 #[.val (.long x0), .second, .val (.long x1), .second, .val (.long x2), .second, .val (.int x3), .val (.int x4), .val (.long ll), .second, .val (.long hv), .second, .val (.long h2), .second, .val (.double (FP.ddiv (FP.l2d hv) (FP.l2d ll))), .second, .val (.double (FP.ddiv (FP.l2d h2) (FP.l2d ll))), .second, .val (.int (1 : Int32)), .val (.long (ll - hv)), .second, .val (.long (ll / (4 : Int64))), .second, .val (.long ((ll / (4 : Int64)) + qc)), .second] [(.double (FP.ddiv (FP.l2d hv) (FP.l2d ll)))])) _
          refine X22.ldc2DoubleC hx hown (mvT hZ (wd28 hw)) (g := (mkF m 336 #[.val (.long x0), .second, .val (.long x1), .second, .val (.long x2), .second, .val (.int x3), .val (.int x4), .val (.long ll), .second, .val (.long hv), .second, .val (.long h2), .second, .val (.double (FP.ddiv (FP.l2d hv) (FP.l2d ll))), .second, .val (.double (FP.ddiv (FP.l2d h2) (FP.l2d ll))), .second, .val (.int (1 : Int32)), .val (.long (ll - hv)), .second, .val (.long (ll / (4 : Int64))), .second, .val (.long ((ll / (4 : Int64)) + qc)), .second] [(.double (FP.ddiv (FP.l2d hv) (FP.l2d ll)))])) rfl (hb hby at_336) _ ?_
          show Steps p.tables e below (T22.setTop (mkF m 339 #[.val (.long x0), .second, .val (.long x1), .second, .val (.long x2), .second, .val (.int x3), .val (.int x4), .val (.long ll), .second, .val (.long hv), .second, .val (.long h2), .second, .val (.double (FP.ddiv (FP.l2d hv) (FP.l2d ll))), .second, .val (.double (FP.ddiv (FP.l2d h2) (FP.l2d ll))), .second, .val (.int (1 : Int32)), .val (.long (ll - hv)), .second, .val (.long (ll / (4 : Int64))), .second, .val (.long ((ll / (4 : Int64)) + qc)), .second] [(.double (4598175219545276416 : UInt64)), (.double (FP.ddiv (FP.l2d hv) (FP.l2d ll)))])) _
          refine XS.dcmpS X22.here hx rfl (hb hby at_339) rfl rfl ?_
          show Steps p.tables e below (T22.setTop (mkF m 340 #[.val (.long x0), .second, .val (.long x1), .second, .val (.long x2), .second, .val (.int x3), .val (.int x4), .val (.long ll), .second, .val (.long hv), .second, .val (.long h2), .second, .val (.double (FP.ddiv (FP.l2d hv) (FP.l2d ll))), .second, .val (.double (FP.ddiv (FP.l2d h2) (FP.l2d ll))), .second, .val (.int (1 : Int32)), .val (.long (ll - hv)), .second, .val (.long (ll / (4 : Int64))), .second, .val (.long ((ll / (4 : Int64)) + qc)), .second] [(.int (cmpValue (FP.dcmp (FP.ddiv (FP.l2d hv) (FP.l2d ll)) (4598175219545276416 : UInt64)) .l))])) _
          refine XS.ifNo X22.here hx rfl (hb hby at_340) rfl ((if0 _ _).trans (flt (own_cmp_ge R1.1.ne_nan (by decide +kernel) R1.2.1 (by decide +kernel) (own_q_ge hl0 jh1 jh2 hj45 hc56) .l)).1) ?_
          show Steps p.tables e below (T22.setTop (mkF m 343 #[.val (.long x0), .second, .val (.long x1), .second, .val (.long x2), .second, .val (.int x3), .val (.int x4), .val (.long ll), .second, .val (.long hv), .second, .val (.long h2), .second, .val (.double (FP.ddiv (FP.l2d hv) (FP.l2d ll))), .second, .val (.double (FP.ddiv (FP.l2d h2) (FP.l2d ll))), .second, .val (.int (1 : Int32)), .val (.long (ll - hv)), .second, .val (.long (ll / (4 : Int64))), .second, .val (.long ((ll / (4 : Int64)) + qc)), .second] [])) _
          refine XS.iconst X22.here hx rfl (hb hby at_343) ?_
          show Steps p.tables e below (T22.setTop (mkF m 344 #[.val (.long x0), .second, .val (.long x1), .second, .val (.long x2), .second, .val (.int x3), .val (.int x4), .val (.long ll), .second, .val (.long hv), .second, .val (.long h2), .second, .val (.double (FP.ddiv (FP.l2d hv) (FP.l2d ll))), .second, .val (.double (FP.ddiv (FP.l2d h2) (FP.l2d ll))), .second, .val (.int (1 : Int32)), .val (.long (ll - hv)), .second, .val (.long (ll / (4 : Int64))), .second, .val (.long ((ll / (4 : Int64)) + qc)), .second] [(.int (1 : Int32))])) _
          refine XS.goto X22.here hx rfl (pc0 := 344) (pc' := 348) rfl (hb hby at_344) (by decide) (by decide) ?_
          show Steps p.tables e below (T22.setTop (mkF m 348 #[.val (.long x0), .second, .val (.long x1), .second, .val (.long x2), .second, .val (.int x3), .val (.int x4), .val (.long ll), .second, .val (.long hv), .second, .val (.long h2), .second, .val (.double (FP.ddiv (FP.l2d hv) (FP.l2d ll))), .second, .val (.double (FP.ddiv (FP.l2d h2) (FP.l2d ll))), .second, .val (.int (1 : Int32)), .val (.long (ll - hv)), .second, .val (.long (ll / (4 : Int64))), .second, .val (.long ((ll / (4 : Int64)) + qc)), .second] [(.int (1 : Int32))])) _
          refine XS.istore X22.here hx rfl (hb hby at_348) rfl (l' := #[.val (.long x0), .second, .val (.long x1), .second, .val (.long x2), .second, .val (.int x3), .val (.int x4), .val (.long ll), .second, .val (.long hv), .second, .val (.long h2), .second, .val (.double (FP.ddiv (FP.l2d hv) (FP.l2d ll))), .second, .val (.double (FP.ddiv (FP.l2d h2) (FP.l2d ll))), .second, .val (.int (1 : Int32)), .val (.long (ll - hv)), .second, .val (.long (ll / (4 : Int64))), .second, .val (.long ((ll / (4 : Int64)) + qc)), .second]) rfl ?_
          exact kt
        exact ⟨trivial, k58⟩
    have k59 : ∀ t, Steps p.tables e below (T22.setTop (mkF m 355 #[.val (.long x0), .second, .val (.long x1), .second, .val (.long x2), .second, .val (.int x3), .val (.int x4), .val (.long ll), .second, .val (.long hv), .second, .val (.long h2), .second, .val (.double (FP.ddiv (FP.l2d hv) (FP.l2d ll))), .second, .val (.double (FP.ddiv (FP.l2d h2) (FP.l2d ll))), .second, .val (.int (1 : Int32)), .val (.long (ll - hv)), .second, .val (.long (ll / (4 : Int64))), .second, .val (.long ((ll / (4 : Int64)) + qc)), .second] [(.int (lcmpW hv h2))])) t → Steps p.tables e below (s₁.setTop (entryFrame m #[(.long x0), (.long x1), (.long x2), (.int x3), (.int x4)] maxLocals)) t := by
      intro t kt
      refine k55 t ?_
      show Steps p.tables e below (T22.setTop (mkF m 350 #[.val (.long x0), .second, .val (.long x1), .second, .val (.long x2), .second, .val (.int x3), .val (.int x4), .val (.long ll), .second, .val (.long hv), .second, .val (.long h2), .second, .val (.double (FP.ddiv (FP.l2d hv) (FP.l2d ll))), .second, .val (.double (FP.ddiv (FP.l2d h2) (FP.l2d ll))), .second, .val (.int (1 : Int32)), .val (.long (ll - hv)), .second, .val (.long (ll / (4 : Int64))), .second, .val (.long ((ll / (4 : Int64)) + qc)), .second] [])) _
      refine XS.lload X22.here hx rfl (hb hby at_350) rfl ?_
      show Steps p.tables e below (T22.setTop (mkF m 352 #[.val (.long x0), .second, .val (.long x1), .second, .val (.long x2), .second, .val (.int x3), .val (.int x4), .val (.long ll), .second, .val (.long hv), .second, .val (.long h2), .second, .val (.double (FP.ddiv (FP.l2d hv) (FP.l2d ll))), .second, .val (.double (FP.ddiv (FP.l2d h2) (FP.l2d ll))), .second, .val (.int (1 : Int32)), .val (.long (ll - hv)), .second, .val (.long (ll / (4 : Int64))), .second, .val (.long ((ll / (4 : Int64)) + qc)), .second] [(.long hv)])) _
      refine XS.lload X22.here hx rfl (hb hby at_352) rfl ?_
      show Steps p.tables e below (T22.setTop (mkF m 354 #[.val (.long x0), .second, .val (.long x1), .second, .val (.long x2), .second, .val (.int x3), .val (.int x4), .val (.long ll), .second, .val (.long hv), .second, .val (.long h2), .second, .val (.double (FP.ddiv (FP.l2d hv) (FP.l2d ll))), .second, .val (.double (FP.ddiv (FP.l2d h2) (FP.l2d ll))), .second, .val (.int (1 : Int32)), .val (.long (ll - hv)), .second, .val (.long (ll / (4 : Int64))), .second, .val (.long ((ll / (4 : Int64)) + qc)), .second] [(.long h2), (.long hv)])) _
      refine XS.lcmp X22.here hx rfl (hb hby at_354) rfl ?_
      exact kt
    obtain ⟨hj60, k60⟩ : (True) ∧ ∀ t, Steps p.tables e below (T22.setTop (mkF m 401 #[.val (.long x0), .second, .val (.long x1), .second, .val (.long x2), .second, .val (.int x3), .val (.int x4), .val (.long ll), .second, .val (.long hv), .second, .val (.long h2), .second, .val (.double (FP.ddiv (FP.l2d hv) (FP.l2d ll))), .second, .val (.double (FP.ddiv (FP.l2d h2) (FP.l2d ll))), .second, .val (.int (1 : Int32)), .val (.long (ll - hv)), .second, .val (.long (ll / (4 : Int64))), .second, .val (.long ((ll / (4 : Int64)) + qc)), .second] [])) t → Steps p.tables e below (s₁.setTop (entryFrame m #[(.long x0), (.long x1), (.long x2), (.int x3), (.int x4)] maxLocals)) t := by
      by_cases hc61 : h2 < hv
      · skip
        have k62 : ∀ t, Steps p.tables e below (T22.setTop (mkF m 401 #[.val (.long x0), .second, .val (.long x1), .second, .val (.long x2), .second, .val (.int x3), .val (.int x4), .val (.long ll), .second, .val (.long hv), .second, .val (.long h2), .second, .val (.double (FP.ddiv (FP.l2d hv) (FP.l2d ll))), .second, .val (.double (FP.ddiv (FP.l2d h2) (FP.l2d ll))), .second, .val (.int (1 : Int32)), .val (.long (ll - hv)), .second, .val (.long (ll / (4 : Int64))), .second, .val (.long ((ll / (4 : Int64)) + qc)), .second] [])) t → Steps p.tables e below (s₁.setTop (entryFrame m #[(.long x0), (.long x1), (.long x2), (.int x3), (.int x4)] maxLocals)) t := by
          intro t kt
          refine k59 t ?_
          show Steps p.tables e below (T22.setTop (mkF m 355 #[.val (.long x0), .second, .val (.long x1), .second, .val (.long x2), .second, .val (.int x3), .val (.int x4), .val (.long ll), .second, .val (.long hv), .second, .val (.long h2), .second, .val (.double (FP.ddiv (FP.l2d hv) (FP.l2d ll))), .second, .val (.double (FP.ddiv (FP.l2d h2) (FP.l2d ll))), .second, .val (.int (1 : Int32)), .val (.long (ll - hv)), .second, .val (.long (ll / (4 : Int64))), .second, .val (.long ((ll / (4 : Int64)) + qc)), .second] [(.int (lcmpW hv h2))])) _
          refine XS.ifYes X22.here hx rfl (pc0 := 355) (pc' := 381) rfl (hb hby at_355) rfl ((if0 _ _).trans (tlt ((lw_gt hv h2).mpr hc61)).2.2.1) (by decide) (by decide) ?_
          show Steps p.tables e below (T22.setTop (mkF m 381 #[.val (.long x0), .second, .val (.long x1), .second, .val (.long x2), .second, .val (.int x3), .val (.int x4), .val (.long ll), .second, .val (.long hv), .second, .val (.long h2), .second, .val (.double (FP.ddiv (FP.l2d hv) (FP.l2d ll))), .second, .val (.double (FP.ddiv (FP.l2d h2) (FP.l2d ll))), .second, .val (.int (1 : Int32)), .val (.long (ll - hv)), .second, .val (.long (ll / (4 : Int64))), .second, .val (.long ((ll / (4 : Int64)) + qc)), .second] [])) _
          refine XS.iload X22.here hx rfl (hb hby at_381) rfl ?_
          show Steps p.tables e below (T22.setTop (mkF m 383 #[.val (.long x0), .second, .val (.long x1), .second, .val (.long x2), .second, .val (.int x3), .val (.int x4), .val (.long ll), .second, .val (.long hv), .second, .val (.long h2), .second, .val (.double (FP.ddiv (FP.l2d hv) (FP.l2d ll))), .second, .val (.double (FP.ddiv (FP.l2d h2) (FP.l2d ll))), .second, .val (.int (1 : Int32)), .val (.long (ll - hv)), .second, .val (.long (ll / (4 : Int64))), .second, .val (.long ((ll / (4 : Int64)) + qc)), .second] [(.int (1 : Int32))])) _
          refine XS.ifNo X22.here hx rfl (hb hby at_383) rfl ((if0 _ _).trans (feq (by decide : ¬ ((1 : Int32) = (0 : Int32)))).1) ?_
          show Steps p.tables e below (T22.setTop (mkF m 386 #[.val (.long x0), .second, .val (.long x1), .second, .val (.long x2), .second, .val (.int x3), .val (.int x4), .val (.long ll), .second, .val (.long hv), .second, .val (.long h2), .second, .val (.double (FP.ddiv (FP.l2d hv) (FP.l2d ll))), .second, .val (.double (FP.ddiv (FP.l2d h2) (FP.l2d ll))), .second, .val (.int (1 : Int32)), .val (.long (ll - hv)), .second, .val (.long (ll / (4 : Int64))), .second, .val (.long ((ll / (4 : Int64)) + qc)), .second] [])) _
          refine XS.dload X22.here hx rfl (hb hby at_386) rfl ?_
          show Steps p.tables e below (T22.setTop (mkF m 388 #[.val (.long x0), .second, .val (.long x1), .second, .val (.long x2), .second, .val (.int x3), .val (.int x4), .val (.long ll), .second, .val (.long hv), .second, .val (.long h2), .second, .val (.double (FP.ddiv (FP.l2d hv) (FP.l2d ll))), .second, .val (.double (FP.ddiv (FP.l2d h2) (FP.l2d ll))), .second, .val (.int (1 : Int32)), .val (.long (ll - hv)), .second, .val (.long (ll / (4 : Int64))), .second, .val (.long ((ll / (4 : Int64)) + qc)), .second] [(.double (FP.ddiv (FP.l2d hv) (FP.l2d ll)))])) _
          refine XS.dload X22.here hx rfl (hb hby at_388) rfl ?_
          show Steps p.tables e below (T22.setTop (mkF m 390 #[.val (.long x0), .second, .val (.long x1), .second, .val (.long x2), .second, .val (.int x3), .val (.int x4), .val (.long ll), .second, .val (.long hv), .second, .val (.long h2), .second, .val (.double (FP.ddiv (FP.l2d hv) (FP.l2d ll))), .second, .val (.double (FP.ddiv (FP.l2d h2) (FP.l2d ll))), .second, .val (.int (1 : Int32)), .val (.long (ll - hv)), .second, .val (.long (ll / (4 : Int64))), .second, .val (.long ((ll / (4 : Int64)) + qc)), .second] [(.double (FP.ddiv (FP.l2d h2) (FP.l2d ll))), (.double (FP.ddiv (FP.l2d hv) (FP.l2d ll)))])) _
          refine XS.dcmpS X22.here hx rfl (hb hby at_390) rfl rfl ?_
          show Steps p.tables e below (T22.setTop (mkF m 391 #[.val (.long x0), .second, .val (.long x1), .second, .val (.long x2), .second, .val (.int x3), .val (.int x4), .val (.long ll), .second, .val (.long hv), .second, .val (.long h2), .second, .val (.double (FP.ddiv (FP.l2d hv) (FP.l2d ll))), .second, .val (.double (FP.ddiv (FP.l2d h2) (FP.l2d ll))), .second, .val (.int (1 : Int32)), .val (.long (ll - hv)), .second, .val (.long (ll / (4 : Int64))), .second, .val (.long ((ll / (4 : Int64)) + qc)), .second] [(.int (cmpValue (FP.dcmp (FP.ddiv (FP.l2d hv) (FP.l2d ll)) (FP.ddiv (FP.l2d h2) (FP.l2d ll))) .l))])) _
          refine XS.ifNo X22.here hx rfl (hb hby at_391) rfl ((if0 _ _).trans (flt (own_cmp_ge R1.1.ne_nan R2.1.ne_nan R1.2.1 R2.2.1 (own_ratio_mono hl0 jk1 (own_lt hc61) jh2) .l)).1) ?_
          show Steps p.tables e below (T22.setTop (mkF m 394 #[.val (.long x0), .second, .val (.long x1), .second, .val (.long x2), .second, .val (.int x3), .val (.int x4), .val (.long ll), .second, .val (.long hv), .second, .val (.long h2), .second, .val (.double (FP.ddiv (FP.l2d hv) (FP.l2d ll))), .second, .val (.double (FP.ddiv (FP.l2d h2) (FP.l2d ll))), .second, .val (.int (1 : Int32)), .val (.long (ll - hv)), .second, .val (.long (ll / (4 : Int64))), .second, .val (.long ((ll / (4 : Int64)) + qc)), .second] [])) _
          refine XS.iconst X22.here hx rfl (hb hby at_394) ?_
          show Steps p.tables e below (T22.setTop (mkF m 395 #[.val (.long x0), .second, .val (.long x1), .second, .val (.long x2), .second, .val (.int x3), .val (.int x4), .val (.long ll), .second, .val (.long hv), .second, .val (.long h2), .second, .val (.double (FP.ddiv (FP.l2d hv) (FP.l2d ll))), .second, .val (.double (FP.ddiv (FP.l2d h2) (FP.l2d ll))), .second, .val (.int (1 : Int32)), .val (.long (ll - hv)), .second, .val (.long (ll / (4 : Int64))), .second, .val (.long ((ll / (4 : Int64)) + qc)), .second] [(.int (1 : Int32))])) _
          refine XS.goto X22.here hx rfl (pc0 := 395) (pc' := 399) rfl (hb hby at_395) (by decide) (by decide) ?_
          show Steps p.tables e below (T22.setTop (mkF m 399 #[.val (.long x0), .second, .val (.long x1), .second, .val (.long x2), .second, .val (.int x3), .val (.int x4), .val (.long ll), .second, .val (.long hv), .second, .val (.long h2), .second, .val (.double (FP.ddiv (FP.l2d hv) (FP.l2d ll))), .second, .val (.double (FP.ddiv (FP.l2d h2) (FP.l2d ll))), .second, .val (.int (1 : Int32)), .val (.long (ll - hv)), .second, .val (.long (ll / (4 : Int64))), .second, .val (.long ((ll / (4 : Int64)) + qc)), .second] [(.int (1 : Int32))])) _
          refine XS.istore X22.here hx rfl (hb hby at_399) rfl (l' := #[.val (.long x0), .second, .val (.long x1), .second, .val (.long x2), .second, .val (.int x3), .val (.int x4), .val (.long ll), .second, .val (.long hv), .second, .val (.long h2), .second, .val (.double (FP.ddiv (FP.l2d hv) (FP.l2d ll))), .second, .val (.double (FP.ddiv (FP.l2d h2) (FP.l2d ll))), .second, .val (.int (1 : Int32)), .val (.long (ll - hv)), .second, .val (.long (ll / (4 : Int64))), .second, .val (.long ((ll / (4 : Int64)) + qc)), .second]) rfl ?_
          exact kt
        exact ⟨trivial, k62⟩
      · skip
        have k63 : ∀ t, Steps p.tables e below (T22.setTop (mkF m 401 #[.val (.long x0), .second, .val (.long x1), .second, .val (.long x2), .second, .val (.int x3), .val (.int x4), .val (.long ll), .second, .val (.long hv), .second, .val (.long h2), .second, .val (.double (FP.ddiv (FP.l2d hv) (FP.l2d ll))), .second, .val (.double (FP.ddiv (FP.l2d h2) (FP.l2d ll))), .second, .val (.int (1 : Int32)), .val (.long (ll - hv)), .second, .val (.long (ll / (4 : Int64))), .second, .val (.long ((ll / (4 : Int64)) + qc)), .second] [])) t → Steps p.tables e below (s₁.setTop (entryFrame m #[(.long x0), (.long x1), (.long x2), (.int x3), (.int x4)] maxLocals)) t := by
          intro t kt
          refine k59 t ?_
          show Steps p.tables e below (T22.setTop (mkF m 355 #[.val (.long x0), .second, .val (.long x1), .second, .val (.long x2), .second, .val (.int x3), .val (.int x4), .val (.long ll), .second, .val (.long hv), .second, .val (.long h2), .second, .val (.double (FP.ddiv (FP.l2d hv) (FP.l2d ll))), .second, .val (.double (FP.ddiv (FP.l2d h2) (FP.l2d ll))), .second, .val (.int (1 : Int32)), .val (.long (ll - hv)), .second, .val (.long (ll / (4 : Int64))), .second, .val (.long ((ll / (4 : Int64)) + qc)), .second] [(.int (lcmpW hv h2))])) _
          refine XS.ifNo X22.here hx rfl (hb hby at_355) rfl ((if0 _ _).trans (flt (fun q => hc61 ((lw_gt hv h2).mp q))).2.2.1) ?_
          show Steps p.tables e below (T22.setTop (mkF m 358 #[.val (.long x0), .second, .val (.long x1), .second, .val (.long x2), .second, .val (.int x3), .val (.int x4), .val (.long ll), .second, .val (.long hv), .second, .val (.long h2), .second, .val (.double (FP.ddiv (FP.l2d hv) (FP.l2d ll))), .second, .val (.double (FP.ddiv (FP.l2d h2) (FP.l2d ll))), .second, .val (.int (1 : Int32)), .val (.long (ll - hv)), .second, .val (.long (ll / (4 : Int64))), .second, .val (.long ((ll / (4 : Int64)) + qc)), .second] [])) _
          refine XS.iload X22.here hx rfl (hb hby at_358) rfl ?_
          show Steps p.tables e below (T22.setTop (mkF m 360 #[.val (.long x0), .second, .val (.long x1), .second, .val (.long x2), .second, .val (.int x3), .val (.int x4), .val (.long ll), .second, .val (.long hv), .second, .val (.long h2), .second, .val (.double (FP.ddiv (FP.l2d hv) (FP.l2d ll))), .second, .val (.double (FP.ddiv (FP.l2d h2) (FP.l2d ll))), .second, .val (.int (1 : Int32)), .val (.long (ll - hv)), .second, .val (.long (ll / (4 : Int64))), .second, .val (.long ((ll / (4 : Int64)) + qc)), .second] [(.int (1 : Int32))])) _
          refine XS.ifNo X22.here hx rfl (hb hby at_360) rfl ((if0 _ _).trans (feq (by decide : ¬ ((1 : Int32) = (0 : Int32)))).1) ?_
          show Steps p.tables e below (T22.setTop (mkF m 363 #[.val (.long x0), .second, .val (.long x1), .second, .val (.long x2), .second, .val (.int x3), .val (.int x4), .val (.long ll), .second, .val (.long hv), .second, .val (.long h2), .second, .val (.double (FP.ddiv (FP.l2d hv) (FP.l2d ll))), .second, .val (.double (FP.ddiv (FP.l2d h2) (FP.l2d ll))), .second, .val (.int (1 : Int32)), .val (.long (ll - hv)), .second, .val (.long (ll / (4 : Int64))), .second, .val (.long ((ll / (4 : Int64)) + qc)), .second] [])) _
          refine XS.dload X22.here hx rfl (hb hby at_363) rfl ?_
          show Steps p.tables e below (T22.setTop (mkF m 365 #[.val (.long x0), .second, .val (.long x1), .second, .val (.long x2), .second, .val (.int x3), .val (.int x4), .val (.long ll), .second, .val (.long hv), .second, .val (.long h2), .second, .val (.double (FP.ddiv (FP.l2d hv) (FP.l2d ll))), .second, .val (.double (FP.ddiv (FP.l2d h2) (FP.l2d ll))), .second, .val (.int (1 : Int32)), .val (.long (ll - hv)), .second, .val (.long (ll / (4 : Int64))), .second, .val (.long ((ll / (4 : Int64)) + qc)), .second] [(.double (FP.ddiv (FP.l2d hv) (FP.l2d ll)))])) _
          refine XS.dload X22.here hx rfl (hb hby at_365) rfl ?_
          show Steps p.tables e below (T22.setTop (mkF m 367 #[.val (.long x0), .second, .val (.long x1), .second, .val (.long x2), .second, .val (.int x3), .val (.int x4), .val (.long ll), .second, .val (.long hv), .second, .val (.long h2), .second, .val (.double (FP.ddiv (FP.l2d hv) (FP.l2d ll))), .second, .val (.double (FP.ddiv (FP.l2d h2) (FP.l2d ll))), .second, .val (.int (1 : Int32)), .val (.long (ll - hv)), .second, .val (.long (ll / (4 : Int64))), .second, .val (.long ((ll / (4 : Int64)) + qc)), .second] [(.double (FP.ddiv (FP.l2d h2) (FP.l2d ll))), (.double (FP.ddiv (FP.l2d hv) (FP.l2d ll)))])) _
          refine XS.dcmpS X22.here hx rfl (hb hby at_367) rfl rfl ?_
          show Steps p.tables e below (T22.setTop (mkF m 368 #[.val (.long x0), .second, .val (.long x1), .second, .val (.long x2), .second, .val (.int x3), .val (.int x4), .val (.long ll), .second, .val (.long hv), .second, .val (.long h2), .second, .val (.double (FP.ddiv (FP.l2d hv) (FP.l2d ll))), .second, .val (.double (FP.ddiv (FP.l2d h2) (FP.l2d ll))), .second, .val (.int (1 : Int32)), .val (.long (ll - hv)), .second, .val (.long (ll / (4 : Int64))), .second, .val (.long ((ll / (4 : Int64)) + qc)), .second] [(.int (cmpValue (FP.dcmp (FP.ddiv (FP.l2d hv) (FP.l2d ll)) (FP.ddiv (FP.l2d h2) (FP.l2d ll))) .g))])) _
          refine XS.ifNo X22.here hx rfl (hb hby at_368) rfl ((if0 _ _).trans (flt (own_cmp_le R1.1.ne_nan R2.1.ne_nan R1.2.1 R2.2.1 (own_ratio_mono hl0 jh1 (own_nlt hc61) jk2) .g)).2.2.1) ?_
          show Steps p.tables e below (T22.setTop (mkF m 371 #[.val (.long x0), .second, .val (.long x1), .second, .val (.long x2), .second, .val (.int x3), .val (.int x4), .val (.long ll), .second, .val (.long hv), .second, .val (.long h2), .second, .val (.double (FP.ddiv (FP.l2d hv) (FP.l2d ll))), .second, .val (.double (FP.ddiv (FP.l2d h2) (FP.l2d ll))), .second, .val (.int (1 : Int32)), .val (.long (ll - hv)), .second, .val (.long (ll / (4 : Int64))), .second, .val (.long ((ll / (4 : Int64)) + qc)), .second] [])) _
          refine XS.iconst X22.here hx rfl (hb hby at_371) ?_
          show Steps p.tables e below (T22.setTop (mkF m 372 #[.val (.long x0), .second, .val (.long x1), .second, .val (.long x2), .second, .val (.int x3), .val (.int x4), .val (.long ll), .second, .val (.long hv), .second, .val (.long h2), .second, .val (.double (FP.ddiv (FP.l2d hv) (FP.l2d ll))), .second, .val (.double (FP.ddiv (FP.l2d h2) (FP.l2d ll))), .second, .val (.int (1 : Int32)), .val (.long (ll - hv)), .second, .val (.long (ll / (4 : Int64))), .second, .val (.long ((ll / (4 : Int64)) + qc)), .second] [(.int (1 : Int32))])) _
          refine XS.goto X22.here hx rfl (pc0 := 372) (pc' := 376) rfl (hb hby at_372) (by decide) (by decide) ?_
          show Steps p.tables e below (T22.setTop (mkF m 376 #[.val (.long x0), .second, .val (.long x1), .second, .val (.long x2), .second, .val (.int x3), .val (.int x4), .val (.long ll), .second, .val (.long hv), .second, .val (.long h2), .second, .val (.double (FP.ddiv (FP.l2d hv) (FP.l2d ll))), .second, .val (.double (FP.ddiv (FP.l2d h2) (FP.l2d ll))), .second, .val (.int (1 : Int32)), .val (.long (ll - hv)), .second, .val (.long (ll / (4 : Int64))), .second, .val (.long ((ll / (4 : Int64)) + qc)), .second] [(.int (1 : Int32))])) _
          refine XS.istore X22.here hx rfl (hb hby at_376) rfl (l' := #[.val (.long x0), .second, .val (.long x1), .second, .val (.long x2), .second, .val (.int x3), .val (.int x4), .val (.long ll), .second, .val (.long hv), .second, .val (.long h2), .second, .val (.double (FP.ddiv (FP.l2d hv) (FP.l2d ll))), .second, .val (.double (FP.ddiv (FP.l2d h2) (FP.l2d ll))), .second, .val (.int (1 : Int32)), .val (.long (ll - hv)), .second, .val (.long (ll / (4 : Int64))), .second, .val (.long ((ll / (4 : Int64)) + qc)), .second]) rfl ?_
          show Steps p.tables e below (T22.setTop (mkF m 378 #[.val (.long x0), .second, .val (.long x1), .second, .val (.long x2), .second, .val (.int x3), .val (.int x4), .val (.long ll), .second, .val (.long hv), .second, .val (.long h2), .second, .val (.double (FP.ddiv (FP.l2d hv) (FP.l2d ll))), .second, .val (.double (FP.ddiv (FP.l2d h2) (FP.l2d ll))), .second, .val (.int (1 : Int32)), .val (.long (ll - hv)), .second, .val (.long (ll / (4 : Int64))), .second, .val (.long ((ll / (4 : Int64)) + qc)), .second] [])) _
          refine XS.goto X22.here hx rfl (pc0 := 378) (pc' := 401) rfl (hb hby at_378) (by decide) (by decide) ?_
          exact kt
        exact ⟨trivial, k63⟩
    obtain ⟨lfs, lhr, lhrun, lhended, lhW, lhsame⟩ := X22.leave (v := some (.int (1 : Int32))) (fun h => by rw [Bd.returns] at h; cases h)
    refine ⟨_, _, k60 _ ?_, lhrun, lhended, _, _, rfl, ?_, ⟨_, rfl⟩, lhW, lhsame.mono (by decide) (by decide)⟩
    · skip
      show Steps p.tables e below (T22.setTop (mkF m 401 #[.val (.long x0), .second, .val (.long x1), .second, .val (.long x2), .second, .val (.int x3), .val (.int x4), .val (.long ll), .second, .val (.long hv), .second, .val (.long h2), .second, .val (.double (FP.ddiv (FP.l2d hv) (FP.l2d ll))), .second, .val (.double (FP.ddiv (FP.l2d h2) (FP.l2d ll))), .second, .val (.int (1 : Int32)), .val (.long (ll - hv)), .second, .val (.long (ll / (4 : Int64))), .second, .val (.long ((ll / (4 : Int64)) + qc)), .second] [])) _
      refine XS.iload X22.here hx rfl (hb hby at_401) rfl ?_
      show Steps p.tables e below (T22.setTop (mkF m 403 #[.val (.long x0), .second, .val (.long x1), .second, .val (.long x2), .second, .val (.int x3), .val (.int x4), .val (.long ll), .second, .val (.long hv), .second, .val (.long h2), .second, .val (.double (FP.ddiv (FP.l2d hv) (FP.l2d ll))), .second, .val (.double (FP.ddiv (FP.l2d h2) (FP.l2d ll))), .second, .val (.int (1 : Int32)), .val (.long (ll - hv)), .second, .val (.long (ll / (4 : Int64))), .second, .val (.long ((ll / (4 : Int64)) + qc)), .second] [(.int (1 : Int32))])) _
      exact retN X22 hx (t := .boolean) Bd.returns (by simp) (hb hby at_403) lhr
    · skip
      show Q0 Z x0 x1 x2 x3 x4 h0 n0 _ T22.heap _
      rw [eq22]
      exact ⟨rfl, N22⟩
set_option maxRecDepth 65536 in
set_option maxHeartbeats 40000000 in
theorem comes_1 {Post : Tables → Env → Array Value → State → Outcome → State → Prop} (hpost : ∀ tb e args s v u, (limb_1_1.after args s (.returned v) u = true ∧ limb_1_2.after args s (.returned v) u = true ∧ True) → FrameEnd s (.returned v) u (Jvm.fieldLocs frame_1_writes args s ++ Jvm.arrayLocs frame_1_arrays args s ++ Jvm.staticLocs frame_1_statics s) 16 128 → Post tb e args s (.returned v) u) :
    ArmFor flags0 classFile x code maxLocals ret World_1 tables_1 room_1 Calls_1 rest_1 Pre_1 Post := by
  intro l hfl _ _ p e ha hc hk s m args below hf hA hF happ hP
  obtain ⟨hcalls, hrest, hpre⟩ := hP
  obtain ⟨-, -, -, hnamed, -, -, -, hat⟩ := (Spec.applies_iff hf).mp happ
  obtain ⟨hg, hn⟩ := and_e (Cond.before_iff.mp (show (Jvm.Cond.and given_1 narrow_1).before args s = true from hpre))
  obtain ⟨g1a, g1b⟩ := and_e hg
  obtain ⟨g2a, g2b⟩ := and_e g1b
  obtain ⟨g3a, g3b⟩ := and_e g2b
  obtain ⟨g4a, g4b⟩ := and_e g3b
  obtain ⟨g5a, g5b⟩ := and_e g4b
  obtain ⟨w0, w1, w2, w3, w4, rfl⟩ : ∃ w0 w1 w2 w3 w4 : Value, args = #[w0, w1, w2, w3, w4] := by
    have hs : args.size = 5 := by simpa [Cond.value, given_1] using g1a
    obtain ⟨L⟩ := args
    match L, hs with
    | [w0, w1, w2, w3, w4], _ => exact ⟨w0, w1, w2, w3, w4, rfl⟩
  have hw := fun d (hd : d ∈ tables_1) => atoms_spec (ws := Jvm.Cond.code x code maxLocals ret :: tables_1) hat d (List.mem_cons_of_mem _ hd)
  have hfit : Fit s := fun {y c} hc i hi => by
    obtain ⟨ha, rfl⟩ := Array.getElem?_eq_some_iff.mp hc
    have q := List.all_eq_true.mp ((Array.all_eq_true_iff_forall_mem.mp hF) _ (Array.getElem_mem ha)) i (List.mem_range.mpr hi)
    simpa [Array.getElem?_eq_getElem hi] using q
  obtain ⟨i0, ei0⟩ := isL_v g2a
  obtain rfl : w0 = (.long i0) := Option.some.inj ei0
  obtain ⟨i1, ei1⟩ := isL_v g3a
  obtain rfl : w1 = (.long i1) := Option.some.inj ei1
  obtain ⟨i2, ei2⟩ := isL_v g4a
  obtain rfl : w2 = (.long i2) := Option.some.inj ei2
  obtain ⟨i3, ei3⟩ := is_v g5a
  obtain rfl : w3 = (.int i3) := Option.some.inj ei3
  obtain ⟨i4, ei4⟩ := is_v g5b
  obtain rfl : w4 = (.int i4) := Option.some.inj ei4
  obtain ⟨n, o, h1, h2, h3, _, L, rfl, ⟨rfl, N⟩, hq⟩ := rm0 l s _ hw tables_1 i0 i1 i2 i3 i4 s.heap s.heap.size (Nat.le_refl _) p e ha hc hk s m _ below hf ((Spec.applies_iff_loose hf).mp happ).1 ⟨rfl, State.Warmed39.refl s, rfl⟩ trivial
  refine ⟨n, _, h1, h2, h3, hpost _ _ _ _ _ _ ⟨Cond.after_iff.mpr rfl, Cond.after_iff.mpr (eq_i res_at (Term.int_eval (1)) rfl), trivial⟩ ⟨hq.1, hq.2.1, (hq.2.2.sift fun y hy => Or.inr (N y hy)).mono (by decide) (by decide)⟩⟩
theorem main_1_1 : Claimed_1_1 := comes_1 fun _ _ _ _ _ _ h hF => ⟨h.1, hF⟩
theorem main_1_2 : Claimed_1_2 := comes_1 fun _ _ _ _ _ _ h hF => ⟨h.2.1, hF⟩
end Jvm.Pilot.@@N@@
namespace Jvm.Pilot.@@N@@
open Jvm Jvm.ClassFile Sem Op Lib Jvm.Free Jvm.Stand Jvm.Pilot.@@N@@.Jvm.D
/-! MADE BY PROGRAM (witnessworld.py) out of the Statement's table words and the real class files: 10 classes; the members and pool entries that the words name. The judged class is class 1, her method 1. -/
namespace start1
open Jvm.ClassFile
def u (s : String) : CpInfo := .utf8 (stringToUtf16 s)
/-- a pool by its gaps: so many unusable entries, then the entry; so many at the end -/
def gap : Nat → List CpInfo → List CpInfo
  | 0, r => r
  | n + 1, r => .unusable :: gap n r
def poolList (es : List (Nat × CpInfo)) (last : Nat) : List CpInfo := es.foldr (fun e r => gap e.1 (e.2 :: r)) (gap last [])
def pool (es : List (Nat × CpInfo)) (last : Nat) : Array CpInfo := ⟨poolList es last⟩
def fileOf (pool : Array CpInfo) (this : Nat) (attrs : Array Attribute := #[]) (ms : Array MethodInfo := #[]) (fl : Nat := 33) (sup : Nat := 0) (ifs : Array Nat := #[]) (fds : Array FieldInfo := #[]) : ClassFile where
  minorVersion := 0
  majorVersion := 65
  constantPool := pool
  accessFlags := fl
  thisClass := this
  superClass := sup
  interfaces := ifs
  fields := fds
  methods := ms
  attributes := attrs
def plain (name : String) (sup : Option ClassId) : Class where
  name := name
  kind := .ordinary
  loader := none
  accessFlags := 33
  super := sup
  interfaces := #[]
  cf := none
  fields := #[]
  methods := #[]
  instanceTypes := #[]
  staticTypes := #[]
  resolved := #[]
  callSites := []
  init := .initialized
  statics := none
  mirror := none

def pool0 : Array CpInfo := pool [(5, u "<init>"), (0, u "()V"), (1, .class_ 10), (1, u "java/lang/Object")] 113

def k0c0 : Code := { maxStack := 0, maxLocals := 1, code := object_method_1_code, exceptionTable := #[], attributes := #[] }
def k0m0 : Method := { name := "<init>", desc := "()V", sig := { parameters := [], returnType := none }, accessFlags := 1, code := some k0c0 }
/-- java/lang/Object -/
def k0 : Class := { plain "java/lang/Object" none with
  accessFlags := 33
  interfaces := #[]
  cf := some (fileOf pool0 8 #[] #[{ accessFlags := 1, nameIndex := 5, descriptorIndex := 6, attributes := #[] }] 33 0 #[] #[])
  fields := #[]
  methods := #[k0m0]
  instanceTypes := #[]
  staticTypes := #[]
  resolved := Array.replicate 124 none
  statics := none }

def pool1 : Array CpInfo := pool [(2, .class_ 4), (1, u "java/lang/Object"), (0, u "<init>"), (0, u "()V"), (2, .long 9223372036854775807), (1, .class_ 12), (0, u "com/example/querymemo/querymemo/cache/CacheStatistics"), (0, .methodref 11 14), (0, .nameAndType 5 15), (0, u "(JJI)V"), (0, .methodref 11 17), (0, .nameAndType 18 19), (0, u "hitRatio"), (0, u "()D"), (0, .double 4602678819172646912), (1, .long 4), (1, .double 4598175219545276416), (1, .class_ 27), (0, u "com/example/querymemo/querymemo/cache/CacheStatisticsHitRatioPinLaw"), (2, u "law"), (0, u "(JJJII)Z")] 3

def k1m0 : Method := { name := "<init>", desc := "()V", sig := { parameters := [], returnType := none }, accessFlags := 1, code := none }
def k1c1 : Code := { maxStack := 7, maxLocals := 25, code := code, exceptionTable := #[], attributes := #[] }
def k1m1 : Method := { name := "law", desc := "(JJJII)Z", sig := { parameters := [.long, .long, .long, .int, .int], returnType := some .boolean }, accessFlags := 9, code := some k1c1 }
/-- com/example/querymemo/querymemo/cache/CacheStatisticsHitRatioPinLaw -/
def k1 : Class := { plain "com/example/querymemo/querymemo/cache/CacheStatisticsHitRatioPinLaw" (some 0) with
  accessFlags := 49
  interfaces := #[]
  cf := some (fileOf pool1 26 #[] #[{ accessFlags := 1, nameIndex := 5, descriptorIndex := 6, attributes := #[] }, { accessFlags := 9, nameIndex := 30, descriptorIndex := 31, attributes := #[] }] 49 2 #[] #[])
  fields := #[]
  methods := #[k1m0, k1m1]
  instanceTypes := #[]
  staticTypes := #[]
  resolved := Array.replicate 35 none
  statics := none }

def pool2 : Array CpInfo := pool [(1, .methodref 2 3), (0, .class_ 4), (0, .nameAndType 5 6), (0, u "java/lang/Object"), (0, u "<init>"), (0, u "()V"), (0, .class_ 8), (0, u "java/lang/Record")] 13

def k2c0 : Code := { maxStack := 1, maxLocals := 1, code := jdk_30_method_1_code, exceptionTable := #[], attributes := #[] }
def k2m0 : Method := { name := "<init>", desc := "()V", sig := { parameters := [], returnType := none }, accessFlags := 4, code := some k2c0 }
/-- java/lang/Record -/
def k2 : Class := { plain "java/lang/Record" (some 0) with
  accessFlags := 1057
  interfaces := #[]
  cf := some (fileOf pool2 7 #[] #[{ accessFlags := 4, nameIndex := 5, descriptorIndex := 6, attributes := #[] }] 1057 2 #[] #[])
  fields := #[]
  methods := #[k2m0]
  instanceTypes := #[]
  staticTypes := #[]
  resolved := Array.replicate 22 none
  statics := none }

def pool3 : Array CpInfo := pool [(1, .methodref 2 3), (0, .class_ 4), (0, .nameAndType 5 6), (0, u "java/lang/Record"), (0, u "<init>"), (0, u "()V"), (0, .fieldref 8 9), (0, .class_ 10), (0, .nameAndType 11 12), (0, u "com/example/querymemo/querymemo/cache/CacheStatistics"), (0, u "lookups"), (0, u "J"), (0, .fieldref 8 14), (0, .nameAndType 15 12), (0, u "hits"), (0, .fieldref 8 17), (0, .nameAndType 18 19), (0, u "entries"), (0, u "I"), (12, u "(JJI)V"), (3, u "hitRatio"), (0, u "()D")] 27

def k3c0 : Code := { maxStack := 3, maxLocals := 6, code := prog_6_method_1_code, exceptionTable := #[], attributes := #[] }
def k3m0 : Method := { name := "<init>", desc := "(JJI)V", sig := { parameters := [.long, .long, .int], returnType := none }, accessFlags := 1, code := some k3c0 }
def k3c1 : Code := { maxStack := 4, maxLocals := 1, code := prog_6_method_2_code, exceptionTable := #[], attributes := #[] }
def k3m1 : Method := { name := "hitRatio", desc := "()D", sig := { parameters := [], returnType := some .double }, accessFlags := 1, code := some k3c1 }
/-- com/example/querymemo/querymemo/cache/CacheStatistics -/
def k3 : Class := { plain "com/example/querymemo/querymemo/cache/CacheStatistics" (some 2) with
  accessFlags := 49
  interfaces := #[]
  cf := some (fileOf pool3 8 #[] #[{ accessFlags := 1, nameIndex := 5, descriptorIndex := 32, attributes := #[] }, { accessFlags := 1, nameIndex := 36, descriptorIndex := 37, attributes := #[] }] 49 2 #[] #[{ accessFlags := 18, nameIndex := 11, descriptorIndex := 12, attributes := #[] }, { accessFlags := 18, nameIndex := 15, descriptorIndex := 12, attributes := #[] }, { accessFlags := 18, nameIndex := 18, descriptorIndex := 19, attributes := #[] }])
  fields := #[{ name := "lookups", type := .long, accessFlags := 18, slot := 0, constantValue := 0 }, { name := "hits", type := .long, accessFlags := 18, slot := 1, constantValue := 0 }, { name := "entries", type := .int, accessFlags := 18, slot := 2, constantValue := 0 }]
  methods := #[k3m0, k3m1]
  instanceTypes := #[.long, .long, .int]
  staticTypes := #[]
  resolved := Array.replicate 65 none
  statics := none }

def pool4 : Array CpInfo := pool [(1, u "java/lang/Cloneable"), (0, .class_ 1), (0, u "java/lang/Object"), (0, .class_ 3)] 3

/-- java/lang/Cloneable -/
def k4 : Class := { plain "java/lang/Cloneable" (some 0) with
  accessFlags := 1537
  interfaces := #[]
  cf := some (fileOf pool4 2 #[] #[] 1537 4 #[] #[])
  fields := #[]
  methods := #[]
  instanceTypes := #[]
  staticTypes := #[]
  resolved := Array.replicate 8 none
  statics := none }

def pool5 : Array CpInfo := pool [(1, u "java/io/Serializable"), (0, .class_ 1), (0, u "java/lang/Object"), (0, .class_ 3)] 3

/-- java/io/Serializable -/
def k5 : Class := { plain "java/io/Serializable" (some 0) with
  accessFlags := 1537
  interfaces := #[]
  cf := some (fileOf pool5 2 #[] #[] 1537 4 #[] #[])
  fields := #[]
  methods := #[]
  instanceTypes := #[]
  staticTypes := #[]
  resolved := Array.replicate 8 none
  statics := none }

/-- the primitive byte -/
def k6 : Class := { plain "byte" none with kind := .primitive 'B', accessFlags := 0x411 }
/-- [B -/
def k7 : Class := { plain "[B" (some 0) with kind := .array 6 .byte, interfaces := #[4, 5], accessFlags := 1041 }

/-- the primitive int -/
def k8 : Class := { plain "int" none with kind := .primitive 'I', accessFlags := 0x411 }
/-- [I -/
def k9 : Class := { plain "[I" (some 0) with kind := .array 8 .int, interfaces := #[4, 5], accessFlags := 1041 }

def heap : Heap := #[]
def classes : Array Class := #[k0, k1, k2, k3, k4, k5, k6, k7, k8, k9]
def interned : List (Array UInt16 × Addr) := []
def slotsUsed : Nat := 0
def theMethod : MethodId := ⟨1, 1⟩
def args0 : Array Value := #[.long 5, .long 7, .long 9, .int 3, .int 1]
def aboutOver (below : List Frame) : State where
  vm := { classes := classes, interned := interned.toArray }
  heap := heap
  slotsUsed := slotsUsed
  threads := #[{ frames := .invoking theMethod args0 :: below }]
def below0 : List Frame := [.native { method := ⟨0, 0⟩, args := #[] }]
def about1 : State := aboutOver below0
def p0 : Program := .bare "" "" ""
def e0 : Env := launch0.env 0 0 0
theorem w_frames : about1.frames = Frame.invoking theMethod args0 :: below0 := rfl
set_option maxRecDepth 65536 in
theorem w_args : argsFit about1.vm theMethod args0 = true := by decide +kernel
set_option maxRecDepth 65536 in
theorem w_heap : heapFits about1 = true := by decide +kernel
set_option maxRecDepth 65536 in
theorem w_runnable : about1.curStatus? = some .runnable := by decide +kernel
set_option maxRecDepth 65536 in
theorem w_alone : about1.alone = true := by decide +kernel
set_option maxRecDepth 65536 in
theorem w_named : about1.methodNamed? x = some theMethod := by decide +kernel
set_option maxRecDepth 65536 in
theorem w_hears : about1.hears theMethod below0 = true := by decide +kernel
set_option maxRecDepth 65536 in
theorem w_ripe : about1.ripe theMethod args0 below0 = true := by decide +kernel
theorem w_running : about1.status = .running := rfl
set_option maxRecDepth 65536 in
theorem w_room : about1.hasRoom e0.platform room_1 = true :=
  launch0.hasRoom_least _ room_1 (by decide +kernel) (by decide +kernel) (by decide +kernel) (by decide +kernel) (by decide +kernel) (by decide +kernel)
theorem allAtoms_all (ts : List Jvm.Cond) (a : Array Jvm.Value) (st : Jvm.State) : (allAtoms ts).before a st = ts.all (fun c => c.before a st) := by
  induction ts with
  | nil => rfl
  | cons c t ih =>
    show (Jvm.Cond.and c (allAtoms t)).before a st = _
    rw [Jvm.Cond.before_and, ih, List.all_cons]
def words1 : List Jvm.Cond := Jvm.Cond.code x code maxLocals ret :: tables_1
/-- a 'code' word, met by the world's own term for the bytes: nothing is compared byte by byte -/
theorem code_word {y : MethodName} {bytes : ByteArray} {mx : Nat} {rt : Option FieldType} {a : Array Value} {s : State} {m : MethodId} {meth : Method} {c : Code} (h1 : s.methodNamed? y = some m) (h2 : s.vm.method? m = some meth) (h3 : meth.code = some c) (h4 : c.code = bytes)
    (h5 : (c.maxLocals == mx && c.exceptionTable.isEmpty && decide (c.maxStack ≤ mostOperands) && decide (meth.sig.returnType = rt) && !meth.locks && decide (parseMethodDescriptor y.desc = some meth.sig)) = true) : (Jvm.Cond.code y bytes mx rt).before a s = true := by
  simp only [Bool.and_eq_true, beq_iff_eq, Bool.not_eq_true', decide_eq_true_eq] at h5
  obtain ⟨⟨⟨⟨⟨g1, g2⟩, g3⟩, g4⟩, g5⟩, g6⟩ := h5
  simp [Cond.before, Cond.holds, Cond.value, h1, h2, h3, h4, g1, g2, g3, g4, g5, g6]
def isCode : Jvm.Cond → Bool
  | .code _ _ _ _ => true
  | _ => false
theorem all_split {L : List Jvm.Cond} {P : Jvm.Cond → Bool} (h1 : L.all (fun c => isCode c || P c) = true) (h2 : ∀ c ∈ L.filter isCode, P c = true) : L.all P = true := by
  refine List.all_eq_true.mpr fun c hc => ?_
  have h := List.all_eq_true.mp h1 c hc
  rcases Bool.eq_false_or_eq_true (isCode c) with hi | hi
  · exact h2 c (List.mem_filter.mpr ⟨hc, hi⟩)
  · simpa [hi] using h
set_option maxRecDepth 65536 in
theorem w_c0 : (Jvm.Cond.code x code maxLocals ret).before args0 about1 = true := code_word (m := ⟨1, 1⟩) (meth := k1m1) (c := k1c1) (by decide +kernel) rfl rfl rfl (by decide +kernel)
set_option maxRecDepth 65536 in
theorem w_c1 : (Jvm.Cond.code ({ cls := "com/example/querymemo/querymemo/cache/CacheStatistics", name := "<init>", desc := "(JJI)V" } : Jvm.MethodName) prog_6_method_1_code (6 : Nat) (Option.none : Option Jvm.ClassFile.FieldType)).before args0 about1 = true := code_word (m := ⟨3, 0⟩) (meth := k3m0) (c := k3c0) (by decide +kernel) rfl rfl rfl (by decide +kernel)
set_option maxRecDepth 65536 in
theorem w_c2 : (Jvm.Cond.code ({ cls := "java/lang/Record", name := "<init>", desc := "()V" } : Jvm.MethodName) jdk_30_method_1_code (1 : Nat) (Option.none : Option Jvm.ClassFile.FieldType)).before args0 about1 = true := code_word (m := ⟨2, 0⟩) (meth := k2m0) (c := k2c0) (by decide +kernel) rfl rfl rfl (by decide +kernel)
set_option maxRecDepth 65536 in
theorem w_c3 : (Jvm.Cond.code ({ cls := "java/lang/Object", name := "<init>", desc := "()V" } : Jvm.MethodName) object_method_1_code (1 : Nat) (Option.none : Option Jvm.ClassFile.FieldType)).before args0 about1 = true := code_word (m := ⟨0, 0⟩) (meth := k0m0) (c := k0c0) (by decide +kernel) rfl rfl rfl (by decide +kernel)
set_option maxRecDepth 65536 in
theorem w_c4 : (Jvm.Cond.code ({ cls := "com/example/querymemo/querymemo/cache/CacheStatistics", name := "hitRatio", desc := "()D" } : Jvm.MethodName) prog_6_method_2_code (1 : Nat) (Option.some Jvm.ClassFile.FieldType.double)).before args0 about1 = true := code_word (m := ⟨3, 1⟩) (meth := k3m1) (c := k3c1) (by decide +kernel) rfl rfl rfl (by decide +kernel)
def codes1 : List Jvm.Cond := [Jvm.Cond.code x code maxLocals ret, Jvm.Cond.code ({ cls := "com/example/querymemo/querymemo/cache/CacheStatistics", name := "<init>", desc := "(JJI)V" } : Jvm.MethodName) prog_6_method_1_code (6 : Nat) (Option.none : Option Jvm.ClassFile.FieldType), Jvm.Cond.code ({ cls := "java/lang/Record", name := "<init>", desc := "()V" } : Jvm.MethodName) jdk_30_method_1_code (1 : Nat) (Option.none : Option Jvm.ClassFile.FieldType), Jvm.Cond.code ({ cls := "java/lang/Object", name := "<init>", desc := "()V" } : Jvm.MethodName) object_method_1_code (1 : Nat) (Option.none : Option Jvm.ClassFile.FieldType), Jvm.Cond.code ({ cls := "com/example/querymemo/querymemo/cache/CacheStatistics", name := "hitRatio", desc := "()D" } : Jvm.MethodName) prog_6_method_2_code (1 : Nat) (Option.some Jvm.ClassFile.FieldType.double)]
set_option maxRecDepth 65536 in
theorem codes_eq : words1.filter isCode = codes1 := rfl
theorem w_codes : ∀ c ∈ words1.filter isCode, c.before args0 about1 = true := by
  rw [codes_eq]
  intro c hc
  simp only [codes1, List.mem_cons, List.not_mem_nil, or_false] at hc
  rcases hc with rfl | rfl | rfl | rfl | rfl
  · exact w_c0
  · exact w_c1
  · exact w_c2
  · exact w_c3
  · exact w_c4
set_option maxRecDepth 65536 in
theorem w_t1 : (words1.take 24).all (fun c => isCode c || c.before args0 about1) = true := by decide +kernel
set_option maxRecDepth 65536 in
theorem w_t2 : (words1.drop 24).all (fun c => isCode c || c.before args0 about1) = true := by decide +kernel
theorem w_tables : (allAtoms (Jvm.Cond.code x code maxLocals ret :: tables_1)).before args0 about1 = true := by
  rw [allAtoms_all]
  show words1.all (fun c => c.before args0 about1) = true
  refine all_split ?_ w_codes
  rw [← List.take_append_drop 24 words1, List.all_append, w_t1, w_t2]
  rfl
set_option maxRecDepth 65536 in
theorem w_case : (Jvm.Cond.and given_1 narrow_1).before args0 about1 = true := by decide +kernel
theorem w_applies : (headSpec (Jvm.Cond.code x code maxLocals ret :: tables_1) room_1).applies x e0.platform about1 = true :=
  (Spec.applies_iff w_frames).mpr ⟨w_running, w_runnable, w_alone, w_named, w_hears, w_ripe, w_room, w_tables⟩
theorem atStart : AtStart classFile x code maxLocals ret World_1 tables_1 room_1 Calls_1 rest_1 Pre_1 launch0 p0 e0 about1 theMethod args0 below0 :=
  ⟨lists_1, trivial, launch0.admits_env _ _ _, launch0.least_env, fairChoices_fair.cas, fairChoices_fair.clock, w_frames, w_args, w_heap, w_applies, trivial, trivial, w_case⟩
end start1
theorem witness_1 : WitnessClaimed_1 := ⟨start1.p0, start1.e0, start1.about1, start1.theMethod, start1.args0, start1.below0, start1.atStart⟩
end Jvm.Pilot.@@N@@
