import JvmDerived
import JvmDerived.Pilot.@@N@@Statement
import JvmDerived.Pilot.@@N@@Code
set_option linter.unusedVariables false
set_option linter.unusedSimpArgs false
namespace Jvm.RoadKit
open Sem ClassFile Op Lib Jvm.Stand Jvm.Free Jvm.LawKit
section New
variable {p : Program} {l : Launch} {e : Env} {R : Room} {s : State} {m : MethodId} {args : Array Value} {below : List Frame} {meth : Method} {c : Code} {T : State} {locs : List Loc} {cells slots : Nat}
theorem retI (X : Stand p l e R s m args below meth c T locs cells slots) (hx : p.tables.exec = Jvm.exec) {pc : Nat} {Ls : Array Slot} {z : Int32} {rest : List Value} (hret : meth.sig.returnType = some .int) (hd : decode c.code pc = .ok (.ireturn, 1)) {fs : List Frame}
    (hl : ∀ (f : JFrame) (acts : List Action), f.method = m → f.locked = none → f.entered = [] → (doReturn e (T.setTop f) acts (some (.int z))).1 = T.setFrames fs) : Steps p.tables e below (T.setTop (mkF m pc Ls (.int z :: rest))) (T.setFrames fs) :=
  retOut X hx hret rfl (Or.inl ⟨rfl, Or.inl rfl, z, rfl⟩) hd hl
theorem own_lremM {g : JFrame} {target : State} (X : Stand p l e R s m args below meth c T locs cells slots) (hx : p.tables.exec = Jvm.exec) (hg : g.method = m) {x y : Int64} {rest : List Value} (hd : decode c.code g.pc = .ok (.lrem, 1)) (hs : g.stack = .long y :: .long x :: rest) (hy : y ≠ 0)
    (hr : Steps p.tables e below (T.setTop { g with pc := g.pc + 1, stack := .long (x % y) :: rest }) target) : Steps p.tables e below (T.setTop g) target := by
  have q : x - x / y * y = x % y := lrem_mod x y
  exact XS.lrem X.here hx hg hd hs hy (by rw [q]; exact hr)
theorem own_evInt {Z : State} {args : Array Value} {t : Term} {k : Int32} (h : (Jvm.Cond.eq t (.int k)).value args Z none Z [] = some true) : t.eval args Z none [] Z = some (.int k) := by
  obtain ⟨x, y, h1, h2, -, -⟩ := cmp_v (Or.inl h)
  have hy : y = .int k := Option.some.inj (h2.symm.trans (Term.int_eval k))
  subst hy
  have hx : x = .int k := by
    cases x <;> simp [Cond.value, h1, h2] at h ⊢
    exact h
  rw [h1, hx]
theorem own_selPriv {y : MethodName} {kI : Nat} (hI : (Jvm.Cond.instantiable y.cls kI).before args s = true) (hpriv : s.PrivateAt y) (hinst : (Jvm.Cond.instanceMethod y).before args s = true) (hy : y.cls ≠ "java/lang/invoke/MethodHandle" ∧ y.cls ≠ "java/lang/invoke/VarHandle") : (Jvm.Cond.selects y.cls y y).before args s = true := by
  obtain ⟨c, k, h1, h2, -, h4, -⟩ := Cond.instantiable_spec hI
  exact selects_self_of_private h1 h2 (Bool.or_eq_false_iff.mp h4).1 hpriv hinst hy
theorem own_since0 (s : State) : s.Since s.vm 0 := (State.WarmedH.refl s).since _
theorem own_irr32 (x : Int32) : ¬ (x < x) := Int32.lt_irrefl
theorem own_irr64 (x : Int64) : ¬ (x < x) := Int64.lt_irrefl
theorem own_fldInt {Z : State} {args : Array Value} {t : Term} {a : Addr} {C n d : String} {k : Int32} (ev : t.eval args Z none [] Z = some (.ref a)) (h : (Jvm.Cond.eq (.field t C n d) (.int k)).value args Z none Z [] = some true) : Fld Z Z.heap a C n d (.int k) := by
  obtain ⟨x, y, h1, h2, -, -⟩ := cmp_v (Or.inl h)
  have hy : y = .int k := Option.some.inj (h2.symm.trans (Term.int_eval k))
  subst hy
  have hx : x = .int k := by
    cases x <;> simp [Cond.value, h1, h2] at h ⊢
    exact h
  rw [fld_at ev] at h1
  exact Fld.start (hx ▸ h1)
end New
end Jvm.RoadKit
/- laws to paste: Road.backV, Road.eqW, Road.codOf (cut by pick.py; bodies as the Statement names them) -/
namespace Jvm.Pilot.@@N@@
namespace StrChars
open Jvm Sem ClassFile Op Lib Jvm.Stand Jvm.Free.XT Jvm.Free.ALB Jvm.Free.JM Jvm.Free
open Jvm.Lib.Cold (StaticIs)
/-- a char array whose places are chars -/
def Ch (a : Addr) (A : Cell) (U : State) : Prop := Arr .char a A U ∧ Typed .char A
theorem Ch.mv {a : Addr} {A : Cell} {U U' : State} (h : Ch a A U) (hal : U.vm.Alike U'.vm) (hh : U'.heap = U.heap) : Ch a A U' := ⟨h.1.mv hal hh, h.2⟩
theorem Ch.keep {a : Addr} {A : Cell} {U U' : State} (h : Ch a A U) (hal : U.vm.Alike U'.vm) (hk : U'.heap[a]? = some A) : Ch a A U' := ⟨h.1.keep hal hk, h.2⟩
/-- what place i of a char[]'s cell holds -/
def cv (A : Cell) (i : Nat) : Int32 := match A.slots[i]? with | some (.int x) => x | _ => 0
theorem Ch.get {a : Addr} {A : Cell} {U : State} (h : Ch a A U) {i : Nat} (hi : i < A.slots.size) : A.slots[i]? = some (.int (cv A i)) := by
  have e := Array.getElem?_eq_getElem hi
  have f := h.2 i _ e
  unfold cv; rw [e]
  generalize A.slots[i] = v at f
  cases v <;> simp [fits] at f ⊢
/-- the byte that i2b leaves of a char -/
def lo8 (x : Int32) : Int32 := x.toInt8.toInt32
theorem fits_lo8 (y : Int32) : fits .byte (.int (lo8 y)) = true := by
  have h1 := y.toInt8.le_toInt
  have h2 := y.toInt8.toInt_lt
  simp only [lo8, fits, Bool.and_eq_true, decide_eq_true_eq, Int32.le_iff_toInt_le, Int8.toInt_toInt32, show (-128 : Int32).toInt = -128 from by decide, show (127 : Int32).toInt = 127 from by decide]
  omega
/-- A' is A but that each place j of lo .. hi - 1 holds f j -/
def Laid (A A' : Cell) (lo hi : Nat) (f : Nat → Value) : Prop := A'.cls = A.cls ∧ A'.vm = A.vm ∧ A'.slots.size = A.slots.size ∧ ∀ i, A'.slots[i]? = if lo ≤ i ∧ i < hi then some (f i) else A.slots[i]?
theorem Laid.zero (A : Cell) (lo : Nat) (f : Nat → Value) : Laid A A lo (lo + 0) f := ⟨rfl, rfl, rfl, fun i => by rw [if_neg (by omega)]⟩
theorem Laid.step {A Ak : Cell} {lo k : Nat} {f : Nat → Value} {v : Value} (h : Laid A Ak lo k f) (hlo : lo ≤ k) (hk : k < Ak.slots.size) (hv : v = f k) : Laid A (Ak.setSlot k v) lo (k + 1) f := by
  refine ⟨h.1, h.2.1, by simpa [Cell.setSlot] using h.2.2.1, fun i => ?_⟩
  by_cases e : k = i
  · subst e; rw [Cell.slots_setSlot_self v hk, if_pos (by omega), hv]
  · rw [Cell.slots_setSlot_ne v e, h.2.2.2 i]
    by_cases q : lo ≤ i ∧ i < k
    · rw [if_pos q, if_pos (by omega)]
    · rw [if_neg q, if_neg (by omega)]
def U16 : String := "java/lang/StringUTF16"
namespace Cmp5
def yN : MethodName := ⟨"java/lang/StringUTF16", "compress", "([CI[BII)I"⟩
abbrev yB : ByteArray := jdk_52_method_21_code
theorem d0 : decode yB 0 = .ok (.iconst 0, 1) := by decide +kernel
theorem d1 : decode yB 1 = .ok (.istore 5, 2) := by decide +kernel
theorem d3 : decode yB 3 = .ok (.iload 5, 2) := by decide +kernel
theorem d5 : decode yB 5 = .ok (.iload 4, 2) := by decide +kernel
theorem d7 : decode yB 7 = .ok (.if_icmp (.ge) 37, 3) := by decide +kernel
theorem d10 : decode yB 10 = .ok (.aload_n 0, 1) := by decide +kernel
theorem d11 : decode yB 11 = .ok (.iload_n 1, 1) := by decide +kernel
theorem d12 : decode yB 12 = .ok (.caload, 1) := by decide +kernel
theorem d13 : decode yB 13 = .ok (.istore 6, 2) := by decide +kernel
theorem d15 : decode yB 15 = .ok (.iload 6, 2) := by decide +kernel
theorem d17 : decode yB 17 = .ok (.sipush 255, 3) := by decide +kernel
theorem d20 : decode yB 20 = .ok (.if_icmp (.le) 6, 3) := by decide +kernel
theorem d26 : decode yB 26 = .ok (.aload_n 2, 1) := by decide +kernel
theorem d27 : decode yB 27 = .ok (.iload_n 3, 1) := by decide +kernel
theorem d28 : decode yB 28 = .ok (.iload 6, 2) := by decide +kernel
theorem d30 : decode yB 30 = .ok (.i2b, 1) := by decide +kernel
theorem d31 : decode yB 31 = .ok (.bastore, 1) := by decide +kernel
theorem d32 : decode yB 32 = .ok (.iinc 1 1, 3) := by decide +kernel
theorem d35 : decode yB 35 = .ok (.iinc 3 1, 3) := by decide +kernel
theorem d38 : decode yB 38 = .ok (.iinc 5 1, 3) := by decide +kernel
theorem d41 : decode yB 41 = .ok (.goto (-38), 3) := by decide +kernel
theorem d44 : decode yB 44 = .ok (.iload 4, 2) := by decide +kernel
theorem d46 : decode yB 46 = .ok (.ireturn, 1) := by decide +kernel
def site : List Cond := []
def tab : Cond := tabOf yN yB 7 (some .int) site
def P (b : Addr) (A : Cell) (d : Addr) (B : Cell) (o q len : Nat) (args : Array Value) (s : State) : Prop := args = #[.ref b, .int (Int32.ofNat o), .ref d, .int (Int32.ofNat q), .int (Int32.ofNat len)] ∧ Ch b A s ∧ Arr .byte d B s ∧ b ≠ d ∧ o + len ≤ A.slots.size ∧ q + len ≤ B.slots.size ∧ ∀ i, i < len → ¬ 255 < cv A (o + i)
def E (b : Addr) (A : Cell) (d : Addr) (B : Cell) (o q len : Nat) (r : Option Value) (s u : State) : Prop := r = some (.int (Int32.ofNat len)) ∧ ∃ B', Put d B' s u ∧ Laid B B' q (q + len) (fun j => Value.int (lo8 (cv A (o + (j - q)))))
/-- no char of the range above 255: len; the places written hold each char's low byte -/
theorem law (l : Launch) (b : Addr) (A : Cell) (d : Addr) (B : Cell) (o q len : Nat) : Law l yN 5 5 0 0 yB 7 (some .int) site (P b A d B o q len) (E b A d B o q len) (copyLocs d q len) 0 0 := by
  refine Law.of_walk (plainFor_of_name (by decide +kernel)) (by decide +kernel) (by decide +kernel) (by decide) (fun _ _ h => by rw [h.1]; rfl) (fun _ U U' hal hh h => ⟨h.1, h.2.1.mv hal hh, h.2.2.1.mv hal hh, h.2.2.2⟩) (fun r U U' V V' h1 hal h2 h => ⟨h.1, h.2.elim fun B' q => ⟨B', q.1.mv h1 h2, q.2⟩⟩) ?_
  intro p e s m args below meth c s₁ X0 hexec hbytes hml hret hlk hnm hown hh0 W hP
  obtain ⟨rfl, hA, hB, hne, l1, l2, hp⟩ := hP
  have c1 : Steps p.tables e below (s₁.setTop (entryFrame m #[.ref b, .int (Int32.ofNat o), .ref d, .int (Int32.ofNat q), .int (Int32.ofNat len)] 7)) (s₁.setTop (mkF m 0 #[.val (.ref b), .val (.int (Int32.ofNat o)), .val (.ref d), .val (.int (Int32.ofNat q)), .val (.int (Int32.ofNat len)), .unset, .unset] [])) := entry rfl
  have hA0 := hA.1.mv X0.warmed.alike hh0
  have hB0 := hB.mv X0.warmed.alike hh0
  have a31 := hA.1.2.2.2
  have c2 : Steps p.tables e below (s₁.setTop (entryFrame m #[.ref b, .int (Int32.ofNat o), .ref d, .int (Int32.ofNat q), .int (Int32.ofNat len)] 7)) (s₁.setTop (mkF m 3 #[.val (.ref b), .val (.int (Int32.ofNat o)), .val (.ref d), .val (.int (Int32.ofNat q)), .val (.int (Int32.ofNat len)), .val (.int 0), .unset] [])) := c1.trans (by
    refine iconstV X0.here hexec rfl 0 (hb hbytes d0) (by decide) ?_
    refine XS.istore X0.here hexec rfl (hb hbytes d1) rfl rfl ?_
    exact Steps.refl _)
  have loop : ∀ (r i : Nat), i + r = len → ∀ (z : Slot), (z = .unset ∨ ∃ w, z = .val w ∧ w.category = 1) → ∀ (Tl : State) (Bk : Cell), Stand p l e { frames := 0, locals := 0, cells := 0, slots := 0 } s m #[.ref b, .int (Int32.ofNat o), .ref d, .int (Int32.ofNat q), .int (Int32.ofNat len)] below meth c Tl ([] ++ copyLocs d q i) 0 0 → Put d Bk s₁ Tl → Laid B Bk q (q + i) (fun j => Value.int (lo8 (cv A (o + (j - q))))) →
      Steps p.tables e below (s₁.setTop (entryFrame m #[.ref b, .int (Int32.ofNat o), .ref d, .int (Int32.ofNat q), .int (Int32.ofNat len)] 7)) (Tl.setTop (mkF m 3 #[.val (.ref b), .val (.int (Int32.ofNat (o + i))), .val (.ref d), .val (.int (Int32.ofNat (q + i))), .val (.int (Int32.ofNat len)), .val (.int (Int32.ofNat i)), z] [])) → ∃ (T' : State) (B' : Cell) (z' : Slot), Stand p l e { frames := 0, locals := 0, cells := 0, slots := 0 } s m #[.ref b, .int (Int32.ofNat o), .ref d, .int (Int32.ofNat q), .int (Int32.ofNat len)] below meth c T' ([] ++ copyLocs d q len) 0 0 ∧ Put d B' s₁ T' ∧ Laid B B' q (q + len) (fun j => Value.int (lo8 (cv A (o + (j - q))))) ∧
      Steps p.tables e below (s₁.setTop (entryFrame m #[.ref b, .int (Int32.ofNat o), .ref d, .int (Int32.ofNat q), .int (Int32.ofNat len)] 7)) (T'.setTop (mkF m 3 #[.val (.ref b), .val (.int (Int32.ofNat (o + len))), .val (.ref d), .val (.int (Int32.ofNat (q + len))), .val (.int (Int32.ofNat len)), .val (.int (Int32.ofNat len)), z'] [])) := by
    intro r
    induction r with
    | zero =>
      intro i hi z hz Tl Bk Xl pl fl cl
      have hil : i = len := by omega
      rw [hil] at Xl fl cl
      exact ⟨Tl, Bk, z, Xl, pl, fl, cl⟩
    | succ r ih =>
      intro i hi z hz Tl Bk Xl pl fl cl
      have all := X0.warmed.alike.symm.trans Xl.warmed.alike
      have hAl := hA0.keep all (pl.other hne hA0.1)
      have hBk := hB0.like all pl.1 fl.1 fl.2.1 fl.2.2.1
      have hlt : q + i < Bk.slots.size := by rw [fl.2.2.1]; omega
      have c3 : Steps p.tables e below (s₁.setTop (entryFrame m #[.ref b, .int (Int32.ofNat o), .ref d, .int (Int32.ofNat q), .int (Int32.ofNat len)] 7)) (Tl.setTop (mkF m 12 #[.val (.ref b), .val (.int (Int32.ofNat (o + i))), .val (.ref d), .val (.int (Int32.ofNat (q + i))), .val (.int (Int32.ofNat len)), .val (.int (Int32.ofNat i)), z] [.int (Int32.ofNat (o + i)), .ref b])) := cl.trans (by
        refine XS.iload Xl.here hexec rfl (hb hbytes d3) rfl ?_
        refine XS.iload Xl.here hexec rfl (hb hbytes d5) rfl ?_
        refine XS.icmpNo Xl.here hexec rfl (hb hbytes d7) rfl (ii_ge_f (lt32 (by omega) (by omega))) ?_
        refine XS.aloadN Xl.here hexec rfl (hb hbytes d10) rfl rfl ?_
        refine XS.iloadN Xl.here hexec rfl (hb hbytes d11) rfl ?_
        exact Steps.refl _)
      have c4 : Steps p.tables e below (s₁.setTop (entryFrame m #[.ref b, .int (Int32.ofNat o), .ref d, .int (Int32.ofNat q), .int (Int32.ofNat len)] 7)) (Tl.setTop (mkF m 13 #[.val (.ref b), .val (.int (Int32.ofNat (o + i))), .val (.ref d), .val (.int (Int32.ofNat (q + i))), .val (.int (Int32.ofNat len)), .val (.int (Int32.ofNat i)), z] [.int (cv A (o + i))])) := c3.trans (by
        refine Xl.aget hexec hAl rfl (hA.get (i := o + i) (by omega)) rfl rfl (hb hbytes d12) ?_
        exact Steps.refl _)
      have c5 : Steps p.tables e below (s₁.setTop (entryFrame m #[.ref b, .int (Int32.ofNat o), .ref d, .int (Int32.ofNat q), .int (Int32.ofNat len)] 7)) (Tl.setTop (mkF m 15 #[.val (.ref b), .val (.int (Int32.ofNat (o + i))), .val (.ref d), .val (.int (Int32.ofNat (q + i))), .val (.int (Int32.ofNat len)), .val (.int (Int32.ofNat i)), .val (.int (cv A (o + i)))] [])) := c4.trans (by
        refine XS.istoreS Xl.here hexec rfl (hb hbytes d13) rfl rfl hz ?_
        exact Steps.refl _)
      have c6 : Steps p.tables e below (s₁.setTop (entryFrame m #[.ref b, .int (Int32.ofNat o), .ref d, .int (Int32.ofNat q), .int (Int32.ofNat len)] 7)) (Tl.setTop (mkF m 31 #[.val (.ref b), .val (.int (Int32.ofNat (o + i))), .val (.ref d), .val (.int (Int32.ofNat (q + i))), .val (.int (Int32.ofNat len)), .val (.int (Int32.ofNat i)), .val (.int (cv A (o + i)))] [.int (lo8 (cv A (o + i))), .int (Int32.ofNat (q + i)), .ref d])) := c5.trans (by
        refine XS.iload Xl.here hexec rfl (hb hbytes d15) rfl ?_
        refine sipushV Xl.here hexec rfl 255 (hb hbytes d17) (by decide) ?_
        refine XS.icmpYes Xl.here hexec rfl (pc0 := 20) rfl (hb hbytes d20) rfl (ii_le_t (hp i (by omega))) (by decide) rfl ?_
        refine XS.aloadN Xl.here hexec rfl (hb hbytes d26) rfl rfl ?_
        refine XS.iloadN Xl.here hexec rfl (hb hbytes d27) rfl ?_
        refine XS.iload Xl.here hexec rfl (hb hbytes d28) rfl ?_
        refine i2b Xl.here hexec rfl (hb hbytes d30) rfl ?_
        exact Steps.refl _)
      obtain ⟨T7, X7, p7, st7⟩ := Xl.aput hexec hBk rfl hlt rfl (fits_lo8 (cv A (o + i))) (g := (mkF m 31 #[.val (.ref b), .val (.int (Int32.ofNat (o + i))), .val (.ref d), .val (.int (Int32.ofNat (q + i))), .val (.int (Int32.ofNat len)), .val (.int (Int32.ofNat i)), .val (.int (cv A (o + i)))] [.int (lo8 (cv A (o + i))), .int (Int32.ofNat (q + i)), .ref d])) rfl (rest := []) rfl (hb hbytes d31)
      have c8 : Steps p.tables e below (s₁.setTop (entryFrame m #[.ref b, .int (Int32.ofNat o), .ref d, .int (Int32.ofNat q), .int (Int32.ofNat len)] 7)) (T7.setTop (mkF m 32 #[.val (.ref b), .val (.int (Int32.ofNat (o + i))), .val (.ref d), .val (.int (Int32.ofNat (q + i))), .val (.int (Int32.ofNat len)), .val (.int (Int32.ofNat i)), .val (.int (cv A (o + i)))] [])) := c6.trans (st7 _ (Steps.refl _))
      have c9 : Steps p.tables e below (s₁.setTop (entryFrame m #[.ref b, .int (Int32.ofNat o), .ref d, .int (Int32.ofNat q), .int (Int32.ofNat len)] 7)) (T7.setTop (mkF m 3 #[.val (.ref b), .val (.int (Int32.ofNat (o + i) + 1)), .val (.ref d), .val (.int (Int32.ofNat (q + i) + 1)), .val (.int (Int32.ofNat len)), .val (.int (Int32.ofNat i + 1)), .val (.int (cv A (o + i)))] [])) := c8.trans (by
        refine iincV X7.here hexec rfl 1 (hb hbytes d32) (by decide) rfl rfl ?_
        refine iincV X7.here hexec rfl 1 (hb hbytes d35) (by decide) rfl rfl ?_
        refine iincV X7.here hexec rfl 1 (hb hbytes d38) (by decide) rfl rfl ?_
        refine XS.goto X7.here hexec rfl (pc0 := 41) rfl (hb hbytes d41) (by decide) rfl ?_
        exact Steps.refl _)
      have c10 : Steps p.tables e below (s₁.setTop (entryFrame m #[.ref b, .int (Int32.ofNat o), .ref d, .int (Int32.ofNat q), .int (Int32.ofNat len)] 7)) (T7.setTop (mkF m 3 #[.val (.ref b), .val (.int (Int32.ofNat (o + (i + 1)))), .val (.ref d), .val (.int (Int32.ofNat (q + (i + 1)))), .val (.int (Int32.ofNat len)), .val (.int (Int32.ofNat (i + 1))), .val (.int (cv A (o + i)))] [])) := by
        have := c9
        rw [succ32, succ32, succ32] at this
        exact this
      exact ih (i + 1) (by omega) _ (Or.inr ⟨_, rfl, rfl⟩) T7 _ (by rw [copyLocs_step, ← List.append_assoc]; exact X7) (pl.trans p7) (fl.step (by omega) hlt (by simp)) c10
  obtain ⟨T9, B9, z9, X9, p9, f9, g9⟩ := loop len 0 (by omega) .unset (Or.inl rfl) s₁ B (by simpa [copyLocs] using X0) ⟨hB0.1, fun _ _ => rfl, rfl⟩ (Laid.zero _ _ _) c2
  have c11 : Steps p.tables e below (s₁.setTop (entryFrame m #[.ref b, .int (Int32.ofNat o), .ref d, .int (Int32.ofNat q), .int (Int32.ofNat len)] 7)) (T9.setTop (mkF m 46 #[.val (.ref b), .val (.int (Int32.ofNat (o + len))), .val (.ref d), .val (.int (Int32.ofNat (q + len))), .val (.int (Int32.ofNat len)), .val (.int (Int32.ofNat len)), z9] [.int (Int32.ofNat len)])) := g9.trans (by
    refine XS.iload X9.here hexec rfl (hb hbytes d3) rfl ?_
    refine XS.iload X9.here hexec rfl (hb hbytes d5) rfl ?_
    refine XS.icmpYes X9.here hexec rfl (pc0 := 7) rfl (hb hbytes d7) rfl (ii_ge_t (nlt32 (by omega) (Nat.le_refl _))) (by decide) rfl ?_
    refine XS.iload X9.here hexec rfl (hb hbytes d44) rfl ?_
    exact Steps.refl _)
  exact ⟨T9, some (.int (Int32.ofNat len)), _, _, _, X9, by simp, rfl, rfl, (fun h => by cases h), ⟨rfl, B9, p9.from hh0, f9⟩, fun fs hl => c11.trans (X9.ireturnOut hexec hret rfl (Or.inl rfl) (hb hbytes d46) hl)⟩
end Cmp5
namespace Cmp3
def yN : MethodName := ⟨"java/lang/StringUTF16", "compress", "([CII)[B"⟩
abbrev yB : ByteArray := jdk_52_method_16_code
theorem d0 : decode yB 0 = .ok (.iload_n 2, 1) := by decide +kernel
theorem d1 : decode yB 1 = .ok (.newarray .byte, 2) := by decide +kernel
theorem d3 : decode yB 3 = .ok (.astore_n 3, 1) := by decide +kernel
theorem d4 : decode yB 4 = .ok (.aload_n 0, 1) := by decide +kernel
theorem d5 : decode yB 5 = .ok (.iload_n 1, 1) := by decide +kernel
theorem d6 : decode yB 6 = .ok (.aload_n 3, 1) := by decide +kernel
theorem d7 : decode yB 7 = .ok (.iconst 0, 1) := by decide +kernel
theorem d8 : decode yB 8 = .ok (.iload_n 2, 1) := by decide +kernel
theorem d9 : decode yB 9 = .ok (.invokestatic 115, 3) := by decide +kernel
theorem d12 : decode yB 12 = .ok (.istore 4, 2) := by decide +kernel
theorem d14 : decode yB 14 = .ok (.iload 4, 2) := by decide +kernel
theorem d16 : decode yB 16 = .ok (.iload_n 2, 1) := by decide +kernel
theorem d17 : decode yB 17 = .ok (.if_icmp (.eq) 40, 3) := by decide +kernel
theorem d57 : decode yB 57 = .ok (.aload_n 3, 1) := by decide +kernel
theorem d58 : decode yB 58 = .ok (.areturn, 1) := by decide +kernel
def site : List Cond := [.arrayClass .byte, Cmp5.tab] ++ staticW U16 115 Cmp5.yN
def tab : Cond := tabOf yN yB 6 (some (.array .byte)) site
def P (b : Addr) (A : Cell) (o len : Nat) (args : Array Value) (s : State) : Prop := args = #[.ref b, .int (Int32.ofNat o), .int (Int32.ofNat len)] ∧ Ch b A s ∧ o + len ≤ A.slots.size ∧ len ≤ 536870912 ∧ ∀ i, i < len → ¬ 255 < cv A (o + i)
def E (b : Addr) (A : Cell) (o len : Nat) (r : Option Value) (s u : State) : Prop := NewArr .byte "[B" len (fun j => .int (lo8 (cv A (o + j)))) r s u ∧ u.heap.size = s.heap.size + 1
/-- no char of the range above 255: a new byte[] of their low bytes -/
theorem law (l : Launch) (b : Addr) (A : Cell) (o len : Nat) : Law l yN 3 3 1 18 yB 6 (some (.array .byte)) site (P b A o len) (E b A o len) [] 1 len := by
  refine Law.of_walk (plainFor_of_name (by decide +kernel)) (by decide +kernel) (by decide +kernel) (by decide) (fun _ _ h => by rw [h.1]; rfl) (fun _ U U' hal hh h => ⟨h.1, h.2.1.mv hal hh, h.2.2⟩) (fun r U U' V V' h1 hal h2 h => ⟨NewArr.mv r U U' V V' h1 hal h2 h.1, by rw [h1, h2]; exact h.2⟩) ?_
  intro p e s m args below meth c s₁ X0 hexec hbytes hml hret hlk hnm hown hh0 W hP
  obtain ⟨rfl, hA, l1, l2, hp⟩ := hP
  have a31 := hA.1.2.2.2
  have c1 : Steps p.tables e below (s₁.setTop (entryFrame m #[.ref b, .int (Int32.ofNat o), .int (Int32.ofNat len)] 6)) (s₁.setTop (mkF m 0 #[.val (.ref b), .val (.int (Int32.ofNat o)), .val (.int (Int32.ofNat len)), .unset, .unset, .unset] [])) := entry rfl
  have c2 : Steps p.tables e below (s₁.setTop (entryFrame m #[.ref b, .int (Int32.ofNat o), .int (Int32.ofNat len)] 6)) (s₁.setTop (mkF m 1 #[.val (.ref b), .val (.int (Int32.ofNat o)), .val (.int (Int32.ofNat len)), .unset, .unset, .unset] [.int (Int32.ofNat len)])) := c1.trans (by
    refine XS.iloadN X0.here hexec rfl (hb hbytes d0) rfl ?_
    exact Steps.refl _)
  obtain ⟨T3, B3, X3, ba3, bs3, bv3, bh3, bf3, st3⟩ := X0.anew hexec (atype := .byte) (wk W (.arrayClass .byte)) rfl (by show len * 1 ≤ _; omega) (by omega) (g := (mkF m 1 #[.val (.ref b), .val (.int (Int32.ofNat o)), .val (.int (Int32.ofNat len)), .unset, .unset, .unset] [.int (Int32.ofNat len)])) rfl (hb hbytes d1) (rest := []) rfl (Nat.le_refl _) (by show 0 + len ≤ len; omega)
  rw [hh0] at ba3 st3
  have kp3 : XT.Kept s T3 := (XT.Kept.of_eq hh0).push bh3
  have hA3 := hA.keep X3.warmed.alike (kp3 _ _ hA.1.1)
  have hne : b ≠ s.heap.size := hA.1.ne
  have c4 : Steps p.tables e below (s₁.setTop (entryFrame m #[.ref b, .int (Int32.ofNat o), .int (Int32.ofNat len)] 6)) (T3.setTop (mkF m 3 #[.val (.ref b), .val (.int (Int32.ofNat o)), .val (.int (Int32.ofNat len)), .unset, .unset, .unset] [.ref s.heap.size])) := c2.trans (st3 _ (Steps.refl _))
  have c5 : Steps p.tables e below (s₁.setTop (entryFrame m #[.ref b, .int (Int32.ofNat o), .int (Int32.ofNat len)] 6)) (T3.setTop (mkF m 9 #[.val (.ref b), .val (.int (Int32.ofNat o)), .val (.int (Int32.ofNat len)), .val (.ref s.heap.size), .unset, .unset] [.int (Int32.ofNat len), .int 0, .ref s.heap.size, .int (Int32.ofNat o), .ref b])) := c4.trans (by
    refine XS.astoreN X3.here hexec rfl (hb hbytes d3) rfl rfl rfl ?_
    refine XS.aloadN X3.here hexec rfl (hb hbytes d4) rfl rfl ?_
    refine XS.iloadN X3.here hexec rfl (hb hbytes d5) rfl ?_
    refine XS.aloadN X3.here hexec rfl (hb hbytes d6) rfl rfl ?_
    refine iconstV X3.here hexec rfl 0 (hb hbytes d7) (by decide) ?_
    refine XS.iloadN X3.here hexec rfl (hb hbytes d8) rfl ?_
    exact Steps.refl _)
  obtain ⟨v6, T6, X6, E6, g6⟩ := X3.callS hexec (Cmp5.law l b A s.heap.size B3 o 0 len) hown (wks W (staticW U16 115 Cmp5.yN)) (wk W Cmp5.tab) (W := 0) (Nat.le_of_ble_eq_true rfl) (Nat.le_of_ble_eq_true rfl) (Nat.le_refl _) (by show 0 + len + 0 ≤ len; omega) (g := (mkF m 9 #[.val (.ref b), .val (.int (Int32.ofNat o)), .val (.int (Int32.ofNat len)), .val (.ref s.heap.size), .unset, .unset] [.int (Int32.ofNat len), .int (Int32.ofNat 0), .ref s.heap.size, .int (Int32.ofNat o), .ref b])) rfl (by rw [hml]; rfl) c5 (argsL := [.ref b, .int (Int32.ofNat o), .ref s.heap.size, .int (Int32.ofNat 0), .int (Int32.ofNat len)]) (rest := []) rfl rfl (by show 2 * 0 + 0 ≤ _; decide) (hb hbytes d9) (⟨rfl, hA3, ba3, hne, l1, by rw [bs3]; simp, hp⟩)
  obtain ⟨rfl, B6, p6, f6⟩ := E6
  have c7 : Steps p.tables e below (s₁.setTop (entryFrame m #[.ref b, .int (Int32.ofNat o), .int (Int32.ofNat len)] 6)) (T6.setTop (mkF m 12 #[.val (.ref b), .val (.int (Int32.ofNat o)), .val (.int (Int32.ofNat len)), .val (.ref s.heap.size), .unset, .unset] [.int (Int32.ofNat len)])) := g6
  have c8 : Steps p.tables e below (s₁.setTop (entryFrame m #[.ref b, .int (Int32.ofNat o), .int (Int32.ofNat len)] 6)) (T6.setTop (mkF m 58 #[.val (.ref b), .val (.int (Int32.ofNat o)), .val (.int (Int32.ofNat len)), .val (.ref s.heap.size), .val (.int (Int32.ofNat len)), .unset] [.ref s.heap.size])) := c7.trans (by
    refine XS.istore X6.here hexec rfl (hb hbytes d12) rfl rfl ?_
    refine XS.iload X6.here hexec rfl (hb hbytes d14) rfl ?_
    refine XS.iloadN X6.here hexec rfl (hb hbytes d16) rfl ?_
    refine XS.icmpYes X6.here hexec rfl (pc0 := 17) rfl (hb hbytes d17) rfl (ii_eq_t rfl) (by decide) rfl ?_
    refine XS.aloadN X6.here hexec rfl (hb hbytes d57) rfl rfl ?_
    exact Steps.refl _)
  have X8 := X6.wide (L' := []) (cells' := 1) (slots' := len) (fun x hx hlt => by
    simp only [List.nil_append, copyLocs, List.mem_map, List.mem_range] at hx
    obtain ⟨i, -, rfl⟩ := hx
    exact absurd hlt (Nat.lt_irrefl _)) (Nat.le_refl _) (by omega)
  exact ⟨T6, some (.ref s.heap.size), _, _, _, X8, rfl, rfl, rfl, (fun h => by cases h), ⟨⟨rfl, B6, ba3.like (X3.warmed.alike.symm.trans X6.warmed.alike) p6.1 f6.1 f6.2.1 f6.2.2.1, f6.2.1.trans bv3, by rw [X6.warmed.alike.findClass, f6.1]; exact bf3, by rw [f6.2.2.1, bs3]; simp, fun j hj => by rw [f6.2.2.2 j, if_pos (by omega)]; rfl, kp3.put p6 (Nat.le_refl _)⟩, by rw [p6.2.2, bh3, hh0]; simp⟩, fun fs hl => c8.trans (X8.areturnOut hexec rfl hret rfl (hb hbytes d58) hl)⟩
end Cmp3
namespace CodL
def yN : MethodName := ⟨"java/lang/StringUTF16", "coderFromArrayLen", "([BI)B"⟩
abbrev yB : ByteArray := jdk_52_method_15_code
theorem d0 : decode yB 0 = .ok (.iload_n 1, 1) := by decide +kernel
theorem d1 : decode yB 1 = .ok (.aload_n 0, 1) := by decide +kernel
theorem d2 : decode yB 2 = .ok (.arraylength, 1) := by decide +kernel
theorem d3 : decode yB 3 = .ok (.isub, 1) := by decide +kernel
theorem d4 : decode yB 4 = .ok (.bipush 31, 2) := by decide +kernel
theorem d6 : decode yB 6 = .ok (.iushr, 1) := by decide +kernel
theorem d7 : decode yB 7 = .ok (.i2b, 1) := by decide +kernel
theorem d8 : decode yB 8 = .ok (.ireturn, 1) := by decide +kernel
def site : List Cond := []
def tab : Cond := tabOf yN yB 2 (some .byte) site
def P (d : Addr) (B : Cell) (args : Array Value) (s : State) : Prop := args = #[.ref d, .int (Int32.ofNat B.slots.size)] ∧ Arr .byte d B s
def E (r : Option Value) (s u : State) : Prop := XT.PureE (some (.int 0)) r s u
/-- an array as long as the number of chars: LATIN1 -/
theorem law (l : Launch) (d : Addr) (B : Cell) : Law l yN 2 2 0 0 yB 2 (some .byte) site (P d B) E [] 0 0 := by
  refine Law.of_walk (plainFor_of_name (by decide +kernel)) (by decide +kernel) (by decide +kernel) (by decide) (fun _ _ h => by rw [h.1]; rfl) (fun _ U U' hal hh h => ⟨h.1, h.2.mv hal hh⟩) (fun r U U' V V' h1 hal h2 h => XT.PureE.mv r U U' V V' h1 hal h2 h) ?_
  intro p e s m args below meth c s₁ X0 hexec hbytes hml hret hlk hnm hown hh0 W hP
  obtain ⟨rfl, hB⟩ := hP
  have hB0 := hB.mv X0.warmed.alike hh0
  have c1 : Steps p.tables e below (s₁.setTop (entryFrame m #[.ref d, .int (Int32.ofNat B.slots.size)] 2)) (s₁.setTop (mkF m 0 #[.val (.ref d), .val (.int (Int32.ofNat B.slots.size))] [])) := entry rfl
  have c2 : Steps p.tables e below (s₁.setTop (entryFrame m #[.ref d, .int (Int32.ofNat B.slots.size)] 2)) (s₁.setTop (mkF m 2 #[.val (.ref d), .val (.int (Int32.ofNat B.slots.size))] [.ref d, .int (Int32.ofNat B.slots.size)])) := c1.trans (by
    refine XS.iloadN X0.here hexec rfl (hb hbytes d0) rfl ?_
    refine XS.aloadN X0.here hexec rfl (hb hbytes d1) rfl rfl ?_
    exact Steps.refl _)
  have c3 : Steps p.tables e below (s₁.setTop (entryFrame m #[.ref d, .int (Int32.ofNat B.slots.size)] 2)) (s₁.setTop (mkF m 8 #[.val (.ref d), .val (.int (Int32.ofNat B.slots.size))] [.int (lo8 (ushr (Int32.ofNat B.slots.size - Int32.ofNat B.slots.size) 31))])) := c2.trans (by
    refine X0.alen hexec hB0 rfl rfl (hb hbytes d2) ?_
    refine XS.isub X0.here hexec rfl (hb hbytes d3) rfl ?_
    refine bipushV X0.here hexec rfl 31 (hb hbytes d4) (by decide) ?_
    refine iushr X0.here hexec rfl (hb hbytes d6) rfl ?_
    refine i2b X0.here hexec rfl (hb hbytes d7) rfl ?_
    exact Steps.refl _)
  have e0 : lo8 (ushr (Int32.ofNat B.slots.size - Int32.ofNat B.slots.size) 31) = 0 := by rw [Int32.sub_self]; decide
  rw [e0] at c3
  exact ⟨s₁, some (.int 0), _, _, _, X0, rfl, rfl, rfl, (fun h => by cases h), ⟨rfl, hh0⟩, fun fs hl => c3.trans (X0.ireturnOut hexec hret rfl (Or.inr (Or.inr (Or.inl rfl))) (hb hbytes d8) hl)⟩
end CodL
/-- the String at a is Latin-1 over a new byte[] (the heap's one new cell): the low bytes of the len chars of A from o on; every cell but a is kept -/
def Got (a : Addr) (D : Cell) (fV fC : Field) (A : Cell) (o len : Nat) (r : Option Value) (s u : State) : Prop := r = none ∧ ∃ D' V : Cell, Blank "java/lang/String" a D' u ∧ Same D D' [fV.slot, fC.slot] ∧ D'.slots[fV.slot]? = some (.ref s.heap.size) ∧ D'.slots[fC.slot]? = some (.int 0) ∧ Arr .byte s.heap.size V u ∧ V.vm = .none ∧ u.vm.findClass "[B" = some V.cls ∧ V.slots.size = len ∧ (∀ j, j < len → V.slots[j]? = some (.int (lo8 (cv A (o + j))))) ∧ (∀ (y : Addr) (c : Cell), y ≠ a → s.heap[y]? = some c → u.heap[y]? = some c) ∧ u.heap.size = s.heap.size + 1
theorem Got.mv {a : Addr} {D A : Cell} {fV fC : Field} {o len : Nat} : ∀ r (U U' V V' : State), U'.heap = U.heap → V.vm.Alike V'.vm → V'.heap = V.heap → Got a D fV fC A o len r U V → Got a D fV fC A o len r U' V' :=
  fun r U U' V V' h1 hal h2 ⟨e0, D', X, a1, a2, a3, a4, a5, a6, a7, a8, a9, a10, a11⟩ => ⟨e0, D', X, a1.mv hal h2, a2, by rw [h1]; exact a3, a4, by rw [h1]; exact a5.mv hal h2, a6, by rw [hal.findClass]; exact a7, a8, a9, by rw [h1, h2]; exact a10, by rw [h1, h2]; exact a11⟩
namespace New4
def yN : MethodName := ⟨"java/lang/String", "<init>", "([CIILjava/lang/Void;)V"⟩
abbrev yB : ByteArray := jdk_42_method_149_code
theorem d0 : decode yB 0 = .ok (.aload_n 0, 1) := by decide +kernel
theorem d1 : decode yB 1 = .ok (.invokespecial 1, 3) := by decide +kernel
theorem d4 : decode yB 4 = .ok (.iload_n 3, 1) := by decide +kernel
theorem d5 : decode yB 5 = .ok (.ifCond (.ne) 22, 3) := by decide +kernel
theorem d27 : decode yB 27 = .ok (.getstatic 38, 3) := by decide +kernel
theorem d30 : decode yB 30 = .ok (.ifCond (.eq) 28, 3) := by decide +kernel
theorem d33 : decode yB 33 = .ok (.aload_n 1, 1) := by decide +kernel
theorem d34 : decode yB 34 = .ok (.iload_n 2, 1) := by decide +kernel
theorem d35 : decode yB 35 = .ok (.iload_n 3, 1) := by decide +kernel
theorem d36 : decode yB 36 = .ok (.invokestatic 177, 3) := by decide +kernel
theorem d39 : decode yB 39 = .ok (.astore 5, 2) := by decide +kernel
theorem d41 : decode yB 41 = .ok (.aload_n 0, 1) := by decide +kernel
theorem d42 : decode yB 42 = .ok (.aload 5, 2) := by decide +kernel
theorem d44 : decode yB 44 = .ok (.iload_n 3, 1) := by decide +kernel
theorem d45 : decode yB 45 = .ok (.invokestatic 47, 3) := by decide +kernel
theorem d48 : decode yB 48 = .ok (.putfield 15, 3) := by decide +kernel
theorem d51 : decode yB 51 = .ok (.aload_n 0, 1) := by decide +kernel
theorem d52 : decode yB 52 = .ok (.aload 5, 2) := by decide +kernel
theorem d54 : decode yB 54 = .ok (.putfield 9, 3) := by decide +kernel
theorem d57 : decode yB 57 = .ok (.return_, 1) := by decide +kernel
def site : List Cond := [.fieldLink "java/lang/String" 38 "java/lang/String" "COMPACT_STRINGS" "Z", Cmp3.tab, CodL.tab, .laysFinal "java/lang/String" "java/lang/String" "value" "[B", .fieldLink "java/lang/String" 9 "java/lang/String" "value" "[B", .laysFinal "java/lang/String" "java/lang/String" "coder" "B", .fieldLink "java/lang/String" 15 "java/lang/String" "coder" "B"] ++ objW "java/lang/String" 1 ++ staticW "java/lang/String" 177 Cmp3.yN ++ staticW "java/lang/String" 47 CodL.yN
def tab : Cond := tabOf yN yB 6 none site
def P (a : Addr) (D : Cell) (fV fC : Field) (b : Addr) (A : Cell) (z : Int32) (o len : Nat) (args : Array Value) (s : State) : Prop := args = #[.ref a, .ref b, .int (Int32.ofNat o), .int (Int32.ofNat len), .null] ∧ Blank "java/lang/String" a D s ∧ Found "java/lang/String" "value" "[B" fV s ∧ Found "java/lang/String" "coder" "B" fC s ∧ Ch b A s ∧ StaticIs s "java/lang/String" "COMPACT_STRINGS" "Z" (.int z) ∧ ¬ z = 0 ∧ 0 < len ∧ o + len ≤ A.slots.size ∧ len ≤ 536870912 ∧ ∀ i, i < len → ¬ 255 < cv A (o + i)
def E (a : Addr) (D : Cell) (fV fC : Field) (A : Cell) (o len : Nat) (r : Option Value) (s u : State) : Prop := Got a D fV fC A o len r s u
/-- len > 0, no char of the range above 255: a Latin-1 String of their low bytes -/
theorem law (l : Launch) (a : Addr) (D : Cell) (fV fC : Field) (b : Addr) (A : Cell) (z : Int32) (o len : Nat) : Law l yN 5 4 2 35 yB 6 none site (P a D fV fC b A z o len) (E a D fV fC A o len) [⟨a, fC.slot⟩, ⟨a, fV.slot⟩] 1 len := by
  refine Law.of_walk (plainFor_of_name (by decide +kernel)) (by decide +kernel) (by decide +kernel) (by decide) (fun _ _ h => by rw [h.1]; rfl) (fun _ U U' hal hh h => ⟨h.1, h.2.1.mv hal hh, h.2.2.1.al hal, h.2.2.2.1.al hal, h.2.2.2.2.1.mv hal hh, h.2.2.2.2.2.1.there hal hh, h.2.2.2.2.2.2⟩) (fun r U U' V V' h1 hal h2 h => Got.mv r U U' V V' h1 hal h2 h) ?_
  intro p e s m args below meth c s₁ X0 hexec hbytes hml hret hlk hnm hown hh0 W hP
  obtain ⟨rfl, hB, f1, f2, hA, s1, hz, l0, l1, l2, hp⟩ := hP
  have a31 := hA.1.2.2.2
  have c1 : Steps p.tables e below (s₁.setTop (entryFrame m #[.ref a, .ref b, .int (Int32.ofNat o), .int (Int32.ofNat len), .null] 6)) (s₁.setTop (mkF m 0 #[.val (.ref a), .val (.ref b), .val (.int (Int32.ofNat o)), .val (.int (Int32.ofNat len)), .val .null, .unset] [])) := entry rfl
  have c2 : Steps p.tables e below (s₁.setTop (entryFrame m #[.ref a, .ref b, .int (Int32.ofNat o), .int (Int32.ofNat len), .null] 6)) (s₁.setTop (mkF m 1 #[.val (.ref a), .val (.ref b), .val (.int (Int32.ofNat o)), .val (.int (Int32.ofNat len)), .val .null, .unset] [.ref a])) := c1.trans (by
    refine XS.aloadN X0.here hexec rfl (hb hbytes d0) rfl rfl ?_
    exact Steps.refl _)
  obtain ⟨T3, X3, q3, st3⟩ := X0.oinit hexec hown (wks W (objW "java/lang/String" 1)) (g := (mkF m 1 #[.val (.ref a), .val (.ref b), .val (.int (Int32.ofNat o)), .val (.int (Int32.ofNat len)), .val .null, .unset] [.ref a])) rfl (by rw [hml]; rfl) (rest := []) rfl (hb hbytes d1) (W := 0) (by show 2 * 0 + 0 ≤ _; decide) (Nat.le_of_ble_eq_true rfl) (Nat.le_of_ble_eq_true rfl)
  have hh3 := q3.trans hh0
  have c4 : Steps p.tables e below (s₁.setTop (entryFrame m #[.ref a, .ref b, .int (Int32.ofNat o), .int (Int32.ofNat len), .null] 6)) (T3.setTop (mkF m 27 #[.val (.ref a), .val (.ref b), .val (.int (Int32.ofNat o)), .val (.int (Int32.ofNat len)), .val .null, .unset] [])) := (c2.trans (st3 _ (Steps.refl _))).trans (by
    refine XS.iloadN X3.here hexec rfl (hb hbytes d4) rfl ?_
    refine XS.ifYes X3.here hexec rfl (pc0 := 5) rfl (hb hbytes d5) rfl (i0_ne_t (nz32 (by omega) l0)) (by decide) rfl ?_
    exact Steps.refl _)
  obtain ⟨T5, X5, q5, st5⟩ := X3.sget hexec hown (wk W (.fieldLink "java/lang/String" 38 "java/lang/String" "COMPACT_STRINGS" "Z")) s1 (fun _ _ h => by rw [hh3]; exact h) (g := (mkF m 27 #[.val (.ref a), .val (.ref b), .val (.int (Int32.ofNat o)), .val (.int (Int32.ofNat len)), .val .null, .unset] [])) rfl (hb hbytes d27)
  have hh5 := q5.trans hh3
  have c6 : Steps p.tables e below (s₁.setTop (entryFrame m #[.ref a, .ref b, .int (Int32.ofNat o), .int (Int32.ofNat len), .null] 6)) (T5.setTop (mkF m 30 #[.val (.ref a), .val (.ref b), .val (.int (Int32.ofNat o)), .val (.int (Int32.ofNat len)), .val .null, .unset] [.int z])) := c4.trans (st5 _ (Steps.refl _))
  have c7 : Steps p.tables e below (s₁.setTop (entryFrame m #[.ref a, .ref b, .int (Int32.ofNat o), .int (Int32.ofNat len), .null] 6)) (T5.setTop (mkF m 36 #[.val (.ref a), .val (.ref b), .val (.int (Int32.ofNat o)), .val (.int (Int32.ofNat len)), .val .null, .unset] [.int (Int32.ofNat len), .int (Int32.ofNat o), .ref b])) := c6.trans (by
    refine XS.ifNo X5.here hexec rfl (hb hbytes d30) rfl (i0_eq_f hz) ?_
    refine XS.aloadN X5.here hexec rfl (hb hbytes d33) rfl rfl ?_
    refine XS.iloadN X5.here hexec rfl (hb hbytes d34) rfl ?_
    refine XS.iloadN X5.here hexec rfl (hb hbytes d35) rfl ?_
    exact Steps.refl _)
  obtain ⟨v8, T8, X8, E8, g8⟩ := X5.callS hexec (Cmp3.law l b A o len) hown (wks W (staticW "java/lang/String" 177 Cmp3.yN)) (wk W Cmp3.tab) (W := 0) (Nat.le_of_ble_eq_true rfl) (Nat.le_of_ble_eq_true rfl) (Nat.le_refl _) (by show 0 + len ≤ len; omega) (g := (mkF m 36 #[.val (.ref a), .val (.ref b), .val (.int (Int32.ofNat o)), .val (.int (Int32.ofNat len)), .val .null, .unset] [.int (Int32.ofNat len), .int (Int32.ofNat o), .ref b])) rfl (by rw [hml]; rfl) c7 (argsL := [.ref b, .int (Int32.ofNat o), .int (Int32.ofNat len)]) (rest := []) rfl rfl (by show 2 * 0 + 0 ≤ _; decide) (hb hbytes d36) (⟨rfl, hA.mv X5.warmed.alike hh5, l1, l2, hp⟩)
  obtain ⟨e8, z8⟩ := E8
  obtain ⟨rfl, N, n1, n2, n3, n4, n5, n6⟩ := NewArr.mv _ T5 s _ _ hh5.symm (Vm.Alike.refl _) rfl e8
  rw [hh5] at z8
  have hB1 := hB.keep X8.warmed.alike (n6 _ _ hB.1)
  have hne : s.heap.size ≠ a := (Nat.ne_of_lt (Array.getElem?_eq_some_iff.mp hB.1).1).symm
  have c9 : Steps p.tables e below (s₁.setTop (entryFrame m #[.ref a, .ref b, .int (Int32.ofNat o), .int (Int32.ofNat len), .null] 6)) (T8.setTop (mkF m 39 #[.val (.ref a), .val (.ref b), .val (.int (Int32.ofNat o)), .val (.int (Int32.ofNat len)), .val .null, .unset] [.ref s.heap.size])) := g8
  have c10 : Steps p.tables e below (s₁.setTop (entryFrame m #[.ref a, .ref b, .int (Int32.ofNat o), .int (Int32.ofNat len), .null] 6)) (T8.setTop (mkF m 45 #[.val (.ref a), .val (.ref b), .val (.int (Int32.ofNat o)), .val (.int (Int32.ofNat len)), .val .null, .val (.ref s.heap.size)] [.int (Int32.ofNat N.slots.size), .ref s.heap.size, .ref a])) := by
    have hc : Steps p.tables e below (s₁.setTop (entryFrame m #[.ref a, .ref b, .int (Int32.ofNat o), .int (Int32.ofNat len), .null] 6)) (T8.setTop (mkF m 45 #[.val (.ref a), .val (.ref b), .val (.int (Int32.ofNat o)), .val (.int (Int32.ofNat len)), .val .null, .val (.ref s.heap.size)] [.int (Int32.ofNat len), .ref s.heap.size, .ref a])) := c9.trans (by
      refine XS.astore X8.here hexec rfl (hb hbytes d39) rfl rfl rfl ?_
      refine XS.aloadN X8.here hexec rfl (hb hbytes d41) rfl rfl ?_
      refine XS.aload X8.here hexec rfl (hb hbytes d42) rfl rfl ?_
      refine XS.iloadN X8.here hexec rfl (hb hbytes d44) rfl ?_
      exact Steps.refl _)
    rw [n4]; exact hc
  obtain ⟨v11, T11, X11, E11, g11⟩ := X8.callS hexec (CodL.law l s.heap.size N) hown (wks W (staticW "java/lang/String" 47 CodL.yN)) (wk W CodL.tab) (W := 1) (Nat.le_of_ble_eq_true rfl) (Nat.le_of_ble_eq_true rfl) (Nat.le_refl _) (by show 0 + len + 0 ≤ len; omega) (g := (mkF m 45 #[.val (.ref a), .val (.ref b), .val (.int (Int32.ofNat o)), .val (.int (Int32.ofNat len)), .val .null, .val (.ref s.heap.size)] [.int (Int32.ofNat N.slots.size), .ref s.heap.size, .ref a])) rfl (by rw [hml]; rfl) c10 (argsL := [.ref s.heap.size, .int (Int32.ofNat N.slots.size)]) (rest := [.ref a]) rfl rfl (by show 2 * 0 + (1 + 0) ≤ _; decide) (hb hbytes d45) (⟨rfl, n1⟩)
  obtain ⟨rfl, q11⟩ := E11
  have hB11 := hB1.mv (X8.warmed.alike.symm.trans X11.warmed.alike) q11
  have c12 : Steps p.tables e below (s₁.setTop (entryFrame m #[.ref a, .ref b, .int (Int32.ofNat o), .int (Int32.ofNat len), .null] 6)) (T11.setTop (mkF m 48 #[.val (.ref a), .val (.ref b), .val (.int (Int32.ofNat o)), .val (.int (Int32.ofNat len)), .val .null, .val (.ref s.heap.size)] [.int 0, .ref a])) := g11
  obtain ⟨T13, X13, p13, bl13, sl13, st13⟩ := X11.finit hexec hown (wk W (.fieldLink "java/lang/String" 15 "java/lang/String" "coder" "B")) (Or.inr ⟨_, (wk W (.laysFinal "java/lang/String" "java/lang/String" "coder" "B"))⟩) (Or.inl ⟨rfl, hnm⟩) f2 (Or.inl rfl) hB11 (t := .byte) (by decide +kernel) rfl (g := (mkF m 48 #[.val (.ref a), .val (.ref b), .val (.int (Int32.ofNat o)), .val (.int (Int32.ofNat len)), .val .null, .val (.ref s.heap.size)] [.int 0, .ref a])) rfl (rest := []) rfl (hb hbytes d48)
  have c14 : Steps p.tables e below (s₁.setTop (entryFrame m #[.ref a, .ref b, .int (Int32.ofNat o), .int (Int32.ofNat len), .null] 6)) (T13.setTop (mkF m 54 #[.val (.ref a), .val (.ref b), .val (.int (Int32.ofNat o)), .val (.int (Int32.ofNat len)), .val .null, .val (.ref s.heap.size)] [.ref s.heap.size, .ref a])) := (c12.trans (st13 _ (Steps.refl _))).trans (by
    refine XS.aloadN X13.here hexec rfl (hb hbytes d51) rfl rfl ?_
    refine XS.aload X13.here hexec rfl (hb hbytes d52) rfl rfl ?_
    exact Steps.refl _)
  obtain ⟨T15, X15, p15, bl15, sl15, st15⟩ := X13.finit hexec hown (wk W (.fieldLink "java/lang/String" 9 "java/lang/String" "value" "[B")) (Or.inr ⟨_, (wk W (.laysFinal "java/lang/String" "java/lang/String" "value" "[B"))⟩) (Or.inl ⟨rfl, hnm⟩) f1 (Or.inl rfl) bl13 (t := (.array .byte)) (by decide +kernel) rfl (g := (mkF m 54 #[.val (.ref a), .val (.ref b), .val (.int (Int32.ofNat o)), .val (.int (Int32.ofNat len)), .val .null, .val (.ref s.heap.size)] [.ref s.heap.size, .ref a])) rfl (rest := []) rfl (hb hbytes d54)
  have c16 : Steps p.tables e below (s₁.setTop (entryFrame m #[.ref a, .ref b, .int (Int32.ofNat o), .int (Int32.ofNat len), .null] 6)) (T15.setTop (mkF m 57 #[.val (.ref a), .val (.ref b), .val (.int (Int32.ofNat o)), .val (.int (Int32.ofNat len)), .val .null, .val (.ref s.heap.size)] [])) := c14.trans (st15 _ (Steps.refl _))
  have ap := apart (Or.inr ⟨_, (wk W (.laysFinal "java/lang/String" "java/lang/String" "value" "[B"))⟩) (Or.inr ⟨_, (wk W (.laysFinal "java/lang/String" "java/lang/String" "coder" "B"))⟩) f1 f2 (t₁ := .array .byte) (t₂ := .byte) (by decide +kernel) (by decide +kernel) (by decide)
  have al := X8.warmed.alike.symm.trans X15.warmed.alike
  have n7 : T11.heap[s.heap.size]? = some N := by rw [q11]; exact n1.1
  exact ⟨T15, none, _, _, _, X15, by simp, rfl, by omega, (fun _ => rfl), ⟨rfl, _, N, bl15, ((Same.refl D _).set _ (by simp)).set _ (by simp), sl15, (Cell.slots_setSlot_ne _ ap).trans sl13, n1.keep al (p15.other hne (p13.other hne n7)), n2, by rw [al.findClass]; exact n3, n4, n5, fun y c h1 h2 => p15.other h1 (p13.other h1 (by rw [q11]; exact n6 y c h2)), by rw [p15.2.2, p13.2.2, q11]; exact z8⟩, fun fs hl => c16.trans (X15.returnOut hexec hret (hb hbytes d57) hl)⟩
end New4
namespace New1
def yN : MethodName := ⟨"java/lang/String", "<init>", "([C)V"⟩
abbrev yB : ByteArray := jdk_42_method_3_code
theorem d0 : decode yB 0 = .ok (.aload_n 0, 1) := by decide +kernel
theorem d1 : decode yB 1 = .ok (.aload_n 1, 1) := by decide +kernel
theorem d2 : decode yB 2 = .ok (.iconst 0, 1) := by decide +kernel
theorem d3 : decode yB 3 = .ok (.aload_n 1, 1) := by decide +kernel
theorem d4 : decode yB 4 = .ok (.arraylength, 1) := by decide +kernel
theorem d5 : decode yB 5 = .ok (.aconst_null, 1) := by decide +kernel
theorem d6 : decode yB 6 = .ok (.invokespecial 27, 3) := by decide +kernel
theorem d9 : decode yB 9 = .ok (.return_, 1) := by decide +kernel
def site : List Cond := [New4.tab] ++ initW "java/lang/String" 27 New4.yN
def tab : Cond := tabOf yN yB 2 none site
def P (a : Addr) (D : Cell) (fV fC : Field) (b : Addr) (A : Cell) (z : Int32) (args : Array Value) (s : State) : Prop := args = #[.ref a, .ref b] ∧ Blank "java/lang/String" a D s ∧ Found "java/lang/String" "value" "[B" fV s ∧ Found "java/lang/String" "coder" "B" fC s ∧ Ch b A s ∧ StaticIs s "java/lang/String" "COMPACT_STRINGS" "Z" (.int z) ∧ ¬ z = 0 ∧ 0 < A.slots.size ∧ A.slots.size ≤ 536870912 ∧ ∀ i, i < A.slots.size → ¬ 255 < cv A i
def E (a : Addr) (D : Cell) (fV fC : Field) (A : Cell) (r : Option Value) (s u : State) : Prop := Got a D fV fC A 0 A.slots.size r s u
/-- new String(chars), not empty, no char above 255: a Latin-1 String of their low bytes -/
theorem law (l : Launch) (a : Addr) (D : Cell) (fV fC : Field) (b : Addr) (A : Cell) (z : Int32) : Law l yN 2 1 3 52 yB 2 none site (P a D fV fC b A z) (E a D fV fC A) [⟨a, fC.slot⟩, ⟨a, fV.slot⟩] 1 A.slots.size := by
  refine Law.of_walk (plainFor_of_name (by decide +kernel)) (by decide +kernel) (by decide +kernel) (by decide) (fun _ _ h => by rw [h.1]; rfl) (fun _ U U' hal hh h => ⟨h.1, h.2.1.mv hal hh, h.2.2.1.al hal, h.2.2.2.1.al hal, h.2.2.2.2.1.mv hal hh, h.2.2.2.2.2.1.there hal hh, h.2.2.2.2.2.2⟩) (fun r U U' V V' h1 hal h2 h => Got.mv r U U' V V' h1 hal h2 h) ?_
  intro p e s m args below meth c s₁ X0 hexec hbytes hml hret hlk hnm hown hh0 W hP
  obtain ⟨rfl, hB, f1, f2, hA, s1, hz, l0, l2, hp⟩ := hP
  have c1 : Steps p.tables e below (s₁.setTop (entryFrame m #[.ref a, .ref b] 2)) (s₁.setTop (mkF m 0 #[.val (.ref a), .val (.ref b)] [])) := entry rfl
  have c2 : Steps p.tables e below (s₁.setTop (entryFrame m #[.ref a, .ref b] 2)) (s₁.setTop (mkF m 6 #[.val (.ref a), .val (.ref b)] [.null, .int (Int32.ofNat A.slots.size), .int 0, .ref b, .ref a])) := c1.trans (by
    refine XS.aloadN X0.here hexec rfl (hb hbytes d0) rfl rfl ?_
    refine XS.aloadN X0.here hexec rfl (hb hbytes d1) rfl rfl ?_
    refine iconstV X0.here hexec rfl 0 (hb hbytes d2) (by decide) ?_
    refine XS.aloadN X0.here hexec rfl (hb hbytes d3) rfl rfl ?_
    refine X0.alen hexec (hA.1.mv X0.warmed.alike hh0) rfl rfl (hb hbytes d4) ?_
    refine XS.aconstNull X0.here hexec rfl (hb hbytes d5) ?_
    exact Steps.refl _)
  obtain ⟨v3, T3, X3, E3, g3⟩ := X0.callN hexec (New4.law l a D fV fC b A z 0 A.slots.size) rfl hown (wks W (initW "java/lang/String" 27 New4.yN)) (W New4.tab (by simp only [site, List.mem_cons, List.mem_append, true_or, or_true])) (W := 0) (Nat.le_of_ble_eq_true rfl) (Nat.le_of_ble_eq_true rfl) (Nat.le_refl _) (by show 0 + A.slots.size ≤ A.slots.size; omega) (g := (mkF m 6 #[.val (.ref a), .val (.ref b)] [.null, .int (Int32.ofNat A.slots.size), .int (Int32.ofNat 0), .ref b, .ref a])) rfl (by rw [hml]; rfl) c2 (argsL := [.ref b, .int (Int32.ofNat 0), .int (Int32.ofNat A.slots.size), .null]) (rest := []) rfl rfl (by show 2 * 0 + 0 ≤ _; decide) (hb hbytes d6) (⟨rfl, hB.mv X0.warmed.alike hh0, f1.al X0.warmed.alike, f2.al X0.warmed.alike, hA.mv X0.warmed.alike hh0, s1.there X0.warmed.alike hh0, hz, l0, by omega, l2, fun i hi => by rw [Nat.zero_add]; exact hp i hi⟩)
  have e0 := Got.mv _ s₁ s _ _ hh0.symm (Vm.Alike.refl _) rfl E3
  obtain rfl := e0.1
  have c4 : Steps p.tables e below (s₁.setTop (entryFrame m #[.ref a, .ref b] 2)) (T3.setTop (mkF m 9 #[.val (.ref a), .val (.ref b)] [])) := g3
  exact ⟨T3, none, _, _, _, X3, by simp, rfl, by omega, (fun _ => rfl), e0, fun fs hl => c4.trans (X3.returnOut hexec hret (hb hbytes d9) hl)⟩
theorem pays {l : Launch} {R : Room} {p : Program} {e : Env} {below : List Frame} {s : State} {sargs : Array Value} {len W : Nat} (a : Addr) (D : Cell) (fV fC : Field) (b : Addr) (A : Cell) (z : Int32) (htab : tab.before sargs s = true) (hfr : 4 ≤ R.frames) (hlo : W + 65 ≤ R.locals) :
    Back l R p e below s sargs yN len W (fun A₁ a₁ => A₁.cells + 1 ≤ R.cells ∧ A₁.slots + A.slots.size ≤ R.slots ∧ P a D fV fC b A z a₁ A₁.U) (fun A₁ _ v₁ B₁ => E a D fV fC A v₁ A₁.U B₁.U ∧ B₁.locs = A₁.locs ++ [⟨a, fC.slot⟩, ⟨a, fV.slot⟩] ∧ B₁.cells = A₁.cells + 1 ∧ B₁.slots = A₁.slots + A.slots.size) :=
  (law l a D fV fC b A z).pays htab hfr (by omega)
end New1
/-- the byte, read back as charAt reads it, is the char -/
theorem lo8_mask {x : Int32} (h0 : ¬ x < 0) (h1 : ¬ 255 < x) : lo8 x &&& 255 = x := by
  have t : ∀ k : Fin 256, lo8 (Int32.ofNat k.val) &&& 255 = Int32.ofNat k.val := by decide +kernel
  rw [Int32.lt_iff_toInt_lt] at h0 h1
  have e0 : (0 : Int32).toInt = 0 := rfl
  have e1 : (255 : Int32).toInt = 255 := rfl
  obtain ⟨k, hk⟩ : ∃ k : Nat, x.toInt = k := ⟨x.toInt.toNat, by omega⟩
  have hx : x = Int32.ofNat k := Int32.toInt_inj.mp (by rw [hk, Int32.toInt_ofNat_small (by omega)])
  rw [hx]
  exact t ⟨k, by omega⟩
end StrChars
namespace StrChars.Road
open Jvm Sem ClassFile Op Lib Jvm.Stand Jvm.Free Jvm.Free.XT
open Jvm.Lib.Cold (StaticIs)
abbrev ST : String := "java/lang/String"
/-- every table word that New1's law asks, flat -/
abbrev words : List Jvm.Cond := [.code New1.yN New1.yB 2 none, .initialized ST, .methodLink ST 27 New4.yN, .instanceMethod New4.yN,
  .code New4.yN New4.yB 6 none, .fieldLink ST 38 ST "COMPACT_STRINGS" "Z", .laysFinal ST ST "value" "[B", .fieldLink ST 9 ST "value" "[B", .laysFinal ST ST "coder" "B", .fieldLink ST 15 ST "coder" "B",
  .methodLink ST 1 Lib.objectInit, .instanceMethod Lib.objectInit, .code Lib.objectInit ⟨#[0xb1]⟩ 1 none, .methodLink ST 177 Cmp3.yN, .static Cmp3.yN, .methodLink ST 47 CodL.yN, .static CodL.yN,
  .code Cmp3.yN Cmp3.yB 6 (some (.array .byte)), .initialized U16, .arrayClass .byte, .methodLink U16 115 Cmp5.yN, .static Cmp5.yN, .code Cmp5.yN Cmp5.yB 7 (some .int), .code CodL.yN CodL.yB 2 (some .byte)]
theorem tab_of {a : Array Value} {s : State} (h : ∀ w ∈ words, w.before a s = true) : New1.tab.before a s = true := by
  have h5 : Cmp5.tab.before a s = true := unparts (wk h (.code Cmp5.yN Cmp5.yB 7 (some .int))) (wks h (.initialized Cmp5.yN.cls :: Cmp5.site))
  have hc : CodL.tab.before a s = true := unparts (wk h (.code CodL.yN CodL.yB 2 (some .byte))) (wks h (.initialized CodL.yN.cls :: CodL.site))
  have q5 : ∀ w ∈ Cmp5.tab :: words, w.before a s = true := fun w hw => (List.mem_cons.mp hw).elim (fun e => e ▸ h5) (h w)
  have h3 : Cmp3.tab.before a s = true := unparts (wk q5 (.code Cmp3.yN Cmp3.yB 6 (some (.array .byte)))) (wks q5 (.initialized Cmp3.yN.cls :: Cmp3.site))
  have q3 : ∀ w ∈ Cmp3.tab :: CodL.tab :: words, w.before a s = true := fun w hw => (List.mem_cons.mp hw).elim (fun e => e ▸ h3) fun hw => (List.mem_cons.mp hw).elim (fun e => e ▸ hc) (h w)
  have h4 : New4.tab.before a s = true := unparts (wk q3 (.code New4.yN New4.yB 6 none)) (wks q3 (.initialized New4.yN.cls :: New4.site))
  have q4 : ∀ w ∈ New4.tab :: words, w.before a s = true := fun w hw => (List.mem_cons.mp hw).elim (fun e => e ▸ h4) (h w)
  exact unparts (wk q4 (.code New1.yN New1.yB 2 none)) (wks q4 (.initialized New1.yN.cls :: New1.site))
/-- the words ride from the start Z to the walk's own state -/
theorem moved {Z s : State} {a0 args : Array Value} (hZ : Z.Warmed39 s.vm) (hw : ∀ d ∈ words, d.before a0 Z = true) : ∀ d ∈ words, d.before args s = true := fun d hd => by
  have q := hw d hd
  have t : ∀ d ∈ words, d = .arrayClass .byte ∨ (d.onTables && d.keepsFace) = true := by decide +kernel
  rcases t d hd with rfl | t
  · exact RoadKit.mvA hZ q
  · exact RoadKit.mv hZ q t
/-- WHAT COMES BACK, over the tables of the start Z: h the heap at the call, h' behind it -/
def Q (Z : State) (x : Addr) (A : Cell) (h : Heap) (v : Option Value) (h' : Heap) (L : List Loc) : Prop := v = none ∧ (∀ y ∈ L, y.base = x) ∧ RoadKit.Keep h h' [x] ∧ h'.size = h.size + 1 ∧ RoadKit.Exa Z h' x ST ∧ RoadKit.Fld Z h' x ST "value" "[B" (.ref h.size) ∧ RoadKit.Fld Z h' x ST "coder" "B" (.int 0) ∧
  (∃ V : Cell, RoadKit.Arr Z h' h.size V .byte ∧ V.vm = .none ∧ Z.vm.findClass "[B" = some V.cls ∧ V.slots.size = A.slots.size ∧ ∀ j, j < A.slots.size → V.slots[j]? = some (.int (lo8 (cv A j)))) ∧
  ∀ (O n d : String) (w : Value), RoadKit.Fld Z h x O n d w → RoadKit.slotOf Z O n d ≠ RoadKit.slotOf Z ST "value" "[B" → RoadKit.slotOf Z O n d ≠ RoadKit.slotOf Z ST "coder" "B" → RoadKit.Fld Z h' x O n d w
/-- **new String(chars) AT A CALL, IN THE ROAD'S FORM**: for specialBack behind newO: x the fresh String, b the char[] with the cell A -/
theorem back {p : Program} {l : Launch} {e : Env} {R : Room} {s : State} {args : Array Value} {below : List Frame} {len W : Nat} {Z : State} {a0 : Array Value} {h : Heap} (hZ : Z.Warmed39 s.vm) (hw : ∀ d ∈ words, d.before a0 Z = true) {kI : Nat} (wi : (Jvm.Cond.instantiable ST kI).before a0 Z = true)
    {x b : Addr} {A : Cell} {z : Int32} {v0 c0 : Value} (E : RoadKit.Exa Z h x ST) (V : RoadKit.Fld Z h x ST "value" "[B" v0) (C : RoadKit.Fld Z h x ST "coder" "B" c0) (K : RoadKit.Arr Z h b A .char) (hty : Typed .char A) (S : RoadKit.Sta Z h ST "COMPACT_STRINGS" "Z" (.int z)) (hz : ¬ z = 0)
    (l0 : 0 < A.slots.size) (l2 : A.slots.size ≤ 536870912) (hp : ∀ i, i < A.slots.size → ¬ 255 < cv A i) (hfr : 4 ≤ R.frames) (hlo : W + 65 ≤ R.locals) :
    Back l R p e below s args New1.yN len W (fun P a => a = #[.ref x, .ref b] ∧ P.U.heap = h ∧ P.cells + 1 ≤ R.cells ∧ P.slots + A.slots.size ≤ R.slots)
      (fun P _ v B => ∃ L, Q Z x A h v B.U.heap L ∧ B.locs = P.locs ++ L ∧ B.cells = P.cells + 1 ∧ B.slots = P.slots + A.slots.size) := by
  intro m meth c P g ig mk a X hg hsize hdg hW hn hp'
  obtain ⟨rfl, rfl, r1, r2⟩ := hp'
  have al : Z.vm.Alike P.U.vm := hZ.alike.trans X.warmed.alike
  obtain ⟨D, cfV, kV, iV, fV, hD, gV, stV, knV, obV, asV, slV⟩ := id V
  obtain ⟨D', cfC, kC, iC, fC, hD', gC, stC, -, -, asC, slC⟩ := id C
  cases hD.symm.trans hD'
  obtain ⟨D2, kD, e1, e2, e3, e4, e5⟩ := id E
  cases hD.symm.trans e1
  obtain ⟨c2, k2, i1, i2, i3, -⟩ := Cond.instantiable_spec wi
  cases e2.symm.trans i1
  cases e3.symm.trans i2
  obtain ⟨kU, u1, u2⟩ := al.2.2 _ _ e3
  have hB : Blank ST x D P.U := ⟨hD, ⟨knV, fun q hq => by rw [hq] at obV; cases obV⟩, by rw [al.findClass]; exact e2, kU, u1, by rw [u2]; exact i3, by rw [u2]; exact e5 i3⟩
  have F1 : Found ST "value" "[B" fV P.U := ⟨SBG.found_only al ⟨cfV, kV, iV, gV⟩, stV⟩
  have F2 : Found ST "coder" "B" fC P.U := ⟨SBG.found_only al ⟨cfC, kC, iC, gC⟩, stC⟩
  have hA : Ch b A P.U := ⟨⟨K.1, State.isArrayOf_alike al K.2.1, K.2.2, by omega⟩, hty⟩
  have hS : StaticIs P.U ST "COMPACT_STRINGS" "Z" (.int z) := by
    obtain ⟨cfS, iS, kS, fS, st, cS, t1, t2, t3, t4, t5, t6, t7⟩ := S
    exact StaticIs.there (s := { Z with heap := P.U.heap }) ⟨cfS, iS, kS, fS, st, cS, t1, t2, t3, t4, t5, (fun q => by rw [q] at t6; cases t6), t7⟩ al rfl
  obtain ⟨v, B, X', ⟨⟨hv, E', V', q1, q2, q3, q4, q5, q6, q7, q8, q9, q10, q11⟩, hl, hc, hs⟩, st⟩ := New1.pays x D fV fC b A z (tab_of (moved hZ hw)) hfr hlo m meth c P g ig mk _ X hg hsize hdg hW hn ⟨r1, r2, rfl, hB, F1, F2, hA, hS, hz, l0, l2, hp⟩
  have al' : Z.vm.Alike B.U.vm := hZ.alike.trans X'.warmed.alike
  have hsz : E'.slots.size = D.slots.size := by
    obtain ⟨-, -, -, kB, w1, w2, w3⟩ := q1
    obtain ⟨kB', y1, y2⟩ := al'.2.2 _ _ e3
    rw [q2.2.1] at w1
    cases w1.symm.trans y1
    rw [w3, e5 i3, y2]
  refine ⟨v, B, X', ⟨_, ⟨hv, ?_, ⟨by omega, fun y cy hy hn' => q10 y cy (by simpa using hn') hy, fun y cy hy => ?_⟩, q11, ⟨E', _, q1.1, by rw [q2.2.1]; exact e2, by rw [q2.2.1]; exact e3, by rw [q2.1]; exact obV, fun _ => by rw [hsz]; exact e5 i3⟩,
    ⟨E', cfV, kV, iV, fV, q1.1, gV, stV, by rw [q2.1]; exact knV, by rw [q2.1]; exact obV, by rw [q2.2.1]; exact asV, q3⟩, ⟨E', cfC, kC, iC, fC, q1.1, gC, stC, by rw [q2.1]; exact knV, by rw [q2.1]; exact obV, by rw [q2.2.1]; exact asC, q4⟩,
    ⟨V', ⟨q5.1, State.isArrayOf_alike al'.symm q5.2.1, q5.2.2.1⟩, q6, by rw [← al'.findClass]; exact q7, q8, fun j hj => by have := q9 j hj; rwa [Nat.zero_add] at this⟩, fun O n d w F n1 n2 => ?_⟩, hl, hc, hs⟩, st⟩
  · intro y hy
    simp only [List.mem_cons, List.not_mem_nil, or_false] at hy
    rcases hy with rfl | rfl <;> rfl
  · by_cases q : y = x
    · subst q
      cases hD.symm.trans hy
      exact ⟨E', q1.1, q2.2.1, q2.1, hsz⟩
    · exact ⟨cy, q10 y cy q hy, rfl, rfl, rfl⟩
  · obtain ⟨D3, cf, k, i, f, g1, g2, g3, g4, g5, g6, g7⟩ := F
    cases hD.symm.trans g1
    simp only [RoadKit.slotOf, g2, gV, gC, Option.map_some, Option.getD_some] at n1 n2
    exact ⟨E', cf, k, i, f, q1.1, g2, g3, by rw [q2.1]; exact g4, by rw [q2.1]; exact g5, by rw [q2.2.1]; exact g6, by rw [q2.2.2 f.slot (by simp [n1, n2])]; exact g7⟩
end StrChars.Road
namespace StrChars.Road
open Jvm Sem ClassFile Op Lib Jvm.Stand Jvm.Free Jvm.Free.XT
/-- WHAT COMES BACK, the byte[] as a list of values -/
def QA (Z : State) (x : Addr) (zn : Int32) (cs : List Int32) (h : Heap) (v : Option Value) (h' : Heap) (L : List Loc) : Prop := v = none ∧ (∀ y ∈ L, y.base = x) ∧ RoadKit.Keep h h' [x] ∧ h'.size = h.size + 1 ∧ RoadKit.Exa Z h' x ST ∧ RoadKit.Fld Z h' x ST "value" "[B" (.ref h.size) ∧ RoadKit.Fld Z h' x ST "coder" "B" (.int 0) ∧
  (∃ kb, Z.vm.findClass "[B" = some kb ∧ RoadKit.Arv Z h' h.size kb .byte zn (cs.map fun c => .int (lo8 c)) (.int 0)) ∧
  ∀ (O n d : String) (w : Value), RoadKit.Fld Z h x O n d w → RoadKit.slotOf Z O n d ≠ RoadKit.slotOf Z ST "value" "[B" → RoadKit.slotOf Z O n d ≠ RoadKit.slotOf Z ST "coder" "B" → RoadKit.Fld Z h' x O n d w
/-- **new String(chars) AT A CALL, THE ARRAYS AS LISTS**: the char[] at b holds cs, not empty, no char above 255 -/
theorem backArv {p : Program} {l : Launch} {e : Env} {R : Room} {s : State} {args : Array Value} {below : List Frame} {len W : Nat} {Z : State} {a0 : Array Value} {h : Heap} (hZ : Z.Warmed39 s.vm) (hw : ∀ d ∈ words, d.before a0 Z = true) {kI : Nat} (wi : (Jvm.Cond.instantiable ST kI).before a0 Z = true)
    {x b : Addr} {k : ClassId} {zn z : Int32} {cs : List Int32} {dv v0 c0 : Value} (E : RoadKit.Exa Z h x ST) (V : RoadKit.Fld Z h x ST "value" "[B" v0) (C : RoadKit.Fld Z h x ST "coder" "B" c0) (K : RoadKit.Arv Z h b k .char zn (cs.map Value.int) dv) (S : RoadKit.Sta Z h ST "COMPACT_STRINGS" "Z" (.int z)) (hz : ¬ z = 0)
    (hlen : zn.toNatClampNeg = cs.length) (h0 : 0 < cs.length) (hbig : cs.length ≤ 536870912) (hall : ∀ c ∈ cs, ¬ 255 < c) (hfr : 4 ≤ R.frames) (hlo : W + 65 ≤ R.locals) :
    Back l R p e below s args New1.yN len W (fun P a => a = #[.ref x, .ref b] ∧ P.U.heap = h ∧ P.cells + 1 ≤ R.cells ∧ P.slots + cs.length ≤ R.slots)
      (fun P _ v B => ∃ L, QA Z x zn cs h v B.U.heap L ∧ B.locs = P.locs ++ L ∧ B.cells = P.cells + 1 ∧ B.slots = P.slots + cs.length) := by
  obtain ⟨A, K1, K2, K3, K4, K5, K6⟩ := K
  have e : A.slots.size = cs.length := K3.trans hlen
  have hat : ∀ (i : Nat) (hi : i < cs.length), A.slots[i]? = some (.int cs[i]) := fun i hi => by rw [K5 i (by omega)]; simp [List.getD_eq_getElem?_getD, hi]
  have hcv : ∀ (i : Nat) (hi : i < cs.length), cv A i = cs[i] := fun i hi => by unfold cv; rw [hat i hi]
  have hty : Typed .char A := fun i v hv => by
    have hi : i < A.slots.size := (Array.getElem?_eq_some_iff.mp hv).1
    have q := K5 i hi
    rw [hv] at q
    rw [Option.some.inj q]
    exact K6 i hi
  refine Back.mono (back hZ hw wi E V C K1 hty S hz (by omega) (by omega) (fun i hi => by rw [hcv i (by omega)]; exact hall _ (List.getElem_mem _)) hfr hlo) (fun P a hp => ⟨hp.1, hp.2.1, hp.2.2.1, by rw [e]; exact hp.2.2.2⟩) (fun P a v B hp hq => ?_)
  obtain ⟨L, ⟨q1, q2, q3, q4, q5, q6, q7, ⟨V', v1, v2, v3, v4, v5⟩, q9⟩, hl, hc, hs⟩ := hq
  refine ⟨L, ⟨q1, q2, q3, q4, q5, q6, q7, ⟨V'.cls, v3, V', v1, rfl, by rw [v4, e, hlen], K4, fun i hi => ?_, fun i hi => ?_⟩, q9⟩, hl, hc, by rw [hs, e]⟩
  · have hi' : i < cs.length := by omega
    rw [v5 i (by omega), hcv i hi']; simp [List.getD_eq_getElem?_getD, hi']
  · have hi' : i < cs.length := by omega
    simp only [List.getD_eq_getElem?_getD, List.getElem?_map, List.getElem?_eq_getElem hi', Option.map_some, Option.getD_some]
    exact fits_lo8 _
end StrChars.Road
namespace StrChars.Road
open Jvm Sem ClassFile Op Lib Jvm.Stand Jvm.Free Jvm.Free.XT
/-- WHAT COMES BACK, in the writer's own shape -/
def QV (Z : State) (x : Addr) (N : Int32) (bs : List Int32) (h : Heap) (n0 : Nat) (v : Option Value) (h' : Heap) (L : List Loc) : Prop := v = none ∧ RoadKit.Fr n0 L ∧ RoadKit.Keep h h' [x] ∧ RoadKit.Exa Z h' x ST ∧ RoadKit.Fld Z h' x ST "coder" "B" (.int 0) ∧
  ∃ (t : Addr) (kb : ClassId), n0 ≤ t ∧ h.size ≤ t ∧ ¬ t = x ∧ RoadKit.Fld Z h' x ST "value" "[B" (.ref t) ∧ RoadKit.Arv Z h' t kb .byte N (bs.map Value.int) (.int 0)
/-- **new String(chars) AT A CALL, FOR THE WRITER**: a char[] of n known ints, each 0 to 255 -/
theorem backV {p : Program} {l : Launch} {e : Env} {R : Room} {s : State} {args : Array Value} {below : List Frame} {len W : Nat} {Z : State} {a0 : Array Value} {h : Heap} (hZ : Z.Warmed39 s.vm) (hw : ∀ d ∈ words, d.before a0 Z = true) {kI : Nat} (wi : (Jvm.Cond.instantiable ST kI).before a0 Z = true)
    {x b : Addr} {kC : ClassId} {cs bs : List Int32} {d v0 c0 : Value} {z N : Int32} {n n0 : Nat} (hx0 : n0 ≤ x) (hh0 : n0 ≤ h.size) (E : RoadKit.Exa Z h x ST) (V : RoadKit.Fld Z h x ST "value" "[B" v0) (C : RoadKit.Fld Z h x ST "coder" "B" c0) (K : RoadKit.Arv Z h b kC .char N (cs.map Value.int) d) (S : RoadKit.Sta Z h ST "COMPACT_STRINGS" "Z" (.int z)) (hz : ¬ z = 0)
    (hn : cs.length = n) (hN : N = Int32.ofNat n) (l0 : 0 < n) (l2 : n ≤ 4000) (hp : ∀ c ∈ cs, ¬ c < 0 ∧ ¬ (255 : Int32) < c) (hb : bs = cs.map (fun c => c.toInt8.toInt32)) (hfr : 4 ≤ R.frames) (hlo : W + 65 ≤ R.locals) :
    Back l R p e below s args (⟨"java/lang/String", "<init>", "([C)V"⟩ : MethodName) len W (fun P a => a = #[.ref x, .ref b] ∧ P.U.heap = h ∧ P.cells + 1 ≤ R.cells ∧ P.slots + n ≤ R.slots)
      (fun P _ v B => ∃ L, QV Z x N bs h n0 v B.U.heap L ∧ B.locs = P.locs ++ L ∧ B.cells = P.cells + 1 ∧ B.slots = P.slots + n) := by
  subst hn hN hb
  refine Back.mono (backArv hZ hw wi E V C K S hz (n32 (by omega)) l0 (by omega) (fun c hc => (hp c hc).2) hfr hlo) (fun P a hp => hp) (fun P a v B hp hq => ?_)
  obtain ⟨L, ⟨q1, q2, q3, q4, q5, q6, q7, ⟨kb, v1, v2⟩, q9⟩, hl, hc, hs⟩ := hq
  exact ⟨L, ⟨q1, fun y hy => by rw [q2 y hy]; exact hx0, q3, q5, q7, h.size, kb, hh0, Nat.le_refl _, Nat.ne_of_gt E.lt, q6, by rw [List.map_map]; exact v2⟩, hl, hc, hs⟩
end StrChars.Road
namespace StrChars
open Jvm Sem ClassFile Op Lib Jvm.Stand Jvm.Free.XT Jvm.Free.ALB Jvm.Free.JM Jvm.Free
open Jvm.Lib.Cold (StaticIs)
def hi8 (x : Int32) : Int32 := lo8 (x >>> ((8 : Int32) &&& 31))
/-- what StringUTF16.getChar makes of two bytes -/
def pairCh (u v : Int32) : Int32 := (((u &&& 255) <<< ((0 : Int32) &&& 31)) ||| ((v &&& 255) <<< ((8 : Int32) &&& 31))).toUInt32.toUInt16.toUInt32.toInt32
theorem lo8_and (x : Int32) : (lo8 x &&& 255).toBitVec.toNat = x.toBitVec.toNat % 256 := by
  have h : (lo8 x).toBitVec = (x.toBitVec.signExtend 8).signExtend 32 := by rw [lo8, Int8.toBitVec_toInt32, Int32.toBitVec_toInt8]
  rw [Int32.toBitVec_and, BitVec.toNat_and, h]
  have e : ((x.toBitVec.signExtend 8).signExtend 32).toNat % 256 = x.toBitVec.toNat % 256 := by
    rw [BitVec.toNat_signExtend]
    have hlt := x.toBitVec.isLt
    simp only [BitVec.toNat_setWidth, BitVec.toNat_signExtend]
    split <;> split <;> omega
  rw [← e]
  exact Nat.and_two_pow_sub_one_eq_mod _ 8
theorem pair_says {c : Int32} (h0 : ¬ c < 0) (h1 : ¬ 65535 < c) : pairCh (lo8 c) (hi8 c) = c := by
  rw [Int32.lt_iff_toInt_lt] at h0 h1
  have e0 : (0 : Int32).toInt = 0 := rfl
  have e1 : (65535 : Int32).toInt = 65535 := rfl
  have hc : c.toInt = c.toBitVec.toNat := by
    have := c.toBitVec.isLt
    have e : c.toInt = c.toBitVec.toInt := rfl
    rw [e] at h0 h1
    rw [e]
    rw [BitVec.toInt_eq_toNat_cond] at h0 h1 ⊢
    split at h0 <;> split <;> omega
  have hn : c.toBitVec.toNat < 65536 := by omega
  have a1 := lo8_and c
  have a2 : (hi8 c &&& 255).toBitVec.toNat = c.toBitVec.toNat / 256 := by
    rw [hi8, lo8_and]
    have e : ((8 : Int32) &&& 31) = 8 := by decide
    rw [e, Int32.toBitVec_shiftRight]
    have e2 : ((8 : Int32).toBitVec.smod 32) = 8#32 := by decide
    rw [e2, BitVec.sshiftRight_eq', BitVec.toNat_sshiftRight_of_msb_false (by rw [BitVec.msb_eq_false_iff_two_mul_lt]; omega)]
    show c.toBitVec.toNat >>> 8 % 256 = _
    rw [Nat.shiftRight_eq_div_pow]
    omega
  unfold pairCh
  apply Int32.toBitVec_inj.mp
  apply BitVec.eq_of_toNat_eq
  have f0 : ((0 : Int32) &&& 31) = 0 := by decide
  have f8 : ((8 : Int32) &&& 31) = 8 := by decide
  rw [f0, f8]
  have g : (((lo8 c &&& 255) <<< (0 : Int32)) ||| ((hi8 c &&& 255) <<< (8 : Int32))).toBitVec.toNat = c.toBitVec.toNat := by
    rw [Int32.toBitVec_or, Int32.toBitVec_shiftLeft, Int32.toBitVec_shiftLeft]
    have s0 : ((0 : Int32).toBitVec.smod 32) = 0#32 := by decide
    have s8 : ((8 : Int32).toBitVec.smod 32) = 8#32 := by decide
    rw [s0, s8, BitVec.toNat_or]
    simp only [BitVec.shiftLeft_eq', BitVec.toNat_shiftLeft, a1, a2]
    show (c.toBitVec.toNat % 256) <<< 0 % 2 ^ 32 ||| (c.toBitVec.toNat / 256) <<< 8 % 2 ^ 32 = _
    rw [Nat.shiftLeft_zero, Nat.mod_eq_of_lt (show c.toBitVec.toNat % 256 < 2 ^ 32 by omega), Nat.mod_eq_of_lt (show (c.toBitVec.toNat / 256) <<< 8 < 2 ^ 32 by rw [Nat.shiftLeft_eq]; omega), Nat.or_comm, ← Nat.shiftLeft_add_eq_or_of_lt (by omega), Nat.shiftLeft_eq]
    omega
  show BitVec.toNat (((((lo8 c &&& 255) <<< (0 : Int32)) ||| ((hi8 c &&& 255) <<< (8 : Int32))).toBitVec.setWidth 16).setWidth 32) = _
  rw [BitVec.toNat_setWidth, BitVec.toNat_setWidth, g]
  omega
end StrChars
namespace StrChars
open Jvm Sem ClassFile Op Lib Jvm.Stand Jvm.Free.XT Jvm.Free.ALB Jvm.Free.JM Jvm.Free
open Jvm.Lib.Cold (StaticIs)
/-- the array's cell V codes the n chars f 0 .. f (n - 1) by the coder cd, as the JDK does: coder 1 just where some char is above 255 -/
def Cod (cd : Int32) (n : Nat) (f : Nat → Int32) (V : Cell) : Prop := (cd = 0 ∧ V.slots.size = n ∧ ∀ j, j < n → V.slots[j]? = some (.int (lo8 (f j))) ∧ ¬ 255 < f j) ∨ (cd = 1 ∧ V.slots.size = 2 * n ∧ (∀ j, j < n → V.slots[2 * j]? = some (.int (lo8 (f j))) ∧ V.slots[2 * j + 1]? = some (.int (hi8 (f j)))) ∧ ∃ j, j < n ∧ 255 < f j)
/-- **x is a String of the n chars f 0 .. f (n - 1)**, Latin-1 or UTF-16; its array at t has the cell V -/
def Txt (x t : Addr) (V : Cell) (cd : Int32) (n : Nat) (f : Nat → Int32) (U : State) : Prop := Exact "java/lang/String" x U ∧ Has x "java/lang/String" "value" "[B" (.ref t) U ∧ Has x "java/lang/String" "coder" "B" (.int cd) U ∧ XT.Arr .byte t V U ∧ Cod cd n f V ∧ ∀ j, j < n → ¬ f j < 0 ∧ ¬ 65535 < f j
theorem Txt.mv {x t : Addr} {V : Cell} {cd : Int32} {n : Nat} {f : Nat → Int32} {U U' : State} (h : Txt x t V cd n f U) (hal : U.vm.Alike U'.vm) (hh : U'.heap = U.heap) : Txt x t V cd n f U' := ⟨h.1.mv hal hh, h.2.1.mv hal hh, h.2.2.1.mv hal hh, h.2.2.2.1.mv hal hh, h.2.2.2.2⟩
end StrChars
namespace StrChars.Road
open Jvm Sem ClassFile Op Lib Jvm.Stand Jvm.Free Jvm.Free.XT
open Jvm.Lib.Cold (StaticIs)
theorem consq {a : Array Value} {s : State} {c : Jvm.Cond} {L : List Jvm.Cond} (h0 : c.before a s = true) (h : ∀ w ∈ L, w.before a s = true) : ∀ w ∈ c :: L, w.before a s = true := fun w hw => (List.mem_cons.mp hw).elim (fun e => e ▸ h0) (h w)
/-- the bytes of the chars cs, low before high -/
def wideBytes : List Int32 → List Value
  | [] => []
  | c :: cs => .int (lo8 c) :: .int (hi8 c) :: wideBytes cs
theorem wide_lo (d : Value) : ∀ (cs : List Int32) (j : Nat), j < cs.length → (wideBytes cs).getD (2 * j) d = .int (lo8 (cs.getD j 0))
  | [], j, h => absurd h (Nat.not_lt_zero j)
  | c :: cs, 0, _ => rfl
  | c :: cs, j + 1, h => by
    have q := wide_lo d cs j (by simpa using h)
    rw [show 2 * (j + 1) = 2 * j + 1 + 1 from by omega]
    simpa [wideBytes] using q
theorem wide_hi (d : Value) : ∀ (cs : List Int32) (j : Nat), j < cs.length → (wideBytes cs).getD (2 * j + 1) d = .int (hi8 (cs.getD j 0))
  | [], j, h => absurd h (Nat.not_lt_zero j)
  | c :: cs, 0, _ => rfl
  | c :: cs, j + 1, h => by
    have q := wide_hi d cs j (by simpa using h)
    rw [show 2 * (j + 1) + 1 = 2 * j + 1 + 1 + 1 from by omega]
    simpa [wideBytes] using q
theorem low_at (d : Value) (cs : List Int32) (j : Nat) (h : j < cs.length) : (cs.map fun c => Value.int (lo8 c)).getD j d = .int (lo8 (cs.getD j 0)) := by
  simp [List.getD_eq_getElem?_getD, h]
/-- an array of N2 bytes vs codes the chars cs by the coder cd -/
def CodA (cs : List Int32) (cd N2 : Int32) (vs : List Value) : Prop := (cd = 0 ∧ N2 = Int32.ofNat cs.length ∧ vs = (cs.map fun c => Value.int (lo8 c)) ∧ ∀ c ∈ cs, ¬ 255 < c) ∨ (cd = 1 ∧ N2 = Int32.ofNat (2 * cs.length) ∧ vs = wideBytes cs ∧ ∃ c ∈ cs, 255 < c)
theorem CodA.cod {cs : List Int32} {cd N2 : Int32} {vs : List Value} {V : Cell} (h : CodA cs cd N2 vs) (hn : 2 * cs.length < 2 ^ 31) (hs : V.slots.size = N2.toNatClampNeg) (hv : RoadKit.Has V vs (.int 0)) : Cod cd cs.length (fun j => cs.getD j 0) V := by
  rcases h with ⟨rfl, rfl, rfl, h⟩ | ⟨rfl, rfl, rfl, c, hc, hw⟩
  · rw [n32 (by omega)] at hs
    exact Or.inl ⟨rfl, hs, fun j hj => ⟨by rw [hv j (by omega), low_at _ _ _ hj], by
      have e : cs.getD j 0 = cs[j] := by simp [List.getD_eq_getElem?_getD, hj]
      show ¬ 255 < cs.getD j 0
      rw [e]; exact h _ (List.getElem_mem _)⟩⟩
  · rw [n32 (by omega)] at hs
    obtain ⟨j, hj, rfl⟩ := List.getElem_of_mem hc
    exact Or.inr ⟨rfl, hs, fun j hj => ⟨by rw [hv _ (by omega), wide_lo _ _ _ hj], by rw [hv _ (by omega), wide_hi _ _ _ hj]⟩, j, hj, by
      have e : cs.getD j 0 = cs[j] := by simp [List.getD_eq_getElem?_getD, hj]
      show 255 < cs.getD j 0
      rw [e]; exact hw⟩
/-- an object of exactly java/lang/String, its two fields found: as the laws ask it -/
theorem strObj {Z U : State} {a0 : Array Value} {kI : Nat} (wi : (Jvm.Cond.instantiable ST kI).before a0 Z = true) (al : Z.vm.Alike U.vm) {x : Addr} {v0 c0 : Value} (E : RoadKit.Exa Z U.heap x ST) (V : RoadKit.Fld Z U.heap x ST "value" "[B" v0) (C : RoadKit.Fld Z U.heap x ST "coder" "B" c0) :
    ∃ (D : Cell) (fV fC : Field), Blank ST x D U ∧ Found ST "value" "[B" fV U ∧ Found ST "coder" "B" fC U ∧ D.slots[fV.slot]? = some v0 ∧ D.slots[fC.slot]? = some c0 ∧ RoadKit.slotOf Z ST "value" "[B" = fV.slot ∧ RoadKit.slotOf Z ST "coder" "B" = fC.slot := by
  obtain ⟨D, cfV, kV, iV, fV, hD, gV, stV, knV, obV, asV, slV⟩ := V
  obtain ⟨D', cfC, kC, iC, fC, hD', gC, stC, -, -, asC, slC⟩ := C
  cases hD.symm.trans hD'
  obtain ⟨D2, kD, e1, e2, e3, e4, e5⟩ := E
  cases hD.symm.trans e1
  obtain ⟨c2, k2, i1, i2, i3, -⟩ := Cond.instantiable_spec wi
  cases e2.symm.trans i1
  cases e3.symm.trans i2
  obtain ⟨kU, u1, u2⟩ := al.2.2 _ _ e3
  exact ⟨D, fV, fC, ⟨hD, ⟨knV, fun q hq => by rw [hq] at obV; cases obV⟩, by rw [al.findClass]; exact e2, kU, u1, by rw [u2]; exact i3, by rw [u2]; exact e5 i3⟩, ⟨SBG.found_only al ⟨cfV, kV, iV, gV⟩, stV⟩, ⟨SBG.found_only al ⟨cfC, kC, iC, gC⟩, stC⟩, slV, slC, by simp [RoadKit.slotOf, gV], by simp [RoadKit.slotOf, gC]⟩
theorem sta_is {Z U : State} (al : Z.vm.Alike U.vm) {C n d : String} {v : Value} (S : RoadKit.Sta Z U.heap C n d v) : StaticIs U C n d v := by
  obtain ⟨cfS, iS, kS, fS, st, cS, t1, t2, t3, t4, t5, t6, t7⟩ := S
  exact StaticIs.there (s := { Z with heap := U.heap }) ⟨cfS, iS, kS, fS, st, cS, t1, t2, t3, t4, t5, (fun q => by rw [q] at t6; cases t6), t7⟩ al rfl
end StrChars.Road
namespace StrChars
open Jvm Sem ClassFile Op Lib Jvm.Stand Jvm.Free.XT Jvm.Free.ALB Jvm.Free.JM Jvm.Free
open Jvm.Lib.Cold (StaticIs)
/-- what place i of a byte[]'s cell holds -/
def yv (A : Cell) (i : Nat) : Int32 := match A.slots[i]? with | some (.int x) => x | _ => 0
theorem yv_get {a : Addr} {A : Cell} {U : State} (h : XT.Arr .byte a A U) (ht : Typed .byte A) {i : Nat} (hi : i < A.slots.size) : A.slots[i]? = some (.int (yv A i)) := by
  have e := Array.getElem?_eq_getElem hi
  have f := ht i _ e
  unfold yv; rw [e]
  generalize A.slots[i] = v at f
  cases v <;> simp [fits] at f ⊢
/-- the two arrays are equal, place for place -/
def EqC (A B : Cell) : Prop := A.slots.size = B.slots.size ∧ ∀ i, i < A.slots.size → yv A i = yv B i
/-- a boolean that says whether p -/
def Says01 (q : Prop) (r : Option Value) (s u : State) : Prop := ∃ v : Int32, r = some (.int v) ∧ u.heap = s.heap ∧ ((v = 1 ∧ q) ∨ (v = 0 ∧ ¬ q))
theorem Says01.mv {q : Prop} : ∀ r (U U' V V' : State), U'.heap = U.heap → V.vm.Alike V'.vm → V'.heap = V.heap → Says01 q r U V → Says01 q r U' V' :=
  fun r U U' V V' h1 _ h2 ⟨v, a, b, c⟩ => ⟨v, a, by rw [h1, h2]; exact b, c⟩
namespace LEq
def yN : MethodName := ⟨"java/lang/StringLatin1", "equals", "([B[B)Z"⟩
abbrev yB : ByteArray := jdk_43_method_13_code
theorem d0 : decode yB 0 = .ok (.aload_n 0, 1) := by decide +kernel
theorem d1 : decode yB 1 = .ok (.arraylength, 1) := by decide +kernel
theorem d2 : decode yB 2 = .ok (.aload_n 1, 1) := by decide +kernel
theorem d3 : decode yB 3 = .ok (.arraylength, 1) := by decide +kernel
theorem d4 : decode yB 4 = .ok (.if_icmp (.ne) 30, 3) := by decide +kernel
theorem d7 : decode yB 7 = .ok (.iconst 0, 1) := by decide +kernel
theorem d8 : decode yB 8 = .ok (.istore_n 2, 1) := by decide +kernel
theorem d9 : decode yB 9 = .ok (.iload_n 2, 1) := by decide +kernel
theorem d10 : decode yB 10 = .ok (.aload_n 0, 1) := by decide +kernel
theorem d11 : decode yB 11 = .ok (.arraylength, 1) := by decide +kernel
theorem d12 : decode yB 12 = .ok (.if_icmp (.ge) 20, 3) := by decide +kernel
theorem d15 : decode yB 15 = .ok (.aload_n 0, 1) := by decide +kernel
theorem d16 : decode yB 16 = .ok (.iload_n 2, 1) := by decide +kernel
theorem d17 : decode yB 17 = .ok (.baload, 1) := by decide +kernel
theorem d18 : decode yB 18 = .ok (.aload_n 1, 1) := by decide +kernel
theorem d19 : decode yB 19 = .ok (.iload_n 2, 1) := by decide +kernel
theorem d20 : decode yB 20 = .ok (.baload, 1) := by decide +kernel
theorem d21 : decode yB 21 = .ok (.if_icmp (.eq) 5, 3) := by decide +kernel
theorem d24 : decode yB 24 = .ok (.iconst 0, 1) := by decide +kernel
theorem d25 : decode yB 25 = .ok (.ireturn, 1) := by decide +kernel
theorem d26 : decode yB 26 = .ok (.iinc 2 1, 3) := by decide +kernel
theorem d29 : decode yB 29 = .ok (.goto (-20), 3) := by decide +kernel
theorem d32 : decode yB 32 = .ok (.iconst 1, 1) := by decide +kernel
theorem d33 : decode yB 33 = .ok (.ireturn, 1) := by decide +kernel
theorem d34 : decode yB 34 = .ok (.iconst 0, 1) := by decide +kernel
theorem d35 : decode yB 35 = .ok (.ireturn, 1) := by decide +kernel
def site : List Cond := []
def tab : Cond := tabOf yN yB 3 (some .boolean) site
def P (a : Addr) (A : Cell) (b : Addr) (B : Cell) (args : Array Value) (s : State) : Prop := args = #[.ref a, .ref b] ∧ XT.Arr .byte a A s ∧ Typed .byte A ∧ XT.Arr .byte b B s ∧ Typed .byte B
/-- whether two byte[] are equal, place for place -/
theorem law (l : Launch) (a : Addr) (A : Cell) (b : Addr) (B : Cell) : Law l yN 2 2 0 0 yB 3 (some .boolean) site (P a A b B) (Says01 (EqC A B)) [] 0 0 := by
  refine Law.of_walk (plainFor_of_name (by decide +kernel)) (by decide +kernel) (by decide +kernel) (by decide) (fun _ _ h => by rw [h.1]; rfl) (fun _ U U' hal hh h => ⟨h.1, h.2.1.mv hal hh, h.2.2.1, h.2.2.2.1.mv hal hh, h.2.2.2.2⟩) (fun r U U' V V' h1 hal h2 h => Says01.mv r U U' V V' h1 hal h2 h) ?_
  intro p e s m args below meth c s₁ X0 hexec hbytes hml hret hlk hnm hown hh0 W hP
  obtain ⟨rfl, hA, tA, hB, tB⟩ := hP
  have a31 := hA.2.2.2
  have b31 := hB.2.2.2
  have hA0 := hA.mv X0.warmed.alike hh0
  have hB0 := hB.mv X0.warmed.alike hh0
  have c1 : Steps p.tables e below (s₁.setTop (entryFrame m #[.ref a, .ref b] 3)) (s₁.setTop (mkF m 0 #[.val (.ref a), .val (.ref b), .unset] [])) := entry rfl
  have c2 : Steps p.tables e below (s₁.setTop (entryFrame m #[.ref a, .ref b] 3)) (s₁.setTop (mkF m 4 #[.val (.ref a), .val (.ref b), .unset] [.int (Int32.ofNat B.slots.size), .int (Int32.ofNat A.slots.size)])) := c1.trans (by
    refine XS.aloadN X0.here hexec rfl (hb hbytes d0) rfl rfl ?_
    refine X0.alen hexec hA0 rfl rfl (hb hbytes d1) ?_
    refine XS.aloadN X0.here hexec rfl (hb hbytes d2) rfl rfl ?_
    refine X0.alen hexec hB0 rfl rfl (hb hbytes d3) ?_
    exact Steps.refl _)
  by_cases hs : A.slots.size = B.slots.size
  · have c3 : Steps p.tables e below (s₁.setTop (entryFrame m #[.ref a, .ref b] 3)) (s₁.setTop (mkF m 9 #[.val (.ref a), .val (.ref b), .val (.int 0)] [])) := c2.trans (by
      refine XS.icmpNo X0.here hexec rfl (hb hbytes d4) rfl (ii_ne_f (by rw [hs])) ?_
      refine iconstV X0.here hexec rfl 0 (hb hbytes d7) (by decide) ?_
      refine XS.istoreN X0.here hexec rfl (hb hbytes d8) rfl rfl ?_
      exact Steps.refl _)
    have loop : ∀ (r i : Nat), i + r = A.slots.size → (∀ j, j < i → yv A j = yv B j) → Steps p.tables e below (s₁.setTop (entryFrame m #[.ref a, .ref b] 3)) (s₁.setTop (mkF m 9 #[.val (.ref a), .val (.ref b), .val (.int (Int32.ofNat i))] [])) → ∃ (pc : Nat) (Ls : Array Slot) (v : Int32), (pc = 25 ∨ pc = 33) ∧ ((v = 1 ∧ EqC A B) ∨ (v = 0 ∧ ¬ EqC A B)) ∧ Steps p.tables e below (s₁.setTop (entryFrame m #[.ref a, .ref b] 3)) (s₁.setTop (mkF m pc Ls [.int v])) := by
      intro r
      induction r with
      | zero =>
        intro i hi he cl
        exact ⟨33, _, 1, Or.inr rfl, Or.inl ⟨rfl, hs, fun j hj => he j (by omega)⟩, cl.trans (by
          refine XS.iloadN X0.here hexec rfl (hb hbytes d9) rfl ?_
          refine XS.aloadN X0.here hexec rfl (hb hbytes d10) rfl rfl ?_
          refine X0.alen hexec hA0 rfl rfl (hb hbytes d11) ?_
          refine XS.icmpYes X0.here hexec rfl (pc0 := 12) rfl (hb hbytes d12) rfl (ii_ge_t (nlt32 (by omega) (by omega))) (by decide) rfl ?_
          refine iconstV X0.here hexec rfl 1 (hb hbytes d32) (by decide) ?_
          exact Steps.refl _)⟩
      | succ r ih =>
        intro i hi he cl
        have c4 : Steps p.tables e below (s₁.setTop (entryFrame m #[.ref a, .ref b] 3)) (s₁.setTop (mkF m 21 #[.val (.ref a), .val (.ref b), .val (.int (Int32.ofNat i))] [.int (yv B i), .int (yv A i)])) := cl.trans (by
          refine XS.iloadN X0.here hexec rfl (hb hbytes d9) rfl ?_
          refine XS.aloadN X0.here hexec rfl (hb hbytes d10) rfl rfl ?_
          refine X0.alen hexec hA0 rfl rfl (hb hbytes d11) ?_
          refine XS.icmpNo X0.here hexec rfl (hb hbytes d12) rfl (ii_ge_f (lt32 (by omega) (by omega))) ?_
          refine XS.aloadN X0.here hexec rfl (hb hbytes d15) rfl rfl ?_
          refine XS.iloadN X0.here hexec rfl (hb hbytes d16) rfl ?_
          refine X0.aget hexec hA0 rfl (yv_get hA tA (i := i) (by omega)) rfl rfl (hb hbytes d17) ?_
          refine XS.aloadN X0.here hexec rfl (hb hbytes d18) rfl rfl ?_
          refine XS.iloadN X0.here hexec rfl (hb hbytes d19) rfl ?_
          refine X0.aget hexec hB0 rfl (yv_get hB tB (i := i) (by omega)) rfl rfl (hb hbytes d20) ?_
          exact Steps.refl _)
        by_cases hv : yv A i = yv B i
        · have c5 : Steps p.tables e below (s₁.setTop (entryFrame m #[.ref a, .ref b] 3)) (s₁.setTop (mkF m 9 #[.val (.ref a), .val (.ref b), .val (.int (Int32.ofNat i + 1))] [])) := c4.trans (by
            refine XS.icmpYes X0.here hexec rfl (pc0 := 21) rfl (hb hbytes d21) rfl (ii_eq_t hv) (by decide) rfl ?_
            refine iincV X0.here hexec rfl 1 (hb hbytes d26) (by decide) rfl rfl ?_
            refine XS.goto X0.here hexec rfl (pc0 := 29) rfl (hb hbytes d29) (by decide) rfl ?_
            exact Steps.refl _)
          rw [succ32] at c5
          exact ih (i + 1) (by omega) (fun j hj => by
            by_cases e : j = i
            · rw [e]; exact hv
            · exact he j (by omega)) c5
        · exact ⟨25, _, 0, Or.inl rfl, Or.inr ⟨rfl, fun q => hv (q.2 i (by omega))⟩, c4.trans (by
            refine XS.icmpNo X0.here hexec rfl (hb hbytes d21) rfl (ii_eq_f hv) ?_
            refine iconstV X0.here hexec rfl 0 (hb hbytes d24) (by decide) ?_
            exact Steps.refl _)⟩
    obtain ⟨pc, Ls, v, hpc, hv, cz⟩ := loop A.slots.size 0 (by omega) (fun j hj => absurd hj (Nat.not_lt_zero j)) c3
    have nv : narrow .boolean (.int v) = .int v := by rcases hv with ⟨rfl, -⟩ | ⟨rfl, -⟩ <;> rfl
    rcases hpc with rfl | rfl
    · exact ⟨s₁, some (.int v), _, _, _, X0, rfl, rfl, rfl, (fun h => by cases h), ⟨v, rfl, hh0, hv⟩, fun fs hl => cz.trans (X0.ireturnOut hexec hret nv (Or.inr (Or.inl rfl)) (hb hbytes d25) hl)⟩
    · exact ⟨s₁, some (.int v), _, _, _, X0, rfl, rfl, rfl, (fun h => by cases h), ⟨v, rfl, hh0, hv⟩, fun fs hl => cz.trans (X0.ireturnOut hexec hret nv (Or.inr (Or.inl rfl)) (hb hbytes d33) hl)⟩
  · have c3 : Steps p.tables e below (s₁.setTop (entryFrame m #[.ref a, .ref b] 3)) (s₁.setTop (mkF m 35 #[.val (.ref a), .val (.ref b), .unset] [.int 0])) := c2.trans (by
      refine XS.icmpYes X0.here hexec rfl (pc0 := 4) rfl (hb hbytes d4) rfl (ii_ne_t (ne32 a31 b31 hs)) (by decide) rfl ?_
      refine iconstV X0.here hexec rfl 0 (hb hbytes d34) (by decide) ?_
      exact Steps.refl _)
    exact ⟨s₁, some (.int 0), _, _, _, X0, rfl, rfl, rfl, (fun h => by cases h), ⟨0, rfl, hh0, Or.inr ⟨rfl, fun q => hs q.1⟩⟩, fun fs hl => c3.trans (X0.ireturnOut hexec hret rfl (Or.inr (Or.inl rfl)) (hb hbytes d35) hl)⟩
end LEq
theorem Cod.ty {cd : Int32} {n : Nat} {f : Nat → Int32} {V : Cell} (h : Cod cd n f V) : Typed .byte V := fun i v hv => by
  have hi : i < V.slots.size := (Array.getElem?_eq_some_iff.mp hv).1
  rcases h with ⟨-, k1, k2⟩ | ⟨-, k1, k2, -⟩
  · rw [(k2 i (by omega)).1] at hv; cases hv; exact fits_lo8 _
  · rcases Nat.mod_two_eq_zero_or_one i with e | e
    · obtain ⟨j, rfl⟩ : ∃ j, i = 2 * j := ⟨i / 2, by omega⟩
      rw [(k2 j (by omega)).1] at hv; cases hv; exact fits_lo8 _
    · obtain ⟨j, rfl⟩ : ∃ j, i = 2 * j + 1 := ⟨i / 2, by omega⟩
      rw [(k2 j (by omega)).2] at hv; cases hv; exact fits_lo8 _
/-- the same text -/
def SameT (n : Nat) (f : Nat → Int32) (k : Nat) (g : Nat → Int32) : Prop := n = k ∧ ∀ j, j < n → f j = g j
theorem lo8_inj {x y : Int32} (h0 : ¬ x < 0) (h1 : ¬ 255 < x) (k0 : ¬ y < 0) (k1 : ¬ 255 < y) (h : lo8 x = lo8 y) : x = y := by
  rw [← lo8_mask h0 h1, ← lo8_mask k0 k1, h]
/-- arrays coded by one coder are equal just where the texts are -/
theorem Cod.eqv {cd : Int32} {n k : Nat} {f g : Nat → Int32} {V V' : Cell} (h : Cod cd n f V) (h' : Cod cd k g V') (hf : ∀ j, j < n → ¬ f j < 0 ∧ ¬ 65535 < f j) (hg : ∀ j, j < k → ¬ g j < 0 ∧ ¬ 65535 < g j) : EqC V V' ↔ SameT n f k g := by
  have yvv : ∀ {W : Cell} {i : Nat} {x : Int32}, W.slots[i]? = some (.int x) → yv W i = x := fun q => by unfold yv; rw [q]
  rcases h with ⟨rfl, k1, k2⟩ | ⟨rfl, k1, k2, -⟩
  · rcases h' with ⟨-, m1, m2⟩ | ⟨e, -⟩
    · constructor
      · rintro ⟨e1, e2⟩
        refine ⟨by omega, fun j hj => ?_⟩
        have q := e2 j (by omega)
        rw [yvv (k2 j hj).1, yvv (m2 j (by omega)).1] at q
        exact lo8_inj (hf j hj).1 (k2 j hj).2 (hg j (by omega)).1 (m2 j (by omega)).2 q
      · rintro ⟨rfl, e2⟩
        refine ⟨by omega, fun j hj => ?_⟩
        rw [yvv (k2 j (by omega)).1, yvv (m2 j (by omega)).1, e2 j (by omega)]
    · exact absurd e (by decide)
  · rcases h' with ⟨e, -⟩ | ⟨-, m1, m2, -⟩
    · exact absurd e (by decide)
    · constructor
      · rintro ⟨e1, e2⟩
        refine ⟨by omega, fun j hj => ?_⟩
        have q1 := e2 (2 * j) (by omega)
        have q2 := e2 (2 * j + 1) (by omega)
        rw [yvv (k2 j hj).1, yvv (m2 j (by omega)).1] at q1
        rw [yvv (k2 j hj).2, yvv (m2 j (by omega)).2] at q2
        rw [← pair_says (hf j hj).1 (hf j hj).2, ← pair_says (hg j (by omega)).1 (hg j (by omega)).2, q1, q2]
      · rintro ⟨rfl, e2⟩
        refine ⟨by omega, fun i hi => ?_⟩
        rcases Nat.mod_two_eq_zero_or_one i with e | e
        · obtain ⟨j, rfl⟩ : ∃ j, i = 2 * j := ⟨i / 2, by omega⟩
          rw [yvv (k2 j (by omega)).1, yvv (m2 j (by omega)).1, e2 j (by omega)]
        · obtain ⟨j, rfl⟩ : ∃ j, i = 2 * j + 1 := ⟨i / 2, by omega⟩
          rw [yvv (k2 j (by omega)).2, yvv (m2 j (by omega)).2, e2 j (by omega)]
/-- two codings differ: so do the texts -/
theorem Cod.dif {cd cd' : Int32} {n k : Nat} {f g : Nat → Int32} {V V' : Cell} (h : Cod cd n f V) (h' : Cod cd' k g V') (hne : ¬ cd = cd') : ¬ SameT n f k g := by
  rintro ⟨rfl, e⟩
  rcases h with ⟨rfl, -, k2⟩ | ⟨rfl, -, -, j, hj, hw⟩
  · rcases h' with ⟨rfl, -⟩ | ⟨-, -, -, j, hj, hw⟩
    · exact hne rfl
    · exact (k2 j hj).2 (by rw [e j hj]; exact hw)
  · rcases h' with ⟨-, -, m2⟩ | ⟨rfl, -⟩
    · exact (m2 j hj).2 (by rw [← e j hj]; exact hw)
    · exact hne rfl
/-- an object of exactly C is an instance of C -/
theorem cinst {p : Program} {l : Launch} {e : Env} {R : Room} {s : State} {m : MethodId} {args : Array Value} {below : List Frame} {meth : Method} {c : Code} {T : State} {locs : List Loc} {cells slots : Nat} (X : Stand p l e R s m args below meth c T locs cells slots) (hexec : p.tables.exec = Jvm.exec) {own C : String} {index : Nat} (hown : s.vm.findClass own = some m.cls) (hlink : (Cond.classLink own index C).before args s = true) {a : Addr} (hE : Exact C a T)
    {g : JFrame} (hg : g.method = m) {rest : List Value} (hstack : g.stack = .ref a :: rest) (hdg : decode c.code g.pc = .ok (.instanceof index, 3)) :
    ∃ T', Stand p l e R s m args below meth c T' locs cells slots ∧ T'.heap = T.heap ∧ ∀ target, Steps p.tables e below (T'.setTop { g with pc := g.pc + 3, stack := .int 1 :: rest }) target → Steps p.tables e below (T.setTop g) target := by
  obtain ⟨cB, h1, D, h2, h3, h4⟩ := hE
  have h1' : s.vm.findClass C = some cB := by rw [← X.warmed.alike.findClass]; exact h1
  obtain ⟨vm', X', st⟩ := X.instanceofYes hexec hown hlink h2 h4 h1' (by rw [h3]; exact Jvm.Free.SB.assignable_self _ _) hg hstack hdg
  exact ⟨_, X', rfl, st⟩
theorem cself {p : Program} {l : Launch} {e : Env} {R : Room} {s : State} {m : MethodId} {args : Array Value} {below : List Frame} {meth : Method} {c : Code} {T : State} {locs : List Loc} {cells slots : Nat} (X : Stand p l e R s m args below meth c T locs cells slots) (hexec : p.tables.exec = Jvm.exec) {own C : String} {index : Nat} (hown : s.vm.findClass own = some m.cls) (hlink : (Cond.classLink own index C).before args s = true) {a : Addr} (hE : Exact C a T)
    {g : JFrame} (hg : g.method = m) {rest : List Value} (hstack : g.stack = .ref a :: rest) (hdg : decode c.code g.pc = .ok (.checkcast index, 3)) :
    ∃ T', Stand p l e R s m args below meth c T' locs cells slots ∧ T'.heap = T.heap ∧ ∀ target, Steps p.tables e below (T'.setTop { g with pc := g.pc + 3, stack := .ref a :: rest }) target → Steps p.tables e below (T.setTop g) target := by
  obtain ⟨cB, h1, D, h2, h3, h4⟩ := hE
  have h1' : s.vm.findClass C = some cB := by rw [← X.warmed.alike.findClass]; exact h1
  obtain ⟨vm', X', st⟩ := X.checkcastYes hexec hown hlink h2 h4 h1' (by rw [h3]; exact Jvm.Free.SB.assignable_self _ _) hg hstack hdg
  exact ⟨_, X', rfl, fun t h => st t (by rw [← hstack] at h; exact h)⟩
namespace SEq
def yN : MethodName := ⟨"java/lang/String", "equals", "(Ljava/lang/Object;)Z"⟩
abbrev yB : ByteArray := jdk_42_method_66_code
theorem d0 : decode yB 0 = .ok (.aload_n 0, 1) := by decide +kernel
theorem d1 : decode yB 1 = .ok (.aload_n 1, 1) := by decide +kernel
theorem d2 : decode yB 2 = .ok (.if_acmp (.ne) 5, 3) := by decide +kernel
theorem d5 : decode yB 5 = .ok (.iconst 1, 1) := by decide +kernel
theorem d6 : decode yB 6 = .ok (.ireturn, 1) := by decide +kernel
theorem d7 : decode yB 7 = .ok (.aload_n 1, 1) := by decide +kernel
theorem d8 : decode yB 8 = .ok (.instanceof 10, 3) := by decide +kernel
theorem d11 : decode yB 11 = .ok (.ifCond (.eq) 43, 3) := by decide +kernel
theorem d14 : decode yB 14 = .ok (.aload_n 1, 1) := by decide +kernel
theorem d15 : decode yB 15 = .ok (.checkcast 10, 3) := by decide +kernel
theorem d18 : decode yB 18 = .ok (.astore_n 2, 1) := by decide +kernel
theorem d19 : decode yB 19 = .ok (.getstatic 38, 3) := by decide +kernel
theorem d22 : decode yB 22 = .ok (.ifCond (.eq) 14, 3) := by decide +kernel
theorem d25 : decode yB 25 = .ok (.aload_n 0, 1) := by decide +kernel
theorem d26 : decode yB 26 = .ok (.getfield 15, 3) := by decide +kernel
theorem d29 : decode yB 29 = .ok (.aload_n 2, 1) := by decide +kernel
theorem d30 : decode yB 30 = .ok (.getfield 15, 3) := by decide +kernel
theorem d33 : decode yB 33 = .ok (.if_icmp (.ne) 21, 3) := by decide +kernel
theorem d36 : decode yB 36 = .ok (.aload_n 0, 1) := by decide +kernel
theorem d37 : decode yB 37 = .ok (.getfield 9, 3) := by decide +kernel
theorem d40 : decode yB 40 = .ok (.aload_n 2, 1) := by decide +kernel
theorem d41 : decode yB 41 = .ok (.getfield 9, 3) := by decide +kernel
theorem d44 : decode yB 44 = .ok (.invokestatic 541, 3) := by decide +kernel
theorem d47 : decode yB 47 = .ok (.ifCond (.eq) 7, 3) := by decide +kernel
theorem d50 : decode yB 50 = .ok (.iconst 1, 1) := by decide +kernel
theorem d51 : decode yB 51 = .ok (.goto 4, 3) := by decide +kernel
theorem d54 : decode yB 54 = .ok (.iconst 0, 1) := by decide +kernel
theorem d55 : decode yB 55 = .ok (.ireturn, 1) := by decide +kernel
def site : List Cond := [.classLink "java/lang/String" 10 "java/lang/String", .fieldLink "java/lang/String" 38 "java/lang/String" "COMPACT_STRINGS" "Z", .fieldLink "java/lang/String" 15 "java/lang/String" "coder" "B", .fieldLink "java/lang/String" 9 "java/lang/String" "value" "[B", LEq.tab] ++ staticW "java/lang/String" 541 LEq.yN
def tab : Cond := tabOf yN yB 3 (some .boolean) site
def P (x t : Addr) (V : Cell) (cd : Int32) (n : Nat) (f : Nat → Int32) (y t' : Addr) (V' : Cell) (cd' : Int32) (k : Nat) (g : Nat → Int32) (z : Int32) (args : Array Value) (s : State) : Prop := args = #[.ref x, .ref y] ∧ Txt x t V cd n f s ∧ Txt y t' V' cd' k g s ∧ StaticIs s "java/lang/String" "COMPACT_STRINGS" "Z" (.int z) ∧ ¬ z = 0
/-- equals(Object) of two Strings: whether the texts are the same -/
theorem law (l : Launch) (x t : Addr) (V : Cell) (cd : Int32) (n : Nat) (f : Nat → Int32) (y t' : Addr) (V' : Cell) (cd' : Int32) (k : Nat) (g : Nat → Int32) (z : Int32) : Law l yN 2 1 1 14 yB 3 (some .boolean) site (P x t V cd n f y t' V' cd' k g z) (Says01 (SameT n f k g)) [] 0 0 := by
  refine Law.of_walk (plainFor_of_name (by decide +kernel)) (by decide +kernel) (by decide +kernel) (by decide) (fun _ _ h => by rw [h.1]; rfl) (fun _ U U' hal hh h => ⟨h.1, h.2.1.mv hal hh, h.2.2.1.mv hal hh, h.2.2.2.1.there hal hh, h.2.2.2.2⟩) (fun r U U' V V' h1 hal h2 h => Says01.mv r U U' V V' h1 hal h2 h) ?_
  intro p e s m args below meth c s₁ X0 hexec hbytes hml hret hlk hnm hown hh0 W hP
  obtain ⟨rfl, hx, hy, s1, hz⟩ := hP
  have c1 : Steps p.tables e below (s₁.setTop (entryFrame m #[.ref x, .ref y] 3)) (s₁.setTop (mkF m 2 #[.val (.ref x), .val (.ref y), .unset] [.ref y, .ref x])) := Steps.trans (entry rfl) (by
    show Steps p.tables e below (s₁.setTop (mkF m 0 #[.val (.ref x), .val (.ref y), .unset] [])) _
    refine XS.aloadN X0.here hexec rfl (hb hbytes d0) rfl rfl ?_
    refine XS.aloadN X0.here hexec rfl (hb hbytes d1) rfl rfl ?_
    exact Steps.refl _)
  by_cases hxy : x = y
  · have c2 : Steps p.tables e below (s₁.setTop (entryFrame m #[.ref x, .ref y] 3)) (s₁.setTop (mkF m 6 #[.val (.ref x), .val (.ref y), .unset] [.int 1])) := c1.trans (by
      refine acmpNo X0.here hexec rfl (hb hbytes d2) rfl rfl rfl (by simp [acmp, hxy]) ?_
      refine iconstV X0.here hexec rfl 1 (hb hbytes d5) (by decide) ?_
      exact Steps.refl _)
    subst hxy
    have ec : cd = cd' := by
      obtain ⟨D, fd, a1, a2, a3⟩ := hx.2.2.1
      obtain ⟨D', fd', b1, b2, b3⟩ := hy.2.2.1
      cases a1.symm.trans b1
      obtain ⟨q1, q2, q3, q4⟩ := a2.1
      obtain ⟨r1, r2, r3, r4⟩ := b2.1
      cases q4.symm.trans r4
      cases a3.symm.trans b3; rfl
    have et : t = t' := by
      obtain ⟨D, fd, a1, a2, a3⟩ := hx.2.1
      obtain ⟨D', fd', b1, b2, b3⟩ := hy.2.1
      cases a1.symm.trans b1
      obtain ⟨q1, q2, q3, q4⟩ := a2.1
      obtain ⟨r1, r2, r3, r4⟩ := b2.1
      cases q4.symm.trans r4
      cases a3.symm.trans b3; rfl
    subst ec et
    have ev : V = V' := by cases hx.2.2.2.1.1.symm.trans hy.2.2.2.1.1; rfl
    subst ev
    have hs : SameT n f k g := (Cod.eqv hx.2.2.2.2.1 hy.2.2.2.2.1 hx.2.2.2.2.2 hy.2.2.2.2.2).mp ⟨rfl, fun _ _ => rfl⟩
    exact ⟨s₁, some (.int 1), _, _, _, X0, rfl, rfl, rfl, (fun h => by cases h), ⟨1, rfl, hh0, Or.inl ⟨rfl, hs⟩⟩, fun fs hl => c2.trans (X0.ireturnOut hexec hret rfl (Or.inr (Or.inl rfl)) (hb hbytes d6) hl)⟩
  · have c2 : Steps p.tables e below (s₁.setTop (entryFrame m #[.ref x, .ref y] 3)) (s₁.setTop (mkF m 8 #[.val (.ref x), .val (.ref y), .unset] [.ref y])) := c1.trans (by
      refine acmpYes X0.here hexec rfl (pc0 := 2) rfl (hb hbytes d2) rfl rfl rfl (by simp [acmp, hxy]) (by decide) rfl ?_
      refine XS.aloadN X0.here hexec rfl (hb hbytes d7) rfl rfl ?_
      exact Steps.refl _)
    obtain ⟨T3, X3, q3, st3⟩ := cinst X0 hexec hown (wk W (.classLink "java/lang/String" 10 "java/lang/String")) (hy.mv X0.warmed.alike hh0).1 (g := (mkF m 8 #[.val (.ref x), .val (.ref y), .unset] [.ref y])) rfl (rest := []) rfl (hb hbytes d8)
    have hh3 := q3.trans hh0
    have c4 : Steps p.tables e below (s₁.setTop (entryFrame m #[.ref x, .ref y] 3)) (T3.setTop (mkF m 15 #[.val (.ref x), .val (.ref y), .unset] [.ref y])) := (c2.trans (st3 _ (Steps.refl _))).trans (by
      refine XS.ifNo X3.here hexec rfl (hb hbytes d11) rfl (i0_eq_f (by decide)) ?_
      refine XS.aloadN X3.here hexec rfl (hb hbytes d14) rfl rfl ?_
      exact Steps.refl _)
    obtain ⟨T5, X5, q5, st5⟩ := cself X3 hexec hown (wk W (.classLink "java/lang/String" 10 "java/lang/String")) (hy.mv X3.warmed.alike hh3).1 (g := (mkF m 15 #[.val (.ref x), .val (.ref y), .unset] [.ref y])) rfl (rest := []) rfl (hb hbytes d15)
    have hh5 := q5.trans hh3
    have c6 : Steps p.tables e below (s₁.setTop (entryFrame m #[.ref x, .ref y] 3)) (T5.setTop (mkF m 19 #[.val (.ref x), .val (.ref y), .val (.ref y)] [])) := (c4.trans (st5 _ (Steps.refl _))).trans (by
      refine XS.astoreN X5.here hexec rfl (hb hbytes d18) rfl rfl rfl ?_
      exact Steps.refl _)
    obtain ⟨T7, X7, q7, st7⟩ := X5.sget hexec hown (wk W (.fieldLink "java/lang/String" 38 "java/lang/String" "COMPACT_STRINGS" "Z")) s1 (fun _ _ h => by rw [hh5]; exact h) (g := (mkF m 19 #[.val (.ref x), .val (.ref y), .val (.ref y)] [])) rfl (hb hbytes d19)
    have hh7 := q7.trans hh5
    have c8 : Steps p.tables e below (s₁.setTop (entryFrame m #[.ref x, .ref y] 3)) (T7.setTop (mkF m 26 #[.val (.ref x), .val (.ref y), .val (.ref y)] [.ref x])) := (c6.trans (st7 _ (Steps.refl _))).trans (by
      refine XS.ifNo X7.here hexec rfl (hb hbytes d22) rfl (i0_eq_f hz) ?_
      refine XS.aloadN X7.here hexec rfl (hb hbytes d25) rfl rfl ?_
      exact Steps.refl _)
    obtain ⟨T9, X9, q9, st9⟩ := X7.hget hexec hown (wk W (.fieldLink "java/lang/String" 15 "java/lang/String" "coder" "B")) (hx.mv X7.warmed.alike hh7).2.2.1 (g := (mkF m 26 #[.val (.ref x), .val (.ref y), .val (.ref y)] [.ref x])) rfl (rest := []) rfl (hb hbytes d26)
    have hh9 := q9.trans hh7
    have c10 : Steps p.tables e below (s₁.setTop (entryFrame m #[.ref x, .ref y] 3)) (T9.setTop (mkF m 30 #[.val (.ref x), .val (.ref y), .val (.ref y)] [.ref y, .int cd])) := (c8.trans (st9 _ (Steps.refl _))).trans (by
      refine XS.aloadN X9.here hexec rfl (hb hbytes d29) rfl rfl ?_
      exact Steps.refl _)
    obtain ⟨T11, X11, q11, st11⟩ := X9.hget hexec hown (wk W (.fieldLink "java/lang/String" 15 "java/lang/String" "coder" "B")) (hy.mv X9.warmed.alike hh9).2.2.1 (g := (mkF m 30 #[.val (.ref x), .val (.ref y), .val (.ref y)] [.ref y, .int cd])) rfl (rest := [.int cd]) rfl (hb hbytes d30)
    have hh11 := q11.trans hh9
    have c12 : Steps p.tables e below (s₁.setTop (entryFrame m #[.ref x, .ref y] 3)) (T11.setTop (mkF m 33 #[.val (.ref x), .val (.ref y), .val (.ref y)] [.int cd', .int cd])) := c10.trans (st11 _ (Steps.refl _))
    by_cases hcd : cd = cd'
    · subst hcd
      have c13 : Steps p.tables e below (s₁.setTop (entryFrame m #[.ref x, .ref y] 3)) (T11.setTop (mkF m 37 #[.val (.ref x), .val (.ref y), .val (.ref y)] [.ref x])) := c12.trans (by
        refine XS.icmpNo X11.here hexec rfl (hb hbytes d33) rfl (ii_ne_f rfl) ?_
        refine XS.aloadN X11.here hexec rfl (hb hbytes d36) rfl rfl ?_
        exact Steps.refl _)
      obtain ⟨T14, X14, q14, st14⟩ := X11.hget hexec hown (wk W (.fieldLink "java/lang/String" 9 "java/lang/String" "value" "[B")) (hx.mv X11.warmed.alike hh11).2.1 (g := (mkF m 37 #[.val (.ref x), .val (.ref y), .val (.ref y)] [.ref x])) rfl (rest := []) rfl (hb hbytes d37)
      have hh14 := q14.trans hh11
      have c15 : Steps p.tables e below (s₁.setTop (entryFrame m #[.ref x, .ref y] 3)) (T14.setTop (mkF m 41 #[.val (.ref x), .val (.ref y), .val (.ref y)] [.ref y, .ref t])) := (c13.trans (st14 _ (Steps.refl _))).trans (by
        refine XS.aloadN X14.here hexec rfl (hb hbytes d40) rfl rfl ?_
        exact Steps.refl _)
      obtain ⟨T16, X16, q16, st16⟩ := X14.hget hexec hown (wk W (.fieldLink "java/lang/String" 9 "java/lang/String" "value" "[B")) (hy.mv X14.warmed.alike hh14).2.1 (g := (mkF m 41 #[.val (.ref x), .val (.ref y), .val (.ref y)] [.ref y, .ref t])) rfl (rest := [.ref t]) rfl (hb hbytes d41)
      have hh16 := q16.trans hh14
      have c17 : Steps p.tables e below (s₁.setTop (entryFrame m #[.ref x, .ref y] 3)) (T16.setTop (mkF m 44 #[.val (.ref x), .val (.ref y), .val (.ref y)] [.ref t', .ref t])) := c15.trans (st16 _ (Steps.refl _))
      obtain ⟨v18, T18, X18, E18, g18⟩ := X16.callS hexec (LEq.law l t V t' V') hown (wks W (staticW "java/lang/String" 541 LEq.yN)) (wk W LEq.tab) (W := 0) (Nat.le_of_ble_eq_true rfl) (Nat.le_of_ble_eq_true rfl) (Nat.le_refl _) (Nat.le_refl _) (g := (mkF m 44 #[.val (.ref x), .val (.ref y), .val (.ref y)] [.ref t', .ref t])) rfl (by rw [hml]; rfl) c17 (argsL := [.ref t, .ref t']) (rest := []) rfl rfl (by show 2 * 0 + 0 ≤ _; decide) (hb hbytes d44) (⟨rfl, hx.2.2.2.1.mv X16.warmed.alike hh16, hx.2.2.2.2.1.ty, hy.2.2.2.1.mv X16.warmed.alike hh16, hy.2.2.2.2.1.ty⟩)
      obtain ⟨v, rfl, q18, hv⟩ := E18
      have iff := Cod.eqv hx.2.2.2.2.1 hy.2.2.2.2.1 hx.2.2.2.2.2 hy.2.2.2.2.2
      rcases hv with ⟨rfl, he⟩ | ⟨rfl, he⟩
      · have c19 : Steps p.tables e below (s₁.setTop (entryFrame m #[.ref x, .ref y] 3)) (T18.setTop (mkF m 55 #[.val (.ref x), .val (.ref y), .val (.ref y)] [.int 1])) := Steps.trans g18 (by
          refine XS.ifNo X18.here hexec rfl (hb hbytes d47) rfl (i0_eq_f (by decide)) ?_
          refine iconstV X18.here hexec rfl 1 (hb hbytes d50) (by decide) ?_
          refine XS.goto X18.here hexec rfl (pc0 := 51) rfl (hb hbytes d51) (by decide) rfl ?_
          exact Steps.refl _)
        exact ⟨T18, some (.int 1), _, _, _, X18, rfl, rfl, rfl, (fun h => by cases h), ⟨1, rfl, q18.trans hh16, Or.inl ⟨rfl, iff.mp he⟩⟩, fun fs hl => c19.trans (X18.ireturnOut hexec hret rfl (Or.inr (Or.inl rfl)) (hb hbytes d55) hl)⟩
      · have c19 : Steps p.tables e below (s₁.setTop (entryFrame m #[.ref x, .ref y] 3)) (T18.setTop (mkF m 55 #[.val (.ref x), .val (.ref y), .val (.ref y)] [.int 0])) := Steps.trans g18 (by
          refine XS.ifYes X18.here hexec rfl (pc0 := 47) rfl (hb hbytes d47) rfl (i0_eq_t rfl) (by decide) rfl ?_
          refine iconstV X18.here hexec rfl 0 (hb hbytes d54) (by decide) ?_
          exact Steps.refl _)
        exact ⟨T18, some (.int 0), _, _, _, X18, rfl, rfl, rfl, (fun h => by cases h), ⟨0, rfl, q18.trans hh16, Or.inr ⟨rfl, fun q => he (iff.mpr q)⟩⟩, fun fs hl => c19.trans (X18.ireturnOut hexec hret rfl (Or.inr (Or.inl rfl)) (hb hbytes d55) hl)⟩
    · have c13 : Steps p.tables e below (s₁.setTop (entryFrame m #[.ref x, .ref y] 3)) (T11.setTop (mkF m 55 #[.val (.ref x), .val (.ref y), .val (.ref y)] [.int 0])) := c12.trans (by
        refine XS.icmpYes X11.here hexec rfl (pc0 := 33) rfl (hb hbytes d33) rfl (ii_ne_t hcd) (by decide) rfl ?_
        refine iconstV X11.here hexec rfl 0 (hb hbytes d54) (by decide) ?_
        exact Steps.refl _)
      exact ⟨T11, some (.int 0), _, _, _, X11, rfl, rfl, rfl, (fun h => by cases h), ⟨0, rfl, hh11, Or.inr ⟨rfl, Cod.dif hx.2.2.2.2.1 hy.2.2.2.2.1 hcd⟩⟩, fun fs hl => c13.trans (X11.ireturnOut hexec hret rfl (Or.inr (Or.inl rfl)) (hb hbytes d55) hl)⟩
theorem pays {l : Launch} {R : Room} {p : Program} {e : Env} {below : List Frame} {s : State} {sargs : Array Value} {len W : Nat} (x t : Addr) (V : Cell) (cd : Int32) (n : Nat) (f : Nat → Int32) (y t' : Addr) (V' : Cell) (cd' : Int32) (k : Nat) (g : Nat → Int32) (z : Int32) (htab : tab.before sargs s = true) (hfr : 2 ≤ R.frames) (hlo : W + 28 ≤ R.locals) :
    Back l R p e below s sargs yN len W (fun A₁ a₁ => A₁.cells + 0 ≤ R.cells ∧ A₁.slots + 0 ≤ R.slots ∧ P x t V cd n f y t' V' cd' k g z a₁ A₁.U) (fun A₁ _ v₁ B₁ => Says01 (SameT n f k g) v₁ A₁.U B₁.U ∧ B₁.locs = A₁.locs ++ [] ∧ B₁.cells = A₁.cells + 0 ∧ B₁.slots = A₁.slots + 0) :=
  (law l x t V cd n f y t' V' cd' k g z).pays htab hfr (by omega)
end SEq
end StrChars
namespace StrChars.Road
open Jvm Sem ClassFile Op Lib Jvm.Stand Jvm.Free Jvm.Free.XT
open Jvm.Lib.Cold (StaticIs)
/-- the words of String.equals(Object) -/
abbrev wordsEq : List Jvm.Cond := [.code SEq.yN SEq.yB 3 (some .boolean), .initialized ST, .classLink ST 10 ST, .fieldLink ST 38 ST "COMPACT_STRINGS" "Z", .fieldLink ST 15 ST "coder" "B", .fieldLink ST 9 ST "value" "[B", .methodLink ST 541 LEq.yN, .static LEq.yN, .code LEq.yN LEq.yB 3 (some .boolean), .initialized "java/lang/StringLatin1"]
theorem tabEq_of {a : Array Value} {s : State} (h : ∀ w ∈ wordsEq, w.before a s = true) : SEq.tab.before a s = true := by
  have hl : LEq.tab.before a s = true := unparts (wk h (.code LEq.yN LEq.yB 3 (some .boolean))) (wks h (.initialized LEq.yN.cls :: LEq.site))
  have q := consq hl h
  exact unparts (wk q (.code SEq.yN SEq.yB 3 (some .boolean))) (wks q (.initialized SEq.yN.cls :: SEq.site))
theorem movedEq {Z s : State} {a0 args : Array Value} (hZ : Z.Warmed39 s.vm) (hw : ∀ d ∈ wordsEq, d.before a0 Z = true) : ∀ d ∈ wordsEq, d.before args s = true := fun d hd => by
  have t : ∀ d ∈ wordsEq, (d.onTables && d.keepsFace) = true := by decide +kernel
  exact RoadKit.mv hZ (hw d hd) (t d hd)
/-- the road's facts of a String, as the laws ask it -/
theorem txt_of {Z U : State} {a0 : Array Value} {kI : Nat} (wi : (Jvm.Cond.instantiable ST kI).before a0 Z = true) (al : Z.vm.Alike U.vm) {x t : Addr} {kb : ClassId} {cs : List Int32} {cd N2 : Int32} {vs : List Value} (E : RoadKit.Exa Z U.heap x ST) (V : RoadKit.Fld Z U.heap x ST "value" "[B" (.ref t)) (C : RoadKit.Fld Z U.heap x ST "coder" "B" (.int cd)) (K : RoadKit.Arv Z U.heap t kb .byte N2 vs (.int 0)) (hc : CodA cs cd N2 vs) (hb : ∀ c ∈ cs, ¬ c < 0 ∧ ¬ (65535 : Int32) < c) (l2 : cs.length ≤ 4000) :
    ∃ A, Txt x t A cd cs.length (fun j => cs.getD j 0) U := by
  obtain ⟨A, K1, K2, K3, K4, K5, K6⟩ := K
  have hcod := hc.cod (by omega) K3 K5
  obtain ⟨D, fV, fC, hB, F1, F2, g1, g2, -, -⟩ := strObj wi al E V C
  exact ⟨A, ⟨_, hB.2.2.1, D, hB.1, rfl, by cases q : D.vm <;> first | rfl | exact absurd q (hB.2.1.2 _)⟩, Has.of hB F1 g1, Has.of hB F2 g2, ⟨K1.1, State.isArrayOf_alike al K1.2.1, K1.2.2, by rcases hcod with ⟨-, q, -⟩ | ⟨-, q, -⟩ <;> omega⟩, hcod, fun j hj => by
    have e : cs.getD j 0 = cs[j] := by simp [List.getD_eq_getElem?_getD, hj]
    show ¬ cs.getD j 0 < 0 ∧ ¬ 65535 < cs.getD j 0
    rw [e]; exact hb _ (List.getElem_mem _)⟩
theorem same_list (cs ds : List Int32) : SameT cs.length (fun j => cs.getD j 0) ds.length (fun j => ds.getD j 0) ↔ cs = ds := by
  constructor
  · rintro ⟨e, q⟩
    refine List.ext_getElem e fun j h1 h2 => ?_
    have := q j h1
    simpa [List.getD_eq_getElem?_getD, h1, h2] using this
  · rintro rfl
    exact ⟨rfl, fun _ _ => rfl⟩
/-- **equals(Object) OF TWO SUCH STRINGS**: 1 just where the chars are the same -/
theorem eqW {p : Program} {l : Launch} {e : Env} {R : Room} {s : State} {args : Array Value} {below : List Frame} {len W : Nat} {Z : State} {a0 : Array Value} {h : Heap} (hZ : Z.Warmed39 s.vm) (hw : ∀ d ∈ wordsEq, d.before a0 Z = true) {kI : Nat} (wi : (Jvm.Cond.instantiable ST kI).before a0 Z = true)
    {x t : Addr} {kb : ClassId} {cs : List Int32} {cd N2 : Int32} {vs : List Value} (E : RoadKit.Exa Z h x ST) (V : RoadKit.Fld Z h x ST "value" "[B" (.ref t)) (C : RoadKit.Fld Z h x ST "coder" "B" (.int cd)) (K : RoadKit.Arv Z h t kb .byte N2 vs (.int 0)) (hc : CodA cs cd N2 vs) (hb : ∀ c ∈ cs, ¬ c < 0 ∧ ¬ (65535 : Int32) < c) (l2 : cs.length ≤ 4000)
    {y t' : Addr} {kb' : ClassId} {ds : List Int32} {cd' N2' : Int32} {vs' : List Value} (E' : RoadKit.Exa Z h y ST) (V' : RoadKit.Fld Z h y ST "value" "[B" (.ref t')) (C' : RoadKit.Fld Z h y ST "coder" "B" (.int cd')) (K' : RoadKit.Arv Z h t' kb' .byte N2' vs' (.int 0)) (hc' : CodA ds cd' N2' vs') (hb' : ∀ c ∈ ds, ¬ c < 0 ∧ ¬ (65535 : Int32) < c) (l2' : ds.length ≤ 4000)
    {z : Int32} (S : RoadKit.Sta Z h ST "COMPACT_STRINGS" "Z" (.int z)) (hz : ¬ z = 0) (hfr : 2 ≤ R.frames) (hlo : W + 28 ≤ R.locals) :
    Back l R p e below s args (⟨"java/lang/String", "equals", "(Ljava/lang/Object;)Z"⟩ : MethodName) len W (fun P a => a = #[.ref x, .ref y] ∧ P.U.heap = h ∧ P.cells + 0 ≤ R.cells ∧ P.slots + 0 ≤ R.slots)
      (fun P _ v B => ∃ L, (((v = some (.int 1) ∧ cs = ds) ∨ (v = some (.int 0) ∧ ¬ cs = ds)) ∧ L = [] ∧ B.U.heap = h) ∧ B.locs = P.locs ++ L ∧ B.cells = P.cells + 0 ∧ B.slots = P.slots + 0) := by
  intro m meth c P g ig mk a X hg hsize hdg hW hn hp'
  obtain ⟨rfl, rfl, r1, r2⟩ := hp'
  have al : Z.vm.Alike P.U.vm := hZ.alike.trans X.warmed.alike
  obtain ⟨A, hx⟩ := txt_of wi al E V C K hc hb l2
  obtain ⟨A', hy⟩ := txt_of wi al E' V' C' K' hc' hb' l2'
  obtain ⟨v, B, X', ⟨⟨w, hv, hh, hq⟩, hl, hk, hs⟩, st⟩ := SEq.pays x t A cd cs.length (fun j => cs.getD j 0) y t' A' cd' ds.length (fun j => ds.getD j 0) z (tabEq_of (movedEq hZ hw)) hfr hlo m meth c P g ig mk _ X hg hsize hdg hW hn ⟨r1, r2, rfl, hx, hy, sta_is al S, hz⟩
  refine ⟨v, B, X', ⟨[], ⟨?_, rfl, hh⟩, hl, hk, hs⟩, st⟩
  rcases hq with ⟨rfl, q⟩ | ⟨rfl, q⟩
  · exact Or.inl ⟨hv, (same_list cs ds).mp q⟩
  · exact Or.inr ⟨hv, fun e => q ((same_list cs ds).mpr e)⟩
end StrChars.Road
namespace StrChars.Road
open Jvm Sem ClassFile Op Lib Jvm.Stand Jvm.Free Jvm.Free.XT
open Jvm.Lib.Cold (StaticIs)
/-- what backV says of its String, as the contracts of this text ask it: cs's low bytes, coder 0 -/
theorem codOf {cs : List Int32} {n : Nat} (hn : cs.length = n) (hb : ∀ c ∈ cs, ¬ 255 < c) : CodA cs 0 (Int32.ofNat n) ((cs.map lo8).map Value.int) := Or.inl ⟨rfl, by rw [hn], by simp [List.map_map, Function.comp_def], hb⟩
end StrChars.Road
end Jvm.Pilot.@@N@@
namespace Jvm.RoadKit
open Sem ClassFile Op Lib Bundle Jvm.Stand Jvm.Free Jvm.LawKit Jvm.Free.SB Jvm.Free.SBG
theorem own_safeArv {Z : State} {EL : List (String × Nat)} {vm : Vm} {h : Heap} {x : Addr} {k : ClassId} {ty : FieldType} {z : Int32} {vs : List Value} {d : Value} (hal : Z.vm.Alike vm) (V : Arv Z h x k ty z vs d) (ht : ty ≠ .byte) : Safe Z EL vm h x := by
  obtain ⟨c, A, -⟩ := V; exact Safe.arr hal A ht
theorem own_backSafe {p : Program} {l : Launch} {e : Env} {R : Room} {s : State} {args : Array Value} {below : List Frame} {Z : State} {a0 : Array Value} {EL : List (String × Nat)} {h : Heap} {vm0 : Vm} {ss : List Addr} {y : MethodName} {bytes : ByteArray} {maxL : Nat} {ret : Option FieldType} {rm : Room} {len W : Nat} {as' : Array Value} {Q : Option Value → Heap → List Loc → Prop}
    (hM : MetFree l y (head1 [Cond.code y bytes maxL ret] rm) (fun a U => a = as' ∧ Z.Warmed39 U.vm ∧ U.heap = h ∧ CHv Z EL U.vm h ∧ ∀ x ∈ ss, Safe Z EL U.vm h x) (fun _ _ _ _ _ => True) (fun _ U o U' => ∃ v L, o = .returned v ∧ Q v U'.heap L ∧ CHr Z EL U.vm U.heap U'.vm U'.heap ∧ ReturnedEndW U o U' L rm.cells rm.slots))
    (hZ : Z.Warmed39 vm0) (wc : (Cond.code y bytes maxL ret).before a0 Z = true) (wz : (Cond.initialized y.cls).before a0 Z = true) (hf : rm.frames + 1 ≤ R.frames) (hl : W + (maxL + 11) + rm.locals ≤ R.locals) (hEL : EW Z a0 EL) (H : CHv Z EL vm0 h) (hs : ∀ x ∈ ss, x < h.size ∧ Safe Z EL vm0 h x) :
    BackS l R p e below (s.setVm vm0) args y len W (fun A a => a = as' ∧ A.U.heap = h ∧ A.cells + rm.cells ≤ R.cells ∧ A.slots + rm.slots ≤ R.slots)
      (fun A _ v B => ∃ L, Q v B.U.heap L ∧ B.locs = A.locs ++ L ∧ B.cells = A.cells + rm.cells ∧ B.slots = A.slots + rm.slots ∧ CHr Z EL vm0 h B.U.vm B.U.heap) := by
  refine BackS.of_freeW (bytes := bytes) (maxL := maxL) (ret := ret) (E := fun _ first o t L k n => k = rm.cells ∧ n = rm.slots ∧ (∃ v, o = .returned v ∧ Q v t.heap L) ∧ CHr Z EL first.vm first.heap t.vm t.heap) hM hf hl ?_ ?_ (fun _ _ _ _ _ _ _ _ _ => trivial) ?_ ?_
  · intro m meth c A a Y hp
    have hU : Z.Warmed39 A.U.vm := wtrans (s := s.setVm vm0) hZ Y.warmed
    exact ⟨by show (Cond.and _ .tt).before a A.U = true; rw [Cond.before_and, mv hU wc]; rfl, mv hU wc, mv hU wz, hp.2.2.1, hp.2.2.2⟩
  · intro m meth c A a g mk Y hp
    have q := CHv.at Y hZ hEL H
    exact ⟨hp.1, wtrans (s := s.setVm vm0) hZ Y.warmed, hp.2.1, q.1, fun x hx => q.safe (hs x hx).1 (hs x hx).2⟩
  · intro a first o t hq
    obtain ⟨v, L, h1, h2, h3, h4⟩ := hq
    exact ⟨L, _, _, h4, rfl, rfl, ⟨v, h1, h2⟩, h3⟩
  · intro m meth c A a g mk v t L k n Y hp _ _ hE
    obtain ⟨e1, e2, ⟨v', e3, e4⟩, e5⟩ := hE
    cases e3; subst e1 e2
    refine ⟨L, e4, rfl, rfl, rfl, (CHv.at Y hZ hEL H).trans ?_⟩
    rw [← hp.2.1]; exact e5
end Jvm.RoadKit
namespace Jvm.Pilot.@@N@@
open Jvm Jvm.ClassFile Sem Op Lib Jvm.Free Jvm.Stand Jvm.LawKit Jvm.RoadKit Bundle Jvm.Pilot.@@N@@.Jvm.D
abbrev mn0 : MethodName := ⟨"com/example/aloq/aloq/engine/TokenKind", "parse", "(Ljava/lang/String;)Lcom/example/aloq/aloq/engine/TokenKind;"⟩
abbrev mn1 : MethodName := ⟨"com/example/aloq/aloq/engine/TokenKind", "values", "()[Lcom/example/aloq/aloq/engine/TokenKind;"⟩
abbrev mn2 : MethodName := ⟨"com/example/aloq/aloq/engine/TokenKindParsePinLaw", "take", "([CI)Ljava/lang/String;"⟩
abbrev mn3 : MethodName := ⟨"java/lang/String", "<init>", "([C)V"⟩
abbrev mn4 : MethodName := ⟨"java/lang/String", "<init>", "([CIILjava/lang/Void;)V"⟩
abbrev mn5 : MethodName := ⟨"java/lang/String", "equals", "(Ljava/lang/Object;)Z"⟩
abbrev cn1 : String := "com/example/aloq/aloq/engine/TokenKindParsePinLaw"
abbrev cn3 : String := "[Lcom/example/aloq/aloq/engine/TokenKind;"
abbrev cn5 : String := "com/example/aloq/aloq/engine/TokenKind"
theorem wd0 {a0 : Array Value} {Z : State} (hw : ∀ d ∈ tables_1, d.before a0 Z = true) : (Jvm.Cond.arrayClass Jvm.ClassFile.FieldType.char).before a0 Z = true := hw _ (List.mem_of_getElem? (i := 0) rfl)
theorem wd1 {a0 : Array Value} {Z : State} (hw : ∀ d ∈ tables_1, d.before a0 Z = true) : (Jvm.Cond.methodLink "com/example/aloq/aloq/engine/TokenKindParsePinLaw" (8 : Nat) ({ cls := "com/example/aloq/aloq/engine/TokenKindParsePinLaw", name := "take", desc := "([CI)Ljava/lang/String;" } : Jvm.MethodName)).before a0 Z = true := hw _ (List.mem_of_getElem? (i := 1) rfl)
theorem wd2 {a0 : Array Value} {Z : State} (hw : ∀ d ∈ tables_1, d.before a0 Z = true) : (Jvm.Cond.static ({ cls := "com/example/aloq/aloq/engine/TokenKindParsePinLaw", name := "take", desc := "([CI)Ljava/lang/String;" } : Jvm.MethodName)).before a0 Z = true := hw _ (List.mem_of_getElem? (i := 2) rfl)
theorem wd3 {a0 : Array Value} {Z : State} (hw : ∀ d ∈ tables_1, d.before a0 Z = true) : (Jvm.Cond.initialized "com/example/aloq/aloq/engine/TokenKindParsePinLaw").before a0 Z = true := hw _ (List.mem_of_getElem? (i := 3) rfl)
theorem wd4 {a0 : Array Value} {Z : State} (hw : ∀ d ∈ tables_1, d.before a0 Z = true) : (Jvm.Cond.code ({ cls := "com/example/aloq/aloq/engine/TokenKindParsePinLaw", name := "take", desc := "([CI)Ljava/lang/String;" } : Jvm.MethodName) method_3_code (2 : Nat) (Option.some (Jvm.ClassFile.FieldType.object "java/lang/String"))).before a0 Z = true := hw _ (List.mem_of_getElem? (i := 4) rfl)
theorem wd5 {a0 : Array Value} {Z : State} (hw : ∀ d ∈ tables_1, d.before a0 Z = true) : (Jvm.Cond.classLink "com/example/aloq/aloq/engine/TokenKindParsePinLaw" (23 : Nat) "java/lang/String").before a0 Z = true := hw _ (List.mem_of_getElem? (i := 5) rfl)
theorem wd6 {a0 : Array Value} {Z : State} (hw : ∀ d ∈ tables_1, d.before a0 Z = true) : (Jvm.Cond.instantiable "java/lang/String" (4 : Nat)).before a0 Z = true := hw _ (List.mem_of_getElem? (i := 6) rfl)
theorem wd7 {a0 : Array Value} {Z : State} (hw : ∀ d ∈ tables_1, d.before a0 Z = true) : (Jvm.Cond.initialized "java/lang/String").before a0 Z = true := hw _ (List.mem_of_getElem? (i := 7) rfl)
theorem wd8 {a0 : Array Value} {Z : State} (hw : ∀ d ∈ tables_1, d.before a0 Z = true) : (Jvm.Cond.methodLink "com/example/aloq/aloq/engine/TokenKindParsePinLaw" (37 : Nat) ({ cls := "java/lang/String", name := "<init>", desc := "([C)V" } : Jvm.MethodName)).before a0 Z = true := hw _ (List.mem_of_getElem? (i := 8) rfl)
theorem wd9 {a0 : Array Value} {Z : State} (hw : ∀ d ∈ tables_1, d.before a0 Z = true) : (Jvm.Cond.instanceMethod ({ cls := "java/lang/String", name := "<init>", desc := "([C)V" } : Jvm.MethodName)).before a0 Z = true := hw _ (List.mem_of_getElem? (i := 9) rfl)
theorem wd10 {a0 : Array Value} {Z : State} (hw : ∀ d ∈ tables_1, d.before a0 Z = true) : (Jvm.Cond.code ({ cls := "java/lang/String", name := "<init>", desc := "([C)V" } : Jvm.MethodName) jdk_42_method_3_code (2 : Nat) (Option.none : Option Jvm.ClassFile.FieldType)).before a0 Z = true := hw _ (List.mem_of_getElem? (i := 10) rfl)
theorem wd11 {a0 : Array Value} {Z : State} (hw : ∀ d ∈ tables_1, d.before a0 Z = true) : (Jvm.Cond.methodLink "java/lang/String" (27 : Nat) ({ cls := "java/lang/String", name := "<init>", desc := "([CIILjava/lang/Void;)V" } : Jvm.MethodName)).before a0 Z = true := hw _ (List.mem_of_getElem? (i := 11) rfl)
theorem wd12 {a0 : Array Value} {Z : State} (hw : ∀ d ∈ tables_1, d.before a0 Z = true) : (Jvm.Cond.instanceMethod ({ cls := "java/lang/String", name := "<init>", desc := "([CIILjava/lang/Void;)V" } : Jvm.MethodName)).before a0 Z = true := hw _ (List.mem_of_getElem? (i := 12) rfl)
theorem wd14 {a0 : Array Value} {Z : State} (hw : ∀ d ∈ tables_1, d.before a0 Z = true) : (Jvm.Cond.code ({ cls := "java/lang/String", name := "<init>", desc := "([CIILjava/lang/Void;)V" } : Jvm.MethodName) jdk_42_method_149_code (6 : Nat) (Option.none : Option Jvm.ClassFile.FieldType)).before a0 Z = true := hw _ (List.mem_of_getElem? (i := 14) rfl)
theorem wd15 {a0 : Array Value} {Z : State} (hw : ∀ d ∈ tables_1, d.before a0 Z = true) : (Jvm.Cond.methodLink "java/lang/String" (1 : Nat) ({ cls := "java/lang/Object", name := "<init>", desc := "()V" } : Jvm.MethodName)).before a0 Z = true := hw _ (List.mem_of_getElem? (i := 15) rfl)
theorem wd16 {a0 : Array Value} {Z : State} (hw : ∀ d ∈ tables_1, d.before a0 Z = true) : (Jvm.Cond.instanceMethod ({ cls := "java/lang/Object", name := "<init>", desc := "()V" } : Jvm.MethodName)).before a0 Z = true := hw _ (List.mem_of_getElem? (i := 16) rfl)
theorem wd17 {a0 : Array Value} {Z : State} (hw : ∀ d ∈ tables_1, d.before a0 Z = true) : (Jvm.Cond.code ({ cls := "java/lang/Object", name := "<init>", desc := "()V" } : Jvm.MethodName) object_method_1_code (1 : Nat) (Option.none : Option Jvm.ClassFile.FieldType)).before a0 Z = true := hw _ (List.mem_of_getElem? (i := 17) rfl)
theorem wd23 {a0 : Array Value} {Z : State} (hw : ∀ d ∈ tables_1, d.before a0 Z = true) : (Jvm.Cond.arrayClass Jvm.ClassFile.FieldType.byte).before a0 Z = true := hw _ (List.mem_of_getElem? (i := 23) rfl)
theorem wd30 {a0 : Array Value} {Z : State} (hw : ∀ d ∈ tables_1, d.before a0 Z = true) : (Jvm.Cond.fieldLink "java/lang/String" (15 : Nat) "java/lang/String" "coder" "B").before a0 Z = true := hw _ (List.mem_of_getElem? (i := 30) rfl)
theorem wd31 {a0 : Array Value} {Z : State} (hw : ∀ d ∈ tables_1, d.before a0 Z = true) : (Jvm.Cond.laysFinal "java/lang/String" "java/lang/String" "coder" "B").before a0 Z = true := hw _ (List.mem_of_getElem? (i := 31) rfl)
theorem wd32 {a0 : Array Value} {Z : State} (hw : ∀ d ∈ tables_1, d.before a0 Z = true) : (Jvm.Cond.fieldLink "java/lang/String" (9 : Nat) "java/lang/String" "value" "[B").before a0 Z = true := hw _ (List.mem_of_getElem? (i := 32) rfl)
theorem wd33 {a0 : Array Value} {Z : State} (hw : ∀ d ∈ tables_1, d.before a0 Z = true) : (Jvm.Cond.laysFinal "java/lang/String" "java/lang/String" "value" "[B").before a0 Z = true := hw _ (List.mem_of_getElem? (i := 33) rfl)
theorem wd34 {a0 : Array Value} {Z : State} (hw : ∀ d ∈ tables_1, d.before a0 Z = true) : (Jvm.Cond.methodLink "com/example/aloq/aloq/engine/TokenKindParsePinLaw" (14 : Nat) ({ cls := "com/example/aloq/aloq/engine/TokenKind", name := "parse", desc := "(Ljava/lang/String;)Lcom/example/aloq/aloq/engine/TokenKind;" } : Jvm.MethodName)).before a0 Z = true := hw _ (List.mem_of_getElem? (i := 34) rfl)
theorem wd35 {a0 : Array Value} {Z : State} (hw : ∀ d ∈ tables_1, d.before a0 Z = true) : (Jvm.Cond.static ({ cls := "com/example/aloq/aloq/engine/TokenKind", name := "parse", desc := "(Ljava/lang/String;)Lcom/example/aloq/aloq/engine/TokenKind;" } : Jvm.MethodName)).before a0 Z = true := hw _ (List.mem_of_getElem? (i := 35) rfl)
theorem wd36 {a0 : Array Value} {Z : State} (hw : ∀ d ∈ tables_1, d.before a0 Z = true) : (Jvm.Cond.initialized "com/example/aloq/aloq/engine/TokenKind").before a0 Z = true := hw _ (List.mem_of_getElem? (i := 36) rfl)
theorem wd37 {a0 : Array Value} {Z : State} (hw : ∀ d ∈ tables_1, d.before a0 Z = true) : (Jvm.Cond.code ({ cls := "com/example/aloq/aloq/engine/TokenKind", name := "parse", desc := "(Ljava/lang/String;)Lcom/example/aloq/aloq/engine/TokenKind;" } : Jvm.MethodName) prog_27_method_5_code (5 : Nat) (Option.some (Jvm.ClassFile.FieldType.object "com/example/aloq/aloq/engine/TokenKind"))).before a0 Z = true := hw _ (List.mem_of_getElem? (i := 37) rfl)
theorem wd38 {a0 : Array Value} {Z : State} (hw : ∀ d ∈ tables_1, d.before a0 Z = true) : (Jvm.Cond.methodLink "com/example/aloq/aloq/engine/TokenKind" (33 : Nat) ({ cls := "com/example/aloq/aloq/engine/TokenKind", name := "values", desc := "()[Lcom/example/aloq/aloq/engine/TokenKind;" } : Jvm.MethodName)).before a0 Z = true := hw _ (List.mem_of_getElem? (i := 38) rfl)
theorem wd39 {a0 : Array Value} {Z : State} (hw : ∀ d ∈ tables_1, d.before a0 Z = true) : (Jvm.Cond.static ({ cls := "com/example/aloq/aloq/engine/TokenKind", name := "values", desc := "()[Lcom/example/aloq/aloq/engine/TokenKind;" } : Jvm.MethodName)).before a0 Z = true := hw _ (List.mem_of_getElem? (i := 39) rfl)
theorem wd40 {a0 : Array Value} {Z : State} (hw : ∀ d ∈ tables_1, d.before a0 Z = true) : (Jvm.Cond.code ({ cls := "com/example/aloq/aloq/engine/TokenKind", name := "values", desc := "()[Lcom/example/aloq/aloq/engine/TokenKind;" } : Jvm.MethodName) prog_27_method_1_code (0 : Nat) (Option.some (Jvm.ClassFile.FieldType.array (Jvm.ClassFile.FieldType.object "com/example/aloq/aloq/engine/TokenKind")))).before a0 Z = true := hw _ (List.mem_of_getElem? (i := 40) rfl)
theorem wd41 {a0 : Array Value} {Z : State} (hw : ∀ d ∈ tables_1, d.before a0 Z = true) : (Jvm.Cond.fieldLink "com/example/aloq/aloq/engine/TokenKind" (10 : Nat) "com/example/aloq/aloq/engine/TokenKind" "$VALUES" "[Lcom/example/aloq/aloq/engine/TokenKind;").before a0 Z = true := hw _ (List.mem_of_getElem? (i := 41) rfl)
theorem wd42 {a0 : Array Value} {Z : State} (hw : ∀ d ∈ tables_1, d.before a0 Z = true) : (Jvm.Cond.laysStatic "com/example/aloq/aloq/engine/TokenKind" "$VALUES" "[Lcom/example/aloq/aloq/engine/TokenKind;").before a0 Z = true := hw _ (List.mem_of_getElem? (i := 42) rfl)
theorem wd43 {a0 : Array Value} {Z : State} (hw : ∀ d ∈ tables_1, d.before a0 Z = true) : (Jvm.Cond.methodLink "com/example/aloq/aloq/engine/TokenKind" (14 : Nat) ({ cls := "[Lcom/example/aloq/aloq/engine/TokenKind;", name := "clone", desc := "()Ljava/lang/Object;" } : Jvm.MethodName)).before a0 Z = true := hw _ (List.mem_of_getElem? (i := 43) rfl)
theorem wd44 {a0 : Array Value} {Z : State} (hw : ∀ d ∈ tables_1, d.before a0 Z = true) : (Jvm.Cond.sameMethod "[Lcom/example/aloq/aloq/engine/TokenKind;" "java/lang/Object" "clone" "()Ljava/lang/Object;").before a0 Z = true := hw _ (List.mem_of_getElem? (i := 44) rfl)
theorem wd46 {a0 : Array Value} {Z : State} (hw : ∀ d ∈ tables_1, d.before a0 Z = true) : (Jvm.Cond.instanceMethod ({ cls := "java/lang/Object", name := "clone", desc := "()Ljava/lang/Object;" } : Jvm.MethodName)).before a0 Z = true := hw _ (List.mem_of_getElem? (i := 46) rfl)
theorem wd47 {a0 : Array Value} {Z : State} (hw : ∀ d ∈ tables_1, d.before a0 Z = true) : (Jvm.Cond.selects "[Lcom/example/aloq/aloq/engine/TokenKind;" ({ cls := "[Lcom/example/aloq/aloq/engine/TokenKind;", name := "clone", desc := "()Ljava/lang/Object;" } : Jvm.MethodName) ({ cls := "java/lang/Object", name := "clone", desc := "()Ljava/lang/Object;" } : Jvm.MethodName)).before a0 Z = true := hw _ (List.mem_of_getElem? (i := 47) rfl)
theorem wd48 {a0 : Array Value} {Z : State} (hw : ∀ d ∈ tables_1, d.before a0 Z = true) : (Jvm.Cond.native ({ cls := "java/lang/Object", name := "clone", desc := "()Ljava/lang/Object;" } : Jvm.MethodName)).before a0 Z = true := hw _ (List.mem_of_getElem? (i := 48) rfl)
theorem wd49 {a0 : Array Value} {Z : State} (hw : ∀ d ∈ tables_1, d.before a0 Z = true) : (Jvm.Cond.castable "[Lcom/example/aloq/aloq/engine/TokenKind;" "java/lang/Cloneable").before a0 Z = true := hw _ (List.mem_of_getElem? (i := 49) rfl)
theorem wd50 {a0 : Array Value} {Z : State} (hw : ∀ d ∈ tables_1, d.before a0 Z = true) : (Jvm.Cond.laysStatic "com/example/aloq/aloq/engine/TokenKind" "PRODUCER" "Lcom/example/aloq/aloq/engine/TokenKind;").before a0 Z = true := hw _ (List.mem_of_getElem? (i := 50) rfl)
theorem wd51 {a0 : Array Value} {Z : State} (hw : ∀ d ∈ tables_1, d.before a0 Z = true) : (Jvm.Cond.laysStatic "com/example/aloq/aloq/engine/TokenKind" "WORKER" "Lcom/example/aloq/aloq/engine/TokenKind;").before a0 Z = true := hw _ (List.mem_of_getElem? (i := 51) rfl)
theorem wd53 {a0 : Array Value} {Z : State} (hw : ∀ d ∈ tables_1, d.before a0 Z = true) : (Jvm.Cond.classLink "com/example/aloq/aloq/engine/TokenKind" (15 : Nat) "[Lcom/example/aloq/aloq/engine/TokenKind;").before a0 Z = true := hw _ (List.mem_of_getElem? (i := 53) rfl)
theorem wd55 {a0 : Array Value} {Z : State} (hw : ∀ d ∈ tables_1, d.before a0 Z = true) : (Jvm.Cond.fieldLink "com/example/aloq/aloq/engine/TokenKind" (29 : Nat) "com/example/aloq/aloq/engine/TokenKind" "text" "Ljava/lang/String;").before a0 Z = true := hw _ (List.mem_of_getElem? (i := 55) rfl)
theorem wd57 {a0 : Array Value} {Z : State} (hw : ∀ d ∈ tables_1, d.before a0 Z = true) : (Jvm.Cond.methodLink "com/example/aloq/aloq/engine/TokenKind" (37 : Nat) ({ cls := "java/lang/String", name := "equals", desc := "(Ljava/lang/Object;)Z" } : Jvm.MethodName)).before a0 Z = true := hw _ (List.mem_of_getElem? (i := 57) rfl)
theorem wd58 {a0 : Array Value} {Z : State} (hw : ∀ d ∈ tables_1, d.before a0 Z = true) : (Jvm.Cond.declares ({ cls := "java/lang/String", name := "equals", desc := "(Ljava/lang/Object;)Z" } : Jvm.MethodName)).before a0 Z = true := hw _ (List.mem_of_getElem? (i := 58) rfl)
theorem wd59 {a0 : Array Value} {Z : State} (hw : ∀ d ∈ tables_1, d.before a0 Z = true) : (Jvm.Cond.instanceMethod ({ cls := "java/lang/String", name := "equals", desc := "(Ljava/lang/Object;)Z" } : Jvm.MethodName)).before a0 Z = true := hw _ (List.mem_of_getElem? (i := 59) rfl)
theorem wd60 {a0 : Array Value} {Z : State} (hw : ∀ d ∈ tables_1, d.before a0 Z = true) : (Jvm.Cond.selects "java/lang/String" ({ cls := "java/lang/String", name := "equals", desc := "(Ljava/lang/Object;)Z" } : Jvm.MethodName) ({ cls := "java/lang/String", name := "equals", desc := "(Ljava/lang/Object;)Z" } : Jvm.MethodName)).before a0 Z = true := hw _ (List.mem_of_getElem? (i := 60) rfl)
theorem wd61 {a0 : Array Value} {Z : State} (hw : ∀ d ∈ tables_1, d.before a0 Z = true) : (Jvm.Cond.code ({ cls := "java/lang/String", name := "equals", desc := "(Ljava/lang/Object;)Z" } : Jvm.MethodName) jdk_42_method_66_code (3 : Nat) (Option.some Jvm.ClassFile.FieldType.boolean)).before a0 Z = true := hw _ (List.mem_of_getElem? (i := 61) rfl)
theorem wd67 {a0 : Array Value} {Z : State} (hw : ∀ d ∈ tables_1, d.before a0 Z = true) : (Jvm.Cond.stringLink "com/example/aloq/aloq/engine/TokenKindParsePinLaw" (20 : Nat) "producer").before a0 Z = true := hw _ (List.mem_of_getElem? (i := 67) rfl)
theorem wd70 {a0 : Array Value} {Z : State} (hw : ∀ d ∈ tables_1, d.before a0 Z = true) : (Jvm.Cond.methodLink "com/example/aloq/aloq/engine/TokenKindParsePinLaw" (22 : Nat) ({ cls := "java/lang/String", name := "equals", desc := "(Ljava/lang/Object;)Z" } : Jvm.MethodName)).before a0 Z = true := hw _ (List.mem_of_getElem? (i := 70) rfl)
theorem wd71 {a0 : Array Value} {Z : State} (hw : ∀ d ∈ tables_1, d.before a0 Z = true) : (Jvm.Cond.fieldLink "com/example/aloq/aloq/engine/TokenKindParsePinLaw" (28 : Nat) "com/example/aloq/aloq/engine/TokenKind" "PRODUCER" "Lcom/example/aloq/aloq/engine/TokenKind;").before a0 Z = true := hw _ (List.mem_of_getElem? (i := 71) rfl)
theorem wd72 {a0 : Array Value} {Z : State} (hw : ∀ d ∈ tables_1, d.before a0 Z = true) : (Jvm.Cond.constant "com/example/aloq/aloq/engine/TokenKindParsePinLaw" (7 : Nat) (2147483647 : Int32)).before a0 Z = true := hw _ (List.mem_of_getElem? (i := 72) rfl)
theorem wd73 {a0 : Array Value} {Z : State} (hw : ∀ d ∈ tables_1, d.before a0 Z = true) : (Jvm.Cond.stringLink "java/lang/String" (7 : Nat) "").before a0 Z = true := hw _ (List.mem_of_getElem? (i := 73) rfl)
theorem wd74 {a0 : Array Value} {Z : State} (hw : ∀ d ∈ tables_1, d.before a0 Z = true) : (Jvm.Cond.stringLink "com/example/aloq/aloq/engine/TokenKindParsePinLaw" (32 : Nat) "worker").before a0 Z = true := hw _ (List.mem_of_getElem? (i := 74) rfl)
theorem wd75 {a0 : Array Value} {Z : State} (hw : ∀ d ∈ tables_1, d.before a0 Z = true) : (Jvm.Cond.fieldLink "com/example/aloq/aloq/engine/TokenKindParsePinLaw" (34 : Nat) "com/example/aloq/aloq/engine/TokenKind" "WORKER" "Lcom/example/aloq/aloq/engine/TokenKind;").before a0 Z = true := hw _ (List.mem_of_getElem? (i := 75) rfl)
theorem pn_java_lang_String : plainName "java/lang/String" = true := by first | (simp [plainName, overriddenIn]; done) | decide +kernel
theorem pd___CIILjava_lang_Void__V : parseMethodDescriptor "([CIILjava/lang/Void;)V" = some ⟨[(.array .char), .int, .int, (.object "java/lang/Void")], none⟩ := by decide +kernel
theorem pn_com_example_aloq_aloq_engine_TokenKindParsePinLaw : plainName cn1 = true := by first | (simp [plainName, overriddenIn]; done) | decide +kernel
theorem pd___C_V : parseMethodDescriptor "([C)V" = some ⟨[(.array .char)], none⟩ := by decide +kernel
theorem pn_com_example_aloq_aloq_engine_TokenKind : plainName cn5 = true := by first | (simp [plainName, overriddenIn]; done) | decide +kernel
theorem pd____Lcom_example_aloq_aloq_engine_TokenKind_ : parseMethodDescriptor "()[Lcom/example/aloq/aloq/engine/TokenKind;" = some ⟨[], some (.array (.object cn5))⟩ := by decide +kernel
theorem pd__Ljava_lang_Object__Z : parseMethodDescriptor "(Ljava/lang/Object;)Z" = some ⟨[(.object "java/lang/Object")], some .boolean⟩ := by decide +kernel
theorem pd___CI_Ljava_lang_String_ : parseMethodDescriptor "([CI)Ljava/lang/String;" = some ⟨[(.array .char), .int], some (.object "java/lang/String")⟩ := by decide +kernel
theorem pd__Ljava_lang_String__Lcom_example_aloq_aloq_engine_TokenKind_ : parseMethodDescriptor "(Ljava/lang/String;)Lcom/example/aloq/aloq/engine/TokenKind;" = some ⟨[(.object "java/lang/String")], some (.object cn5)⟩ := by decide +kernel
def own_EL : List (String × Nat) := [(cn1, 20), (cn1, 32), ("java/lang/String", 7)]
theorem own_EW (a0 : Array Value) (Z : State) (hw : ∀ d ∈ tables_1, d.before a0 Z = true) : EW Z a0 own_EL := (EW.cons (wd67 hw) (by decide +kernel) (EW.cons (wd74 hw) (by decide +kernel) (EW.cons (wd73 hw) (by decide +kernel) EW.nil)))
theorem own_hwordsEq {a0 : Array Value} {Z : State} (hw : ∀ d ∈ tables_1, d.before a0 Z = true) : ∀ d ∈ StrChars.Road.wordsEq, d.before a0 Z = true := fun d hd => hw d ((by decide +kernel : ∀ d ∈ StrChars.Road.wordsEq, d ∈ tables_1) d hd)
theorem own_hws {a0 : Array Value} {Z : State} (hw : ∀ d ∈ tables_1, d.before a0 Z = true) : ∀ d ∈ StrChars.Road.words, d.before a0 Z = true := fun d hd => hw d ((by decide +kernel : ∀ d ∈ StrChars.Road.words, d ∈ tables_1) d hd)
theorem own_and255 (x : Int32) : ¬ nar .char ((x &&& (255 : Int32)).toUInt32.toUInt16.toUInt32.toInt32) < 0 ∧ ¬ (255 : Int32) < nar .char ((x &&& (255 : Int32)).toUInt32.toUInt16.toUInt32.toInt32) := by
  have t : ∀ k : Fin 256, ¬ nar .char ((Int32.ofNat k.val).toUInt32.toUInt16.toUInt32.toInt32) < 0 ∧ ¬ (255 : Int32) < nar .char ((Int32.ofNat k.val).toUInt32.toUInt16.toUInt32.toInt32) := by decide +kernel
  have h : (x &&& 255).toBitVec.toNat < 256 := by
    simp only [Int32.toBitVec_and, BitVec.toNat_and]
    exact Nat.lt_succ_of_le Nat.and_le_right
  have e : (x &&& 255) = Int32.ofNat (x &&& 255).toBitVec.toNat := by
    apply Int32.toBitVec_inj.mp
    show _ = BitVec.ofNat 32 _
    rw [BitVec.ofNat_toNat]; simp
  rw [e]
  exact t ⟨_, h⟩
theorem own_up (cs : List Int32) (h : ∀ c ∈ cs, ¬ c < 0 ∧ ¬ (255 : Int32) < c) : ∀ c ∈ cs, ¬ c < 0 ∧ ¬ (65535 : Int32) < c := fun c hc => ⟨(h c hc).1, fun q => (h c hc).2 (by rw [Int32.lt_iff_toInt_lt] at q ⊢; have e1 : (65535 : Int32).toInt = 65535 := rfl; have e2 : (255 : Int32).toInt = 255 := rfl; omega)⟩
theorem own_narc {d : Int32} (B : ¬ d < 0 ∧ ¬ (255 : Int32) < d) : ¬ nar .char d < 0 ∧ ¬ (255 : Int32) < nar .char d := by
  have t : ∀ k : Fin 256, ¬ nar .char (Int32.ofNat k.val) < 0 ∧ ¬ (255 : Int32) < nar .char (Int32.ofNat k.val) := by decide +kernel
  obtain ⟨b1, b2⟩ := B
  rw [Int32.lt_iff_toInt_lt] at b1 b2
  have z0 : (0 : Int32).toInt = 0 := rfl
  have z1 : (255 : Int32).toInt = 255 := rfl
  have e : d = Int32.ofNat d.toInt.toNat := by
    apply Int32.toInt_inj.mp
    rw [Int32.toInt_ofNat_of_lt (by omega)]; omega
  rw [e]
  exact t ⟨d.toInt.toNat, by omega⟩
theorem own_r9 (x : Int32) : ((x &&& (2147483647 : Int32)) % (9 : Int32)) = (0 : Int32) ∨ ((x &&& (2147483647 : Int32)) % (9 : Int32)) = (1 : Int32) ∨ ((x &&& (2147483647 : Int32)) % (9 : Int32)) = (2 : Int32) ∨ ((x &&& (2147483647 : Int32)) % (9 : Int32)) = (3 : Int32) ∨ ((x &&& (2147483647 : Int32)) % (9 : Int32)) = (4 : Int32) ∨ ((x &&& (2147483647 : Int32)) % (9 : Int32)) = (5 : Int32) ∨ ((x &&& (2147483647 : Int32)) % (9 : Int32)) = (6 : Int32) ∨ ((x &&& (2147483647 : Int32)) % (9 : Int32)) = (7 : Int32) ∨ ((x &&& (2147483647 : Int32)) % (9 : Int32)) = (8 : Int32) := by
  have q1 := c_mask x 2147483647 31 (by decide) (by decide)
  have q2 := c_irem (x &&& 2147483647) 9 9 rfl
  simp only [← Int32.toInt_inj]
  have o0 : (0 : Int32).toInt = 0 := rfl
  have o1 : (1 : Int32).toInt = 1 := rfl
  have o2 : (2 : Int32).toInt = 2 := rfl
  have o3 : (3 : Int32).toInt = 3 := rfl
  have o4 : (4 : Int32).toInt = 4 := rfl
  have o5 : (5 : Int32).toInt = 5 := rfl
  have o6 : (6 : Int32).toInt = 6 := rfl
  have o7 : (7 : Int32).toInt = 7 := rfl
  have o8 : (8 : Int32).toInt = 8 := rfl
  omega
theorem own_tri (cs ps ws : List Int32) : cs = ps ∨ (¬ cs = ps ∧ cs = ws) ∨ (¬ cs = ps ∧ ¬ cs = ws) := by
  by_cases h1 : cs = ps
  · exact Or.inl h1
  · by_cases h2 : cs = ws
    · exact Or.inr (Or.inl ⟨h1, h2⟩)
    · exact Or.inr (Or.inr ⟨h1, h2⟩)
theorem own_evRef {Z : State} {args : Array Value} {t u : Term} {a : Addr} (h2 : u.eval args Z none [] Z = some (.ref a)) (h : (Jvm.Cond.eq t u).value args Z none Z [] = some true) : t.eval args Z none [] Z = some (.ref a) := by
  obtain ⟨x, y, h1, h3, -, -⟩ := cmp_v (Or.inl h)
  have hy : y = .ref a := Option.some.inj (h3.symm.trans h2)
  subst hy
  have hx : x = .ref a := by
    cases x <;> simp [Cond.value, h1, h2] at h ⊢
    exact h
  rw [h1, hx]
theorem own_fldRef {Z : State} {args : Array Value} {t : Term} {a b : Addr} {C n d : String} (ev : t.eval args Z none [] Z = some (.ref a)) (h : (Term.field t C n d).eval args Z none [] Z = some (.ref b)) : Fld Z Z.heap a C n d (.ref b) := by
  rw [fld_at ev] at h
  exact Fld.start h
theorem own_lenlt {Z : State} {args : Array Value} {t : Term} {a : Addr} {cl : Cell} {v : Value} (ev : t.eval args Z none [] Z = some (.ref a)) (ea : Z.arrayAt? a = some cl) (hl : (Term.length t).eval args Z none [] Z = some v) : cl.slots.size < 2 ^ 31 := by
  by_cases h : cl.slots.size < 2 ^ 31
  · exact h
  · simp [Term.eval, ev, ea, h] at hl
theorem own_arvL {Z : State} {args : Array Value} {t : Term} {a : Addr} {cl : Cell} {ty : FieldType} {dv : Value} {z : Int32} {vs : List Value} (hf : Fit Z) (ev : t.eval args Z none [] Z = some (.ref a)) (A : Arr Z Z.heap a cl ty) (hl : (Term.length t).eval args Z none [] Z = some (.int z)) (hz : ¬ z < 0) (hn : z.toNatClampNeg = vs.length) (H : HasL cl 0 vs) : Arv Z Z.heap a cl.cls ty z vs dv := by
  obtain ⟨x, c2, e1, e2, e3⟩ := Term.length_spec hl
  cases ev.symm.trans e1
  cases (A.fin (Vm.Alike.refl _)).symm.trans e2
  have hq : cl.slots.size.toInt32 = z := (Value.int.inj e3).symm
  exact Arv.start hf A (own_lenlt ev e2 hl) hq hz hn H
theorem ef_Se4 (m : MethodId) (x0 : Addr) (x1 : Addr) (x2 : Int32) (x3 : Int32) : entryFrame m #[(.ref x0), (.ref x1), (.int x2), (.int x3), .null] 6 = mkF m 0 #[.val (.ref x0), .val (.ref x1), .val (.int x2), .val (.int x3), .val .null, .unset] [] := by first | (simp [entryFrame, mkF, argsToLocals, Value.category]; done) | rfl
theorem da_0 : decode jdk_42_method_149_code 0 = .ok (.aload_n 0, 1) := by decide +kernel
theorem da_1 : decode jdk_42_method_149_code 1 = .ok (.invokespecial 1, 3) := by decide +kernel
theorem da_4 : decode jdk_42_method_149_code 4 = .ok (.iload_n 3, 1) := by decide +kernel
theorem da_5 : decode jdk_42_method_149_code 5 = .ok (.ifCond .ne 22, 3) := by decide +kernel
theorem da_8 : decode jdk_42_method_149_code 8 = .ok (.aload_n 0, 1) := by decide +kernel
theorem da_9 : decode jdk_42_method_149_code 9 = .ok (.ldc 7, 2) := by decide +kernel
theorem da_11 : decode jdk_42_method_149_code 11 = .ok (.getfield 9, 3) := by decide +kernel
theorem da_14 : decode jdk_42_method_149_code 14 = .ok (.putfield 9, 3) := by decide +kernel
theorem da_17 : decode jdk_42_method_149_code 17 = .ok (.aload_n 0, 1) := by decide +kernel
theorem da_18 : decode jdk_42_method_149_code 18 = .ok (.ldc 7, 2) := by decide +kernel
theorem da_20 : decode jdk_42_method_149_code 20 = .ok (.getfield 15, 3) := by decide +kernel
theorem da_23 : decode jdk_42_method_149_code 23 = .ok (.putfield 15, 3) := by decide +kernel
theorem da_26 : decode jdk_42_method_149_code 26 = .ok (.return_, 1) := by decide +kernel
def QSe4 (Z : State) (o : Addr) (a1 : Addr) (x2 : Int32) (x3 : Int32) (u0 : Value) (u1 : Value) (h0 : Heap) (n0 : Nat) (v : Option Value) (h : Heap) (L : List Loc) : Prop := v = none ∧ Fr n0 L ∧ Keep h0 h [o] ∧ Exa Z h o "java/lang/String" ∧ Fld Z h o "java/lang/String" "coder" "B" (.int (0 : Int32)) ∧ ∃ (t : Addr) (kb : ClassId), Fld Z h o "java/lang/String" "value" "[B" (.ref t) ∧ Arv Z h t kb .byte (0 : Int32) [] (.int (0 : Int32))
set_option maxRecDepth 65536 in
set_option maxHeartbeats 40000000 in
theorem rmSe4 (l : Launch) (Z : State) (a0 : Array Value) (hw : ∀ d ∈ tables_1, d.before a0 Z = true) (ws : List Jvm.Cond) (o : Addr) (a1 : Addr) (x2 : Int32) (x3 : Int32) (u0 : Value) (u1 : Value) (h0 : Heap) (n0 : Nat) (Z0 : n0 ≤ h0.size) (g_o : n0 ≤ o) (E_o : Exa Z h0 o "java/lang/String") (F_v : Fld Z h0 o "java/lang/String" "value" "[B" u0) (F_c : Fld Z h0 o "java/lang/String" "coder" "B" u1) (hz : x3 = (0 : Int32)) :
    MetFree l mn4 (head1 (Jvm.Cond.code mn4 jdk_42_method_149_code 6 none :: ws) ({ frames := 1, cells := 4, slots := 8, locals := 12 } : Room)) (fun a U => a = #[(.ref o), (.ref a1), (.int x2), (.int x3), .null] ∧ Z.Warmed39 U.vm ∧ U.heap = h0 ∧ CHv Z own_EL U.vm h0 ∧ ∀ x ∈ ([o] : List Addr), Safe Z own_EL U.vm h0 x) (fun _ _ _ _ _ => True) (fun _ U oc_ U' => ∃ v L, oc_ = .returned v ∧ QSe4 Z o a1 x2 x3 u0 u1 h0 n0 v U'.heap L ∧ CHr Z own_EL U.vm U.heap U'.vm U'.heap ∧ ReturnedEndW U oc_ U' L ({ frames := 1, cells := 4, slots := 8, locals := 12 } : Room).cells ({ frames := 1, cells := 4, slots := 8, locals := 12 } : Room).slots) := by
  refine MetFree.of_bodySF (plainFor_of_name pn_java_lang_String) hisR ?_
  intro p e s m args below meth c s₁ Bd hml0 hP hK
  obtain ⟨rfl, hZ, hh, hCH, hSS⟩ := hP
  have hx := Bd.exec
  have hby := Bd.bytes
  have hml : c.maxLocals = 6 := hml0
  have hown : s.vm.findClass "java/lang/String" = some m.cls := findClass_of_methodNamed Bd.named
  have hnm := (name_of_methodNamed Bd.named Bd.method).1
  have X0 : Stand p l e ({ frames := 1, cells := 4, slots := 8, locals := 12 } : Room) s m #[(.ref o), (.ref a1), (.int x2), (.int x3), .null] below meth c s₁ [] 0 0 := Stand.of_body Bd
  have e0 : s₁.heap = h0 := by rw [← hh, Bd.state]; rfl
  have N0 := Fr.nil n0
  have pre0 : ∀ t, Steps p.tables e below (s₁.setTop (mkF m 0 #[.val (.ref o), .val (.ref a1), .val (.int x2), .val (.int x3), .val .null, .unset] [])) t → Steps p.tables e below (s₁.setTop (entryFrame m #[(.ref o), (.ref a1), (.int x2), (.int x3), .null] 6)) t := fun t k => castTop (ef_Se4 m o a1 x2 x3) k
  have X0 : Stand p l e ({ frames := 1, cells := 4, slots := 8, locals := 12 } : Room) (s.setVm s.vm) m #[(.ref o), (.ref a1), (.int x2), (.int x3), .null] below meth c s₁ [] 0 0 := X0
  have hS0 : s.Since s.vm 0 := own_since0 s
  have hk0 : 0 ≤ h0.size := Nat.zero_le _
  have CR0 : CHr Z own_EL s.vm h0 s.vm h0 := CHr.refl hCH
  have sf_o : Safe Z own_EL s.vm h0 o := hSS _ (List.mem_of_getElem? (i := 0) rfl)
  have hEL := own_EW a0 Z hw
  have wS : ∀ a ∈ Bundle.stringAtoms, a.before a0 Z = true := fun d hd => hw d ((by decide +kernel : ∀ d ∈ Bundle.stringAtoms, d ∈ tables_1) d hd)
  obtain ⟨T1, X1, e1, st1⟩ := initO X0 hx hZ hown (wd15 hw) (wd16 hw) (wd17 hw) e0 (g := (mkF m 1 #[.val (.ref o), .val (.ref a1), .val (.int x2), .val (.int x3), .val .null, .unset] [(.ref o)])) rfl (by rw [hml]; rfl) rfl (hb hby da_1) (by decide) (W := 0) (by show 2 * 0 + _ ≤ _; exact Nat.le_of_eq rfl) (by decide)
  obtain ⟨a2, T2, h2, kk2, t2, kb2, X2, e2, E2, hS2, hk2, hZ2, hown2, gE2, gC2, gV2, gK2, la2, lt2, CS2, LL2, sne2, st2⟩ := ldcCH (s := s) (vm0 := s.vm) (EL := own_EL) X1 hx hZ hown (wd73 hw) wS e1 hS0 hk0 hEL (by decide) CR0.1 (vs := []) (z := (0 : Int32)) ⟨by decide +kernel, by first | rfl | decide +kernel⟩ (by decide) (by decide) (g := (mkF m 9 #[.val (.ref o), .val (.ref a1), .val (.int x2), .val (.int x3), .val .null, .unset] [(.ref o)])) rfl (hb hby da_9) (n := 0) (by decide +kernel) (by decide) (by decide) (by decide)
  have CR2 := CR0.trans CS2
  have Z2 : n0 ≤ h2.size := Nat.le_trans Z0 E2.1
  have K2 : Keep h0 h2 [o] := ((Keep.refl h0 [o]).ext E2)
  have nn_o_2 := sne2 o (CHr.safe CS2 E_o.lt sf_o)
  obtain ⟨T3, X3, e3, st3⟩ := getF X2 hx hZ2 hown2 (host := "") (Or.inl (wd32 hw)) Via.refl e2 gV2 (g := (mkF m 11 #[.val (.ref o), .val (.ref a1), .val (.int x2), .val (.int x3), .val .null, .unset] [(.ref a2), (.ref o)])) rfl rfl (hb hby da_11)
  have f4 := (E_o.ext E2)
  have f5 := (F_v.ext E2)
  obtain ⟨T6, h6, X6, e6, W6, st6⟩ := putF X3 hx hZ2 hown2 (host := "") (Or.inl (wd32 hw)) Via.refl e3 f5 f4 (Or.inr ⟨(wd33 hw), rfl, hnm⟩) (wd6 hw) (ty := (.array .byte)) (by decide) rfl rfl (g := (mkF m 14 #[.val (.ref o), .val (.ref a1), .val (.int x2), .val (.int x3), .val .null, .unset] [(.ref t2), (.ref o)])) rfl rfl (hb hby da_14)
  have CS6 := CHr.wr W6 (CHr.safe CS2 E_o.lt sf_o) CR2.1
  have CR6 := CR2.trans CS6
  have hk6 : _ ≤ h6.size := Nat.le_trans hk2 (Nat.le_of_eq W6.size.symm)
  have N6 := Fr.snoc X6 N0 g_o
  have Z6 : n0 ≤ h6.size := by rw [W6.size]; exact Z2
  have K6 : Keep h0 h6 [o] := (K2.wr W6 (Or.inl (List.mem_of_getElem? (i := 0) rfl)))
  have Fw6 := f5.same W6
  have f7 := (f4.wr W6)
  have f8 := (gE2.wr W6)
  have f9 := (gK2.other W6 (Ne.symm nn_o_2.2))
  obtain ⟨a10, T10, h10, kk10, t10, kb10, X10, e10, E10, hS10, hk10, hZ10, hown10, gE10, gC10, gV10, gK10, la10, lt10, CS10, LL10, sne10, st10⟩ := ldcCH (s := s) (vm0 := T2.vm) (EL := own_EL) X6 hx hZ2 hown2 (wd73 hw) wS e6 hS2 hk6 hEL (by decide) CR6.1 (vs := []) (z := (0 : Int32)) ⟨by decide +kernel, by first | rfl | decide +kernel⟩ (by decide) (by decide) (g := (mkF m 18 #[.val (.ref o), .val (.ref a1), .val (.int x2), .val (.int x3), .val .null, .unset] [(.ref o)])) rfl (hb hby da_18) (n := 0) (by decide +kernel) (by decide) (by decide) (by decide)
  have CR10 := CR6.trans CS10
  have Z10 : n0 ≤ h10.size := Nat.le_trans Z6 E10.1
  have K10 : Keep h0 h10 [o] := (K6.ext E10)
  have nn_o_10 := sne10 o (CHr.safe ((CS2.trans CS6).trans CS10) E_o.lt sf_o)
  obtain ⟨T11, X11, e11, st11⟩ := getF X10 hx hZ10 hown10 (host := "") (Or.inl (wd30 hw)) Via.refl e10 gC10 (g := (mkF m 20 #[.val (.ref o), .val (.ref a1), .val (.int x2), .val (.int x3), .val .null, .unset] [(.ref a10), (.ref o)])) rfl rfl (hb hby da_20)
  have f12 := (f7.ext E10)
  have f13 := (((F_c.ext E2).other W6 (Or.inr (slot_ne (Or.inr (wd31 hw)) (Or.inr (wd33 hw)) (by decide) (t := .byte) (t' := (.array .byte)) (by decide) (by decide)))).ext E10)
  obtain ⟨T14, h14, X14, e14, W14, st14⟩ := putFN X11 hx hZ10 hown10 (wd30 hw) Via.refl e11 f13 f12 (Or.inr ⟨(wd31 hw), rfl, hnm⟩) (wd6 hw) (ty := .byte) (v' := (.int (0 : Int32))) (by decide) rfl (by decide) (g := (mkF m 23 #[.val (.ref o), .val (.ref a1), .val (.int x2), .val (.int x3), .val .null, .unset] [(.int (0 : Int32)), (.ref o)])) rfl rfl (hb hby da_23)
  have CS14 := CHr.wr W14 (CHr.safe ((CS2.trans CS6).trans CS10) E_o.lt sf_o) CR10.1
  have CR14 := CR10.trans CS14
  have hk14 : _ ≤ h14.size := Nat.le_trans hk10 (Nat.le_of_eq W14.size.symm)
  have N14 := Fr.snoc X14 N6 g_o
  have Z14 : n0 ≤ h14.size := by rw [W14.size]; exact Z10
  have K14 : Keep h0 h14 [o] := (K10.wr W14 (Or.inl (List.mem_of_getElem? (i := 0) rfl)))
  have Fw14 := f13.same W14
  obtain ⟨lfs, lhr, lhrun, lhended, lhE⟩ := X14.leaveW hS10 (by rw [e14]; exact hk14) (v := none) (fun _ => rfl)
  refine ⟨_, _, pre0 _ ?_, lhrun, lhended, _, _, rfl, ?_, ?_, lhE.1, lhE.2.1, lhE.2.2.1, lhE.2.2.2.mono (by decide) (by decide)⟩
  · skip
    show Steps p.tables e below (s₁.setTop (mkF m 0 #[.val (.ref o), .val (.ref a1), .val (.int x2), .val (.int x3), .val .null, .unset] [])) _
    refine XS.aloadN X0.here hx rfl (hb hby da_0) rfl rfl ?_
    show Steps p.tables e below (s₁.setTop (mkF m 1 #[.val (.ref o), .val (.ref a1), .val (.int x2), .val (.int x3), .val .null, .unset] [(.ref o)])) _
    refine st1 _ ?_
    show Steps p.tables e below (T1.setTop (mkF m 4 #[.val (.ref o), .val (.ref a1), .val (.int x2), .val (.int x3), .val .null, .unset] [])) _
    refine XS.iloadN X1.here hx rfl (hb hby da_4) rfl ?_
    show Steps p.tables e below (T1.setTop (mkF m 5 #[.val (.ref o), .val (.ref a1), .val (.int x2), .val (.int x3), .val .null, .unset] [(.int x3)])) _
    refine XS.ifNo X1.here hx rfl (hb hby da_5) rfl ((if0 _ _).trans (teq hz).2) ?_
    show Steps p.tables e below (T1.setTop (mkF m 8 #[.val (.ref o), .val (.ref a1), .val (.int x2), .val (.int x3), .val .null, .unset] [])) _
    refine XS.aloadN X1.here hx rfl (hb hby da_8) rfl rfl ?_
    show Steps p.tables e below (T1.setTop (mkF m 9 #[.val (.ref o), .val (.ref a1), .val (.int x2), .val (.int x3), .val .null, .unset] [(.ref o)])) _
    refine st2 _ ?_
    show Steps p.tables e below (T2.setTop (mkF m 11 #[.val (.ref o), .val (.ref a1), .val (.int x2), .val (.int x3), .val .null, .unset] [(.ref a2), (.ref o)])) _
    refine st3 _ ?_
    show Steps p.tables e below (T3.setTop (mkF m 14 #[.val (.ref o), .val (.ref a1), .val (.int x2), .val (.int x3), .val .null, .unset] [(.ref t2), (.ref o)])) _
    refine st6 _ ?_
    show Steps p.tables e below (T6.setTop (mkF m 17 #[.val (.ref o), .val (.ref a1), .val (.int x2), .val (.int x3), .val .null, .unset] [])) _
    refine XS.aloadN X6.here hx rfl (hb hby da_17) rfl rfl ?_
    show Steps p.tables e below (T6.setTop (mkF m 18 #[.val (.ref o), .val (.ref a1), .val (.int x2), .val (.int x3), .val .null, .unset] [(.ref o)])) _
    refine st10 _ ?_
    show Steps p.tables e below (T10.setTop (mkF m 20 #[.val (.ref o), .val (.ref a1), .val (.int x2), .val (.int x3), .val .null, .unset] [(.ref a10), (.ref o)])) _
    refine st11 _ ?_
    show Steps p.tables e below (T11.setTop (mkF m 23 #[.val (.ref o), .val (.ref a1), .val (.int x2), .val (.int x3), .val .null, .unset] [(.int (0 : Int32)), (.ref o)])) _
    refine st14 _ ?_
    show Steps p.tables e below (T14.setTop (mkF m 26 #[.val (.ref o), .val (.ref a1), .val (.int x2), .val (.int x3), .val .null, .unset] [])) _
    exact X14.returnOut hx Bd.returns (hb hby da_26) lhr
  · skip
    show QSe4 Z o a1 x2 x3 u0 u1 h0 n0 _ T14.heap _
    rw [e14]
    have f15 := (f12.wr W14)
    have f16 := ((Fw6.ext E10).other W14 (Or.inr (slot_ne (Or.inr (wd33 hw)) (Or.inr (wd31 hw)) (by decide) (t := (.array .byte)) (t' := .byte) (by decide) (by decide))))
    have f17 := ((f9.ext E10).other W14 (Ne.symm nn_o_2.2))
    exact ⟨rfl, N14, K14, f15, Fw14, t2, _, f16, f17⟩
  · skip
    show CHr Z own_EL s.vm s.heap T14.vm T14.heap
    rw [hh]
    rw [e14]
    exact CR14.trans (CHv.at X14 hZ10 hEL CR14.1)
theorem ef_Se1 (m : MethodId) (x0 : Addr) (x1 : Addr) : entryFrame m #[(.ref x0), (.ref x1)] 2 = mkF m 0 #[.val (.ref x0), .val (.ref x1)] [] := by first | (simp [entryFrame, mkF, argsToLocals, Value.category]; done) | rfl
theorem de_0 : decode jdk_42_method_3_code 0 = .ok (.aload_n 0, 1) := by decide +kernel
theorem de_1 : decode jdk_42_method_3_code 1 = .ok (.aload_n 1, 1) := by decide +kernel
theorem de_2 : decode jdk_42_method_3_code 2 = .ok (.iconst 0, 1) := by decide +kernel
theorem de_3 : decode jdk_42_method_3_code 3 = .ok (.aload_n 1, 1) := by decide +kernel
theorem de_4 : decode jdk_42_method_3_code 4 = .ok (.arraylength, 1) := by decide +kernel
theorem de_5 : decode jdk_42_method_3_code 5 = .ok (.aconst_null, 1) := by decide +kernel
theorem de_6 : decode jdk_42_method_3_code 6 = .ok (.invokespecial 27, 3) := by decide +kernel
theorem de_9 : decode jdk_42_method_3_code 9 = .ok (.return_, 1) := by decide +kernel
def QSe1 (Z : State) (o : Addr) (a1 : Addr) (u0 : Value) (u1 : Value) (kc : ClassId) (dv : Value) (h0 : Heap) (n0 : Nat) (v : Option Value) (h : Heap) (L : List Loc) : Prop := v = none ∧ Fr n0 L ∧ Keep h0 h [o] ∧ Exa Z h o "java/lang/String" ∧ Fld Z h o "java/lang/String" "coder" "B" (.int (0 : Int32)) ∧ ∃ (t : Addr) (kb : ClassId), Fld Z h o "java/lang/String" "value" "[B" (.ref t) ∧ Arv Z h t kb .byte (0 : Int32) [] (.int (0 : Int32))
set_option maxRecDepth 65536 in
set_option maxHeartbeats 40000000 in
theorem rmSe1 (l : Launch) (Z : State) (a0 : Array Value) (hw : ∀ d ∈ tables_1, d.before a0 Z = true) (ws : List Jvm.Cond) (o : Addr) (a1 : Addr) (u0 : Value) (u1 : Value) (kc : ClassId) (dv : Value) (h0 : Heap) (n0 : Nat) (Z0 : n0 ≤ h0.size) (g_o : n0 ≤ o) (E_o : Exa Z h0 o "java/lang/String") (F_v : Fld Z h0 o "java/lang/String" "value" "[B" u0) (F_c : Fld Z h0 o "java/lang/String" "coder" "B" u1) (V_a : Arv Z h0 a1 kc .char (0 : Int32) [] dv) :
    MetFree l mn3 (head1 (Jvm.Cond.code mn3 jdk_42_method_3_code 2 none :: ws) ({ frames := 2, cells := 4, slots := 8, locals := 29 } : Room)) (fun a U => a = #[(.ref o), (.ref a1)] ∧ Z.Warmed39 U.vm ∧ U.heap = h0 ∧ CHv Z own_EL U.vm h0 ∧ ∀ x ∈ ([o] : List Addr), Safe Z own_EL U.vm h0 x) (fun _ _ _ _ _ => True) (fun _ U oc_ U' => ∃ v L, oc_ = .returned v ∧ QSe1 Z o a1 u0 u1 kc dv h0 n0 v U'.heap L ∧ CHr Z own_EL U.vm U.heap U'.vm U'.heap ∧ ReturnedEndW U oc_ U' L ({ frames := 2, cells := 4, slots := 8, locals := 29 } : Room).cells ({ frames := 2, cells := 4, slots := 8, locals := 29 } : Room).slots) := by
  refine MetFree.of_bodySF (plainFor_of_name pn_java_lang_String) hisR ?_
  intro p e s m args below meth c s₁ Bd hml0 hP hK
  obtain ⟨rfl, hZ, hh, hCH, hSS⟩ := hP
  have hx := Bd.exec
  have hby := Bd.bytes
  have hml : c.maxLocals = 2 := hml0
  have hown : s.vm.findClass "java/lang/String" = some m.cls := findClass_of_methodNamed Bd.named
  have hnm := (name_of_methodNamed Bd.named Bd.method).1
  have X0 : Stand p l e ({ frames := 2, cells := 4, slots := 8, locals := 29 } : Room) s m #[(.ref o), (.ref a1)] below meth c s₁ [] 0 0 := Stand.of_body Bd
  have e0 : s₁.heap = h0 := by rw [← hh, Bd.state]; rfl
  have N0 := Fr.nil n0
  have pre0 : ∀ t, Steps p.tables e below (s₁.setTop (mkF m 0 #[.val (.ref o), .val (.ref a1)] [])) t → Steps p.tables e below (s₁.setTop (entryFrame m #[(.ref o), (.ref a1)] 2)) t := fun t k => castTop (ef_Se1 m o a1) k
  have X0 : Stand p l e ({ frames := 2, cells := 4, slots := 8, locals := 29 } : Room) (s.setVm s.vm) m #[(.ref o), (.ref a1)] below meth c s₁ [] 0 0 := X0
  have hS0 : s.Since s.vm 0 := own_since0 s
  have hk0 : 0 ≤ h0.size := Nat.zero_le _
  have CR0 : CHr Z own_EL s.vm h0 s.vm h0 := CHr.refl hCH
  have sf_o : Safe Z own_EL s.vm h0 o := hSS _ (List.mem_of_getElem? (i := 0) rfl)
  have hEL := own_EW a0 Z hw
  have wS : ∀ a ∈ Bundle.stringAtoms, a.before a0 Z = true := fun d hd => hw d ((by decide +kernel : ∀ d ∈ Bundle.stringAtoms, d ∈ tables_1) d hd)
  obtain ⟨cl1, Ar1, -, S1, M1, -, -⟩ := id V_a
  obtain ⟨_, _, ⟨T2, L2, kc2, ks2⟩, -, X2, hSq2, hgr2, ⟨Lc2, hQ2, l2, y2, z2, CS2⟩, st2⟩ := X0.specialBackS hx (y := mn4) rfl hown (mvT hZ (wd11 hw)) (mvT hZ (wd12 hw)) (mvT hZ (wd14 hw)) (by decide) (own_backSafe (s := s) (vm0 := s.vm) (EL := own_EL) (ss := [o]) (W := 0) (rmSe4 l Z a0 hw [] o a1 (0 : Int32) (0 : Int32) _ _ h0 n0 Z0 g_o E_o F_v F_c rfl) hZ (wd14 hw) (wd7 hw) (by decide) (by decide) hEL CR0.1 (allS ⟨E_o.lt, sf_o⟩ all0)) (g := (mkF m 6 #[.val (.ref o), .val (.ref a1)] [.null, (.int (0 : Int32)), (.int (0 : Int32)), (.ref a1), (.ref o)])) rfl (by rw [hml]; rfl) (Steps.refl _) (a := o) (argsL := [(.ref a1), (.int (0 : Int32)), (.int (0 : Int32)), .null]) (rest := []) (lenOf pd___CIILjava_lang_Void__V rfl) rfl (by show 2 * 0 + _ ≤ _; exact Nat.le_of_eq rfl) (hb hby de_6) (fun _ _ => ⟨rfl, e0, (by decide : 0 + 4 ≤ _), (by decide : 0 + 8 ≤ _)⟩)
  dsimp only [Pt.U, Pt.locs, Pt.cells, Pt.slots] at X2 l2 y2 z2 st2 hQ2 hSq2 hgr2 CS2
  subst l2 y2 z2
  obtain ⟨X2, hS2, hZ2, hown2⟩ := rebS hS0 hk0 X2 hSq2 (by rw [e0] at hgr2; exact hgr2) hZ hown
  obtain ⟨rfl, Nq2, Kq2, gE2, gC2, t2, kb2, gV2, gK2⟩ := hQ2
  have N2 := Fr.app N0 Nq2
  have CR2 := CR0.trans CS2
  have Z2 : n0 ≤ T2.heap.size := Nat.le_trans Z0 Kq2.1
  have K2 : Keep h0 T2.heap [o] := Keep.trans (Keep.refl h0 [o]) Kq2 (allS (Or.inl (List.mem_of_getElem? (i := 0) rfl)) all0)
  obtain ⟨lfs, lhr, lhrun, lhended, lhE⟩ := X2.leaveW hS2 (Nat.le_refl T2.heap.size) (v := none) (fun _ => rfl)
  refine ⟨_, _, pre0 _ ?_, lhrun, lhended, _, _, rfl, ?_, ?_, lhE.1, lhE.2.1, lhE.2.2.1, lhE.2.2.2.mono (by decide) (by decide)⟩
  · skip
    show Steps p.tables e below (s₁.setTop (mkF m 0 #[.val (.ref o), .val (.ref a1)] [])) _
    refine XS.aloadN X0.here hx rfl (hb hby de_0) rfl rfl ?_
    show Steps p.tables e below (s₁.setTop (mkF m 1 #[.val (.ref o), .val (.ref a1)] [(.ref o)])) _
    refine XS.aloadN X0.here hx rfl (hb hby de_1) rfl rfl ?_
    show Steps p.tables e below (s₁.setTop (mkF m 2 #[.val (.ref o), .val (.ref a1)] [(.ref a1), (.ref o)])) _
    refine XS.iconst X0.here hx rfl (hb hby de_2) ?_
    show Steps p.tables e below (s₁.setTop (mkF m 3 #[.val (.ref o), .val (.ref a1)] [(.int (0 : Int32)), (.ref a1), (.ref o)])) _
    refine XS.aloadN X0.here hx rfl (hb hby de_3) rfl rfl ?_
    show Steps p.tables e below (s₁.setTop (mkF m 4 #[.val (.ref o), .val (.ref a1)] [(.ref a1), (.int (0 : Int32)), (.ref a1), (.ref o)])) _
    refine X0.arraylength hx (by (try rw [e0]); exact Ar1.1) (State.isArrayOf_alike hZ.alike Ar1.2.1) (g := (mkF m 4 #[.val (.ref o), .val (.ref a1)] [(.ref a1), (.int (0 : Int32)), (.ref a1), (.ref o)])) rfl rfl (hb hby de_4) _ ?_
    rw [len_of S1 M1]
    show Steps p.tables e below (s₁.setTop (mkF m 5 #[.val (.ref o), .val (.ref a1)] [(.int (0 : Int32)), (.int (0 : Int32)), (.ref a1), (.ref o)])) _
    refine XS.aconstNull X0.here hx rfl (hb hby de_5) ?_
    show Steps p.tables e below (s₁.setTop (mkF m 6 #[.val (.ref o), .val (.ref a1)] [.null, (.int (0 : Int32)), (.int (0 : Int32)), (.ref a1), (.ref o)])) _
    refine st2.trans ?_
    show Steps p.tables e below (T2.setTop (mkF m 9 #[.val (.ref o), .val (.ref a1)] [])) _
    exact X2.returnOut hx Bd.returns (hb hby de_9) lhr
  · skip
    show QSe1 Z o a1 u0 u1 kc dv h0 n0 _ T2.heap _
    skip
    exact ⟨rfl, N2, K2, gE2, gC2, t2, _, gV2, gK2⟩
  · skip
    show CHr Z own_EL s.vm s.heap T2.vm T2.heap
    rw [hh]
    exact CR2.trans (CHv.at X2 hZ2 hEL CR2.1)
theorem ef_Tk (m : MethodId) (x0 : Addr) (x1 : Int32) : entryFrame m #[(.ref x0), (.int x1)] 2 = mkF m 0 #[.val (.ref x0), .val (.int x1)] [] := by first | (simp [entryFrame, mkF, argsToLocals, Value.category]; done) | rfl
theorem df_0 : decode method_3_code 0 = .ok (.iload_n 1, 1) := by decide +kernel
theorem df_1 : decode method_3_code 1 = .ok (.ifCond .gt 14, 3) := by decide +kernel
theorem df_15 : decode method_3_code 15 = .ok (.iload_n 1, 1) := by decide +kernel
theorem df_16 : decode method_3_code 16 = .ok (.iconst 1, 1) := by decide +kernel
theorem df_17 : decode method_3_code 17 = .ok (.if_icmp .ne 20, 3) := by decide +kernel
theorem df_20 : decode method_3_code 20 = .ok (.new 23, 3) := by decide +kernel
theorem df_23 : decode method_3_code 23 = .ok (.dup, 1) := by decide +kernel
theorem df_24 : decode method_3_code 24 = .ok (.iconst 1, 1) := by decide +kernel
theorem df_25 : decode method_3_code 25 = .ok (.newarray .char, 2) := by decide +kernel
theorem df_27 : decode method_3_code 27 = .ok (.dup, 1) := by decide +kernel
theorem df_28 : decode method_3_code 28 = .ok (.iconst 0, 1) := by decide +kernel
theorem df_29 : decode method_3_code 29 = .ok (.aload_n 0, 1) := by decide +kernel
theorem df_30 : decode method_3_code 30 = .ok (.iconst 0, 1) := by decide +kernel
theorem df_31 : decode method_3_code 31 = .ok (.caload, 1) := by decide +kernel
theorem df_32 : decode method_3_code 32 = .ok (.castore, 1) := by decide +kernel
theorem df_33 : decode method_3_code 33 = .ok (.invokespecial 37, 3) := by decide +kernel
theorem df_36 : decode method_3_code 36 = .ok (.areturn, 1) := by decide +kernel
theorem df_37 : decode method_3_code 37 = .ok (.iload_n 1, 1) := by decide +kernel
theorem df_38 : decode method_3_code 38 = .ok (.iconst 2, 1) := by decide +kernel
theorem df_39 : decode method_3_code 39 = .ok (.if_icmp .ne 26, 3) := by decide +kernel
theorem df_42 : decode method_3_code 42 = .ok (.new 23, 3) := by decide +kernel
theorem df_45 : decode method_3_code 45 = .ok (.dup, 1) := by decide +kernel
theorem df_46 : decode method_3_code 46 = .ok (.iconst 2, 1) := by decide +kernel
theorem df_47 : decode method_3_code 47 = .ok (.newarray .char, 2) := by decide +kernel
theorem df_49 : decode method_3_code 49 = .ok (.dup, 1) := by decide +kernel
theorem df_50 : decode method_3_code 50 = .ok (.iconst 0, 1) := by decide +kernel
theorem df_51 : decode method_3_code 51 = .ok (.aload_n 0, 1) := by decide +kernel
theorem df_52 : decode method_3_code 52 = .ok (.iconst 0, 1) := by decide +kernel
theorem df_53 : decode method_3_code 53 = .ok (.caload, 1) := by decide +kernel
theorem df_54 : decode method_3_code 54 = .ok (.castore, 1) := by decide +kernel
theorem df_55 : decode method_3_code 55 = .ok (.dup, 1) := by decide +kernel
theorem df_56 : decode method_3_code 56 = .ok (.iconst 1, 1) := by decide +kernel
theorem df_57 : decode method_3_code 57 = .ok (.aload_n 0, 1) := by decide +kernel
theorem df_58 : decode method_3_code 58 = .ok (.iconst 1, 1) := by decide +kernel
theorem df_59 : decode method_3_code 59 = .ok (.caload, 1) := by decide +kernel
theorem df_60 : decode method_3_code 60 = .ok (.castore, 1) := by decide +kernel
theorem df_61 : decode method_3_code 61 = .ok (.invokespecial 37, 3) := by decide +kernel
theorem df_64 : decode method_3_code 64 = .ok (.areturn, 1) := by decide +kernel
theorem df_65 : decode method_3_code 65 = .ok (.iload_n 1, 1) := by decide +kernel
theorem df_66 : decode method_3_code 66 = .ok (.iconst 3, 1) := by decide +kernel
theorem df_67 : decode method_3_code 67 = .ok (.if_icmp .ne 32, 3) := by decide +kernel
theorem df_70 : decode method_3_code 70 = .ok (.new 23, 3) := by decide +kernel
theorem df_73 : decode method_3_code 73 = .ok (.dup, 1) := by decide +kernel
theorem df_74 : decode method_3_code 74 = .ok (.iconst 3, 1) := by decide +kernel
theorem df_75 : decode method_3_code 75 = .ok (.newarray .char, 2) := by decide +kernel
theorem df_77 : decode method_3_code 77 = .ok (.dup, 1) := by decide +kernel
theorem df_78 : decode method_3_code 78 = .ok (.iconst 0, 1) := by decide +kernel
theorem df_79 : decode method_3_code 79 = .ok (.aload_n 0, 1) := by decide +kernel
theorem df_80 : decode method_3_code 80 = .ok (.iconst 0, 1) := by decide +kernel
theorem df_81 : decode method_3_code 81 = .ok (.caload, 1) := by decide +kernel
theorem df_82 : decode method_3_code 82 = .ok (.castore, 1) := by decide +kernel
theorem df_83 : decode method_3_code 83 = .ok (.dup, 1) := by decide +kernel
theorem df_84 : decode method_3_code 84 = .ok (.iconst 1, 1) := by decide +kernel
theorem df_85 : decode method_3_code 85 = .ok (.aload_n 0, 1) := by decide +kernel
theorem df_86 : decode method_3_code 86 = .ok (.iconst 1, 1) := by decide +kernel
theorem df_87 : decode method_3_code 87 = .ok (.caload, 1) := by decide +kernel
theorem df_88 : decode method_3_code 88 = .ok (.castore, 1) := by decide +kernel
theorem df_89 : decode method_3_code 89 = .ok (.dup, 1) := by decide +kernel
theorem df_90 : decode method_3_code 90 = .ok (.iconst 2, 1) := by decide +kernel
theorem df_91 : decode method_3_code 91 = .ok (.aload_n 0, 1) := by decide +kernel
theorem df_92 : decode method_3_code 92 = .ok (.iconst 2, 1) := by decide +kernel
theorem df_93 : decode method_3_code 93 = .ok (.caload, 1) := by decide +kernel
theorem df_94 : decode method_3_code 94 = .ok (.castore, 1) := by decide +kernel
theorem df_95 : decode method_3_code 95 = .ok (.invokespecial 37, 3) := by decide +kernel
theorem df_98 : decode method_3_code 98 = .ok (.areturn, 1) := by decide +kernel
theorem df_99 : decode method_3_code 99 = .ok (.iload_n 1, 1) := by decide +kernel
theorem df_100 : decode method_3_code 100 = .ok (.iconst 4, 1) := by decide +kernel
theorem df_101 : decode method_3_code 101 = .ok (.if_icmp .ne 38, 3) := by decide +kernel
theorem df_104 : decode method_3_code 104 = .ok (.new 23, 3) := by decide +kernel
theorem df_107 : decode method_3_code 107 = .ok (.dup, 1) := by decide +kernel
theorem df_108 : decode method_3_code 108 = .ok (.iconst 4, 1) := by decide +kernel
theorem df_109 : decode method_3_code 109 = .ok (.newarray .char, 2) := by decide +kernel
theorem df_111 : decode method_3_code 111 = .ok (.dup, 1) := by decide +kernel
theorem df_112 : decode method_3_code 112 = .ok (.iconst 0, 1) := by decide +kernel
theorem df_113 : decode method_3_code 113 = .ok (.aload_n 0, 1) := by decide +kernel
theorem df_114 : decode method_3_code 114 = .ok (.iconst 0, 1) := by decide +kernel
theorem df_115 : decode method_3_code 115 = .ok (.caload, 1) := by decide +kernel
theorem df_116 : decode method_3_code 116 = .ok (.castore, 1) := by decide +kernel
theorem df_117 : decode method_3_code 117 = .ok (.dup, 1) := by decide +kernel
theorem df_118 : decode method_3_code 118 = .ok (.iconst 1, 1) := by decide +kernel
theorem df_119 : decode method_3_code 119 = .ok (.aload_n 0, 1) := by decide +kernel
theorem df_120 : decode method_3_code 120 = .ok (.iconst 1, 1) := by decide +kernel
theorem df_121 : decode method_3_code 121 = .ok (.caload, 1) := by decide +kernel
theorem df_122 : decode method_3_code 122 = .ok (.castore, 1) := by decide +kernel
theorem df_123 : decode method_3_code 123 = .ok (.dup, 1) := by decide +kernel
theorem df_124 : decode method_3_code 124 = .ok (.iconst 2, 1) := by decide +kernel
theorem df_125 : decode method_3_code 125 = .ok (.aload_n 0, 1) := by decide +kernel
theorem df_126 : decode method_3_code 126 = .ok (.iconst 2, 1) := by decide +kernel
theorem df_127 : decode method_3_code 127 = .ok (.caload, 1) := by decide +kernel
theorem df_128 : decode method_3_code 128 = .ok (.castore, 1) := by decide +kernel
theorem df_129 : decode method_3_code 129 = .ok (.dup, 1) := by decide +kernel
theorem df_130 : decode method_3_code 130 = .ok (.iconst 3, 1) := by decide +kernel
theorem df_131 : decode method_3_code 131 = .ok (.aload_n 0, 1) := by decide +kernel
theorem df_132 : decode method_3_code 132 = .ok (.iconst 3, 1) := by decide +kernel
theorem df_133 : decode method_3_code 133 = .ok (.caload, 1) := by decide +kernel
theorem df_134 : decode method_3_code 134 = .ok (.castore, 1) := by decide +kernel
theorem df_135 : decode method_3_code 135 = .ok (.invokespecial 37, 3) := by decide +kernel
theorem df_138 : decode method_3_code 138 = .ok (.areturn, 1) := by decide +kernel
theorem df_139 : decode method_3_code 139 = .ok (.iload_n 1, 1) := by decide +kernel
theorem df_140 : decode method_3_code 140 = .ok (.iconst 5, 1) := by decide +kernel
theorem df_141 : decode method_3_code 141 = .ok (.if_icmp .ne 44, 3) := by decide +kernel
theorem df_144 : decode method_3_code 144 = .ok (.new 23, 3) := by decide +kernel
theorem df_147 : decode method_3_code 147 = .ok (.dup, 1) := by decide +kernel
theorem df_148 : decode method_3_code 148 = .ok (.iconst 5, 1) := by decide +kernel
theorem df_149 : decode method_3_code 149 = .ok (.newarray .char, 2) := by decide +kernel
theorem df_151 : decode method_3_code 151 = .ok (.dup, 1) := by decide +kernel
theorem df_152 : decode method_3_code 152 = .ok (.iconst 0, 1) := by decide +kernel
theorem df_153 : decode method_3_code 153 = .ok (.aload_n 0, 1) := by decide +kernel
theorem df_154 : decode method_3_code 154 = .ok (.iconst 0, 1) := by decide +kernel
theorem df_155 : decode method_3_code 155 = .ok (.caload, 1) := by decide +kernel
theorem df_156 : decode method_3_code 156 = .ok (.castore, 1) := by decide +kernel
theorem df_157 : decode method_3_code 157 = .ok (.dup, 1) := by decide +kernel
theorem df_158 : decode method_3_code 158 = .ok (.iconst 1, 1) := by decide +kernel
theorem df_159 : decode method_3_code 159 = .ok (.aload_n 0, 1) := by decide +kernel
theorem df_160 : decode method_3_code 160 = .ok (.iconst 1, 1) := by decide +kernel
theorem df_161 : decode method_3_code 161 = .ok (.caload, 1) := by decide +kernel
theorem df_162 : decode method_3_code 162 = .ok (.castore, 1) := by decide +kernel
theorem df_163 : decode method_3_code 163 = .ok (.dup, 1) := by decide +kernel
theorem df_164 : decode method_3_code 164 = .ok (.iconst 2, 1) := by decide +kernel
theorem df_165 : decode method_3_code 165 = .ok (.aload_n 0, 1) := by decide +kernel
theorem df_166 : decode method_3_code 166 = .ok (.iconst 2, 1) := by decide +kernel
theorem df_167 : decode method_3_code 167 = .ok (.caload, 1) := by decide +kernel
theorem df_168 : decode method_3_code 168 = .ok (.castore, 1) := by decide +kernel
theorem df_169 : decode method_3_code 169 = .ok (.dup, 1) := by decide +kernel
theorem df_170 : decode method_3_code 170 = .ok (.iconst 3, 1) := by decide +kernel
theorem df_171 : decode method_3_code 171 = .ok (.aload_n 0, 1) := by decide +kernel
theorem df_172 : decode method_3_code 172 = .ok (.iconst 3, 1) := by decide +kernel
theorem df_173 : decode method_3_code 173 = .ok (.caload, 1) := by decide +kernel
theorem df_174 : decode method_3_code 174 = .ok (.castore, 1) := by decide +kernel
theorem df_175 : decode method_3_code 175 = .ok (.dup, 1) := by decide +kernel
theorem df_176 : decode method_3_code 176 = .ok (.iconst 4, 1) := by decide +kernel
theorem df_177 : decode method_3_code 177 = .ok (.aload_n 0, 1) := by decide +kernel
theorem df_178 : decode method_3_code 178 = .ok (.iconst 4, 1) := by decide +kernel
theorem df_179 : decode method_3_code 179 = .ok (.caload, 1) := by decide +kernel
theorem df_180 : decode method_3_code 180 = .ok (.castore, 1) := by decide +kernel
theorem df_181 : decode method_3_code 181 = .ok (.invokespecial 37, 3) := by decide +kernel
theorem df_184 : decode method_3_code 184 = .ok (.areturn, 1) := by decide +kernel
theorem df_185 : decode method_3_code 185 = .ok (.iload_n 1, 1) := by decide +kernel
theorem df_186 : decode method_3_code 186 = .ok (.bipush 6, 2) := by decide +kernel
theorem df_188 : decode method_3_code 188 = .ok (.if_icmp .ne 51, 3) := by decide +kernel
theorem df_191 : decode method_3_code 191 = .ok (.new 23, 3) := by decide +kernel
theorem df_194 : decode method_3_code 194 = .ok (.dup, 1) := by decide +kernel
theorem df_195 : decode method_3_code 195 = .ok (.bipush 6, 2) := by decide +kernel
theorem df_197 : decode method_3_code 197 = .ok (.newarray .char, 2) := by decide +kernel
theorem df_199 : decode method_3_code 199 = .ok (.dup, 1) := by decide +kernel
theorem df_200 : decode method_3_code 200 = .ok (.iconst 0, 1) := by decide +kernel
theorem df_201 : decode method_3_code 201 = .ok (.aload_n 0, 1) := by decide +kernel
theorem df_202 : decode method_3_code 202 = .ok (.iconst 0, 1) := by decide +kernel
theorem df_203 : decode method_3_code 203 = .ok (.caload, 1) := by decide +kernel
theorem df_204 : decode method_3_code 204 = .ok (.castore, 1) := by decide +kernel
theorem df_205 : decode method_3_code 205 = .ok (.dup, 1) := by decide +kernel
theorem df_206 : decode method_3_code 206 = .ok (.iconst 1, 1) := by decide +kernel
theorem df_207 : decode method_3_code 207 = .ok (.aload_n 0, 1) := by decide +kernel
theorem df_208 : decode method_3_code 208 = .ok (.iconst 1, 1) := by decide +kernel
theorem df_209 : decode method_3_code 209 = .ok (.caload, 1) := by decide +kernel
theorem df_210 : decode method_3_code 210 = .ok (.castore, 1) := by decide +kernel
theorem df_211 : decode method_3_code 211 = .ok (.dup, 1) := by decide +kernel
theorem df_212 : decode method_3_code 212 = .ok (.iconst 2, 1) := by decide +kernel
theorem df_213 : decode method_3_code 213 = .ok (.aload_n 0, 1) := by decide +kernel
theorem df_214 : decode method_3_code 214 = .ok (.iconst 2, 1) := by decide +kernel
theorem df_215 : decode method_3_code 215 = .ok (.caload, 1) := by decide +kernel
theorem df_216 : decode method_3_code 216 = .ok (.castore, 1) := by decide +kernel
theorem df_217 : decode method_3_code 217 = .ok (.dup, 1) := by decide +kernel
theorem df_218 : decode method_3_code 218 = .ok (.iconst 3, 1) := by decide +kernel
theorem df_219 : decode method_3_code 219 = .ok (.aload_n 0, 1) := by decide +kernel
theorem df_220 : decode method_3_code 220 = .ok (.iconst 3, 1) := by decide +kernel
theorem df_221 : decode method_3_code 221 = .ok (.caload, 1) := by decide +kernel
theorem df_222 : decode method_3_code 222 = .ok (.castore, 1) := by decide +kernel
theorem df_223 : decode method_3_code 223 = .ok (.dup, 1) := by decide +kernel
theorem df_224 : decode method_3_code 224 = .ok (.iconst 4, 1) := by decide +kernel
theorem df_225 : decode method_3_code 225 = .ok (.aload_n 0, 1) := by decide +kernel
theorem df_226 : decode method_3_code 226 = .ok (.iconst 4, 1) := by decide +kernel
theorem df_227 : decode method_3_code 227 = .ok (.caload, 1) := by decide +kernel
theorem df_228 : decode method_3_code 228 = .ok (.castore, 1) := by decide +kernel
theorem df_229 : decode method_3_code 229 = .ok (.dup, 1) := by decide +kernel
theorem df_230 : decode method_3_code 230 = .ok (.iconst 5, 1) := by decide +kernel
theorem df_231 : decode method_3_code 231 = .ok (.aload_n 0, 1) := by decide +kernel
theorem df_232 : decode method_3_code 232 = .ok (.iconst 5, 1) := by decide +kernel
theorem df_233 : decode method_3_code 233 = .ok (.caload, 1) := by decide +kernel
theorem df_234 : decode method_3_code 234 = .ok (.castore, 1) := by decide +kernel
theorem df_235 : decode method_3_code 235 = .ok (.invokespecial 37, 3) := by decide +kernel
theorem df_238 : decode method_3_code 238 = .ok (.areturn, 1) := by decide +kernel
theorem df_239 : decode method_3_code 239 = .ok (.iload_n 1, 1) := by decide +kernel
theorem df_240 : decode method_3_code 240 = .ok (.bipush 7, 2) := by decide +kernel
theorem df_242 : decode method_3_code 242 = .ok (.if_icmp .ne 59, 3) := by decide +kernel
theorem df_245 : decode method_3_code 245 = .ok (.new 23, 3) := by decide +kernel
theorem df_248 : decode method_3_code 248 = .ok (.dup, 1) := by decide +kernel
theorem df_249 : decode method_3_code 249 = .ok (.bipush 7, 2) := by decide +kernel
theorem df_251 : decode method_3_code 251 = .ok (.newarray .char, 2) := by decide +kernel
theorem df_253 : decode method_3_code 253 = .ok (.dup, 1) := by decide +kernel
theorem df_254 : decode method_3_code 254 = .ok (.iconst 0, 1) := by decide +kernel
theorem df_255 : decode method_3_code 255 = .ok (.aload_n 0, 1) := by decide +kernel
theorem df_256 : decode method_3_code 256 = .ok (.iconst 0, 1) := by decide +kernel
theorem df_257 : decode method_3_code 257 = .ok (.caload, 1) := by decide +kernel
theorem df_258 : decode method_3_code 258 = .ok (.castore, 1) := by decide +kernel
theorem df_259 : decode method_3_code 259 = .ok (.dup, 1) := by decide +kernel
theorem df_260 : decode method_3_code 260 = .ok (.iconst 1, 1) := by decide +kernel
theorem df_261 : decode method_3_code 261 = .ok (.aload_n 0, 1) := by decide +kernel
theorem df_262 : decode method_3_code 262 = .ok (.iconst 1, 1) := by decide +kernel
theorem df_263 : decode method_3_code 263 = .ok (.caload, 1) := by decide +kernel
theorem df_264 : decode method_3_code 264 = .ok (.castore, 1) := by decide +kernel
theorem df_265 : decode method_3_code 265 = .ok (.dup, 1) := by decide +kernel
theorem df_266 : decode method_3_code 266 = .ok (.iconst 2, 1) := by decide +kernel
theorem df_267 : decode method_3_code 267 = .ok (.aload_n 0, 1) := by decide +kernel
theorem df_268 : decode method_3_code 268 = .ok (.iconst 2, 1) := by decide +kernel
theorem df_269 : decode method_3_code 269 = .ok (.caload, 1) := by decide +kernel
theorem df_270 : decode method_3_code 270 = .ok (.castore, 1) := by decide +kernel
theorem df_271 : decode method_3_code 271 = .ok (.dup, 1) := by decide +kernel
theorem df_272 : decode method_3_code 272 = .ok (.iconst 3, 1) := by decide +kernel
theorem df_273 : decode method_3_code 273 = .ok (.aload_n 0, 1) := by decide +kernel
theorem df_274 : decode method_3_code 274 = .ok (.iconst 3, 1) := by decide +kernel
theorem df_275 : decode method_3_code 275 = .ok (.caload, 1) := by decide +kernel
theorem df_276 : decode method_3_code 276 = .ok (.castore, 1) := by decide +kernel
theorem df_277 : decode method_3_code 277 = .ok (.dup, 1) := by decide +kernel
theorem df_278 : decode method_3_code 278 = .ok (.iconst 4, 1) := by decide +kernel
theorem df_279 : decode method_3_code 279 = .ok (.aload_n 0, 1) := by decide +kernel
theorem df_280 : decode method_3_code 280 = .ok (.iconst 4, 1) := by decide +kernel
theorem df_281 : decode method_3_code 281 = .ok (.caload, 1) := by decide +kernel
theorem df_282 : decode method_3_code 282 = .ok (.castore, 1) := by decide +kernel
theorem df_283 : decode method_3_code 283 = .ok (.dup, 1) := by decide +kernel
theorem df_284 : decode method_3_code 284 = .ok (.iconst 5, 1) := by decide +kernel
theorem df_285 : decode method_3_code 285 = .ok (.aload_n 0, 1) := by decide +kernel
theorem df_286 : decode method_3_code 286 = .ok (.iconst 5, 1) := by decide +kernel
theorem df_287 : decode method_3_code 287 = .ok (.caload, 1) := by decide +kernel
theorem df_288 : decode method_3_code 288 = .ok (.castore, 1) := by decide +kernel
theorem df_289 : decode method_3_code 289 = .ok (.dup, 1) := by decide +kernel
theorem df_290 : decode method_3_code 290 = .ok (.bipush 6, 2) := by decide +kernel
theorem df_292 : decode method_3_code 292 = .ok (.aload_n 0, 1) := by decide +kernel
theorem df_293 : decode method_3_code 293 = .ok (.bipush 6, 2) := by decide +kernel
theorem df_295 : decode method_3_code 295 = .ok (.caload, 1) := by decide +kernel
theorem df_296 : decode method_3_code 296 = .ok (.castore, 1) := by decide +kernel
theorem df_297 : decode method_3_code 297 = .ok (.invokespecial 37, 3) := by decide +kernel
theorem df_300 : decode method_3_code 300 = .ok (.areturn, 1) := by decide +kernel
theorem df_301 : decode method_3_code 301 = .ok (.iload_n 1, 1) := by decide +kernel
theorem df_302 : decode method_3_code 302 = .ok (.bipush 8, 2) := by decide +kernel
theorem df_304 : decode method_3_code 304 = .ok (.if_icmp .ne 67, 3) := by decide +kernel
theorem df_307 : decode method_3_code 307 = .ok (.new 23, 3) := by decide +kernel
theorem df_310 : decode method_3_code 310 = .ok (.dup, 1) := by decide +kernel
theorem df_311 : decode method_3_code 311 = .ok (.bipush 8, 2) := by decide +kernel
theorem df_313 : decode method_3_code 313 = .ok (.newarray .char, 2) := by decide +kernel
theorem df_315 : decode method_3_code 315 = .ok (.dup, 1) := by decide +kernel
theorem df_316 : decode method_3_code 316 = .ok (.iconst 0, 1) := by decide +kernel
theorem df_317 : decode method_3_code 317 = .ok (.aload_n 0, 1) := by decide +kernel
theorem df_318 : decode method_3_code 318 = .ok (.iconst 0, 1) := by decide +kernel
theorem df_319 : decode method_3_code 319 = .ok (.caload, 1) := by decide +kernel
theorem df_320 : decode method_3_code 320 = .ok (.castore, 1) := by decide +kernel
theorem df_321 : decode method_3_code 321 = .ok (.dup, 1) := by decide +kernel
theorem df_322 : decode method_3_code 322 = .ok (.iconst 1, 1) := by decide +kernel
theorem df_323 : decode method_3_code 323 = .ok (.aload_n 0, 1) := by decide +kernel
theorem df_324 : decode method_3_code 324 = .ok (.iconst 1, 1) := by decide +kernel
theorem df_325 : decode method_3_code 325 = .ok (.caload, 1) := by decide +kernel
theorem df_326 : decode method_3_code 326 = .ok (.castore, 1) := by decide +kernel
theorem df_327 : decode method_3_code 327 = .ok (.dup, 1) := by decide +kernel
theorem df_328 : decode method_3_code 328 = .ok (.iconst 2, 1) := by decide +kernel
theorem df_329 : decode method_3_code 329 = .ok (.aload_n 0, 1) := by decide +kernel
theorem df_330 : decode method_3_code 330 = .ok (.iconst 2, 1) := by decide +kernel
theorem df_331 : decode method_3_code 331 = .ok (.caload, 1) := by decide +kernel
theorem df_332 : decode method_3_code 332 = .ok (.castore, 1) := by decide +kernel
theorem df_333 : decode method_3_code 333 = .ok (.dup, 1) := by decide +kernel
theorem df_334 : decode method_3_code 334 = .ok (.iconst 3, 1) := by decide +kernel
theorem df_335 : decode method_3_code 335 = .ok (.aload_n 0, 1) := by decide +kernel
theorem df_336 : decode method_3_code 336 = .ok (.iconst 3, 1) := by decide +kernel
theorem df_337 : decode method_3_code 337 = .ok (.caload, 1) := by decide +kernel
theorem df_338 : decode method_3_code 338 = .ok (.castore, 1) := by decide +kernel
theorem df_339 : decode method_3_code 339 = .ok (.dup, 1) := by decide +kernel
theorem df_340 : decode method_3_code 340 = .ok (.iconst 4, 1) := by decide +kernel
theorem df_341 : decode method_3_code 341 = .ok (.aload_n 0, 1) := by decide +kernel
theorem df_342 : decode method_3_code 342 = .ok (.iconst 4, 1) := by decide +kernel
theorem df_343 : decode method_3_code 343 = .ok (.caload, 1) := by decide +kernel
theorem df_344 : decode method_3_code 344 = .ok (.castore, 1) := by decide +kernel
theorem df_345 : decode method_3_code 345 = .ok (.dup, 1) := by decide +kernel
theorem df_346 : decode method_3_code 346 = .ok (.iconst 5, 1) := by decide +kernel
theorem df_347 : decode method_3_code 347 = .ok (.aload_n 0, 1) := by decide +kernel
theorem df_348 : decode method_3_code 348 = .ok (.iconst 5, 1) := by decide +kernel
theorem df_349 : decode method_3_code 349 = .ok (.caload, 1) := by decide +kernel
theorem df_350 : decode method_3_code 350 = .ok (.castore, 1) := by decide +kernel
theorem df_351 : decode method_3_code 351 = .ok (.dup, 1) := by decide +kernel
theorem df_352 : decode method_3_code 352 = .ok (.bipush 6, 2) := by decide +kernel
theorem df_354 : decode method_3_code 354 = .ok (.aload_n 0, 1) := by decide +kernel
theorem df_355 : decode method_3_code 355 = .ok (.bipush 6, 2) := by decide +kernel
theorem df_357 : decode method_3_code 357 = .ok (.caload, 1) := by decide +kernel
theorem df_358 : decode method_3_code 358 = .ok (.castore, 1) := by decide +kernel
theorem df_359 : decode method_3_code 359 = .ok (.dup, 1) := by decide +kernel
theorem df_360 : decode method_3_code 360 = .ok (.bipush 7, 2) := by decide +kernel
theorem df_362 : decode method_3_code 362 = .ok (.aload_n 0, 1) := by decide +kernel
theorem df_363 : decode method_3_code 363 = .ok (.bipush 7, 2) := by decide +kernel
theorem df_365 : decode method_3_code 365 = .ok (.caload, 1) := by decide +kernel
theorem df_366 : decode method_3_code 366 = .ok (.castore, 1) := by decide +kernel
theorem df_367 : decode method_3_code 367 = .ok (.invokespecial 37, 3) := by decide +kernel
theorem df_370 : decode method_3_code 370 = .ok (.areturn, 1) := by decide +kernel
theorem df_371 : decode method_3_code 371 = .ok (.new 23, 3) := by decide +kernel
theorem df_374 : decode method_3_code 374 = .ok (.dup, 1) := by decide +kernel
theorem df_375 : decode method_3_code 375 = .ok (.bipush 9, 2) := by decide +kernel
theorem df_377 : decode method_3_code 377 = .ok (.newarray .char, 2) := by decide +kernel
theorem df_379 : decode method_3_code 379 = .ok (.dup, 1) := by decide +kernel
theorem df_380 : decode method_3_code 380 = .ok (.iconst 0, 1) := by decide +kernel
theorem df_381 : decode method_3_code 381 = .ok (.aload_n 0, 1) := by decide +kernel
theorem df_382 : decode method_3_code 382 = .ok (.iconst 0, 1) := by decide +kernel
theorem df_383 : decode method_3_code 383 = .ok (.caload, 1) := by decide +kernel
theorem df_384 : decode method_3_code 384 = .ok (.castore, 1) := by decide +kernel
theorem df_385 : decode method_3_code 385 = .ok (.dup, 1) := by decide +kernel
theorem df_386 : decode method_3_code 386 = .ok (.iconst 1, 1) := by decide +kernel
theorem df_387 : decode method_3_code 387 = .ok (.aload_n 0, 1) := by decide +kernel
theorem df_388 : decode method_3_code 388 = .ok (.iconst 1, 1) := by decide +kernel
theorem df_389 : decode method_3_code 389 = .ok (.caload, 1) := by decide +kernel
theorem df_390 : decode method_3_code 390 = .ok (.castore, 1) := by decide +kernel
theorem df_391 : decode method_3_code 391 = .ok (.dup, 1) := by decide +kernel
theorem df_392 : decode method_3_code 392 = .ok (.iconst 2, 1) := by decide +kernel
theorem df_393 : decode method_3_code 393 = .ok (.aload_n 0, 1) := by decide +kernel
theorem df_394 : decode method_3_code 394 = .ok (.iconst 2, 1) := by decide +kernel
theorem df_395 : decode method_3_code 395 = .ok (.caload, 1) := by decide +kernel
theorem df_396 : decode method_3_code 396 = .ok (.castore, 1) := by decide +kernel
theorem df_397 : decode method_3_code 397 = .ok (.dup, 1) := by decide +kernel
theorem df_398 : decode method_3_code 398 = .ok (.iconst 3, 1) := by decide +kernel
theorem df_399 : decode method_3_code 399 = .ok (.aload_n 0, 1) := by decide +kernel
theorem df_400 : decode method_3_code 400 = .ok (.iconst 3, 1) := by decide +kernel
theorem df_401 : decode method_3_code 401 = .ok (.caload, 1) := by decide +kernel
theorem df_402 : decode method_3_code 402 = .ok (.castore, 1) := by decide +kernel
theorem df_403 : decode method_3_code 403 = .ok (.dup, 1) := by decide +kernel
theorem df_404 : decode method_3_code 404 = .ok (.iconst 4, 1) := by decide +kernel
theorem df_405 : decode method_3_code 405 = .ok (.aload_n 0, 1) := by decide +kernel
theorem df_406 : decode method_3_code 406 = .ok (.iconst 4, 1) := by decide +kernel
theorem df_407 : decode method_3_code 407 = .ok (.caload, 1) := by decide +kernel
theorem df_408 : decode method_3_code 408 = .ok (.castore, 1) := by decide +kernel
theorem df_409 : decode method_3_code 409 = .ok (.dup, 1) := by decide +kernel
theorem df_410 : decode method_3_code 410 = .ok (.iconst 5, 1) := by decide +kernel
theorem df_411 : decode method_3_code 411 = .ok (.aload_n 0, 1) := by decide +kernel
theorem df_412 : decode method_3_code 412 = .ok (.iconst 5, 1) := by decide +kernel
theorem df_413 : decode method_3_code 413 = .ok (.caload, 1) := by decide +kernel
theorem df_414 : decode method_3_code 414 = .ok (.castore, 1) := by decide +kernel
theorem df_415 : decode method_3_code 415 = .ok (.dup, 1) := by decide +kernel
theorem df_416 : decode method_3_code 416 = .ok (.bipush 6, 2) := by decide +kernel
theorem df_418 : decode method_3_code 418 = .ok (.aload_n 0, 1) := by decide +kernel
theorem df_419 : decode method_3_code 419 = .ok (.bipush 6, 2) := by decide +kernel
theorem df_421 : decode method_3_code 421 = .ok (.caload, 1) := by decide +kernel
theorem df_422 : decode method_3_code 422 = .ok (.castore, 1) := by decide +kernel
theorem df_423 : decode method_3_code 423 = .ok (.dup, 1) := by decide +kernel
theorem df_424 : decode method_3_code 424 = .ok (.bipush 7, 2) := by decide +kernel
theorem df_426 : decode method_3_code 426 = .ok (.aload_n 0, 1) := by decide +kernel
theorem df_427 : decode method_3_code 427 = .ok (.bipush 7, 2) := by decide +kernel
theorem df_429 : decode method_3_code 429 = .ok (.caload, 1) := by decide +kernel
theorem df_430 : decode method_3_code 430 = .ok (.castore, 1) := by decide +kernel
theorem df_431 : decode method_3_code 431 = .ok (.dup, 1) := by decide +kernel
theorem df_432 : decode method_3_code 432 = .ok (.bipush 8, 2) := by decide +kernel
theorem df_434 : decode method_3_code 434 = .ok (.aload_n 0, 1) := by decide +kernel
theorem df_435 : decode method_3_code 435 = .ok (.bipush 8, 2) := by decide +kernel
theorem df_437 : decode method_3_code 437 = .ok (.caload, 1) := by decide +kernel
theorem df_438 : decode method_3_code 438 = .ok (.castore, 1) := by decide +kernel
theorem df_439 : decode method_3_code 439 = .ok (.invokespecial 37, 3) := by decide +kernel
theorem df_442 : decode method_3_code 442 = .ok (.areturn, 1) := by decide +kernel
theorem df_4 : decode method_3_code 4 = .ok (.new 23, 3) := by decide +kernel
theorem df_7 : decode method_3_code 7 = .ok (.dup, 1) := by decide +kernel
theorem df_8 : decode method_3_code 8 = .ok (.iconst 0, 1) := by decide +kernel
theorem df_9 : decode method_3_code 9 = .ok (.newarray .char, 2) := by decide +kernel
theorem df_11 : decode method_3_code 11 = .ok (.invokespecial 37, 3) := by decide +kernel
theorem df_14 : decode method_3_code 14 = .ok (.areturn, 1) := by decide +kernel
def QTk (Z : State) (ca : Addr) (nt : Int32) (kc : ClassId) (d0 : Int32) (d1 : Int32) (d2 : Int32) (d3 : Int32) (d4 : Int32) (d5 : Int32) (d6 : Int32) (d7 : Int32) (d8 : Int32) (G1 : Int32) (h0 : Heap) (n0 : Nat) (v : Option Value) (h : Heap) (L : List Loc) : Prop := ∃ (o : Addr) (cs : List Int32) (t : Addr) (kb : ClassId), v = some (.ref o) ∧ Fr n0 L ∧ Keep h0 h [] ∧ Exa Z h o "java/lang/String" ∧ Fld Z h o "java/lang/String" "coder" "B" (.int (0 : Int32)) ∧ Fld Z h o "java/lang/String" "value" "[B" (.ref t) ∧ Arv Z h t kb .byte (Int32.ofNat cs.length) ((cs.map StrChars.lo8).map Value.int) (.int (0 : Int32)) ∧ (∀ c ∈ cs, ¬ c < 0 ∧ ¬ (255 : Int32) < c) ∧ cs.length ≤ 4000
set_option maxRecDepth 65536 in
set_option maxHeartbeats 40000000 in
theorem rmTk (l : Launch) (Z : State) (a0 : Array Value) (hw : ∀ d ∈ tables_1, d.before a0 Z = true) (ws : List Jvm.Cond) (ca : Addr) (nt : Int32) (kc : ClassId) (d0 : Int32) (d1 : Int32) (d2 : Int32) (d3 : Int32) (d4 : Int32) (d5 : Int32) (d6 : Int32) (d7 : Int32) (d8 : Int32) (G1 : Int32) (h0 : Heap) (n0 : Nat) (Z0 : n0 ≤ h0.size) (V_a : Arv Z h0 ca kc .char (9 : Int32) [(.int d0), (.int d1), (.int d2), (.int d3), (.int d4), (.int d5), (.int d6), (.int d7), (.int d8)] (.int (0 : Int32))) (B_d0 : ¬ d0 < 0 ∧ ¬ (255 : Int32) < d0) (B_d1 : ¬ d1 < 0 ∧ ¬ (255 : Int32) < d1) (B_d2 : ¬ d2 < 0 ∧ ¬ (255 : Int32) < d2) (B_d3 : ¬ d3 < 0 ∧ ¬ (255 : Int32) < d3) (B_d4 : ¬ d4 < 0 ∧ ¬ (255 : Int32) < d4) (B_d5 : ¬ d5 < 0 ∧ ¬ (255 : Int32) < d5) (B_d6 : ¬ d6 < 0 ∧ ¬ (255 : Int32) < d6) (B_d7 : ¬ d7 < 0 ∧ ¬ (255 : Int32) < d7) (B_d8 : ¬ d8 < 0 ∧ ¬ (255 : Int32) < d8) (O2 : Sta Z Z.heap "java/lang/String" "COMPACT_STRINGS" "Z" (.int G1)) (P5 : ¬ (G1 = (0 : Int32))) (X00 : Old Z n0 h0) :
    MetFree l mn2 (head1 (Jvm.Cond.code mn2 method_3_code 2 (some (.object "java/lang/String")) :: ws) ({ frames := 4, cells := 6, slots := 24, locals := 80 } : Room)) (fun a U => a = #[(.ref ca), (.int nt)] ∧ Z.Warmed39 U.vm ∧ U.heap = h0 ∧ CHv Z own_EL U.vm h0 ∧ ∀ x ∈ ([] : List Addr), Safe Z own_EL U.vm h0 x) (fun _ _ _ _ _ => True) (fun _ U oc_ U' => ∃ v L, oc_ = .returned v ∧ QTk Z ca nt kc d0 d1 d2 d3 d4 d5 d6 d7 d8 G1 h0 n0 v U'.heap L ∧ CHr Z own_EL U.vm U.heap U'.vm U'.heap ∧ ReturnedEndW U oc_ U' L ({ frames := 4, cells := 6, slots := 24, locals := 80 } : Room).cells ({ frames := 4, cells := 6, slots := 24, locals := 80 } : Room).slots) := by
  refine MetFree.of_bodySF (plainFor_of_name pn_com_example_aloq_aloq_engine_TokenKindParsePinLaw) hisR ?_
  intro p e s m args below meth c s₁ Bd hml0 hP hK
  obtain ⟨rfl, hZ, hh, hCH, hSS⟩ := hP
  have hx := Bd.exec
  have hby := Bd.bytes
  have hml : c.maxLocals = 2 := hml0
  have hown : s.vm.findClass cn1 = some m.cls := findClass_of_methodNamed Bd.named
  have hnm := (name_of_methodNamed Bd.named Bd.method).1
  have X0 : Stand p l e ({ frames := 4, cells := 6, slots := 24, locals := 80 } : Room) s m #[(.ref ca), (.int nt)] below meth c s₁ [] 0 0 := Stand.of_body Bd
  have e0 : s₁.heap = h0 := by rw [← hh, Bd.state]; rfl
  have N0 := Fr.nil n0
  have pre0 : ∀ t, Steps p.tables e below (s₁.setTop (mkF m 0 #[.val (.ref ca), .val (.int nt)] [])) t → Steps p.tables e below (s₁.setTop (entryFrame m #[(.ref ca), (.int nt)] 2)) t := fun t k => castTop (ef_Tk m ca nt) k
  have X0 : Stand p l e ({ frames := 4, cells := 6, slots := 24, locals := 80 } : Room) (s.setVm s.vm) m #[(.ref ca), (.int nt)] below meth c s₁ [] 0 0 := X0
  have hS0 : s.Since s.vm 0 := own_since0 s
  have hk0 : 0 ≤ h0.size := Nat.zero_le _
  have CR0 : CHr Z own_EL s.vm h0 s.vm h0 := CHr.refl hCH
  have hEL := own_EW a0 Z hw
  have wS : ∀ a ∈ Bundle.stringAtoms, a.before a0 Z = true := fun d hd => hw d ((by decide +kernel : ∀ d ∈ Bundle.stringAtoms, d ∈ tables_1) d hd)
  have k1 : ∀ t, Steps p.tables e below (s₁.setTop (mkF m 1 #[.val (.ref ca), .val (.int nt)] [(.int nt)])) t → Steps p.tables e below (s₁.setTop (entryFrame m #[(.ref ca), (.int nt)] 2)) t := by
    intro t kt
    refine pre0 t ?_
    show Steps p.tables e below (s₁.setTop (mkF m 0 #[.val (.ref ca), .val (.int nt)] [])) _
    refine XS.iloadN X0.here hx rfl (hb hby df_0) rfl ?_
    exact kt
  by_cases hc2 : (0 : Int32) < nt
  · skip
    have k3 : ∀ t, Steps p.tables e below (s₁.setTop (mkF m 17 #[.val (.ref ca), .val (.int nt)] [(.int (1 : Int32)), (.int nt)])) t → Steps p.tables e below (s₁.setTop (entryFrame m #[(.ref ca), (.int nt)] 2)) t := by
      intro t kt
      refine k1 t ?_
      show Steps p.tables e below (s₁.setTop (mkF m 1 #[.val (.ref ca), .val (.int nt)] [(.int nt)])) _
      refine XS.ifYes X0.here hx rfl (pc0 := 1) (pc' := 15) rfl (hb hby df_1) rfl ((if0 _ _).trans (tlt hc2).2.2.1) (by decide) (by decide) ?_
      show Steps p.tables e below (s₁.setTop (mkF m 15 #[.val (.ref ca), .val (.int nt)] [])) _
      refine XS.iloadN X0.here hx rfl (hb hby df_15) rfl ?_
      show Steps p.tables e below (s₁.setTop (mkF m 16 #[.val (.ref ca), .val (.int nt)] [(.int nt)])) _
      refine XS.iconst X0.here hx rfl (hb hby df_16) ?_
      exact kt
    by_cases hc4 : nt = (1 : Int32)
    · skip
      obtain ⟨T5, h5, X5, e5, E5, A5, D5, -, st5⟩ := newO X0 hx hZ hown (wd5 hw) (wd6 hw) (wd7 hw) e0 (g := (mkF m 20 #[.val (.ref ca), .val (.int nt)] [])) rfl (hb hby df_20) (by decide) (by decide)
      obtain ⟨b5, g5⟩ : ∃ z, z = h0.size := ⟨_, rfl⟩
      rw [← g5] at A5 D5 st5
      have ne_ca_b5 : ca ≠ b5 := Nat.ne_of_lt (Nat.lt_of_lt_of_le V_a.lt (Nat.le_of_eq g5.symm))
      have ge_b5 : n0 ≤ b5 := Nat.le_trans Z0 (Nat.le_of_eq g5.symm)
      have sz_b5 : h0.size ≤ b5 := Nat.le_trans (Nat.le_refl _) (Nat.le_of_eq g5.symm)
      have sf_b5 : Safe Z own_EL s.vm h0 b5 := Safe.new (Nat.le_of_eq g5.symm)
      have sf2_b5 : Safe Z own_EL s.vm h5 b5 := sf_b5.ext E5 CR0.1
      have CS5 := CHr.ext E5 CR0.1
      have CR5 := CR0.trans CS5
      have hk5 : _ ≤ h5.size := Nat.le_trans hk0 E5.1
      have Z5 : n0 ≤ h5.size := Nat.le_trans Z0 E5.1
      have K5 : Keep h0 h5 [] := ((Keep.refl h0 []).ext E5)
      have F5_coder : Fld Z h5 b5 "java/lang/String" "coder" "B" (.int (0 : Int32)) := D5 (Or.inr (wd31 hw)) (ty := .byte) (by decide)
      have F5_value : Fld Z h5 b5 "java/lang/String" "value" "[B" .null := D5 (Or.inr (wd33 hw)) (ty := (.array .byte)) (by decide)
      have f6 := (V_a.ext E5)
      obtain ⟨T7, h7, kk7, X7, e7, E7, A7, st7⟩ := newP X5 hx hZ (aty := .char) (wd0 hw) e5 (g := (mkF m 25 #[.val (.ref ca), .val (.int nt)] [(.int (1 : Int32)), (.ref b5), (.ref b5)])) rfl (hb hby df_25) rfl (by decide) (cap := 1) (by decide) (by decide) (by decide) (by decide)
      obtain ⟨b7, g7⟩ : ∃ z, z = h5.size := ⟨_, rfl⟩
      rw [← g7] at A7 st7
      have ne_ca_b7 : ca ≠ b7 := Nat.ne_of_lt (Nat.lt_of_lt_of_le f6.lt (Nat.le_of_eq g7.symm))
      have ne_b5_b7 : b5 ≠ b7 := Nat.ne_of_lt (Nat.lt_of_lt_of_le A5.lt (Nat.le_of_eq g7.symm))
      have ge_b7 : n0 ≤ b7 := Nat.le_trans Z5 (Nat.le_of_eq g7.symm)
      have sz_b7 : h0.size ≤ b7 := Nat.le_trans K5.1 (Nat.le_of_eq g7.symm)
      have CS7 := CHr.ext E7 CR5.1
      have CR7 := CR5.trans CS7
      have hk7 : _ ≤ h7.size := Nat.le_trans hk5 E7.1
      have Z7 : n0 ≤ h7.size := Nat.le_trans Z5 E7.1
      have K7 : Keep h0 h7 [] := (K5.ext E7)
      have V7 : Arv Z h7 b7 kk7 .char (1 : Int32) [(.int (0 : Int32))] (.int (0 : Int32)) := (Arv.new A7 (by decide)).pad (pad_rep [] (.int (0 : Int32)) 1)
      have f8 := (f6.ext E7)
      obtain ⟨cl9, Ar9, q9, S9, M9, HH9, GG9⟩ := id f8
      have hin9 : ¬ ((0 : Int32) < 0 ∨ cl9.slots.size ≤ ((0 : Int32)).toNatClampNeg) := inb_of S9 ⟨by decide, by decide⟩
      have hat9 : cl9.slots[((0 : Int32)).toNatClampNeg]? = some (.int d0) := Has.at HH9 hin9 rfl
      obtain ⟨cl10, Ar10, q10, S10, M10, HH10, GG10⟩ := id V7
      have hin10 : ¬ ((0 : Int32) < 0 ∨ cl10.slots.size ≤ ((0 : Int32)).toNatClampNeg) := inb_of S10 ⟨by decide, by decide⟩
      obtain ⟨T11, h11, X11, e11, W11, st11⟩ := stC X7 hx hZ e7 Ar10 (j := (0 : Int32)) hin10 (g := (mkF m 32 #[.val (.ref ca), .val (.int nt)] [(.int d0), (.int (0 : Int32)), (.ref b7), (.ref b7), (.ref b5), (.ref b5)])) rfl rfl (hb hby df_32)
      have CS11 := CHr.wr W11 (own_safeArv hZ.alike V7 (by decide)) CR7.1
      have CR11 := CR7.trans CS11
      have hk11 : _ ≤ h11.size := Nat.le_trans hk7 (Nat.le_of_eq W11.size.symm)
      have N11 := Fr.snoc X11 N0 ge_b7
      have Z11 : n0 ≤ h11.size := by rw [W11.size]; exact Z7
      have K11 : Keep h0 h11 [] := (K7.wr W11 (Or.inr sz_b7))
      have V11 := Arv.set Ar10 q10 S10 M10 HH10 GG10 (fits_nar_char _) W11 0 rfl (Nat.le_of_ble_eq_true rfl)
      have hp12 : ∀ c ∈ ([(nar .char d0)] : List Int32), ¬ c < 0 ∧ ¬ (255 : Int32) < c := by
        intro c hc
        simp only [List.mem_cons, List.not_mem_nil, or_false] at hc
        rcases hc with rfl
        · exact (own_narc B_d0)
      have f13 := ((A5.ext E7).wr W11)
      have f14 := ((F5_value.ext E7).other W11 (Or.inl ne_b5_b7))
      have f15 := ((F5_coder.ext E7).other W11 (Or.inl ne_b5_b7))
      have f16 := (((X00.ext E5).ext E7).wr W11 ge_b7)
      have f17 := (f8.other W11 ne_ca_b7)
      obtain ⟨_, _, ⟨T18, L18, kc18, ks18⟩, -, X18, ⟨Lc18, hQ18, l18, y18, z18⟩, st18⟩ := X11.specialBack hx (y := mn3) rfl hown (mvT hZ (wd8 hw)) (mvT hZ (wd9 hw)) (mvT hZ (wd10 hw)) (by decide) (StrChars.Road.backV (W := 1) hZ (own_hws hw) (kI := 4) (wd6 hw) (cs := ([(nar .char d0)] : List Int32)) (bs := ([(nar .char d0)] : List Int32).map (fun c => c.toInt8.toInt32)) (n := 1) ge_b5 Z11 f13 f14 f15 V11 (O2.ext f16.2) P5 rfl rfl (by decide) (by decide) hp12 rfl (by decide) (by decide)) (g := (mkF m 33 #[.val (.ref ca), .val (.int nt)] [(.ref b7), (.ref b5), (.ref b5)])) rfl (by rw [hml]; rfl) (Steps.refl _) (a := b5) (argsL := [(.ref b7)]) (rest := [(.ref b5)]) (lenOf pd___C_V rfl) rfl (by show 2 * 0 + _ ≤ _; exact Nat.le_of_eq rfl) (hb hby df_33) (fun _ _ => ⟨rfl, e11, (by decide : 2 + 1 ≤ _), (by decide : 5 + 1 ≤ _)⟩)
      dsimp only [Pt.U, Pt.locs, Pt.cells, Pt.slots] at X18 l18 y18 z18 st18 hQ18
      subst l18 y18 z18
      obtain ⟨rfl, Nq18, Kq18, gE18, gC18, t18, kb18, gt18, gs18, gn18, gV18, gK18⟩ := hQ18
      have N18 := Fr.app N11 Nq18
      have CS18 := CHr.keep Kq18 (allS (CHr.safe (CS7.trans CS11) A5.lt sf2_b5) all0) CR11.1
      have CR18 := CR11.trans CS18
      have hk18 : _ ≤ T18.heap.size := Nat.le_trans hk11 Kq18.1
      have Z18 : n0 ≤ T18.heap.size := Nat.le_trans Z11 Kq18.1
      have K18 : Keep h0 T18.heap [] := Keep.trans K11 Kq18 (allS (Or.inr sz_b5) all0)
      have gL18 : Arv Z T18.heap t18 kb18 .byte (1 : Int32) [(.int (((nar .char d0)).toInt8.toInt32))] (.int (0 : Int32)) := gK18
      have ne_ca_t18 : ca ≠ t18 := Nat.ne_of_lt (Nat.lt_of_lt_of_le f17.lt gs18)
      have ne_b5_t18 : b5 ≠ t18 := Nat.ne_of_lt (Nat.lt_of_lt_of_le f13.lt gs18)
      have ne_b7_t18 : b7 ≠ t18 := Nat.ne_of_lt (Nat.lt_of_lt_of_le V11.lt gs18)
      have sz_t18 : h0.size ≤ t18 := Nat.le_trans K11.1 gs18
      obtain ⟨lfs, lhr, lhrun, lhended, lhE⟩ := X18.leaveW hS0 hk18 (v := some (.ref b5)) (fun h => by rw [Bd.returns] at h; cases h)
      refine ⟨_, _, k3 _ ?_, lhrun, lhended, _, _, rfl, ?_, ?_, lhE.1, lhE.2.1, lhE.2.2.1, lhE.2.2.2.mono (by decide) (by decide)⟩
      · skip
        show Steps p.tables e below (s₁.setTop (mkF m 17 #[.val (.ref ca), .val (.int nt)] [(.int (1 : Int32)), (.int nt)])) _
        refine XS.icmpNo X0.here hx rfl (hb hby df_17) rfl (teq hc4).2 ?_
        show Steps p.tables e below (s₁.setTop (mkF m 20 #[.val (.ref ca), .val (.int nt)] [])) _
        refine st5 _ ?_
        show Steps p.tables e below (T5.setTop (mkF m 23 #[.val (.ref ca), .val (.int nt)] [(.ref b5)])) _
        refine XS.dup X5.here hx rfl (hb hby df_23) rfl rfl ?_
        show Steps p.tables e below (T5.setTop (mkF m 24 #[.val (.ref ca), .val (.int nt)] [(.ref b5), (.ref b5)])) _
        refine XS.iconst X5.here hx rfl (hb hby df_24) ?_
        show Steps p.tables e below (T5.setTop (mkF m 25 #[.val (.ref ca), .val (.int nt)] [(.int (1 : Int32)), (.ref b5), (.ref b5)])) _
        refine st7 _ ?_
        show Steps p.tables e below (T7.setTop (mkF m 27 #[.val (.ref ca), .val (.int nt)] [(.ref b7), (.ref b5), (.ref b5)])) _
        refine XS.dup X7.here hx rfl (hb hby df_27) rfl rfl ?_
        show Steps p.tables e below (T7.setTop (mkF m 28 #[.val (.ref ca), .val (.int nt)] [(.ref b7), (.ref b7), (.ref b5), (.ref b5)])) _
        refine XS.iconst X7.here hx rfl (hb hby df_28) ?_
        show Steps p.tables e below (T7.setTop (mkF m 29 #[.val (.ref ca), .val (.int nt)] [(.int (0 : Int32)), (.ref b7), (.ref b7), (.ref b5), (.ref b5)])) _
        refine XS.aloadN X7.here hx rfl (hb hby df_29) rfl rfl ?_
        show Steps p.tables e below (T7.setTop (mkF m 30 #[.val (.ref ca), .val (.int nt)] [(.ref ca), (.int (0 : Int32)), (.ref b7), (.ref b7), (.ref b5), (.ref b5)])) _
        refine XS.iconst X7.here hx rfl (hb hby df_30) ?_
        show Steps p.tables e below (T7.setTop (mkF m 31 #[.val (.ref ca), .val (.int nt)] [(.int (0 : Int32)), (.ref ca), (.int (0 : Int32)), (.ref b7), (.ref b7), (.ref b5), (.ref b5)])) _
        refine X7.caload hx (j := (0 : Int32)) (v := (.int d0)) (by (try rw [e7]); exact Ar9.1) (State.isArrayOf_alike hZ.alike Ar9.2.1) Ar9.2.2 hin9 hat9 (g := (mkF m 31 #[.val (.ref ca), .val (.int nt)] [(.int (0 : Int32)), (.ref ca), (.int (0 : Int32)), (.ref b7), (.ref b7), (.ref b5), (.ref b5)])) rfl rfl (hb hby df_31) _ ?_
        show Steps p.tables e below (T7.setTop (mkF m 32 #[.val (.ref ca), .val (.int nt)] [(.int d0), (.int (0 : Int32)), (.ref b7), (.ref b7), (.ref b5), (.ref b5)])) _
        refine st11 _ ?_
        show Steps p.tables e below (T11.setTop (mkF m 33 #[.val (.ref ca), .val (.int nt)] [(.ref b7), (.ref b5), (.ref b5)])) _
        refine st18.trans ?_
        show Steps p.tables e below (T18.setTop (mkF m 36 #[.val (.ref ca), .val (.int nt)] [(.ref b5)])) _
        exact retOut X18 hx Bd.returns rfl (Or.inr (Or.inr (Or.inr (Or.inr ⟨rfl, rfl, rfl⟩)))) (hb hby df_36) lhr
      · skip
        show QTk Z ca nt kc d0 d1 d2 d3 d4 d5 d6 d7 d8 G1 h0 n0 _ T18.heap _
        skip
        have hp19 : ∀ c ∈ ([(nar .char d0)] : List Int32), ¬ c < 0 ∧ ¬ (255 : Int32) < c := by
          intro c hc
          simp only [List.mem_cons, List.not_mem_nil, or_false] at hc
          rcases hc with rfl
          · exact (own_narc B_d0)
        exact ⟨b5, ([(nar .char d0)] : List Int32), t18, _, rfl, N18, K18, gE18, gC18, gV18, gL18, hp19, Nat.le_of_ble_eq_true rfl⟩
      · skip
        show CHr Z own_EL s.vm s.heap T18.vm T18.heap
        rw [hh]
        exact CR18.trans (CHv.at X18 hZ hEL CR18.1)
    · skip
      have k20 : ∀ t, Steps p.tables e below (s₁.setTop (mkF m 39 #[.val (.ref ca), .val (.int nt)] [(.int (2 : Int32)), (.int nt)])) t → Steps p.tables e below (s₁.setTop (entryFrame m #[(.ref ca), (.int nt)] 2)) t := by
        intro t kt
        refine k3 t ?_
        show Steps p.tables e below (s₁.setTop (mkF m 17 #[.val (.ref ca), .val (.int nt)] [(.int (1 : Int32)), (.int nt)])) _
        refine XS.icmpYes X0.here hx rfl (pc0 := 17) (pc' := 37) rfl (hb hby df_17) rfl (feq hc4).2 (by decide) (by decide) ?_
        show Steps p.tables e below (s₁.setTop (mkF m 37 #[.val (.ref ca), .val (.int nt)] [])) _
        refine XS.iloadN X0.here hx rfl (hb hby df_37) rfl ?_
        show Steps p.tables e below (s₁.setTop (mkF m 38 #[.val (.ref ca), .val (.int nt)] [(.int nt)])) _
        refine XS.iconst X0.here hx rfl (hb hby df_38) ?_
        exact kt
      by_cases hc21 : nt = (2 : Int32)
      · skip
        obtain ⟨T22, h22, X22, e22, E22, A22, D22, -, st22⟩ := newO X0 hx hZ hown (wd5 hw) (wd6 hw) (wd7 hw) e0 (g := (mkF m 42 #[.val (.ref ca), .val (.int nt)] [])) rfl (hb hby df_42) (by decide) (by decide)
        obtain ⟨b22, g22⟩ : ∃ z, z = h0.size := ⟨_, rfl⟩
        rw [← g22] at A22 D22 st22
        have ne_ca_b22 : ca ≠ b22 := Nat.ne_of_lt (Nat.lt_of_lt_of_le V_a.lt (Nat.le_of_eq g22.symm))
        have ge_b22 : n0 ≤ b22 := Nat.le_trans Z0 (Nat.le_of_eq g22.symm)
        have sz_b22 : h0.size ≤ b22 := Nat.le_trans (Nat.le_refl _) (Nat.le_of_eq g22.symm)
        have sf_b22 : Safe Z own_EL s.vm h0 b22 := Safe.new (Nat.le_of_eq g22.symm)
        have sf2_b22 : Safe Z own_EL s.vm h22 b22 := sf_b22.ext E22 CR0.1
        have CS22 := CHr.ext E22 CR0.1
        have CR22 := CR0.trans CS22
        have hk22 : _ ≤ h22.size := Nat.le_trans hk0 E22.1
        have Z22 : n0 ≤ h22.size := Nat.le_trans Z0 E22.1
        have K22 : Keep h0 h22 [] := ((Keep.refl h0 []).ext E22)
        have F22_coder : Fld Z h22 b22 "java/lang/String" "coder" "B" (.int (0 : Int32)) := D22 (Or.inr (wd31 hw)) (ty := .byte) (by decide)
        have F22_value : Fld Z h22 b22 "java/lang/String" "value" "[B" .null := D22 (Or.inr (wd33 hw)) (ty := (.array .byte)) (by decide)
        have f23 := (V_a.ext E22)
        obtain ⟨T24, h24, kk24, X24, e24, E24, A24, st24⟩ := newP X22 hx hZ (aty := .char) (wd0 hw) e22 (g := (mkF m 47 #[.val (.ref ca), .val (.int nt)] [(.int (2 : Int32)), (.ref b22), (.ref b22)])) rfl (hb hby df_47) rfl (by decide) (cap := 2) (by decide) (by decide) (by decide) (by decide)
        obtain ⟨b24, g24⟩ : ∃ z, z = h22.size := ⟨_, rfl⟩
        rw [← g24] at A24 st24
        have ne_ca_b24 : ca ≠ b24 := Nat.ne_of_lt (Nat.lt_of_lt_of_le f23.lt (Nat.le_of_eq g24.symm))
        have ne_b22_b24 : b22 ≠ b24 := Nat.ne_of_lt (Nat.lt_of_lt_of_le A22.lt (Nat.le_of_eq g24.symm))
        have ge_b24 : n0 ≤ b24 := Nat.le_trans Z22 (Nat.le_of_eq g24.symm)
        have sz_b24 : h0.size ≤ b24 := Nat.le_trans K22.1 (Nat.le_of_eq g24.symm)
        have CS24 := CHr.ext E24 CR22.1
        have CR24 := CR22.trans CS24
        have hk24 : _ ≤ h24.size := Nat.le_trans hk22 E24.1
        have Z24 : n0 ≤ h24.size := Nat.le_trans Z22 E24.1
        have K24 : Keep h0 h24 [] := (K22.ext E24)
        have V24 : Arv Z h24 b24 kk24 .char (2 : Int32) [(.int (0 : Int32)), (.int (0 : Int32))] (.int (0 : Int32)) := (Arv.new A24 (by decide)).pad (pad_rep [] (.int (0 : Int32)) 2)
        have f25 := (f23.ext E24)
        obtain ⟨cl26, Ar26, q26, S26, M26, HH26, GG26⟩ := id f25
        have hin26 : ¬ ((0 : Int32) < 0 ∨ cl26.slots.size ≤ ((0 : Int32)).toNatClampNeg) := inb_of S26 ⟨by decide, by decide⟩
        have hat26 : cl26.slots[((0 : Int32)).toNatClampNeg]? = some (.int d0) := Has.at HH26 hin26 rfl
        obtain ⟨cl27, Ar27, q27, S27, M27, HH27, GG27⟩ := id V24
        have hin27 : ¬ ((0 : Int32) < 0 ∨ cl27.slots.size ≤ ((0 : Int32)).toNatClampNeg) := inb_of S27 ⟨by decide, by decide⟩
        obtain ⟨T28, h28, X28, e28, W28, st28⟩ := stC X24 hx hZ e24 Ar27 (j := (0 : Int32)) hin27 (g := (mkF m 54 #[.val (.ref ca), .val (.int nt)] [(.int d0), (.int (0 : Int32)), (.ref b24), (.ref b24), (.ref b22), (.ref b22)])) rfl rfl (hb hby df_54)
        have CS28 := CHr.wr W28 (own_safeArv hZ.alike V24 (by decide)) CR24.1
        have CR28 := CR24.trans CS28
        have hk28 : _ ≤ h28.size := Nat.le_trans hk24 (Nat.le_of_eq W28.size.symm)
        have N28 := Fr.snoc X28 N0 ge_b24
        have Z28 : n0 ≤ h28.size := by rw [W28.size]; exact Z24
        have K28 : Keep h0 h28 [] := (K24.wr W28 (Or.inr sz_b24))
        have V28 := Arv.set Ar27 q27 S27 M27 HH27 GG27 (fits_nar_char _) W28 0 rfl (Nat.le_of_ble_eq_true rfl)
        have f29 := (f25.other W28 ne_ca_b24)
        obtain ⟨cl30, Ar30, q30, S30, M30, HH30, GG30⟩ := id f29
        have hin30 : ¬ ((1 : Int32) < 0 ∨ cl30.slots.size ≤ ((1 : Int32)).toNatClampNeg) := inb_of S30 ⟨by decide, by decide⟩
        have hat30 : cl30.slots[((1 : Int32)).toNatClampNeg]? = some (.int d1) := Has.at HH30 hin30 rfl
        obtain ⟨cl31, Ar31, q31, S31, M31, HH31, GG31⟩ := id V28
        have hin31 : ¬ ((1 : Int32) < 0 ∨ cl31.slots.size ≤ ((1 : Int32)).toNatClampNeg) := inb_of S31 ⟨by decide, by decide⟩
        obtain ⟨T32, h32, X32, e32, W32, st32⟩ := stC X28 hx hZ e28 Ar31 (j := (1 : Int32)) hin31 (g := (mkF m 60 #[.val (.ref ca), .val (.int nt)] [(.int d1), (.int (1 : Int32)), (.ref b24), (.ref b24), (.ref b22), (.ref b22)])) rfl rfl (hb hby df_60)
        have CS32 := CHr.wr W32 (own_safeArv hZ.alike V28 (by decide)) CR28.1
        have CR32 := CR28.trans CS32
        have hk32 : _ ≤ h32.size := Nat.le_trans hk28 (Nat.le_of_eq W32.size.symm)
        have N32 := Fr.snoc X32 N28 ge_b24
        have Z32 : n0 ≤ h32.size := by rw [W32.size]; exact Z28
        have K32 : Keep h0 h32 [] := (K28.wr W32 (Or.inr sz_b24))
        have V32 := Arv.set Ar31 q31 S31 M31 HH31 GG31 (fits_nar_char _) W32 1 rfl (Nat.le_of_ble_eq_true rfl)
        have hp33 : ∀ c ∈ ([(nar .char d0), (nar .char d1)] : List Int32), ¬ c < 0 ∧ ¬ (255 : Int32) < c := by
          intro c hc
          simp only [List.mem_cons, List.not_mem_nil, or_false] at hc
          rcases hc with rfl | rfl
          · exact (own_narc B_d0)
          · exact (own_narc B_d1)
        have f34 := (((A22.ext E24).wr W28).wr W32)
        have f35 := (((F22_value.ext E24).other W28 (Or.inl ne_b22_b24)).other W32 (Or.inl ne_b22_b24))
        have f36 := (((F22_coder.ext E24).other W28 (Or.inl ne_b22_b24)).other W32 (Or.inl ne_b22_b24))
        have f37 := ((((X00.ext E22).ext E24).wr W28 ge_b24).wr W32 ge_b24)
        have f38 := (f29.other W32 ne_ca_b24)
        obtain ⟨_, _, ⟨T39, L39, kc39, ks39⟩, -, X39, ⟨Lc39, hQ39, l39, y39, z39⟩, st39⟩ := X32.specialBack hx (y := mn3) rfl hown (mvT hZ (wd8 hw)) (mvT hZ (wd9 hw)) (mvT hZ (wd10 hw)) (by decide) (StrChars.Road.backV (W := 1) hZ (own_hws hw) (kI := 4) (wd6 hw) (cs := ([(nar .char d0), (nar .char d1)] : List Int32)) (bs := ([(nar .char d0), (nar .char d1)] : List Int32).map (fun c => c.toInt8.toInt32)) (n := 2) ge_b22 Z32 f34 f35 f36 V32 (O2.ext f37.2) P5 rfl rfl (by decide) (by decide) hp33 rfl (by decide) (by decide)) (g := (mkF m 61 #[.val (.ref ca), .val (.int nt)] [(.ref b24), (.ref b22), (.ref b22)])) rfl (by rw [hml]; rfl) (Steps.refl _) (a := b22) (argsL := [(.ref b24)]) (rest := [(.ref b22)]) (lenOf pd___C_V rfl) rfl (by show 2 * 0 + _ ≤ _; exact Nat.le_of_eq rfl) (hb hby df_61) (fun _ _ => ⟨rfl, e32, (by decide : 2 + 1 ≤ _), (by decide : 6 + 2 ≤ _)⟩)
        dsimp only [Pt.U, Pt.locs, Pt.cells, Pt.slots] at X39 l39 y39 z39 st39 hQ39
        subst l39 y39 z39
        obtain ⟨rfl, Nq39, Kq39, gE39, gC39, t39, kb39, gt39, gs39, gn39, gV39, gK39⟩ := hQ39
        have N39 := Fr.app N32 Nq39
        have CS39 := CHr.keep Kq39 (allS (CHr.safe ((CS24.trans CS28).trans CS32) A22.lt sf2_b22) all0) CR32.1
        have CR39 := CR32.trans CS39
        have hk39 : _ ≤ T39.heap.size := Nat.le_trans hk32 Kq39.1
        have Z39 : n0 ≤ T39.heap.size := Nat.le_trans Z32 Kq39.1
        have K39 : Keep h0 T39.heap [] := Keep.trans K32 Kq39 (allS (Or.inr sz_b22) all0)
        have gL39 : Arv Z T39.heap t39 kb39 .byte (2 : Int32) [(.int (((nar .char d0)).toInt8.toInt32)), (.int (((nar .char d1)).toInt8.toInt32))] (.int (0 : Int32)) := gK39
        have ne_ca_t39 : ca ≠ t39 := Nat.ne_of_lt (Nat.lt_of_lt_of_le f38.lt gs39)
        have ne_b22_t39 : b22 ≠ t39 := Nat.ne_of_lt (Nat.lt_of_lt_of_le f34.lt gs39)
        have ne_b24_t39 : b24 ≠ t39 := Nat.ne_of_lt (Nat.lt_of_lt_of_le V32.lt gs39)
        have sz_t39 : h0.size ≤ t39 := Nat.le_trans K32.1 gs39
        obtain ⟨lfs, lhr, lhrun, lhended, lhE⟩ := X39.leaveW hS0 hk39 (v := some (.ref b22)) (fun h => by rw [Bd.returns] at h; cases h)
        refine ⟨_, _, k20 _ ?_, lhrun, lhended, _, _, rfl, ?_, ?_, lhE.1, lhE.2.1, lhE.2.2.1, lhE.2.2.2.mono (by decide) (by decide)⟩
        · skip
          show Steps p.tables e below (s₁.setTop (mkF m 39 #[.val (.ref ca), .val (.int nt)] [(.int (2 : Int32)), (.int nt)])) _
          refine XS.icmpNo X0.here hx rfl (hb hby df_39) rfl (teq hc21).2 ?_
          show Steps p.tables e below (s₁.setTop (mkF m 42 #[.val (.ref ca), .val (.int nt)] [])) _
          refine st22 _ ?_
          show Steps p.tables e below (T22.setTop (mkF m 45 #[.val (.ref ca), .val (.int nt)] [(.ref b22)])) _
          refine XS.dup X22.here hx rfl (hb hby df_45) rfl rfl ?_
          show Steps p.tables e below (T22.setTop (mkF m 46 #[.val (.ref ca), .val (.int nt)] [(.ref b22), (.ref b22)])) _
          refine XS.iconst X22.here hx rfl (hb hby df_46) ?_
          show Steps p.tables e below (T22.setTop (mkF m 47 #[.val (.ref ca), .val (.int nt)] [(.int (2 : Int32)), (.ref b22), (.ref b22)])) _
          refine st24 _ ?_
          show Steps p.tables e below (T24.setTop (mkF m 49 #[.val (.ref ca), .val (.int nt)] [(.ref b24), (.ref b22), (.ref b22)])) _
          refine XS.dup X24.here hx rfl (hb hby df_49) rfl rfl ?_
          show Steps p.tables e below (T24.setTop (mkF m 50 #[.val (.ref ca), .val (.int nt)] [(.ref b24), (.ref b24), (.ref b22), (.ref b22)])) _
          refine XS.iconst X24.here hx rfl (hb hby df_50) ?_
          show Steps p.tables e below (T24.setTop (mkF m 51 #[.val (.ref ca), .val (.int nt)] [(.int (0 : Int32)), (.ref b24), (.ref b24), (.ref b22), (.ref b22)])) _
          refine XS.aloadN X24.here hx rfl (hb hby df_51) rfl rfl ?_
          show Steps p.tables e below (T24.setTop (mkF m 52 #[.val (.ref ca), .val (.int nt)] [(.ref ca), (.int (0 : Int32)), (.ref b24), (.ref b24), (.ref b22), (.ref b22)])) _
          refine XS.iconst X24.here hx rfl (hb hby df_52) ?_
          show Steps p.tables e below (T24.setTop (mkF m 53 #[.val (.ref ca), .val (.int nt)] [(.int (0 : Int32)), (.ref ca), (.int (0 : Int32)), (.ref b24), (.ref b24), (.ref b22), (.ref b22)])) _
          refine X24.caload hx (j := (0 : Int32)) (v := (.int d0)) (by (try rw [e24]); exact Ar26.1) (State.isArrayOf_alike hZ.alike Ar26.2.1) Ar26.2.2 hin26 hat26 (g := (mkF m 53 #[.val (.ref ca), .val (.int nt)] [(.int (0 : Int32)), (.ref ca), (.int (0 : Int32)), (.ref b24), (.ref b24), (.ref b22), (.ref b22)])) rfl rfl (hb hby df_53) _ ?_
          show Steps p.tables e below (T24.setTop (mkF m 54 #[.val (.ref ca), .val (.int nt)] [(.int d0), (.int (0 : Int32)), (.ref b24), (.ref b24), (.ref b22), (.ref b22)])) _
          refine st28 _ ?_
          show Steps p.tables e below (T28.setTop (mkF m 55 #[.val (.ref ca), .val (.int nt)] [(.ref b24), (.ref b22), (.ref b22)])) _
          refine XS.dup X28.here hx rfl (hb hby df_55) rfl rfl ?_
          show Steps p.tables e below (T28.setTop (mkF m 56 #[.val (.ref ca), .val (.int nt)] [(.ref b24), (.ref b24), (.ref b22), (.ref b22)])) _
          refine XS.iconst X28.here hx rfl (hb hby df_56) ?_
          show Steps p.tables e below (T28.setTop (mkF m 57 #[.val (.ref ca), .val (.int nt)] [(.int (1 : Int32)), (.ref b24), (.ref b24), (.ref b22), (.ref b22)])) _
          refine XS.aloadN X28.here hx rfl (hb hby df_57) rfl rfl ?_
          show Steps p.tables e below (T28.setTop (mkF m 58 #[.val (.ref ca), .val (.int nt)] [(.ref ca), (.int (1 : Int32)), (.ref b24), (.ref b24), (.ref b22), (.ref b22)])) _
          refine XS.iconst X28.here hx rfl (hb hby df_58) ?_
          show Steps p.tables e below (T28.setTop (mkF m 59 #[.val (.ref ca), .val (.int nt)] [(.int (1 : Int32)), (.ref ca), (.int (1 : Int32)), (.ref b24), (.ref b24), (.ref b22), (.ref b22)])) _
          refine X28.caload hx (j := (1 : Int32)) (v := (.int d1)) (by (try rw [e28]); exact Ar30.1) (State.isArrayOf_alike hZ.alike Ar30.2.1) Ar30.2.2 hin30 hat30 (g := (mkF m 59 #[.val (.ref ca), .val (.int nt)] [(.int (1 : Int32)), (.ref ca), (.int (1 : Int32)), (.ref b24), (.ref b24), (.ref b22), (.ref b22)])) rfl rfl (hb hby df_59) _ ?_
          show Steps p.tables e below (T28.setTop (mkF m 60 #[.val (.ref ca), .val (.int nt)] [(.int d1), (.int (1 : Int32)), (.ref b24), (.ref b24), (.ref b22), (.ref b22)])) _
          refine st32 _ ?_
          show Steps p.tables e below (T32.setTop (mkF m 61 #[.val (.ref ca), .val (.int nt)] [(.ref b24), (.ref b22), (.ref b22)])) _
          refine st39.trans ?_
          show Steps p.tables e below (T39.setTop (mkF m 64 #[.val (.ref ca), .val (.int nt)] [(.ref b22)])) _
          exact retOut X39 hx Bd.returns rfl (Or.inr (Or.inr (Or.inr (Or.inr ⟨rfl, rfl, rfl⟩)))) (hb hby df_64) lhr
        · skip
          show QTk Z ca nt kc d0 d1 d2 d3 d4 d5 d6 d7 d8 G1 h0 n0 _ T39.heap _
          skip
          have hp40 : ∀ c ∈ ([(nar .char d0), (nar .char d1)] : List Int32), ¬ c < 0 ∧ ¬ (255 : Int32) < c := by
            intro c hc
            simp only [List.mem_cons, List.not_mem_nil, or_false] at hc
            rcases hc with rfl | rfl
            · exact (own_narc B_d0)
            · exact (own_narc B_d1)
          exact ⟨b22, ([(nar .char d0), (nar .char d1)] : List Int32), t39, _, rfl, N39, K39, gE39, gC39, gV39, gL39, hp40, Nat.le_of_ble_eq_true rfl⟩
        · skip
          show CHr Z own_EL s.vm s.heap T39.vm T39.heap
          rw [hh]
          exact CR39.trans (CHv.at X39 hZ hEL CR39.1)
      · skip
        have k41 : ∀ t, Steps p.tables e below (s₁.setTop (mkF m 67 #[.val (.ref ca), .val (.int nt)] [(.int (3 : Int32)), (.int nt)])) t → Steps p.tables e below (s₁.setTop (entryFrame m #[(.ref ca), (.int nt)] 2)) t := by
          intro t kt
          refine k20 t ?_
          show Steps p.tables e below (s₁.setTop (mkF m 39 #[.val (.ref ca), .val (.int nt)] [(.int (2 : Int32)), (.int nt)])) _
          refine XS.icmpYes X0.here hx rfl (pc0 := 39) (pc' := 65) rfl (hb hby df_39) rfl (feq hc21).2 (by decide) (by decide) ?_
          show Steps p.tables e below (s₁.setTop (mkF m 65 #[.val (.ref ca), .val (.int nt)] [])) _
          refine XS.iloadN X0.here hx rfl (hb hby df_65) rfl ?_
          show Steps p.tables e below (s₁.setTop (mkF m 66 #[.val (.ref ca), .val (.int nt)] [(.int nt)])) _
          refine XS.iconst X0.here hx rfl (hb hby df_66) ?_
          exact kt
        by_cases hc42 : nt = (3 : Int32)
        · skip
          obtain ⟨T43, h43, X43, e43, E43, A43, D43, -, st43⟩ := newO X0 hx hZ hown (wd5 hw) (wd6 hw) (wd7 hw) e0 (g := (mkF m 70 #[.val (.ref ca), .val (.int nt)] [])) rfl (hb hby df_70) (by decide) (by decide)
          obtain ⟨b43, g43⟩ : ∃ z, z = h0.size := ⟨_, rfl⟩
          rw [← g43] at A43 D43 st43
          have ne_ca_b43 : ca ≠ b43 := Nat.ne_of_lt (Nat.lt_of_lt_of_le V_a.lt (Nat.le_of_eq g43.symm))
          have ge_b43 : n0 ≤ b43 := Nat.le_trans Z0 (Nat.le_of_eq g43.symm)
          have sz_b43 : h0.size ≤ b43 := Nat.le_trans (Nat.le_refl _) (Nat.le_of_eq g43.symm)
          have sf_b43 : Safe Z own_EL s.vm h0 b43 := Safe.new (Nat.le_of_eq g43.symm)
          have sf2_b43 : Safe Z own_EL s.vm h43 b43 := sf_b43.ext E43 CR0.1
          have CS43 := CHr.ext E43 CR0.1
          have CR43 := CR0.trans CS43
          have hk43 : _ ≤ h43.size := Nat.le_trans hk0 E43.1
          have Z43 : n0 ≤ h43.size := Nat.le_trans Z0 E43.1
          have K43 : Keep h0 h43 [] := ((Keep.refl h0 []).ext E43)
          have F43_coder : Fld Z h43 b43 "java/lang/String" "coder" "B" (.int (0 : Int32)) := D43 (Or.inr (wd31 hw)) (ty := .byte) (by decide)
          have F43_value : Fld Z h43 b43 "java/lang/String" "value" "[B" .null := D43 (Or.inr (wd33 hw)) (ty := (.array .byte)) (by decide)
          have f44 := (V_a.ext E43)
          obtain ⟨T45, h45, kk45, X45, e45, E45, A45, st45⟩ := newP X43 hx hZ (aty := .char) (wd0 hw) e43 (g := (mkF m 75 #[.val (.ref ca), .val (.int nt)] [(.int (3 : Int32)), (.ref b43), (.ref b43)])) rfl (hb hby df_75) rfl (by decide) (cap := 3) (by decide) (by decide) (by decide) (by decide)
          obtain ⟨b45, g45⟩ : ∃ z, z = h43.size := ⟨_, rfl⟩
          rw [← g45] at A45 st45
          have ne_ca_b45 : ca ≠ b45 := Nat.ne_of_lt (Nat.lt_of_lt_of_le f44.lt (Nat.le_of_eq g45.symm))
          have ne_b43_b45 : b43 ≠ b45 := Nat.ne_of_lt (Nat.lt_of_lt_of_le A43.lt (Nat.le_of_eq g45.symm))
          have ge_b45 : n0 ≤ b45 := Nat.le_trans Z43 (Nat.le_of_eq g45.symm)
          have sz_b45 : h0.size ≤ b45 := Nat.le_trans K43.1 (Nat.le_of_eq g45.symm)
          have CS45 := CHr.ext E45 CR43.1
          have CR45 := CR43.trans CS45
          have hk45 : _ ≤ h45.size := Nat.le_trans hk43 E45.1
          have Z45 : n0 ≤ h45.size := Nat.le_trans Z43 E45.1
          have K45 : Keep h0 h45 [] := (K43.ext E45)
          have V45 : Arv Z h45 b45 kk45 .char (3 : Int32) [(.int (0 : Int32)), (.int (0 : Int32)), (.int (0 : Int32))] (.int (0 : Int32)) := (Arv.new A45 (by decide)).pad (pad_rep [] (.int (0 : Int32)) 3)
          have f46 := (f44.ext E45)
          obtain ⟨cl47, Ar47, q47, S47, M47, HH47, GG47⟩ := id f46
          have hin47 : ¬ ((0 : Int32) < 0 ∨ cl47.slots.size ≤ ((0 : Int32)).toNatClampNeg) := inb_of S47 ⟨by decide, by decide⟩
          have hat47 : cl47.slots[((0 : Int32)).toNatClampNeg]? = some (.int d0) := Has.at HH47 hin47 rfl
          obtain ⟨cl48, Ar48, q48, S48, M48, HH48, GG48⟩ := id V45
          have hin48 : ¬ ((0 : Int32) < 0 ∨ cl48.slots.size ≤ ((0 : Int32)).toNatClampNeg) := inb_of S48 ⟨by decide, by decide⟩
          obtain ⟨T49, h49, X49, e49, W49, st49⟩ := stC X45 hx hZ e45 Ar48 (j := (0 : Int32)) hin48 (g := (mkF m 82 #[.val (.ref ca), .val (.int nt)] [(.int d0), (.int (0 : Int32)), (.ref b45), (.ref b45), (.ref b43), (.ref b43)])) rfl rfl (hb hby df_82)
          have CS49 := CHr.wr W49 (own_safeArv hZ.alike V45 (by decide)) CR45.1
          have CR49 := CR45.trans CS49
          have hk49 : _ ≤ h49.size := Nat.le_trans hk45 (Nat.le_of_eq W49.size.symm)
          have N49 := Fr.snoc X49 N0 ge_b45
          have Z49 : n0 ≤ h49.size := by rw [W49.size]; exact Z45
          have K49 : Keep h0 h49 [] := (K45.wr W49 (Or.inr sz_b45))
          have V49 := Arv.set Ar48 q48 S48 M48 HH48 GG48 (fits_nar_char _) W49 0 rfl (Nat.le_of_ble_eq_true rfl)
          have f50 := (f46.other W49 ne_ca_b45)
          obtain ⟨cl51, Ar51, q51, S51, M51, HH51, GG51⟩ := id f50
          have hin51 : ¬ ((1 : Int32) < 0 ∨ cl51.slots.size ≤ ((1 : Int32)).toNatClampNeg) := inb_of S51 ⟨by decide, by decide⟩
          have hat51 : cl51.slots[((1 : Int32)).toNatClampNeg]? = some (.int d1) := Has.at HH51 hin51 rfl
          obtain ⟨cl52, Ar52, q52, S52, M52, HH52, GG52⟩ := id V49
          have hin52 : ¬ ((1 : Int32) < 0 ∨ cl52.slots.size ≤ ((1 : Int32)).toNatClampNeg) := inb_of S52 ⟨by decide, by decide⟩
          obtain ⟨T53, h53, X53, e53, W53, st53⟩ := stC X49 hx hZ e49 Ar52 (j := (1 : Int32)) hin52 (g := (mkF m 88 #[.val (.ref ca), .val (.int nt)] [(.int d1), (.int (1 : Int32)), (.ref b45), (.ref b45), (.ref b43), (.ref b43)])) rfl rfl (hb hby df_88)
          have CS53 := CHr.wr W53 (own_safeArv hZ.alike V49 (by decide)) CR49.1
          have CR53 := CR49.trans CS53
          have hk53 : _ ≤ h53.size := Nat.le_trans hk49 (Nat.le_of_eq W53.size.symm)
          have N53 := Fr.snoc X53 N49 ge_b45
          have Z53 : n0 ≤ h53.size := by rw [W53.size]; exact Z49
          have K53 : Keep h0 h53 [] := (K49.wr W53 (Or.inr sz_b45))
          have V53 := Arv.set Ar52 q52 S52 M52 HH52 GG52 (fits_nar_char _) W53 1 rfl (Nat.le_of_ble_eq_true rfl)
          have f54 := (f50.other W53 ne_ca_b45)
          obtain ⟨cl55, Ar55, q55, S55, M55, HH55, GG55⟩ := id f54
          have hin55 : ¬ ((2 : Int32) < 0 ∨ cl55.slots.size ≤ ((2 : Int32)).toNatClampNeg) := inb_of S55 ⟨by decide, by decide⟩
          have hat55 : cl55.slots[((2 : Int32)).toNatClampNeg]? = some (.int d2) := Has.at HH55 hin55 rfl
          obtain ⟨cl56, Ar56, q56, S56, M56, HH56, GG56⟩ := id V53
          have hin56 : ¬ ((2 : Int32) < 0 ∨ cl56.slots.size ≤ ((2 : Int32)).toNatClampNeg) := inb_of S56 ⟨by decide, by decide⟩
          obtain ⟨T57, h57, X57, e57, W57, st57⟩ := stC X53 hx hZ e53 Ar56 (j := (2 : Int32)) hin56 (g := (mkF m 94 #[.val (.ref ca), .val (.int nt)] [(.int d2), (.int (2 : Int32)), (.ref b45), (.ref b45), (.ref b43), (.ref b43)])) rfl rfl (hb hby df_94)
          have CS57 := CHr.wr W57 (own_safeArv hZ.alike V53 (by decide)) CR53.1
          have CR57 := CR53.trans CS57
          have hk57 : _ ≤ h57.size := Nat.le_trans hk53 (Nat.le_of_eq W57.size.symm)
          have N57 := Fr.snoc X57 N53 ge_b45
          have Z57 : n0 ≤ h57.size := by rw [W57.size]; exact Z53
          have K57 : Keep h0 h57 [] := (K53.wr W57 (Or.inr sz_b45))
          have V57 := Arv.set Ar56 q56 S56 M56 HH56 GG56 (fits_nar_char _) W57 2 rfl (Nat.le_of_ble_eq_true rfl)
          have hp58 : ∀ c ∈ ([(nar .char d0), (nar .char d1), (nar .char d2)] : List Int32), ¬ c < 0 ∧ ¬ (255 : Int32) < c := by
            intro c hc
            simp only [List.mem_cons, List.not_mem_nil, or_false] at hc
            rcases hc with rfl | rfl | rfl
            · exact (own_narc B_d0)
            · exact (own_narc B_d1)
            · exact (own_narc B_d2)
          have f59 := ((((A43.ext E45).wr W49).wr W53).wr W57)
          have f60 := ((((F43_value.ext E45).other W49 (Or.inl ne_b43_b45)).other W53 (Or.inl ne_b43_b45)).other W57 (Or.inl ne_b43_b45))
          have f61 := ((((F43_coder.ext E45).other W49 (Or.inl ne_b43_b45)).other W53 (Or.inl ne_b43_b45)).other W57 (Or.inl ne_b43_b45))
          have f62 := (((((X00.ext E43).ext E45).wr W49 ge_b45).wr W53 ge_b45).wr W57 ge_b45)
          have f63 := (f54.other W57 ne_ca_b45)
          obtain ⟨_, _, ⟨T64, L64, kc64, ks64⟩, -, X64, ⟨Lc64, hQ64, l64, y64, z64⟩, st64⟩ := X57.specialBack hx (y := mn3) rfl hown (mvT hZ (wd8 hw)) (mvT hZ (wd9 hw)) (mvT hZ (wd10 hw)) (by decide) (StrChars.Road.backV (W := 1) hZ (own_hws hw) (kI := 4) (wd6 hw) (cs := ([(nar .char d0), (nar .char d1), (nar .char d2)] : List Int32)) (bs := ([(nar .char d0), (nar .char d1), (nar .char d2)] : List Int32).map (fun c => c.toInt8.toInt32)) (n := 3) ge_b43 Z57 f59 f60 f61 V57 (O2.ext f62.2) P5 rfl rfl (by decide) (by decide) hp58 rfl (by decide) (by decide)) (g := (mkF m 95 #[.val (.ref ca), .val (.int nt)] [(.ref b45), (.ref b43), (.ref b43)])) rfl (by rw [hml]; rfl) (Steps.refl _) (a := b43) (argsL := [(.ref b45)]) (rest := [(.ref b43)]) (lenOf pd___C_V rfl) rfl (by show 2 * 0 + _ ≤ _; exact Nat.le_of_eq rfl) (hb hby df_95) (fun _ _ => ⟨rfl, e57, (by decide : 2 + 1 ≤ _), (by decide : 7 + 3 ≤ _)⟩)
          dsimp only [Pt.U, Pt.locs, Pt.cells, Pt.slots] at X64 l64 y64 z64 st64 hQ64
          subst l64 y64 z64
          obtain ⟨rfl, Nq64, Kq64, gE64, gC64, t64, kb64, gt64, gs64, gn64, gV64, gK64⟩ := hQ64
          have N64 := Fr.app N57 Nq64
          have CS64 := CHr.keep Kq64 (allS (CHr.safe (((CS45.trans CS49).trans CS53).trans CS57) A43.lt sf2_b43) all0) CR57.1
          have CR64 := CR57.trans CS64
          have hk64 : _ ≤ T64.heap.size := Nat.le_trans hk57 Kq64.1
          have Z64 : n0 ≤ T64.heap.size := Nat.le_trans Z57 Kq64.1
          have K64 : Keep h0 T64.heap [] := Keep.trans K57 Kq64 (allS (Or.inr sz_b43) all0)
          have gL64 : Arv Z T64.heap t64 kb64 .byte (3 : Int32) [(.int (((nar .char d0)).toInt8.toInt32)), (.int (((nar .char d1)).toInt8.toInt32)), (.int (((nar .char d2)).toInt8.toInt32))] (.int (0 : Int32)) := gK64
          have ne_ca_t64 : ca ≠ t64 := Nat.ne_of_lt (Nat.lt_of_lt_of_le f63.lt gs64)
          have ne_b43_t64 : b43 ≠ t64 := Nat.ne_of_lt (Nat.lt_of_lt_of_le f59.lt gs64)
          have ne_b45_t64 : b45 ≠ t64 := Nat.ne_of_lt (Nat.lt_of_lt_of_le V57.lt gs64)
          have sz_t64 : h0.size ≤ t64 := Nat.le_trans K57.1 gs64
          obtain ⟨lfs, lhr, lhrun, lhended, lhE⟩ := X64.leaveW hS0 hk64 (v := some (.ref b43)) (fun h => by rw [Bd.returns] at h; cases h)
          refine ⟨_, _, k41 _ ?_, lhrun, lhended, _, _, rfl, ?_, ?_, lhE.1, lhE.2.1, lhE.2.2.1, lhE.2.2.2.mono (by decide) (by decide)⟩
          · skip
            show Steps p.tables e below (s₁.setTop (mkF m 67 #[.val (.ref ca), .val (.int nt)] [(.int (3 : Int32)), (.int nt)])) _
            refine XS.icmpNo X0.here hx rfl (hb hby df_67) rfl (teq hc42).2 ?_
            show Steps p.tables e below (s₁.setTop (mkF m 70 #[.val (.ref ca), .val (.int nt)] [])) _
            refine st43 _ ?_
            show Steps p.tables e below (T43.setTop (mkF m 73 #[.val (.ref ca), .val (.int nt)] [(.ref b43)])) _
            refine XS.dup X43.here hx rfl (hb hby df_73) rfl rfl ?_
            show Steps p.tables e below (T43.setTop (mkF m 74 #[.val (.ref ca), .val (.int nt)] [(.ref b43), (.ref b43)])) _
            refine XS.iconst X43.here hx rfl (hb hby df_74) ?_
            show Steps p.tables e below (T43.setTop (mkF m 75 #[.val (.ref ca), .val (.int nt)] [(.int (3 : Int32)), (.ref b43), (.ref b43)])) _
            refine st45 _ ?_
            show Steps p.tables e below (T45.setTop (mkF m 77 #[.val (.ref ca), .val (.int nt)] [(.ref b45), (.ref b43), (.ref b43)])) _
            refine XS.dup X45.here hx rfl (hb hby df_77) rfl rfl ?_
            show Steps p.tables e below (T45.setTop (mkF m 78 #[.val (.ref ca), .val (.int nt)] [(.ref b45), (.ref b45), (.ref b43), (.ref b43)])) _
            refine XS.iconst X45.here hx rfl (hb hby df_78) ?_
            show Steps p.tables e below (T45.setTop (mkF m 79 #[.val (.ref ca), .val (.int nt)] [(.int (0 : Int32)), (.ref b45), (.ref b45), (.ref b43), (.ref b43)])) _
            refine XS.aloadN X45.here hx rfl (hb hby df_79) rfl rfl ?_
            show Steps p.tables e below (T45.setTop (mkF m 80 #[.val (.ref ca), .val (.int nt)] [(.ref ca), (.int (0 : Int32)), (.ref b45), (.ref b45), (.ref b43), (.ref b43)])) _
            refine XS.iconst X45.here hx rfl (hb hby df_80) ?_
            show Steps p.tables e below (T45.setTop (mkF m 81 #[.val (.ref ca), .val (.int nt)] [(.int (0 : Int32)), (.ref ca), (.int (0 : Int32)), (.ref b45), (.ref b45), (.ref b43), (.ref b43)])) _
            refine X45.caload hx (j := (0 : Int32)) (v := (.int d0)) (by (try rw [e45]); exact Ar47.1) (State.isArrayOf_alike hZ.alike Ar47.2.1) Ar47.2.2 hin47 hat47 (g := (mkF m 81 #[.val (.ref ca), .val (.int nt)] [(.int (0 : Int32)), (.ref ca), (.int (0 : Int32)), (.ref b45), (.ref b45), (.ref b43), (.ref b43)])) rfl rfl (hb hby df_81) _ ?_
            show Steps p.tables e below (T45.setTop (mkF m 82 #[.val (.ref ca), .val (.int nt)] [(.int d0), (.int (0 : Int32)), (.ref b45), (.ref b45), (.ref b43), (.ref b43)])) _
            refine st49 _ ?_
            show Steps p.tables e below (T49.setTop (mkF m 83 #[.val (.ref ca), .val (.int nt)] [(.ref b45), (.ref b43), (.ref b43)])) _
            refine XS.dup X49.here hx rfl (hb hby df_83) rfl rfl ?_
            show Steps p.tables e below (T49.setTop (mkF m 84 #[.val (.ref ca), .val (.int nt)] [(.ref b45), (.ref b45), (.ref b43), (.ref b43)])) _
            refine XS.iconst X49.here hx rfl (hb hby df_84) ?_
            show Steps p.tables e below (T49.setTop (mkF m 85 #[.val (.ref ca), .val (.int nt)] [(.int (1 : Int32)), (.ref b45), (.ref b45), (.ref b43), (.ref b43)])) _
            refine XS.aloadN X49.here hx rfl (hb hby df_85) rfl rfl ?_
            show Steps p.tables e below (T49.setTop (mkF m 86 #[.val (.ref ca), .val (.int nt)] [(.ref ca), (.int (1 : Int32)), (.ref b45), (.ref b45), (.ref b43), (.ref b43)])) _
            refine XS.iconst X49.here hx rfl (hb hby df_86) ?_
            show Steps p.tables e below (T49.setTop (mkF m 87 #[.val (.ref ca), .val (.int nt)] [(.int (1 : Int32)), (.ref ca), (.int (1 : Int32)), (.ref b45), (.ref b45), (.ref b43), (.ref b43)])) _
            refine X49.caload hx (j := (1 : Int32)) (v := (.int d1)) (by (try rw [e49]); exact Ar51.1) (State.isArrayOf_alike hZ.alike Ar51.2.1) Ar51.2.2 hin51 hat51 (g := (mkF m 87 #[.val (.ref ca), .val (.int nt)] [(.int (1 : Int32)), (.ref ca), (.int (1 : Int32)), (.ref b45), (.ref b45), (.ref b43), (.ref b43)])) rfl rfl (hb hby df_87) _ ?_
            show Steps p.tables e below (T49.setTop (mkF m 88 #[.val (.ref ca), .val (.int nt)] [(.int d1), (.int (1 : Int32)), (.ref b45), (.ref b45), (.ref b43), (.ref b43)])) _
            refine st53 _ ?_
            show Steps p.tables e below (T53.setTop (mkF m 89 #[.val (.ref ca), .val (.int nt)] [(.ref b45), (.ref b43), (.ref b43)])) _
            refine XS.dup X53.here hx rfl (hb hby df_89) rfl rfl ?_
            show Steps p.tables e below (T53.setTop (mkF m 90 #[.val (.ref ca), .val (.int nt)] [(.ref b45), (.ref b45), (.ref b43), (.ref b43)])) _
            refine XS.iconst X53.here hx rfl (hb hby df_90) ?_
            show Steps p.tables e below (T53.setTop (mkF m 91 #[.val (.ref ca), .val (.int nt)] [(.int (2 : Int32)), (.ref b45), (.ref b45), (.ref b43), (.ref b43)])) _
            refine XS.aloadN X53.here hx rfl (hb hby df_91) rfl rfl ?_
            show Steps p.tables e below (T53.setTop (mkF m 92 #[.val (.ref ca), .val (.int nt)] [(.ref ca), (.int (2 : Int32)), (.ref b45), (.ref b45), (.ref b43), (.ref b43)])) _
            refine XS.iconst X53.here hx rfl (hb hby df_92) ?_
            show Steps p.tables e below (T53.setTop (mkF m 93 #[.val (.ref ca), .val (.int nt)] [(.int (2 : Int32)), (.ref ca), (.int (2 : Int32)), (.ref b45), (.ref b45), (.ref b43), (.ref b43)])) _
            refine X53.caload hx (j := (2 : Int32)) (v := (.int d2)) (by (try rw [e53]); exact Ar55.1) (State.isArrayOf_alike hZ.alike Ar55.2.1) Ar55.2.2 hin55 hat55 (g := (mkF m 93 #[.val (.ref ca), .val (.int nt)] [(.int (2 : Int32)), (.ref ca), (.int (2 : Int32)), (.ref b45), (.ref b45), (.ref b43), (.ref b43)])) rfl rfl (hb hby df_93) _ ?_
            show Steps p.tables e below (T53.setTop (mkF m 94 #[.val (.ref ca), .val (.int nt)] [(.int d2), (.int (2 : Int32)), (.ref b45), (.ref b45), (.ref b43), (.ref b43)])) _
            refine st57 _ ?_
            show Steps p.tables e below (T57.setTop (mkF m 95 #[.val (.ref ca), .val (.int nt)] [(.ref b45), (.ref b43), (.ref b43)])) _
            refine st64.trans ?_
            show Steps p.tables e below (T64.setTop (mkF m 98 #[.val (.ref ca), .val (.int nt)] [(.ref b43)])) _
            exact retOut X64 hx Bd.returns rfl (Or.inr (Or.inr (Or.inr (Or.inr ⟨rfl, rfl, rfl⟩)))) (hb hby df_98) lhr
          · skip
            show QTk Z ca nt kc d0 d1 d2 d3 d4 d5 d6 d7 d8 G1 h0 n0 _ T64.heap _
            skip
            have hp65 : ∀ c ∈ ([(nar .char d0), (nar .char d1), (nar .char d2)] : List Int32), ¬ c < 0 ∧ ¬ (255 : Int32) < c := by
              intro c hc
              simp only [List.mem_cons, List.not_mem_nil, or_false] at hc
              rcases hc with rfl | rfl | rfl
              · exact (own_narc B_d0)
              · exact (own_narc B_d1)
              · exact (own_narc B_d2)
            exact ⟨b43, ([(nar .char d0), (nar .char d1), (nar .char d2)] : List Int32), t64, _, rfl, N64, K64, gE64, gC64, gV64, gL64, hp65, Nat.le_of_ble_eq_true rfl⟩
          · skip
            show CHr Z own_EL s.vm s.heap T64.vm T64.heap
            rw [hh]
            exact CR64.trans (CHv.at X64 hZ hEL CR64.1)
        · skip
          have k66 : ∀ t, Steps p.tables e below (s₁.setTop (mkF m 101 #[.val (.ref ca), .val (.int nt)] [(.int (4 : Int32)), (.int nt)])) t → Steps p.tables e below (s₁.setTop (entryFrame m #[(.ref ca), (.int nt)] 2)) t := by
            intro t kt
            refine k41 t ?_
            show Steps p.tables e below (s₁.setTop (mkF m 67 #[.val (.ref ca), .val (.int nt)] [(.int (3 : Int32)), (.int nt)])) _
            refine XS.icmpYes X0.here hx rfl (pc0 := 67) (pc' := 99) rfl (hb hby df_67) rfl (feq hc42).2 (by decide) (by decide) ?_
            show Steps p.tables e below (s₁.setTop (mkF m 99 #[.val (.ref ca), .val (.int nt)] [])) _
            refine XS.iloadN X0.here hx rfl (hb hby df_99) rfl ?_
            show Steps p.tables e below (s₁.setTop (mkF m 100 #[.val (.ref ca), .val (.int nt)] [(.int nt)])) _
            refine XS.iconst X0.here hx rfl (hb hby df_100) ?_
            exact kt
          by_cases hc67 : nt = (4 : Int32)
          · skip
            obtain ⟨T68, h68, X68, e68, E68, A68, D68, -, st68⟩ := newO X0 hx hZ hown (wd5 hw) (wd6 hw) (wd7 hw) e0 (g := (mkF m 104 #[.val (.ref ca), .val (.int nt)] [])) rfl (hb hby df_104) (by decide) (by decide)
            obtain ⟨b68, g68⟩ : ∃ z, z = h0.size := ⟨_, rfl⟩
            rw [← g68] at A68 D68 st68
            have ne_ca_b68 : ca ≠ b68 := Nat.ne_of_lt (Nat.lt_of_lt_of_le V_a.lt (Nat.le_of_eq g68.symm))
            have ge_b68 : n0 ≤ b68 := Nat.le_trans Z0 (Nat.le_of_eq g68.symm)
            have sz_b68 : h0.size ≤ b68 := Nat.le_trans (Nat.le_refl _) (Nat.le_of_eq g68.symm)
            have sf_b68 : Safe Z own_EL s.vm h0 b68 := Safe.new (Nat.le_of_eq g68.symm)
            have sf2_b68 : Safe Z own_EL s.vm h68 b68 := sf_b68.ext E68 CR0.1
            have CS68 := CHr.ext E68 CR0.1
            have CR68 := CR0.trans CS68
            have hk68 : _ ≤ h68.size := Nat.le_trans hk0 E68.1
            have Z68 : n0 ≤ h68.size := Nat.le_trans Z0 E68.1
            have K68 : Keep h0 h68 [] := ((Keep.refl h0 []).ext E68)
            have F68_coder : Fld Z h68 b68 "java/lang/String" "coder" "B" (.int (0 : Int32)) := D68 (Or.inr (wd31 hw)) (ty := .byte) (by decide)
            have F68_value : Fld Z h68 b68 "java/lang/String" "value" "[B" .null := D68 (Or.inr (wd33 hw)) (ty := (.array .byte)) (by decide)
            have f69 := (V_a.ext E68)
            obtain ⟨T70, h70, kk70, X70, e70, E70, A70, st70⟩ := newP X68 hx hZ (aty := .char) (wd0 hw) e68 (g := (mkF m 109 #[.val (.ref ca), .val (.int nt)] [(.int (4 : Int32)), (.ref b68), (.ref b68)])) rfl (hb hby df_109) rfl (by decide) (cap := 4) (by decide) (by decide) (by decide) (by decide)
            obtain ⟨b70, g70⟩ : ∃ z, z = h68.size := ⟨_, rfl⟩
            rw [← g70] at A70 st70
            have ne_ca_b70 : ca ≠ b70 := Nat.ne_of_lt (Nat.lt_of_lt_of_le f69.lt (Nat.le_of_eq g70.symm))
            have ne_b68_b70 : b68 ≠ b70 := Nat.ne_of_lt (Nat.lt_of_lt_of_le A68.lt (Nat.le_of_eq g70.symm))
            have ge_b70 : n0 ≤ b70 := Nat.le_trans Z68 (Nat.le_of_eq g70.symm)
            have sz_b70 : h0.size ≤ b70 := Nat.le_trans K68.1 (Nat.le_of_eq g70.symm)
            have CS70 := CHr.ext E70 CR68.1
            have CR70 := CR68.trans CS70
            have hk70 : _ ≤ h70.size := Nat.le_trans hk68 E70.1
            have Z70 : n0 ≤ h70.size := Nat.le_trans Z68 E70.1
            have K70 : Keep h0 h70 [] := (K68.ext E70)
            have V70 : Arv Z h70 b70 kk70 .char (4 : Int32) [(.int (0 : Int32)), (.int (0 : Int32)), (.int (0 : Int32)), (.int (0 : Int32))] (.int (0 : Int32)) := (Arv.new A70 (by decide)).pad (pad_rep [] (.int (0 : Int32)) 4)
            have f71 := (f69.ext E70)
            obtain ⟨cl72, Ar72, q72, S72, M72, HH72, GG72⟩ := id f71
            have hin72 : ¬ ((0 : Int32) < 0 ∨ cl72.slots.size ≤ ((0 : Int32)).toNatClampNeg) := inb_of S72 ⟨by decide, by decide⟩
            have hat72 : cl72.slots[((0 : Int32)).toNatClampNeg]? = some (.int d0) := Has.at HH72 hin72 rfl
            obtain ⟨cl73, Ar73, q73, S73, M73, HH73, GG73⟩ := id V70
            have hin73 : ¬ ((0 : Int32) < 0 ∨ cl73.slots.size ≤ ((0 : Int32)).toNatClampNeg) := inb_of S73 ⟨by decide, by decide⟩
            obtain ⟨T74, h74, X74, e74, W74, st74⟩ := stC X70 hx hZ e70 Ar73 (j := (0 : Int32)) hin73 (g := (mkF m 116 #[.val (.ref ca), .val (.int nt)] [(.int d0), (.int (0 : Int32)), (.ref b70), (.ref b70), (.ref b68), (.ref b68)])) rfl rfl (hb hby df_116)
            have CS74 := CHr.wr W74 (own_safeArv hZ.alike V70 (by decide)) CR70.1
            have CR74 := CR70.trans CS74
            have hk74 : _ ≤ h74.size := Nat.le_trans hk70 (Nat.le_of_eq W74.size.symm)
            have N74 := Fr.snoc X74 N0 ge_b70
            have Z74 : n0 ≤ h74.size := by rw [W74.size]; exact Z70
            have K74 : Keep h0 h74 [] := (K70.wr W74 (Or.inr sz_b70))
            have V74 := Arv.set Ar73 q73 S73 M73 HH73 GG73 (fits_nar_char _) W74 0 rfl (Nat.le_of_ble_eq_true rfl)
            have f75 := (f71.other W74 ne_ca_b70)
            obtain ⟨cl76, Ar76, q76, S76, M76, HH76, GG76⟩ := id f75
            have hin76 : ¬ ((1 : Int32) < 0 ∨ cl76.slots.size ≤ ((1 : Int32)).toNatClampNeg) := inb_of S76 ⟨by decide, by decide⟩
            have hat76 : cl76.slots[((1 : Int32)).toNatClampNeg]? = some (.int d1) := Has.at HH76 hin76 rfl
            obtain ⟨cl77, Ar77, q77, S77, M77, HH77, GG77⟩ := id V74
            have hin77 : ¬ ((1 : Int32) < 0 ∨ cl77.slots.size ≤ ((1 : Int32)).toNatClampNeg) := inb_of S77 ⟨by decide, by decide⟩
            obtain ⟨T78, h78, X78, e78, W78, st78⟩ := stC X74 hx hZ e74 Ar77 (j := (1 : Int32)) hin77 (g := (mkF m 122 #[.val (.ref ca), .val (.int nt)] [(.int d1), (.int (1 : Int32)), (.ref b70), (.ref b70), (.ref b68), (.ref b68)])) rfl rfl (hb hby df_122)
            have CS78 := CHr.wr W78 (own_safeArv hZ.alike V74 (by decide)) CR74.1
            have CR78 := CR74.trans CS78
            have hk78 : _ ≤ h78.size := Nat.le_trans hk74 (Nat.le_of_eq W78.size.symm)
            have N78 := Fr.snoc X78 N74 ge_b70
            have Z78 : n0 ≤ h78.size := by rw [W78.size]; exact Z74
            have K78 : Keep h0 h78 [] := (K74.wr W78 (Or.inr sz_b70))
            have V78 := Arv.set Ar77 q77 S77 M77 HH77 GG77 (fits_nar_char _) W78 1 rfl (Nat.le_of_ble_eq_true rfl)
            have f79 := (f75.other W78 ne_ca_b70)
            obtain ⟨cl80, Ar80, q80, S80, M80, HH80, GG80⟩ := id f79
            have hin80 : ¬ ((2 : Int32) < 0 ∨ cl80.slots.size ≤ ((2 : Int32)).toNatClampNeg) := inb_of S80 ⟨by decide, by decide⟩
            have hat80 : cl80.slots[((2 : Int32)).toNatClampNeg]? = some (.int d2) := Has.at HH80 hin80 rfl
            obtain ⟨cl81, Ar81, q81, S81, M81, HH81, GG81⟩ := id V78
            have hin81 : ¬ ((2 : Int32) < 0 ∨ cl81.slots.size ≤ ((2 : Int32)).toNatClampNeg) := inb_of S81 ⟨by decide, by decide⟩
            obtain ⟨T82, h82, X82, e82, W82, st82⟩ := stC X78 hx hZ e78 Ar81 (j := (2 : Int32)) hin81 (g := (mkF m 128 #[.val (.ref ca), .val (.int nt)] [(.int d2), (.int (2 : Int32)), (.ref b70), (.ref b70), (.ref b68), (.ref b68)])) rfl rfl (hb hby df_128)
            have CS82 := CHr.wr W82 (own_safeArv hZ.alike V78 (by decide)) CR78.1
            have CR82 := CR78.trans CS82
            have hk82 : _ ≤ h82.size := Nat.le_trans hk78 (Nat.le_of_eq W82.size.symm)
            have N82 := Fr.snoc X82 N78 ge_b70
            have Z82 : n0 ≤ h82.size := by rw [W82.size]; exact Z78
            have K82 : Keep h0 h82 [] := (K78.wr W82 (Or.inr sz_b70))
            have V82 := Arv.set Ar81 q81 S81 M81 HH81 GG81 (fits_nar_char _) W82 2 rfl (Nat.le_of_ble_eq_true rfl)
            have f83 := (f79.other W82 ne_ca_b70)
            obtain ⟨cl84, Ar84, q84, S84, M84, HH84, GG84⟩ := id f83
            have hin84 : ¬ ((3 : Int32) < 0 ∨ cl84.slots.size ≤ ((3 : Int32)).toNatClampNeg) := inb_of S84 ⟨by decide, by decide⟩
            have hat84 : cl84.slots[((3 : Int32)).toNatClampNeg]? = some (.int d3) := Has.at HH84 hin84 rfl
            obtain ⟨cl85, Ar85, q85, S85, M85, HH85, GG85⟩ := id V82
            have hin85 : ¬ ((3 : Int32) < 0 ∨ cl85.slots.size ≤ ((3 : Int32)).toNatClampNeg) := inb_of S85 ⟨by decide, by decide⟩
            obtain ⟨T86, h86, X86, e86, W86, st86⟩ := stC X82 hx hZ e82 Ar85 (j := (3 : Int32)) hin85 (g := (mkF m 134 #[.val (.ref ca), .val (.int nt)] [(.int d3), (.int (3 : Int32)), (.ref b70), (.ref b70), (.ref b68), (.ref b68)])) rfl rfl (hb hby df_134)
            have CS86 := CHr.wr W86 (own_safeArv hZ.alike V82 (by decide)) CR82.1
            have CR86 := CR82.trans CS86
            have hk86 : _ ≤ h86.size := Nat.le_trans hk82 (Nat.le_of_eq W86.size.symm)
            have N86 := Fr.snoc X86 N82 ge_b70
            have Z86 : n0 ≤ h86.size := by rw [W86.size]; exact Z82
            have K86 : Keep h0 h86 [] := (K82.wr W86 (Or.inr sz_b70))
            have V86 := Arv.set Ar85 q85 S85 M85 HH85 GG85 (fits_nar_char _) W86 3 rfl (Nat.le_of_ble_eq_true rfl)
            have hp87 : ∀ c ∈ ([(nar .char d0), (nar .char d1), (nar .char d2), (nar .char d3)] : List Int32), ¬ c < 0 ∧ ¬ (255 : Int32) < c := by
              intro c hc
              simp only [List.mem_cons, List.not_mem_nil, or_false] at hc
              rcases hc with rfl | rfl | rfl | rfl
              · exact (own_narc B_d0)
              · exact (own_narc B_d1)
              · exact (own_narc B_d2)
              · exact (own_narc B_d3)
            have f88 := (((((A68.ext E70).wr W74).wr W78).wr W82).wr W86)
            have f89 := (((((F68_value.ext E70).other W74 (Or.inl ne_b68_b70)).other W78 (Or.inl ne_b68_b70)).other W82 (Or.inl ne_b68_b70)).other W86 (Or.inl ne_b68_b70))
            have f90 := (((((F68_coder.ext E70).other W74 (Or.inl ne_b68_b70)).other W78 (Or.inl ne_b68_b70)).other W82 (Or.inl ne_b68_b70)).other W86 (Or.inl ne_b68_b70))
            have f91 := ((((((X00.ext E68).ext E70).wr W74 ge_b70).wr W78 ge_b70).wr W82 ge_b70).wr W86 ge_b70)
            have f92 := (f83.other W86 ne_ca_b70)
            obtain ⟨_, _, ⟨T93, L93, kc93, ks93⟩, -, X93, ⟨Lc93, hQ93, l93, y93, z93⟩, st93⟩ := X86.specialBack hx (y := mn3) rfl hown (mvT hZ (wd8 hw)) (mvT hZ (wd9 hw)) (mvT hZ (wd10 hw)) (by decide) (StrChars.Road.backV (W := 1) hZ (own_hws hw) (kI := 4) (wd6 hw) (cs := ([(nar .char d0), (nar .char d1), (nar .char d2), (nar .char d3)] : List Int32)) (bs := ([(nar .char d0), (nar .char d1), (nar .char d2), (nar .char d3)] : List Int32).map (fun c => c.toInt8.toInt32)) (n := 4) ge_b68 Z86 f88 f89 f90 V86 (O2.ext f91.2) P5 rfl rfl (by decide) (by decide) hp87 rfl (by decide) (by decide)) (g := (mkF m 135 #[.val (.ref ca), .val (.int nt)] [(.ref b70), (.ref b68), (.ref b68)])) rfl (by rw [hml]; rfl) (Steps.refl _) (a := b68) (argsL := [(.ref b70)]) (rest := [(.ref b68)]) (lenOf pd___C_V rfl) rfl (by show 2 * 0 + _ ≤ _; exact Nat.le_of_eq rfl) (hb hby df_135) (fun _ _ => ⟨rfl, e86, (by decide : 2 + 1 ≤ _), (by decide : 8 + 4 ≤ _)⟩)
            dsimp only [Pt.U, Pt.locs, Pt.cells, Pt.slots] at X93 l93 y93 z93 st93 hQ93
            subst l93 y93 z93
            obtain ⟨rfl, Nq93, Kq93, gE93, gC93, t93, kb93, gt93, gs93, gn93, gV93, gK93⟩ := hQ93
            have N93 := Fr.app N86 Nq93
            have CS93 := CHr.keep Kq93 (allS (CHr.safe ((((CS70.trans CS74).trans CS78).trans CS82).trans CS86) A68.lt sf2_b68) all0) CR86.1
            have CR93 := CR86.trans CS93
            have hk93 : _ ≤ T93.heap.size := Nat.le_trans hk86 Kq93.1
            have Z93 : n0 ≤ T93.heap.size := Nat.le_trans Z86 Kq93.1
            have K93 : Keep h0 T93.heap [] := Keep.trans K86 Kq93 (allS (Or.inr sz_b68) all0)
            have gL93 : Arv Z T93.heap t93 kb93 .byte (4 : Int32) [(.int (((nar .char d0)).toInt8.toInt32)), (.int (((nar .char d1)).toInt8.toInt32)), (.int (((nar .char d2)).toInt8.toInt32)), (.int (((nar .char d3)).toInt8.toInt32))] (.int (0 : Int32)) := gK93
            have ne_ca_t93 : ca ≠ t93 := Nat.ne_of_lt (Nat.lt_of_lt_of_le f92.lt gs93)
            have ne_b68_t93 : b68 ≠ t93 := Nat.ne_of_lt (Nat.lt_of_lt_of_le f88.lt gs93)
            have ne_b70_t93 : b70 ≠ t93 := Nat.ne_of_lt (Nat.lt_of_lt_of_le V86.lt gs93)
            have sz_t93 : h0.size ≤ t93 := Nat.le_trans K86.1 gs93
            obtain ⟨lfs, lhr, lhrun, lhended, lhE⟩ := X93.leaveW hS0 hk93 (v := some (.ref b68)) (fun h => by rw [Bd.returns] at h; cases h)
            refine ⟨_, _, k66 _ ?_, lhrun, lhended, _, _, rfl, ?_, ?_, lhE.1, lhE.2.1, lhE.2.2.1, lhE.2.2.2.mono (by decide) (by decide)⟩
            · skip
              show Steps p.tables e below (s₁.setTop (mkF m 101 #[.val (.ref ca), .val (.int nt)] [(.int (4 : Int32)), (.int nt)])) _
              refine XS.icmpNo X0.here hx rfl (hb hby df_101) rfl (teq hc67).2 ?_
              show Steps p.tables e below (s₁.setTop (mkF m 104 #[.val (.ref ca), .val (.int nt)] [])) _
              refine st68 _ ?_
              show Steps p.tables e below (T68.setTop (mkF m 107 #[.val (.ref ca), .val (.int nt)] [(.ref b68)])) _
              refine XS.dup X68.here hx rfl (hb hby df_107) rfl rfl ?_
              show Steps p.tables e below (T68.setTop (mkF m 108 #[.val (.ref ca), .val (.int nt)] [(.ref b68), (.ref b68)])) _
              refine XS.iconst X68.here hx rfl (hb hby df_108) ?_
              show Steps p.tables e below (T68.setTop (mkF m 109 #[.val (.ref ca), .val (.int nt)] [(.int (4 : Int32)), (.ref b68), (.ref b68)])) _
              refine st70 _ ?_
              show Steps p.tables e below (T70.setTop (mkF m 111 #[.val (.ref ca), .val (.int nt)] [(.ref b70), (.ref b68), (.ref b68)])) _
              refine XS.dup X70.here hx rfl (hb hby df_111) rfl rfl ?_
              show Steps p.tables e below (T70.setTop (mkF m 112 #[.val (.ref ca), .val (.int nt)] [(.ref b70), (.ref b70), (.ref b68), (.ref b68)])) _
              refine XS.iconst X70.here hx rfl (hb hby df_112) ?_
              show Steps p.tables e below (T70.setTop (mkF m 113 #[.val (.ref ca), .val (.int nt)] [(.int (0 : Int32)), (.ref b70), (.ref b70), (.ref b68), (.ref b68)])) _
              refine XS.aloadN X70.here hx rfl (hb hby df_113) rfl rfl ?_
              show Steps p.tables e below (T70.setTop (mkF m 114 #[.val (.ref ca), .val (.int nt)] [(.ref ca), (.int (0 : Int32)), (.ref b70), (.ref b70), (.ref b68), (.ref b68)])) _
              refine XS.iconst X70.here hx rfl (hb hby df_114) ?_
              show Steps p.tables e below (T70.setTop (mkF m 115 #[.val (.ref ca), .val (.int nt)] [(.int (0 : Int32)), (.ref ca), (.int (0 : Int32)), (.ref b70), (.ref b70), (.ref b68), (.ref b68)])) _
              refine X70.caload hx (j := (0 : Int32)) (v := (.int d0)) (by (try rw [e70]); exact Ar72.1) (State.isArrayOf_alike hZ.alike Ar72.2.1) Ar72.2.2 hin72 hat72 (g := (mkF m 115 #[.val (.ref ca), .val (.int nt)] [(.int (0 : Int32)), (.ref ca), (.int (0 : Int32)), (.ref b70), (.ref b70), (.ref b68), (.ref b68)])) rfl rfl (hb hby df_115) _ ?_
              show Steps p.tables e below (T70.setTop (mkF m 116 #[.val (.ref ca), .val (.int nt)] [(.int d0), (.int (0 : Int32)), (.ref b70), (.ref b70), (.ref b68), (.ref b68)])) _
              refine st74 _ ?_
              show Steps p.tables e below (T74.setTop (mkF m 117 #[.val (.ref ca), .val (.int nt)] [(.ref b70), (.ref b68), (.ref b68)])) _
              refine XS.dup X74.here hx rfl (hb hby df_117) rfl rfl ?_
              show Steps p.tables e below (T74.setTop (mkF m 118 #[.val (.ref ca), .val (.int nt)] [(.ref b70), (.ref b70), (.ref b68), (.ref b68)])) _
              refine XS.iconst X74.here hx rfl (hb hby df_118) ?_
              show Steps p.tables e below (T74.setTop (mkF m 119 #[.val (.ref ca), .val (.int nt)] [(.int (1 : Int32)), (.ref b70), (.ref b70), (.ref b68), (.ref b68)])) _
              refine XS.aloadN X74.here hx rfl (hb hby df_119) rfl rfl ?_
              show Steps p.tables e below (T74.setTop (mkF m 120 #[.val (.ref ca), .val (.int nt)] [(.ref ca), (.int (1 : Int32)), (.ref b70), (.ref b70), (.ref b68), (.ref b68)])) _
              refine XS.iconst X74.here hx rfl (hb hby df_120) ?_
              show Steps p.tables e below (T74.setTop (mkF m 121 #[.val (.ref ca), .val (.int nt)] [(.int (1 : Int32)), (.ref ca), (.int (1 : Int32)), (.ref b70), (.ref b70), (.ref b68), (.ref b68)])) _
              refine X74.caload hx (j := (1 : Int32)) (v := (.int d1)) (by (try rw [e74]); exact Ar76.1) (State.isArrayOf_alike hZ.alike Ar76.2.1) Ar76.2.2 hin76 hat76 (g := (mkF m 121 #[.val (.ref ca), .val (.int nt)] [(.int (1 : Int32)), (.ref ca), (.int (1 : Int32)), (.ref b70), (.ref b70), (.ref b68), (.ref b68)])) rfl rfl (hb hby df_121) _ ?_
              show Steps p.tables e below (T74.setTop (mkF m 122 #[.val (.ref ca), .val (.int nt)] [(.int d1), (.int (1 : Int32)), (.ref b70), (.ref b70), (.ref b68), (.ref b68)])) _
              refine st78 _ ?_
              show Steps p.tables e below (T78.setTop (mkF m 123 #[.val (.ref ca), .val (.int nt)] [(.ref b70), (.ref b68), (.ref b68)])) _
              refine XS.dup X78.here hx rfl (hb hby df_123) rfl rfl ?_
              show Steps p.tables e below (T78.setTop (mkF m 124 #[.val (.ref ca), .val (.int nt)] [(.ref b70), (.ref b70), (.ref b68), (.ref b68)])) _
              refine XS.iconst X78.here hx rfl (hb hby df_124) ?_
              show Steps p.tables e below (T78.setTop (mkF m 125 #[.val (.ref ca), .val (.int nt)] [(.int (2 : Int32)), (.ref b70), (.ref b70), (.ref b68), (.ref b68)])) _
              refine XS.aloadN X78.here hx rfl (hb hby df_125) rfl rfl ?_
              show Steps p.tables e below (T78.setTop (mkF m 126 #[.val (.ref ca), .val (.int nt)] [(.ref ca), (.int (2 : Int32)), (.ref b70), (.ref b70), (.ref b68), (.ref b68)])) _
              refine XS.iconst X78.here hx rfl (hb hby df_126) ?_
              show Steps p.tables e below (T78.setTop (mkF m 127 #[.val (.ref ca), .val (.int nt)] [(.int (2 : Int32)), (.ref ca), (.int (2 : Int32)), (.ref b70), (.ref b70), (.ref b68), (.ref b68)])) _
              refine X78.caload hx (j := (2 : Int32)) (v := (.int d2)) (by (try rw [e78]); exact Ar80.1) (State.isArrayOf_alike hZ.alike Ar80.2.1) Ar80.2.2 hin80 hat80 (g := (mkF m 127 #[.val (.ref ca), .val (.int nt)] [(.int (2 : Int32)), (.ref ca), (.int (2 : Int32)), (.ref b70), (.ref b70), (.ref b68), (.ref b68)])) rfl rfl (hb hby df_127) _ ?_
              show Steps p.tables e below (T78.setTop (mkF m 128 #[.val (.ref ca), .val (.int nt)] [(.int d2), (.int (2 : Int32)), (.ref b70), (.ref b70), (.ref b68), (.ref b68)])) _
              refine st82 _ ?_
              show Steps p.tables e below (T82.setTop (mkF m 129 #[.val (.ref ca), .val (.int nt)] [(.ref b70), (.ref b68), (.ref b68)])) _
              refine XS.dup X82.here hx rfl (hb hby df_129) rfl rfl ?_
              show Steps p.tables e below (T82.setTop (mkF m 130 #[.val (.ref ca), .val (.int nt)] [(.ref b70), (.ref b70), (.ref b68), (.ref b68)])) _
              refine XS.iconst X82.here hx rfl (hb hby df_130) ?_
              show Steps p.tables e below (T82.setTop (mkF m 131 #[.val (.ref ca), .val (.int nt)] [(.int (3 : Int32)), (.ref b70), (.ref b70), (.ref b68), (.ref b68)])) _
              refine XS.aloadN X82.here hx rfl (hb hby df_131) rfl rfl ?_
              show Steps p.tables e below (T82.setTop (mkF m 132 #[.val (.ref ca), .val (.int nt)] [(.ref ca), (.int (3 : Int32)), (.ref b70), (.ref b70), (.ref b68), (.ref b68)])) _
              refine XS.iconst X82.here hx rfl (hb hby df_132) ?_
              show Steps p.tables e below (T82.setTop (mkF m 133 #[.val (.ref ca), .val (.int nt)] [(.int (3 : Int32)), (.ref ca), (.int (3 : Int32)), (.ref b70), (.ref b70), (.ref b68), (.ref b68)])) _
              refine X82.caload hx (j := (3 : Int32)) (v := (.int d3)) (by (try rw [e82]); exact Ar84.1) (State.isArrayOf_alike hZ.alike Ar84.2.1) Ar84.2.2 hin84 hat84 (g := (mkF m 133 #[.val (.ref ca), .val (.int nt)] [(.int (3 : Int32)), (.ref ca), (.int (3 : Int32)), (.ref b70), (.ref b70), (.ref b68), (.ref b68)])) rfl rfl (hb hby df_133) _ ?_
              show Steps p.tables e below (T82.setTop (mkF m 134 #[.val (.ref ca), .val (.int nt)] [(.int d3), (.int (3 : Int32)), (.ref b70), (.ref b70), (.ref b68), (.ref b68)])) _
              refine st86 _ ?_
              show Steps p.tables e below (T86.setTop (mkF m 135 #[.val (.ref ca), .val (.int nt)] [(.ref b70), (.ref b68), (.ref b68)])) _
              refine st93.trans ?_
              show Steps p.tables e below (T93.setTop (mkF m 138 #[.val (.ref ca), .val (.int nt)] [(.ref b68)])) _
              exact retOut X93 hx Bd.returns rfl (Or.inr (Or.inr (Or.inr (Or.inr ⟨rfl, rfl, rfl⟩)))) (hb hby df_138) lhr
            · skip
              show QTk Z ca nt kc d0 d1 d2 d3 d4 d5 d6 d7 d8 G1 h0 n0 _ T93.heap _
              skip
              have hp94 : ∀ c ∈ ([(nar .char d0), (nar .char d1), (nar .char d2), (nar .char d3)] : List Int32), ¬ c < 0 ∧ ¬ (255 : Int32) < c := by
                intro c hc
                simp only [List.mem_cons, List.not_mem_nil, or_false] at hc
                rcases hc with rfl | rfl | rfl | rfl
                · exact (own_narc B_d0)
                · exact (own_narc B_d1)
                · exact (own_narc B_d2)
                · exact (own_narc B_d3)
              exact ⟨b68, ([(nar .char d0), (nar .char d1), (nar .char d2), (nar .char d3)] : List Int32), t93, _, rfl, N93, K93, gE93, gC93, gV93, gL93, hp94, Nat.le_of_ble_eq_true rfl⟩
            · skip
              show CHr Z own_EL s.vm s.heap T93.vm T93.heap
              rw [hh]
              exact CR93.trans (CHv.at X93 hZ hEL CR93.1)
          · skip
            have k95 : ∀ t, Steps p.tables e below (s₁.setTop (mkF m 141 #[.val (.ref ca), .val (.int nt)] [(.int (5 : Int32)), (.int nt)])) t → Steps p.tables e below (s₁.setTop (entryFrame m #[(.ref ca), (.int nt)] 2)) t := by
              intro t kt
              refine k66 t ?_
              show Steps p.tables e below (s₁.setTop (mkF m 101 #[.val (.ref ca), .val (.int nt)] [(.int (4 : Int32)), (.int nt)])) _
              refine XS.icmpYes X0.here hx rfl (pc0 := 101) (pc' := 139) rfl (hb hby df_101) rfl (feq hc67).2 (by decide) (by decide) ?_
              show Steps p.tables e below (s₁.setTop (mkF m 139 #[.val (.ref ca), .val (.int nt)] [])) _
              refine XS.iloadN X0.here hx rfl (hb hby df_139) rfl ?_
              show Steps p.tables e below (s₁.setTop (mkF m 140 #[.val (.ref ca), .val (.int nt)] [(.int nt)])) _
              refine XS.iconst X0.here hx rfl (hb hby df_140) ?_
              exact kt
            by_cases hc96 : nt = (5 : Int32)
            · skip
              obtain ⟨T97, h97, X97, e97, E97, A97, D97, -, st97⟩ := newO X0 hx hZ hown (wd5 hw) (wd6 hw) (wd7 hw) e0 (g := (mkF m 144 #[.val (.ref ca), .val (.int nt)] [])) rfl (hb hby df_144) (by decide) (by decide)
              obtain ⟨b97, g97⟩ : ∃ z, z = h0.size := ⟨_, rfl⟩
              rw [← g97] at A97 D97 st97
              have ne_ca_b97 : ca ≠ b97 := Nat.ne_of_lt (Nat.lt_of_lt_of_le V_a.lt (Nat.le_of_eq g97.symm))
              have ge_b97 : n0 ≤ b97 := Nat.le_trans Z0 (Nat.le_of_eq g97.symm)
              have sz_b97 : h0.size ≤ b97 := Nat.le_trans (Nat.le_refl _) (Nat.le_of_eq g97.symm)
              have sf_b97 : Safe Z own_EL s.vm h0 b97 := Safe.new (Nat.le_of_eq g97.symm)
              have sf2_b97 : Safe Z own_EL s.vm h97 b97 := sf_b97.ext E97 CR0.1
              have CS97 := CHr.ext E97 CR0.1
              have CR97 := CR0.trans CS97
              have hk97 : _ ≤ h97.size := Nat.le_trans hk0 E97.1
              have Z97 : n0 ≤ h97.size := Nat.le_trans Z0 E97.1
              have K97 : Keep h0 h97 [] := ((Keep.refl h0 []).ext E97)
              have F97_coder : Fld Z h97 b97 "java/lang/String" "coder" "B" (.int (0 : Int32)) := D97 (Or.inr (wd31 hw)) (ty := .byte) (by decide)
              have F97_value : Fld Z h97 b97 "java/lang/String" "value" "[B" .null := D97 (Or.inr (wd33 hw)) (ty := (.array .byte)) (by decide)
              have f98 := (V_a.ext E97)
              obtain ⟨T99, h99, kk99, X99, e99, E99, A99, st99⟩ := newP X97 hx hZ (aty := .char) (wd0 hw) e97 (g := (mkF m 149 #[.val (.ref ca), .val (.int nt)] [(.int (5 : Int32)), (.ref b97), (.ref b97)])) rfl (hb hby df_149) rfl (by decide) (cap := 5) (by decide) (by decide) (by decide) (by decide)
              obtain ⟨b99, g99⟩ : ∃ z, z = h97.size := ⟨_, rfl⟩
              rw [← g99] at A99 st99
              have ne_ca_b99 : ca ≠ b99 := Nat.ne_of_lt (Nat.lt_of_lt_of_le f98.lt (Nat.le_of_eq g99.symm))
              have ne_b97_b99 : b97 ≠ b99 := Nat.ne_of_lt (Nat.lt_of_lt_of_le A97.lt (Nat.le_of_eq g99.symm))
              have ge_b99 : n0 ≤ b99 := Nat.le_trans Z97 (Nat.le_of_eq g99.symm)
              have sz_b99 : h0.size ≤ b99 := Nat.le_trans K97.1 (Nat.le_of_eq g99.symm)
              have CS99 := CHr.ext E99 CR97.1
              have CR99 := CR97.trans CS99
              have hk99 : _ ≤ h99.size := Nat.le_trans hk97 E99.1
              have Z99 : n0 ≤ h99.size := Nat.le_trans Z97 E99.1
              have K99 : Keep h0 h99 [] := (K97.ext E99)
              have V99 : Arv Z h99 b99 kk99 .char (5 : Int32) [(.int (0 : Int32)), (.int (0 : Int32)), (.int (0 : Int32)), (.int (0 : Int32)), (.int (0 : Int32))] (.int (0 : Int32)) := (Arv.new A99 (by decide)).pad (pad_rep [] (.int (0 : Int32)) 5)
              have f100 := (f98.ext E99)
              obtain ⟨cl101, Ar101, q101, S101, M101, HH101, GG101⟩ := id f100
              have hin101 : ¬ ((0 : Int32) < 0 ∨ cl101.slots.size ≤ ((0 : Int32)).toNatClampNeg) := inb_of S101 ⟨by decide, by decide⟩
              have hat101 : cl101.slots[((0 : Int32)).toNatClampNeg]? = some (.int d0) := Has.at HH101 hin101 rfl
              obtain ⟨cl102, Ar102, q102, S102, M102, HH102, GG102⟩ := id V99
              have hin102 : ¬ ((0 : Int32) < 0 ∨ cl102.slots.size ≤ ((0 : Int32)).toNatClampNeg) := inb_of S102 ⟨by decide, by decide⟩
              obtain ⟨T103, h103, X103, e103, W103, st103⟩ := stC X99 hx hZ e99 Ar102 (j := (0 : Int32)) hin102 (g := (mkF m 156 #[.val (.ref ca), .val (.int nt)] [(.int d0), (.int (0 : Int32)), (.ref b99), (.ref b99), (.ref b97), (.ref b97)])) rfl rfl (hb hby df_156)
              have CS103 := CHr.wr W103 (own_safeArv hZ.alike V99 (by decide)) CR99.1
              have CR103 := CR99.trans CS103
              have hk103 : _ ≤ h103.size := Nat.le_trans hk99 (Nat.le_of_eq W103.size.symm)
              have N103 := Fr.snoc X103 N0 ge_b99
              have Z103 : n0 ≤ h103.size := by rw [W103.size]; exact Z99
              have K103 : Keep h0 h103 [] := (K99.wr W103 (Or.inr sz_b99))
              have V103 := Arv.set Ar102 q102 S102 M102 HH102 GG102 (fits_nar_char _) W103 0 rfl (Nat.le_of_ble_eq_true rfl)
              have f104 := (f100.other W103 ne_ca_b99)
              obtain ⟨cl105, Ar105, q105, S105, M105, HH105, GG105⟩ := id f104
              have hin105 : ¬ ((1 : Int32) < 0 ∨ cl105.slots.size ≤ ((1 : Int32)).toNatClampNeg) := inb_of S105 ⟨by decide, by decide⟩
              have hat105 : cl105.slots[((1 : Int32)).toNatClampNeg]? = some (.int d1) := Has.at HH105 hin105 rfl
              obtain ⟨cl106, Ar106, q106, S106, M106, HH106, GG106⟩ := id V103
              have hin106 : ¬ ((1 : Int32) < 0 ∨ cl106.slots.size ≤ ((1 : Int32)).toNatClampNeg) := inb_of S106 ⟨by decide, by decide⟩
              obtain ⟨T107, h107, X107, e107, W107, st107⟩ := stC X103 hx hZ e103 Ar106 (j := (1 : Int32)) hin106 (g := (mkF m 162 #[.val (.ref ca), .val (.int nt)] [(.int d1), (.int (1 : Int32)), (.ref b99), (.ref b99), (.ref b97), (.ref b97)])) rfl rfl (hb hby df_162)
              have CS107 := CHr.wr W107 (own_safeArv hZ.alike V103 (by decide)) CR103.1
              have CR107 := CR103.trans CS107
              have hk107 : _ ≤ h107.size := Nat.le_trans hk103 (Nat.le_of_eq W107.size.symm)
              have N107 := Fr.snoc X107 N103 ge_b99
              have Z107 : n0 ≤ h107.size := by rw [W107.size]; exact Z103
              have K107 : Keep h0 h107 [] := (K103.wr W107 (Or.inr sz_b99))
              have V107 := Arv.set Ar106 q106 S106 M106 HH106 GG106 (fits_nar_char _) W107 1 rfl (Nat.le_of_ble_eq_true rfl)
              have f108 := (f104.other W107 ne_ca_b99)
              obtain ⟨cl109, Ar109, q109, S109, M109, HH109, GG109⟩ := id f108
              have hin109 : ¬ ((2 : Int32) < 0 ∨ cl109.slots.size ≤ ((2 : Int32)).toNatClampNeg) := inb_of S109 ⟨by decide, by decide⟩
              have hat109 : cl109.slots[((2 : Int32)).toNatClampNeg]? = some (.int d2) := Has.at HH109 hin109 rfl
              obtain ⟨cl110, Ar110, q110, S110, M110, HH110, GG110⟩ := id V107
              have hin110 : ¬ ((2 : Int32) < 0 ∨ cl110.slots.size ≤ ((2 : Int32)).toNatClampNeg) := inb_of S110 ⟨by decide, by decide⟩
              obtain ⟨T111, h111, X111, e111, W111, st111⟩ := stC X107 hx hZ e107 Ar110 (j := (2 : Int32)) hin110 (g := (mkF m 168 #[.val (.ref ca), .val (.int nt)] [(.int d2), (.int (2 : Int32)), (.ref b99), (.ref b99), (.ref b97), (.ref b97)])) rfl rfl (hb hby df_168)
              have CS111 := CHr.wr W111 (own_safeArv hZ.alike V107 (by decide)) CR107.1
              have CR111 := CR107.trans CS111
              have hk111 : _ ≤ h111.size := Nat.le_trans hk107 (Nat.le_of_eq W111.size.symm)
              have N111 := Fr.snoc X111 N107 ge_b99
              have Z111 : n0 ≤ h111.size := by rw [W111.size]; exact Z107
              have K111 : Keep h0 h111 [] := (K107.wr W111 (Or.inr sz_b99))
              have V111 := Arv.set Ar110 q110 S110 M110 HH110 GG110 (fits_nar_char _) W111 2 rfl (Nat.le_of_ble_eq_true rfl)
              have f112 := (f108.other W111 ne_ca_b99)
              obtain ⟨cl113, Ar113, q113, S113, M113, HH113, GG113⟩ := id f112
              have hin113 : ¬ ((3 : Int32) < 0 ∨ cl113.slots.size ≤ ((3 : Int32)).toNatClampNeg) := inb_of S113 ⟨by decide, by decide⟩
              have hat113 : cl113.slots[((3 : Int32)).toNatClampNeg]? = some (.int d3) := Has.at HH113 hin113 rfl
              obtain ⟨cl114, Ar114, q114, S114, M114, HH114, GG114⟩ := id V111
              have hin114 : ¬ ((3 : Int32) < 0 ∨ cl114.slots.size ≤ ((3 : Int32)).toNatClampNeg) := inb_of S114 ⟨by decide, by decide⟩
              obtain ⟨T115, h115, X115, e115, W115, st115⟩ := stC X111 hx hZ e111 Ar114 (j := (3 : Int32)) hin114 (g := (mkF m 174 #[.val (.ref ca), .val (.int nt)] [(.int d3), (.int (3 : Int32)), (.ref b99), (.ref b99), (.ref b97), (.ref b97)])) rfl rfl (hb hby df_174)
              have CS115 := CHr.wr W115 (own_safeArv hZ.alike V111 (by decide)) CR111.1
              have CR115 := CR111.trans CS115
              have hk115 : _ ≤ h115.size := Nat.le_trans hk111 (Nat.le_of_eq W115.size.symm)
              have N115 := Fr.snoc X115 N111 ge_b99
              have Z115 : n0 ≤ h115.size := by rw [W115.size]; exact Z111
              have K115 : Keep h0 h115 [] := (K111.wr W115 (Or.inr sz_b99))
              have V115 := Arv.set Ar114 q114 S114 M114 HH114 GG114 (fits_nar_char _) W115 3 rfl (Nat.le_of_ble_eq_true rfl)
              have f116 := (f112.other W115 ne_ca_b99)
              obtain ⟨cl117, Ar117, q117, S117, M117, HH117, GG117⟩ := id f116
              have hin117 : ¬ ((4 : Int32) < 0 ∨ cl117.slots.size ≤ ((4 : Int32)).toNatClampNeg) := inb_of S117 ⟨by decide, by decide⟩
              have hat117 : cl117.slots[((4 : Int32)).toNatClampNeg]? = some (.int d4) := Has.at HH117 hin117 rfl
              obtain ⟨cl118, Ar118, q118, S118, M118, HH118, GG118⟩ := id V115
              have hin118 : ¬ ((4 : Int32) < 0 ∨ cl118.slots.size ≤ ((4 : Int32)).toNatClampNeg) := inb_of S118 ⟨by decide, by decide⟩
              obtain ⟨T119, h119, X119, e119, W119, st119⟩ := stC X115 hx hZ e115 Ar118 (j := (4 : Int32)) hin118 (g := (mkF m 180 #[.val (.ref ca), .val (.int nt)] [(.int d4), (.int (4 : Int32)), (.ref b99), (.ref b99), (.ref b97), (.ref b97)])) rfl rfl (hb hby df_180)
              have CS119 := CHr.wr W119 (own_safeArv hZ.alike V115 (by decide)) CR115.1
              have CR119 := CR115.trans CS119
              have hk119 : _ ≤ h119.size := Nat.le_trans hk115 (Nat.le_of_eq W119.size.symm)
              have N119 := Fr.snoc X119 N115 ge_b99
              have Z119 : n0 ≤ h119.size := by rw [W119.size]; exact Z115
              have K119 : Keep h0 h119 [] := (K115.wr W119 (Or.inr sz_b99))
              have V119 := Arv.set Ar118 q118 S118 M118 HH118 GG118 (fits_nar_char _) W119 4 rfl (Nat.le_of_ble_eq_true rfl)
              have hp120 : ∀ c ∈ ([(nar .char d0), (nar .char d1), (nar .char d2), (nar .char d3), (nar .char d4)] : List Int32), ¬ c < 0 ∧ ¬ (255 : Int32) < c := by
                intro c hc
                simp only [List.mem_cons, List.not_mem_nil, or_false] at hc
                rcases hc with rfl | rfl | rfl | rfl | rfl
                · exact (own_narc B_d0)
                · exact (own_narc B_d1)
                · exact (own_narc B_d2)
                · exact (own_narc B_d3)
                · exact (own_narc B_d4)
              have f121 := ((((((A97.ext E99).wr W103).wr W107).wr W111).wr W115).wr W119)
              have f122 := ((((((F97_value.ext E99).other W103 (Or.inl ne_b97_b99)).other W107 (Or.inl ne_b97_b99)).other W111 (Or.inl ne_b97_b99)).other W115 (Or.inl ne_b97_b99)).other W119 (Or.inl ne_b97_b99))
              have f123 := ((((((F97_coder.ext E99).other W103 (Or.inl ne_b97_b99)).other W107 (Or.inl ne_b97_b99)).other W111 (Or.inl ne_b97_b99)).other W115 (Or.inl ne_b97_b99)).other W119 (Or.inl ne_b97_b99))
              have f124 := (((((((X00.ext E97).ext E99).wr W103 ge_b99).wr W107 ge_b99).wr W111 ge_b99).wr W115 ge_b99).wr W119 ge_b99)
              have f125 := (f116.other W119 ne_ca_b99)
              obtain ⟨_, _, ⟨T126, L126, kc126, ks126⟩, -, X126, ⟨Lc126, hQ126, l126, y126, z126⟩, st126⟩ := X119.specialBack hx (y := mn3) rfl hown (mvT hZ (wd8 hw)) (mvT hZ (wd9 hw)) (mvT hZ (wd10 hw)) (by decide) (StrChars.Road.backV (W := 1) hZ (own_hws hw) (kI := 4) (wd6 hw) (cs := ([(nar .char d0), (nar .char d1), (nar .char d2), (nar .char d3), (nar .char d4)] : List Int32)) (bs := ([(nar .char d0), (nar .char d1), (nar .char d2), (nar .char d3), (nar .char d4)] : List Int32).map (fun c => c.toInt8.toInt32)) (n := 5) ge_b97 Z119 f121 f122 f123 V119 (O2.ext f124.2) P5 rfl rfl (by decide) (by decide) hp120 rfl (by decide) (by decide)) (g := (mkF m 181 #[.val (.ref ca), .val (.int nt)] [(.ref b99), (.ref b97), (.ref b97)])) rfl (by rw [hml]; rfl) (Steps.refl _) (a := b97) (argsL := [(.ref b99)]) (rest := [(.ref b97)]) (lenOf pd___C_V rfl) rfl (by show 2 * 0 + _ ≤ _; exact Nat.le_of_eq rfl) (hb hby df_181) (fun _ _ => ⟨rfl, e119, (by decide : 2 + 1 ≤ _), (by decide : 9 + 5 ≤ _)⟩)
              dsimp only [Pt.U, Pt.locs, Pt.cells, Pt.slots] at X126 l126 y126 z126 st126 hQ126
              subst l126 y126 z126
              obtain ⟨rfl, Nq126, Kq126, gE126, gC126, t126, kb126, gt126, gs126, gn126, gV126, gK126⟩ := hQ126
              have N126 := Fr.app N119 Nq126
              have CS126 := CHr.keep Kq126 (allS (CHr.safe (((((CS99.trans CS103).trans CS107).trans CS111).trans CS115).trans CS119) A97.lt sf2_b97) all0) CR119.1
              have CR126 := CR119.trans CS126
              have hk126 : _ ≤ T126.heap.size := Nat.le_trans hk119 Kq126.1
              have Z126 : n0 ≤ T126.heap.size := Nat.le_trans Z119 Kq126.1
              have K126 : Keep h0 T126.heap [] := Keep.trans K119 Kq126 (allS (Or.inr sz_b97) all0)
              have gL126 : Arv Z T126.heap t126 kb126 .byte (5 : Int32) [(.int (((nar .char d0)).toInt8.toInt32)), (.int (((nar .char d1)).toInt8.toInt32)), (.int (((nar .char d2)).toInt8.toInt32)), (.int (((nar .char d3)).toInt8.toInt32)), (.int (((nar .char d4)).toInt8.toInt32))] (.int (0 : Int32)) := gK126
              have ne_ca_t126 : ca ≠ t126 := Nat.ne_of_lt (Nat.lt_of_lt_of_le f125.lt gs126)
              have ne_b97_t126 : b97 ≠ t126 := Nat.ne_of_lt (Nat.lt_of_lt_of_le f121.lt gs126)
              have ne_b99_t126 : b99 ≠ t126 := Nat.ne_of_lt (Nat.lt_of_lt_of_le V119.lt gs126)
              have sz_t126 : h0.size ≤ t126 := Nat.le_trans K119.1 gs126
              obtain ⟨lfs, lhr, lhrun, lhended, lhE⟩ := X126.leaveW hS0 hk126 (v := some (.ref b97)) (fun h => by rw [Bd.returns] at h; cases h)
              refine ⟨_, _, k95 _ ?_, lhrun, lhended, _, _, rfl, ?_, ?_, lhE.1, lhE.2.1, lhE.2.2.1, lhE.2.2.2.mono (by decide) (by decide)⟩
              · skip
                show Steps p.tables e below (s₁.setTop (mkF m 141 #[.val (.ref ca), .val (.int nt)] [(.int (5 : Int32)), (.int nt)])) _
                refine XS.icmpNo X0.here hx rfl (hb hby df_141) rfl (teq hc96).2 ?_
                show Steps p.tables e below (s₁.setTop (mkF m 144 #[.val (.ref ca), .val (.int nt)] [])) _
                refine st97 _ ?_
                show Steps p.tables e below (T97.setTop (mkF m 147 #[.val (.ref ca), .val (.int nt)] [(.ref b97)])) _
                refine XS.dup X97.here hx rfl (hb hby df_147) rfl rfl ?_
                show Steps p.tables e below (T97.setTop (mkF m 148 #[.val (.ref ca), .val (.int nt)] [(.ref b97), (.ref b97)])) _
                refine XS.iconst X97.here hx rfl (hb hby df_148) ?_
                show Steps p.tables e below (T97.setTop (mkF m 149 #[.val (.ref ca), .val (.int nt)] [(.int (5 : Int32)), (.ref b97), (.ref b97)])) _
                refine st99 _ ?_
                show Steps p.tables e below (T99.setTop (mkF m 151 #[.val (.ref ca), .val (.int nt)] [(.ref b99), (.ref b97), (.ref b97)])) _
                refine XS.dup X99.here hx rfl (hb hby df_151) rfl rfl ?_
                show Steps p.tables e below (T99.setTop (mkF m 152 #[.val (.ref ca), .val (.int nt)] [(.ref b99), (.ref b99), (.ref b97), (.ref b97)])) _
                refine XS.iconst X99.here hx rfl (hb hby df_152) ?_
                show Steps p.tables e below (T99.setTop (mkF m 153 #[.val (.ref ca), .val (.int nt)] [(.int (0 : Int32)), (.ref b99), (.ref b99), (.ref b97), (.ref b97)])) _
                refine XS.aloadN X99.here hx rfl (hb hby df_153) rfl rfl ?_
                show Steps p.tables e below (T99.setTop (mkF m 154 #[.val (.ref ca), .val (.int nt)] [(.ref ca), (.int (0 : Int32)), (.ref b99), (.ref b99), (.ref b97), (.ref b97)])) _
                refine XS.iconst X99.here hx rfl (hb hby df_154) ?_
                show Steps p.tables e below (T99.setTop (mkF m 155 #[.val (.ref ca), .val (.int nt)] [(.int (0 : Int32)), (.ref ca), (.int (0 : Int32)), (.ref b99), (.ref b99), (.ref b97), (.ref b97)])) _
                refine X99.caload hx (j := (0 : Int32)) (v := (.int d0)) (by (try rw [e99]); exact Ar101.1) (State.isArrayOf_alike hZ.alike Ar101.2.1) Ar101.2.2 hin101 hat101 (g := (mkF m 155 #[.val (.ref ca), .val (.int nt)] [(.int (0 : Int32)), (.ref ca), (.int (0 : Int32)), (.ref b99), (.ref b99), (.ref b97), (.ref b97)])) rfl rfl (hb hby df_155) _ ?_
                show Steps p.tables e below (T99.setTop (mkF m 156 #[.val (.ref ca), .val (.int nt)] [(.int d0), (.int (0 : Int32)), (.ref b99), (.ref b99), (.ref b97), (.ref b97)])) _
                refine st103 _ ?_
                show Steps p.tables e below (T103.setTop (mkF m 157 #[.val (.ref ca), .val (.int nt)] [(.ref b99), (.ref b97), (.ref b97)])) _
                refine XS.dup X103.here hx rfl (hb hby df_157) rfl rfl ?_
                show Steps p.tables e below (T103.setTop (mkF m 158 #[.val (.ref ca), .val (.int nt)] [(.ref b99), (.ref b99), (.ref b97), (.ref b97)])) _
                refine XS.iconst X103.here hx rfl (hb hby df_158) ?_
                show Steps p.tables e below (T103.setTop (mkF m 159 #[.val (.ref ca), .val (.int nt)] [(.int (1 : Int32)), (.ref b99), (.ref b99), (.ref b97), (.ref b97)])) _
                refine XS.aloadN X103.here hx rfl (hb hby df_159) rfl rfl ?_
                show Steps p.tables e below (T103.setTop (mkF m 160 #[.val (.ref ca), .val (.int nt)] [(.ref ca), (.int (1 : Int32)), (.ref b99), (.ref b99), (.ref b97), (.ref b97)])) _
                refine XS.iconst X103.here hx rfl (hb hby df_160) ?_
                show Steps p.tables e below (T103.setTop (mkF m 161 #[.val (.ref ca), .val (.int nt)] [(.int (1 : Int32)), (.ref ca), (.int (1 : Int32)), (.ref b99), (.ref b99), (.ref b97), (.ref b97)])) _
                refine X103.caload hx (j := (1 : Int32)) (v := (.int d1)) (by (try rw [e103]); exact Ar105.1) (State.isArrayOf_alike hZ.alike Ar105.2.1) Ar105.2.2 hin105 hat105 (g := (mkF m 161 #[.val (.ref ca), .val (.int nt)] [(.int (1 : Int32)), (.ref ca), (.int (1 : Int32)), (.ref b99), (.ref b99), (.ref b97), (.ref b97)])) rfl rfl (hb hby df_161) _ ?_
                show Steps p.tables e below (T103.setTop (mkF m 162 #[.val (.ref ca), .val (.int nt)] [(.int d1), (.int (1 : Int32)), (.ref b99), (.ref b99), (.ref b97), (.ref b97)])) _
                refine st107 _ ?_
                show Steps p.tables e below (T107.setTop (mkF m 163 #[.val (.ref ca), .val (.int nt)] [(.ref b99), (.ref b97), (.ref b97)])) _
                refine XS.dup X107.here hx rfl (hb hby df_163) rfl rfl ?_
                show Steps p.tables e below (T107.setTop (mkF m 164 #[.val (.ref ca), .val (.int nt)] [(.ref b99), (.ref b99), (.ref b97), (.ref b97)])) _
                refine XS.iconst X107.here hx rfl (hb hby df_164) ?_
                show Steps p.tables e below (T107.setTop (mkF m 165 #[.val (.ref ca), .val (.int nt)] [(.int (2 : Int32)), (.ref b99), (.ref b99), (.ref b97), (.ref b97)])) _
                refine XS.aloadN X107.here hx rfl (hb hby df_165) rfl rfl ?_
                show Steps p.tables e below (T107.setTop (mkF m 166 #[.val (.ref ca), .val (.int nt)] [(.ref ca), (.int (2 : Int32)), (.ref b99), (.ref b99), (.ref b97), (.ref b97)])) _
                refine XS.iconst X107.here hx rfl (hb hby df_166) ?_
                show Steps p.tables e below (T107.setTop (mkF m 167 #[.val (.ref ca), .val (.int nt)] [(.int (2 : Int32)), (.ref ca), (.int (2 : Int32)), (.ref b99), (.ref b99), (.ref b97), (.ref b97)])) _
                refine X107.caload hx (j := (2 : Int32)) (v := (.int d2)) (by (try rw [e107]); exact Ar109.1) (State.isArrayOf_alike hZ.alike Ar109.2.1) Ar109.2.2 hin109 hat109 (g := (mkF m 167 #[.val (.ref ca), .val (.int nt)] [(.int (2 : Int32)), (.ref ca), (.int (2 : Int32)), (.ref b99), (.ref b99), (.ref b97), (.ref b97)])) rfl rfl (hb hby df_167) _ ?_
                show Steps p.tables e below (T107.setTop (mkF m 168 #[.val (.ref ca), .val (.int nt)] [(.int d2), (.int (2 : Int32)), (.ref b99), (.ref b99), (.ref b97), (.ref b97)])) _
                refine st111 _ ?_
                show Steps p.tables e below (T111.setTop (mkF m 169 #[.val (.ref ca), .val (.int nt)] [(.ref b99), (.ref b97), (.ref b97)])) _
                refine XS.dup X111.here hx rfl (hb hby df_169) rfl rfl ?_
                show Steps p.tables e below (T111.setTop (mkF m 170 #[.val (.ref ca), .val (.int nt)] [(.ref b99), (.ref b99), (.ref b97), (.ref b97)])) _
                refine XS.iconst X111.here hx rfl (hb hby df_170) ?_
                show Steps p.tables e below (T111.setTop (mkF m 171 #[.val (.ref ca), .val (.int nt)] [(.int (3 : Int32)), (.ref b99), (.ref b99), (.ref b97), (.ref b97)])) _
                refine XS.aloadN X111.here hx rfl (hb hby df_171) rfl rfl ?_
                show Steps p.tables e below (T111.setTop (mkF m 172 #[.val (.ref ca), .val (.int nt)] [(.ref ca), (.int (3 : Int32)), (.ref b99), (.ref b99), (.ref b97), (.ref b97)])) _
                refine XS.iconst X111.here hx rfl (hb hby df_172) ?_
                show Steps p.tables e below (T111.setTop (mkF m 173 #[.val (.ref ca), .val (.int nt)] [(.int (3 : Int32)), (.ref ca), (.int (3 : Int32)), (.ref b99), (.ref b99), (.ref b97), (.ref b97)])) _
                refine X111.caload hx (j := (3 : Int32)) (v := (.int d3)) (by (try rw [e111]); exact Ar113.1) (State.isArrayOf_alike hZ.alike Ar113.2.1) Ar113.2.2 hin113 hat113 (g := (mkF m 173 #[.val (.ref ca), .val (.int nt)] [(.int (3 : Int32)), (.ref ca), (.int (3 : Int32)), (.ref b99), (.ref b99), (.ref b97), (.ref b97)])) rfl rfl (hb hby df_173) _ ?_
                show Steps p.tables e below (T111.setTop (mkF m 174 #[.val (.ref ca), .val (.int nt)] [(.int d3), (.int (3 : Int32)), (.ref b99), (.ref b99), (.ref b97), (.ref b97)])) _
                refine st115 _ ?_
                show Steps p.tables e below (T115.setTop (mkF m 175 #[.val (.ref ca), .val (.int nt)] [(.ref b99), (.ref b97), (.ref b97)])) _
                refine XS.dup X115.here hx rfl (hb hby df_175) rfl rfl ?_
                show Steps p.tables e below (T115.setTop (mkF m 176 #[.val (.ref ca), .val (.int nt)] [(.ref b99), (.ref b99), (.ref b97), (.ref b97)])) _
                refine XS.iconst X115.here hx rfl (hb hby df_176) ?_
                show Steps p.tables e below (T115.setTop (mkF m 177 #[.val (.ref ca), .val (.int nt)] [(.int (4 : Int32)), (.ref b99), (.ref b99), (.ref b97), (.ref b97)])) _
                refine XS.aloadN X115.here hx rfl (hb hby df_177) rfl rfl ?_
                show Steps p.tables e below (T115.setTop (mkF m 178 #[.val (.ref ca), .val (.int nt)] [(.ref ca), (.int (4 : Int32)), (.ref b99), (.ref b99), (.ref b97), (.ref b97)])) _
                refine XS.iconst X115.here hx rfl (hb hby df_178) ?_
                show Steps p.tables e below (T115.setTop (mkF m 179 #[.val (.ref ca), .val (.int nt)] [(.int (4 : Int32)), (.ref ca), (.int (4 : Int32)), (.ref b99), (.ref b99), (.ref b97), (.ref b97)])) _
                refine X115.caload hx (j := (4 : Int32)) (v := (.int d4)) (by (try rw [e115]); exact Ar117.1) (State.isArrayOf_alike hZ.alike Ar117.2.1) Ar117.2.2 hin117 hat117 (g := (mkF m 179 #[.val (.ref ca), .val (.int nt)] [(.int (4 : Int32)), (.ref ca), (.int (4 : Int32)), (.ref b99), (.ref b99), (.ref b97), (.ref b97)])) rfl rfl (hb hby df_179) _ ?_
                show Steps p.tables e below (T115.setTop (mkF m 180 #[.val (.ref ca), .val (.int nt)] [(.int d4), (.int (4 : Int32)), (.ref b99), (.ref b99), (.ref b97), (.ref b97)])) _
                refine st119 _ ?_
                show Steps p.tables e below (T119.setTop (mkF m 181 #[.val (.ref ca), .val (.int nt)] [(.ref b99), (.ref b97), (.ref b97)])) _
                refine st126.trans ?_
                show Steps p.tables e below (T126.setTop (mkF m 184 #[.val (.ref ca), .val (.int nt)] [(.ref b97)])) _
                exact retOut X126 hx Bd.returns rfl (Or.inr (Or.inr (Or.inr (Or.inr ⟨rfl, rfl, rfl⟩)))) (hb hby df_184) lhr
              · skip
                show QTk Z ca nt kc d0 d1 d2 d3 d4 d5 d6 d7 d8 G1 h0 n0 _ T126.heap _
                skip
                have hp127 : ∀ c ∈ ([(nar .char d0), (nar .char d1), (nar .char d2), (nar .char d3), (nar .char d4)] : List Int32), ¬ c < 0 ∧ ¬ (255 : Int32) < c := by
                  intro c hc
                  simp only [List.mem_cons, List.not_mem_nil, or_false] at hc
                  rcases hc with rfl | rfl | rfl | rfl | rfl
                  · exact (own_narc B_d0)
                  · exact (own_narc B_d1)
                  · exact (own_narc B_d2)
                  · exact (own_narc B_d3)
                  · exact (own_narc B_d4)
                exact ⟨b97, ([(nar .char d0), (nar .char d1), (nar .char d2), (nar .char d3), (nar .char d4)] : List Int32), t126, _, rfl, N126, K126, gE126, gC126, gV126, gL126, hp127, Nat.le_of_ble_eq_true rfl⟩
              · skip
                show CHr Z own_EL s.vm s.heap T126.vm T126.heap
                rw [hh]
                exact CR126.trans (CHv.at X126 hZ hEL CR126.1)
            · skip
              have k128 : ∀ t, Steps p.tables e below (s₁.setTop (mkF m 188 #[.val (.ref ca), .val (.int nt)] [(.int (6 : Int32)), (.int nt)])) t → Steps p.tables e below (s₁.setTop (entryFrame m #[(.ref ca), (.int nt)] 2)) t := by
                intro t kt
                refine k95 t ?_
                show Steps p.tables e below (s₁.setTop (mkF m 141 #[.val (.ref ca), .val (.int nt)] [(.int (5 : Int32)), (.int nt)])) _
                refine XS.icmpYes X0.here hx rfl (pc0 := 141) (pc' := 185) rfl (hb hby df_141) rfl (feq hc96).2 (by decide) (by decide) ?_
                show Steps p.tables e below (s₁.setTop (mkF m 185 #[.val (.ref ca), .val (.int nt)] [])) _
                refine XS.iloadN X0.here hx rfl (hb hby df_185) rfl ?_
                show Steps p.tables e below (s₁.setTop (mkF m 186 #[.val (.ref ca), .val (.int nt)] [(.int nt)])) _
                refine XS.bipush X0.here hx rfl (hb hby df_186) ?_
                exact kt
              by_cases hc129 : nt = (6 : Int32)
              · skip
                obtain ⟨T130, h130, X130, e130, E130, A130, D130, -, st130⟩ := newO X0 hx hZ hown (wd5 hw) (wd6 hw) (wd7 hw) e0 (g := (mkF m 191 #[.val (.ref ca), .val (.int nt)] [])) rfl (hb hby df_191) (by decide) (by decide)
                obtain ⟨b130, g130⟩ : ∃ z, z = h0.size := ⟨_, rfl⟩
                rw [← g130] at A130 D130 st130
                have ne_ca_b130 : ca ≠ b130 := Nat.ne_of_lt (Nat.lt_of_lt_of_le V_a.lt (Nat.le_of_eq g130.symm))
                have ge_b130 : n0 ≤ b130 := Nat.le_trans Z0 (Nat.le_of_eq g130.symm)
                have sz_b130 : h0.size ≤ b130 := Nat.le_trans (Nat.le_refl _) (Nat.le_of_eq g130.symm)
                have sf_b130 : Safe Z own_EL s.vm h0 b130 := Safe.new (Nat.le_of_eq g130.symm)
                have sf2_b130 : Safe Z own_EL s.vm h130 b130 := sf_b130.ext E130 CR0.1
                have CS130 := CHr.ext E130 CR0.1
                have CR130 := CR0.trans CS130
                have hk130 : _ ≤ h130.size := Nat.le_trans hk0 E130.1
                have Z130 : n0 ≤ h130.size := Nat.le_trans Z0 E130.1
                have K130 : Keep h0 h130 [] := ((Keep.refl h0 []).ext E130)
                have F130_coder : Fld Z h130 b130 "java/lang/String" "coder" "B" (.int (0 : Int32)) := D130 (Or.inr (wd31 hw)) (ty := .byte) (by decide)
                have F130_value : Fld Z h130 b130 "java/lang/String" "value" "[B" .null := D130 (Or.inr (wd33 hw)) (ty := (.array .byte)) (by decide)
                have f131 := (V_a.ext E130)
                obtain ⟨T132, h132, kk132, X132, e132, E132, A132, st132⟩ := newP X130 hx hZ (aty := .char) (wd0 hw) e130 (g := (mkF m 197 #[.val (.ref ca), .val (.int nt)] [(.int (6 : Int32)), (.ref b130), (.ref b130)])) rfl (hb hby df_197) rfl (by decide) (cap := 6) (by decide) (by decide) (by decide) (by decide)
                obtain ⟨b132, g132⟩ : ∃ z, z = h130.size := ⟨_, rfl⟩
                rw [← g132] at A132 st132
                have ne_ca_b132 : ca ≠ b132 := Nat.ne_of_lt (Nat.lt_of_lt_of_le f131.lt (Nat.le_of_eq g132.symm))
                have ne_b130_b132 : b130 ≠ b132 := Nat.ne_of_lt (Nat.lt_of_lt_of_le A130.lt (Nat.le_of_eq g132.symm))
                have ge_b132 : n0 ≤ b132 := Nat.le_trans Z130 (Nat.le_of_eq g132.symm)
                have sz_b132 : h0.size ≤ b132 := Nat.le_trans K130.1 (Nat.le_of_eq g132.symm)
                have CS132 := CHr.ext E132 CR130.1
                have CR132 := CR130.trans CS132
                have hk132 : _ ≤ h132.size := Nat.le_trans hk130 E132.1
                have Z132 : n0 ≤ h132.size := Nat.le_trans Z130 E132.1
                have K132 : Keep h0 h132 [] := (K130.ext E132)
                have V132 : Arv Z h132 b132 kk132 .char (6 : Int32) [(.int (0 : Int32)), (.int (0 : Int32)), (.int (0 : Int32)), (.int (0 : Int32)), (.int (0 : Int32)), (.int (0 : Int32))] (.int (0 : Int32)) := (Arv.new A132 (by decide)).pad (pad_rep [] (.int (0 : Int32)) 6)
                have f133 := (f131.ext E132)
                obtain ⟨cl134, Ar134, q134, S134, M134, HH134, GG134⟩ := id f133
                have hin134 : ¬ ((0 : Int32) < 0 ∨ cl134.slots.size ≤ ((0 : Int32)).toNatClampNeg) := inb_of S134 ⟨by decide, by decide⟩
                have hat134 : cl134.slots[((0 : Int32)).toNatClampNeg]? = some (.int d0) := Has.at HH134 hin134 rfl
                obtain ⟨cl135, Ar135, q135, S135, M135, HH135, GG135⟩ := id V132
                have hin135 : ¬ ((0 : Int32) < 0 ∨ cl135.slots.size ≤ ((0 : Int32)).toNatClampNeg) := inb_of S135 ⟨by decide, by decide⟩
                obtain ⟨T136, h136, X136, e136, W136, st136⟩ := stC X132 hx hZ e132 Ar135 (j := (0 : Int32)) hin135 (g := (mkF m 204 #[.val (.ref ca), .val (.int nt)] [(.int d0), (.int (0 : Int32)), (.ref b132), (.ref b132), (.ref b130), (.ref b130)])) rfl rfl (hb hby df_204)
                have CS136 := CHr.wr W136 (own_safeArv hZ.alike V132 (by decide)) CR132.1
                have CR136 := CR132.trans CS136
                have hk136 : _ ≤ h136.size := Nat.le_trans hk132 (Nat.le_of_eq W136.size.symm)
                have N136 := Fr.snoc X136 N0 ge_b132
                have Z136 : n0 ≤ h136.size := by rw [W136.size]; exact Z132
                have K136 : Keep h0 h136 [] := (K132.wr W136 (Or.inr sz_b132))
                have V136 := Arv.set Ar135 q135 S135 M135 HH135 GG135 (fits_nar_char _) W136 0 rfl (Nat.le_of_ble_eq_true rfl)
                have f137 := (f133.other W136 ne_ca_b132)
                obtain ⟨cl138, Ar138, q138, S138, M138, HH138, GG138⟩ := id f137
                have hin138 : ¬ ((1 : Int32) < 0 ∨ cl138.slots.size ≤ ((1 : Int32)).toNatClampNeg) := inb_of S138 ⟨by decide, by decide⟩
                have hat138 : cl138.slots[((1 : Int32)).toNatClampNeg]? = some (.int d1) := Has.at HH138 hin138 rfl
                obtain ⟨cl139, Ar139, q139, S139, M139, HH139, GG139⟩ := id V136
                have hin139 : ¬ ((1 : Int32) < 0 ∨ cl139.slots.size ≤ ((1 : Int32)).toNatClampNeg) := inb_of S139 ⟨by decide, by decide⟩
                obtain ⟨T140, h140, X140, e140, W140, st140⟩ := stC X136 hx hZ e136 Ar139 (j := (1 : Int32)) hin139 (g := (mkF m 210 #[.val (.ref ca), .val (.int nt)] [(.int d1), (.int (1 : Int32)), (.ref b132), (.ref b132), (.ref b130), (.ref b130)])) rfl rfl (hb hby df_210)
                have CS140 := CHr.wr W140 (own_safeArv hZ.alike V136 (by decide)) CR136.1
                have CR140 := CR136.trans CS140
                have hk140 : _ ≤ h140.size := Nat.le_trans hk136 (Nat.le_of_eq W140.size.symm)
                have N140 := Fr.snoc X140 N136 ge_b132
                have Z140 : n0 ≤ h140.size := by rw [W140.size]; exact Z136
                have K140 : Keep h0 h140 [] := (K136.wr W140 (Or.inr sz_b132))
                have V140 := Arv.set Ar139 q139 S139 M139 HH139 GG139 (fits_nar_char _) W140 1 rfl (Nat.le_of_ble_eq_true rfl)
                have f141 := (f137.other W140 ne_ca_b132)
                obtain ⟨cl142, Ar142, q142, S142, M142, HH142, GG142⟩ := id f141
                have hin142 : ¬ ((2 : Int32) < 0 ∨ cl142.slots.size ≤ ((2 : Int32)).toNatClampNeg) := inb_of S142 ⟨by decide, by decide⟩
                have hat142 : cl142.slots[((2 : Int32)).toNatClampNeg]? = some (.int d2) := Has.at HH142 hin142 rfl
                obtain ⟨cl143, Ar143, q143, S143, M143, HH143, GG143⟩ := id V140
                have hin143 : ¬ ((2 : Int32) < 0 ∨ cl143.slots.size ≤ ((2 : Int32)).toNatClampNeg) := inb_of S143 ⟨by decide, by decide⟩
                obtain ⟨T144, h144, X144, e144, W144, st144⟩ := stC X140 hx hZ e140 Ar143 (j := (2 : Int32)) hin143 (g := (mkF m 216 #[.val (.ref ca), .val (.int nt)] [(.int d2), (.int (2 : Int32)), (.ref b132), (.ref b132), (.ref b130), (.ref b130)])) rfl rfl (hb hby df_216)
                have CS144 := CHr.wr W144 (own_safeArv hZ.alike V140 (by decide)) CR140.1
                have CR144 := CR140.trans CS144
                have hk144 : _ ≤ h144.size := Nat.le_trans hk140 (Nat.le_of_eq W144.size.symm)
                have N144 := Fr.snoc X144 N140 ge_b132
                have Z144 : n0 ≤ h144.size := by rw [W144.size]; exact Z140
                have K144 : Keep h0 h144 [] := (K140.wr W144 (Or.inr sz_b132))
                have V144 := Arv.set Ar143 q143 S143 M143 HH143 GG143 (fits_nar_char _) W144 2 rfl (Nat.le_of_ble_eq_true rfl)
                have f145 := (f141.other W144 ne_ca_b132)
                obtain ⟨cl146, Ar146, q146, S146, M146, HH146, GG146⟩ := id f145
                have hin146 : ¬ ((3 : Int32) < 0 ∨ cl146.slots.size ≤ ((3 : Int32)).toNatClampNeg) := inb_of S146 ⟨by decide, by decide⟩
                have hat146 : cl146.slots[((3 : Int32)).toNatClampNeg]? = some (.int d3) := Has.at HH146 hin146 rfl
                obtain ⟨cl147, Ar147, q147, S147, M147, HH147, GG147⟩ := id V144
                have hin147 : ¬ ((3 : Int32) < 0 ∨ cl147.slots.size ≤ ((3 : Int32)).toNatClampNeg) := inb_of S147 ⟨by decide, by decide⟩
                obtain ⟨T148, h148, X148, e148, W148, st148⟩ := stC X144 hx hZ e144 Ar147 (j := (3 : Int32)) hin147 (g := (mkF m 222 #[.val (.ref ca), .val (.int nt)] [(.int d3), (.int (3 : Int32)), (.ref b132), (.ref b132), (.ref b130), (.ref b130)])) rfl rfl (hb hby df_222)
                have CS148 := CHr.wr W148 (own_safeArv hZ.alike V144 (by decide)) CR144.1
                have CR148 := CR144.trans CS148
                have hk148 : _ ≤ h148.size := Nat.le_trans hk144 (Nat.le_of_eq W148.size.symm)
                have N148 := Fr.snoc X148 N144 ge_b132
                have Z148 : n0 ≤ h148.size := by rw [W148.size]; exact Z144
                have K148 : Keep h0 h148 [] := (K144.wr W148 (Or.inr sz_b132))
                have V148 := Arv.set Ar147 q147 S147 M147 HH147 GG147 (fits_nar_char _) W148 3 rfl (Nat.le_of_ble_eq_true rfl)
                have f149 := (f145.other W148 ne_ca_b132)
                obtain ⟨cl150, Ar150, q150, S150, M150, HH150, GG150⟩ := id f149
                have hin150 : ¬ ((4 : Int32) < 0 ∨ cl150.slots.size ≤ ((4 : Int32)).toNatClampNeg) := inb_of S150 ⟨by decide, by decide⟩
                have hat150 : cl150.slots[((4 : Int32)).toNatClampNeg]? = some (.int d4) := Has.at HH150 hin150 rfl
                obtain ⟨cl151, Ar151, q151, S151, M151, HH151, GG151⟩ := id V148
                have hin151 : ¬ ((4 : Int32) < 0 ∨ cl151.slots.size ≤ ((4 : Int32)).toNatClampNeg) := inb_of S151 ⟨by decide, by decide⟩
                obtain ⟨T152, h152, X152, e152, W152, st152⟩ := stC X148 hx hZ e148 Ar151 (j := (4 : Int32)) hin151 (g := (mkF m 228 #[.val (.ref ca), .val (.int nt)] [(.int d4), (.int (4 : Int32)), (.ref b132), (.ref b132), (.ref b130), (.ref b130)])) rfl rfl (hb hby df_228)
                have CS152 := CHr.wr W152 (own_safeArv hZ.alike V148 (by decide)) CR148.1
                have CR152 := CR148.trans CS152
                have hk152 : _ ≤ h152.size := Nat.le_trans hk148 (Nat.le_of_eq W152.size.symm)
                have N152 := Fr.snoc X152 N148 ge_b132
                have Z152 : n0 ≤ h152.size := by rw [W152.size]; exact Z148
                have K152 : Keep h0 h152 [] := (K148.wr W152 (Or.inr sz_b132))
                have V152 := Arv.set Ar151 q151 S151 M151 HH151 GG151 (fits_nar_char _) W152 4 rfl (Nat.le_of_ble_eq_true rfl)
                have f153 := (f149.other W152 ne_ca_b132)
                obtain ⟨cl154, Ar154, q154, S154, M154, HH154, GG154⟩ := id f153
                have hin154 : ¬ ((5 : Int32) < 0 ∨ cl154.slots.size ≤ ((5 : Int32)).toNatClampNeg) := inb_of S154 ⟨by decide, by decide⟩
                have hat154 : cl154.slots[((5 : Int32)).toNatClampNeg]? = some (.int d5) := Has.at HH154 hin154 rfl
                obtain ⟨cl155, Ar155, q155, S155, M155, HH155, GG155⟩ := id V152
                have hin155 : ¬ ((5 : Int32) < 0 ∨ cl155.slots.size ≤ ((5 : Int32)).toNatClampNeg) := inb_of S155 ⟨by decide, by decide⟩
                obtain ⟨T156, h156, X156, e156, W156, st156⟩ := stC X152 hx hZ e152 Ar155 (j := (5 : Int32)) hin155 (g := (mkF m 234 #[.val (.ref ca), .val (.int nt)] [(.int d5), (.int (5 : Int32)), (.ref b132), (.ref b132), (.ref b130), (.ref b130)])) rfl rfl (hb hby df_234)
                have CS156 := CHr.wr W156 (own_safeArv hZ.alike V152 (by decide)) CR152.1
                have CR156 := CR152.trans CS156
                have hk156 : _ ≤ h156.size := Nat.le_trans hk152 (Nat.le_of_eq W156.size.symm)
                have N156 := Fr.snoc X156 N152 ge_b132
                have Z156 : n0 ≤ h156.size := by rw [W156.size]; exact Z152
                have K156 : Keep h0 h156 [] := (K152.wr W156 (Or.inr sz_b132))
                have V156 := Arv.set Ar155 q155 S155 M155 HH155 GG155 (fits_nar_char _) W156 5 rfl (Nat.le_of_ble_eq_true rfl)
                have hp157 : ∀ c ∈ ([(nar .char d0), (nar .char d1), (nar .char d2), (nar .char d3), (nar .char d4), (nar .char d5)] : List Int32), ¬ c < 0 ∧ ¬ (255 : Int32) < c := by
                  intro c hc
                  simp only [List.mem_cons, List.not_mem_nil, or_false] at hc
                  rcases hc with rfl | rfl | rfl | rfl | rfl | rfl
                  · exact (own_narc B_d0)
                  · exact (own_narc B_d1)
                  · exact (own_narc B_d2)
                  · exact (own_narc B_d3)
                  · exact (own_narc B_d4)
                  · exact (own_narc B_d5)
                have f158 := (((((((A130.ext E132).wr W136).wr W140).wr W144).wr W148).wr W152).wr W156)
                have f159 := (((((((F130_value.ext E132).other W136 (Or.inl ne_b130_b132)).other W140 (Or.inl ne_b130_b132)).other W144 (Or.inl ne_b130_b132)).other W148 (Or.inl ne_b130_b132)).other W152 (Or.inl ne_b130_b132)).other W156 (Or.inl ne_b130_b132))
                have f160 := (((((((F130_coder.ext E132).other W136 (Or.inl ne_b130_b132)).other W140 (Or.inl ne_b130_b132)).other W144 (Or.inl ne_b130_b132)).other W148 (Or.inl ne_b130_b132)).other W152 (Or.inl ne_b130_b132)).other W156 (Or.inl ne_b130_b132))
                have f161 := ((((((((X00.ext E130).ext E132).wr W136 ge_b132).wr W140 ge_b132).wr W144 ge_b132).wr W148 ge_b132).wr W152 ge_b132).wr W156 ge_b132)
                have f162 := (f153.other W156 ne_ca_b132)
                obtain ⟨_, _, ⟨T163, L163, kc163, ks163⟩, -, X163, ⟨Lc163, hQ163, l163, y163, z163⟩, st163⟩ := X156.specialBack hx (y := mn3) rfl hown (mvT hZ (wd8 hw)) (mvT hZ (wd9 hw)) (mvT hZ (wd10 hw)) (by decide) (StrChars.Road.backV (W := 1) hZ (own_hws hw) (kI := 4) (wd6 hw) (cs := ([(nar .char d0), (nar .char d1), (nar .char d2), (nar .char d3), (nar .char d4), (nar .char d5)] : List Int32)) (bs := ([(nar .char d0), (nar .char d1), (nar .char d2), (nar .char d3), (nar .char d4), (nar .char d5)] : List Int32).map (fun c => c.toInt8.toInt32)) (n := 6) ge_b130 Z156 f158 f159 f160 V156 (O2.ext f161.2) P5 rfl rfl (by decide) (by decide) hp157 rfl (by decide) (by decide)) (g := (mkF m 235 #[.val (.ref ca), .val (.int nt)] [(.ref b132), (.ref b130), (.ref b130)])) rfl (by rw [hml]; rfl) (Steps.refl _) (a := b130) (argsL := [(.ref b132)]) (rest := [(.ref b130)]) (lenOf pd___C_V rfl) rfl (by show 2 * 0 + _ ≤ _; exact Nat.le_of_eq rfl) (hb hby df_235) (fun _ _ => ⟨rfl, e156, (by decide : 2 + 1 ≤ _), (by decide : 10 + 6 ≤ _)⟩)
                dsimp only [Pt.U, Pt.locs, Pt.cells, Pt.slots] at X163 l163 y163 z163 st163 hQ163
                subst l163 y163 z163
                obtain ⟨rfl, Nq163, Kq163, gE163, gC163, t163, kb163, gt163, gs163, gn163, gV163, gK163⟩ := hQ163
                have N163 := Fr.app N156 Nq163
                have CS163 := CHr.keep Kq163 (allS (CHr.safe ((((((CS132.trans CS136).trans CS140).trans CS144).trans CS148).trans CS152).trans CS156) A130.lt sf2_b130) all0) CR156.1
                have CR163 := CR156.trans CS163
                have hk163 : _ ≤ T163.heap.size := Nat.le_trans hk156 Kq163.1
                have Z163 : n0 ≤ T163.heap.size := Nat.le_trans Z156 Kq163.1
                have K163 : Keep h0 T163.heap [] := Keep.trans K156 Kq163 (allS (Or.inr sz_b130) all0)
                have gL163 : Arv Z T163.heap t163 kb163 .byte (6 : Int32) [(.int (((nar .char d0)).toInt8.toInt32)), (.int (((nar .char d1)).toInt8.toInt32)), (.int (((nar .char d2)).toInt8.toInt32)), (.int (((nar .char d3)).toInt8.toInt32)), (.int (((nar .char d4)).toInt8.toInt32)), (.int (((nar .char d5)).toInt8.toInt32))] (.int (0 : Int32)) := gK163
                have ne_ca_t163 : ca ≠ t163 := Nat.ne_of_lt (Nat.lt_of_lt_of_le f162.lt gs163)
                have ne_b130_t163 : b130 ≠ t163 := Nat.ne_of_lt (Nat.lt_of_lt_of_le f158.lt gs163)
                have ne_b132_t163 : b132 ≠ t163 := Nat.ne_of_lt (Nat.lt_of_lt_of_le V156.lt gs163)
                have sz_t163 : h0.size ≤ t163 := Nat.le_trans K156.1 gs163
                obtain ⟨lfs, lhr, lhrun, lhended, lhE⟩ := X163.leaveW hS0 hk163 (v := some (.ref b130)) (fun h => by rw [Bd.returns] at h; cases h)
                refine ⟨_, _, k128 _ ?_, lhrun, lhended, _, _, rfl, ?_, ?_, lhE.1, lhE.2.1, lhE.2.2.1, lhE.2.2.2.mono (by decide) (by decide)⟩
                · skip
                  show Steps p.tables e below (s₁.setTop (mkF m 188 #[.val (.ref ca), .val (.int nt)] [(.int (6 : Int32)), (.int nt)])) _
                  refine XS.icmpNo X0.here hx rfl (hb hby df_188) rfl (teq hc129).2 ?_
                  show Steps p.tables e below (s₁.setTop (mkF m 191 #[.val (.ref ca), .val (.int nt)] [])) _
                  refine st130 _ ?_
                  show Steps p.tables e below (T130.setTop (mkF m 194 #[.val (.ref ca), .val (.int nt)] [(.ref b130)])) _
                  refine XS.dup X130.here hx rfl (hb hby df_194) rfl rfl ?_
                  show Steps p.tables e below (T130.setTop (mkF m 195 #[.val (.ref ca), .val (.int nt)] [(.ref b130), (.ref b130)])) _
                  refine XS.bipush X130.here hx rfl (hb hby df_195) ?_
                  show Steps p.tables e below (T130.setTop (mkF m 197 #[.val (.ref ca), .val (.int nt)] [(.int (6 : Int32)), (.ref b130), (.ref b130)])) _
                  refine st132 _ ?_
                  show Steps p.tables e below (T132.setTop (mkF m 199 #[.val (.ref ca), .val (.int nt)] [(.ref b132), (.ref b130), (.ref b130)])) _
                  refine XS.dup X132.here hx rfl (hb hby df_199) rfl rfl ?_
                  show Steps p.tables e below (T132.setTop (mkF m 200 #[.val (.ref ca), .val (.int nt)] [(.ref b132), (.ref b132), (.ref b130), (.ref b130)])) _
                  refine XS.iconst X132.here hx rfl (hb hby df_200) ?_
                  show Steps p.tables e below (T132.setTop (mkF m 201 #[.val (.ref ca), .val (.int nt)] [(.int (0 : Int32)), (.ref b132), (.ref b132), (.ref b130), (.ref b130)])) _
                  refine XS.aloadN X132.here hx rfl (hb hby df_201) rfl rfl ?_
                  show Steps p.tables e below (T132.setTop (mkF m 202 #[.val (.ref ca), .val (.int nt)] [(.ref ca), (.int (0 : Int32)), (.ref b132), (.ref b132), (.ref b130), (.ref b130)])) _
                  refine XS.iconst X132.here hx rfl (hb hby df_202) ?_
                  show Steps p.tables e below (T132.setTop (mkF m 203 #[.val (.ref ca), .val (.int nt)] [(.int (0 : Int32)), (.ref ca), (.int (0 : Int32)), (.ref b132), (.ref b132), (.ref b130), (.ref b130)])) _
                  refine X132.caload hx (j := (0 : Int32)) (v := (.int d0)) (by (try rw [e132]); exact Ar134.1) (State.isArrayOf_alike hZ.alike Ar134.2.1) Ar134.2.2 hin134 hat134 (g := (mkF m 203 #[.val (.ref ca), .val (.int nt)] [(.int (0 : Int32)), (.ref ca), (.int (0 : Int32)), (.ref b132), (.ref b132), (.ref b130), (.ref b130)])) rfl rfl (hb hby df_203) _ ?_
                  show Steps p.tables e below (T132.setTop (mkF m 204 #[.val (.ref ca), .val (.int nt)] [(.int d0), (.int (0 : Int32)), (.ref b132), (.ref b132), (.ref b130), (.ref b130)])) _
                  refine st136 _ ?_
                  show Steps p.tables e below (T136.setTop (mkF m 205 #[.val (.ref ca), .val (.int nt)] [(.ref b132), (.ref b130), (.ref b130)])) _
                  refine XS.dup X136.here hx rfl (hb hby df_205) rfl rfl ?_
                  show Steps p.tables e below (T136.setTop (mkF m 206 #[.val (.ref ca), .val (.int nt)] [(.ref b132), (.ref b132), (.ref b130), (.ref b130)])) _
                  refine XS.iconst X136.here hx rfl (hb hby df_206) ?_
                  show Steps p.tables e below (T136.setTop (mkF m 207 #[.val (.ref ca), .val (.int nt)] [(.int (1 : Int32)), (.ref b132), (.ref b132), (.ref b130), (.ref b130)])) _
                  refine XS.aloadN X136.here hx rfl (hb hby df_207) rfl rfl ?_
                  show Steps p.tables e below (T136.setTop (mkF m 208 #[.val (.ref ca), .val (.int nt)] [(.ref ca), (.int (1 : Int32)), (.ref b132), (.ref b132), (.ref b130), (.ref b130)])) _
                  refine XS.iconst X136.here hx rfl (hb hby df_208) ?_
                  show Steps p.tables e below (T136.setTop (mkF m 209 #[.val (.ref ca), .val (.int nt)] [(.int (1 : Int32)), (.ref ca), (.int (1 : Int32)), (.ref b132), (.ref b132), (.ref b130), (.ref b130)])) _
                  refine X136.caload hx (j := (1 : Int32)) (v := (.int d1)) (by (try rw [e136]); exact Ar138.1) (State.isArrayOf_alike hZ.alike Ar138.2.1) Ar138.2.2 hin138 hat138 (g := (mkF m 209 #[.val (.ref ca), .val (.int nt)] [(.int (1 : Int32)), (.ref ca), (.int (1 : Int32)), (.ref b132), (.ref b132), (.ref b130), (.ref b130)])) rfl rfl (hb hby df_209) _ ?_
                  show Steps p.tables e below (T136.setTop (mkF m 210 #[.val (.ref ca), .val (.int nt)] [(.int d1), (.int (1 : Int32)), (.ref b132), (.ref b132), (.ref b130), (.ref b130)])) _
                  refine st140 _ ?_
                  show Steps p.tables e below (T140.setTop (mkF m 211 #[.val (.ref ca), .val (.int nt)] [(.ref b132), (.ref b130), (.ref b130)])) _
                  refine XS.dup X140.here hx rfl (hb hby df_211) rfl rfl ?_
                  show Steps p.tables e below (T140.setTop (mkF m 212 #[.val (.ref ca), .val (.int nt)] [(.ref b132), (.ref b132), (.ref b130), (.ref b130)])) _
                  refine XS.iconst X140.here hx rfl (hb hby df_212) ?_
                  show Steps p.tables e below (T140.setTop (mkF m 213 #[.val (.ref ca), .val (.int nt)] [(.int (2 : Int32)), (.ref b132), (.ref b132), (.ref b130), (.ref b130)])) _
                  refine XS.aloadN X140.here hx rfl (hb hby df_213) rfl rfl ?_
                  show Steps p.tables e below (T140.setTop (mkF m 214 #[.val (.ref ca), .val (.int nt)] [(.ref ca), (.int (2 : Int32)), (.ref b132), (.ref b132), (.ref b130), (.ref b130)])) _
                  refine XS.iconst X140.here hx rfl (hb hby df_214) ?_
                  show Steps p.tables e below (T140.setTop (mkF m 215 #[.val (.ref ca), .val (.int nt)] [(.int (2 : Int32)), (.ref ca), (.int (2 : Int32)), (.ref b132), (.ref b132), (.ref b130), (.ref b130)])) _
                  refine X140.caload hx (j := (2 : Int32)) (v := (.int d2)) (by (try rw [e140]); exact Ar142.1) (State.isArrayOf_alike hZ.alike Ar142.2.1) Ar142.2.2 hin142 hat142 (g := (mkF m 215 #[.val (.ref ca), .val (.int nt)] [(.int (2 : Int32)), (.ref ca), (.int (2 : Int32)), (.ref b132), (.ref b132), (.ref b130), (.ref b130)])) rfl rfl (hb hby df_215) _ ?_
                  show Steps p.tables e below (T140.setTop (mkF m 216 #[.val (.ref ca), .val (.int nt)] [(.int d2), (.int (2 : Int32)), (.ref b132), (.ref b132), (.ref b130), (.ref b130)])) _
                  refine st144 _ ?_
                  show Steps p.tables e below (T144.setTop (mkF m 217 #[.val (.ref ca), .val (.int nt)] [(.ref b132), (.ref b130), (.ref b130)])) _
                  refine XS.dup X144.here hx rfl (hb hby df_217) rfl rfl ?_
                  show Steps p.tables e below (T144.setTop (mkF m 218 #[.val (.ref ca), .val (.int nt)] [(.ref b132), (.ref b132), (.ref b130), (.ref b130)])) _
                  refine XS.iconst X144.here hx rfl (hb hby df_218) ?_
                  show Steps p.tables e below (T144.setTop (mkF m 219 #[.val (.ref ca), .val (.int nt)] [(.int (3 : Int32)), (.ref b132), (.ref b132), (.ref b130), (.ref b130)])) _
                  refine XS.aloadN X144.here hx rfl (hb hby df_219) rfl rfl ?_
                  show Steps p.tables e below (T144.setTop (mkF m 220 #[.val (.ref ca), .val (.int nt)] [(.ref ca), (.int (3 : Int32)), (.ref b132), (.ref b132), (.ref b130), (.ref b130)])) _
                  refine XS.iconst X144.here hx rfl (hb hby df_220) ?_
                  show Steps p.tables e below (T144.setTop (mkF m 221 #[.val (.ref ca), .val (.int nt)] [(.int (3 : Int32)), (.ref ca), (.int (3 : Int32)), (.ref b132), (.ref b132), (.ref b130), (.ref b130)])) _
                  refine X144.caload hx (j := (3 : Int32)) (v := (.int d3)) (by (try rw [e144]); exact Ar146.1) (State.isArrayOf_alike hZ.alike Ar146.2.1) Ar146.2.2 hin146 hat146 (g := (mkF m 221 #[.val (.ref ca), .val (.int nt)] [(.int (3 : Int32)), (.ref ca), (.int (3 : Int32)), (.ref b132), (.ref b132), (.ref b130), (.ref b130)])) rfl rfl (hb hby df_221) _ ?_
                  show Steps p.tables e below (T144.setTop (mkF m 222 #[.val (.ref ca), .val (.int nt)] [(.int d3), (.int (3 : Int32)), (.ref b132), (.ref b132), (.ref b130), (.ref b130)])) _
                  refine st148 _ ?_
                  show Steps p.tables e below (T148.setTop (mkF m 223 #[.val (.ref ca), .val (.int nt)] [(.ref b132), (.ref b130), (.ref b130)])) _
                  refine XS.dup X148.here hx rfl (hb hby df_223) rfl rfl ?_
                  show Steps p.tables e below (T148.setTop (mkF m 224 #[.val (.ref ca), .val (.int nt)] [(.ref b132), (.ref b132), (.ref b130), (.ref b130)])) _
                  refine XS.iconst X148.here hx rfl (hb hby df_224) ?_
                  show Steps p.tables e below (T148.setTop (mkF m 225 #[.val (.ref ca), .val (.int nt)] [(.int (4 : Int32)), (.ref b132), (.ref b132), (.ref b130), (.ref b130)])) _
                  refine XS.aloadN X148.here hx rfl (hb hby df_225) rfl rfl ?_
                  show Steps p.tables e below (T148.setTop (mkF m 226 #[.val (.ref ca), .val (.int nt)] [(.ref ca), (.int (4 : Int32)), (.ref b132), (.ref b132), (.ref b130), (.ref b130)])) _
                  refine XS.iconst X148.here hx rfl (hb hby df_226) ?_
                  show Steps p.tables e below (T148.setTop (mkF m 227 #[.val (.ref ca), .val (.int nt)] [(.int (4 : Int32)), (.ref ca), (.int (4 : Int32)), (.ref b132), (.ref b132), (.ref b130), (.ref b130)])) _
                  refine X148.caload hx (j := (4 : Int32)) (v := (.int d4)) (by (try rw [e148]); exact Ar150.1) (State.isArrayOf_alike hZ.alike Ar150.2.1) Ar150.2.2 hin150 hat150 (g := (mkF m 227 #[.val (.ref ca), .val (.int nt)] [(.int (4 : Int32)), (.ref ca), (.int (4 : Int32)), (.ref b132), (.ref b132), (.ref b130), (.ref b130)])) rfl rfl (hb hby df_227) _ ?_
                  show Steps p.tables e below (T148.setTop (mkF m 228 #[.val (.ref ca), .val (.int nt)] [(.int d4), (.int (4 : Int32)), (.ref b132), (.ref b132), (.ref b130), (.ref b130)])) _
                  refine st152 _ ?_
                  show Steps p.tables e below (T152.setTop (mkF m 229 #[.val (.ref ca), .val (.int nt)] [(.ref b132), (.ref b130), (.ref b130)])) _
                  refine XS.dup X152.here hx rfl (hb hby df_229) rfl rfl ?_
                  show Steps p.tables e below (T152.setTop (mkF m 230 #[.val (.ref ca), .val (.int nt)] [(.ref b132), (.ref b132), (.ref b130), (.ref b130)])) _
                  refine XS.iconst X152.here hx rfl (hb hby df_230) ?_
                  show Steps p.tables e below (T152.setTop (mkF m 231 #[.val (.ref ca), .val (.int nt)] [(.int (5 : Int32)), (.ref b132), (.ref b132), (.ref b130), (.ref b130)])) _
                  refine XS.aloadN X152.here hx rfl (hb hby df_231) rfl rfl ?_
                  show Steps p.tables e below (T152.setTop (mkF m 232 #[.val (.ref ca), .val (.int nt)] [(.ref ca), (.int (5 : Int32)), (.ref b132), (.ref b132), (.ref b130), (.ref b130)])) _
                  refine XS.iconst X152.here hx rfl (hb hby df_232) ?_
                  show Steps p.tables e below (T152.setTop (mkF m 233 #[.val (.ref ca), .val (.int nt)] [(.int (5 : Int32)), (.ref ca), (.int (5 : Int32)), (.ref b132), (.ref b132), (.ref b130), (.ref b130)])) _
                  refine X152.caload hx (j := (5 : Int32)) (v := (.int d5)) (by (try rw [e152]); exact Ar154.1) (State.isArrayOf_alike hZ.alike Ar154.2.1) Ar154.2.2 hin154 hat154 (g := (mkF m 233 #[.val (.ref ca), .val (.int nt)] [(.int (5 : Int32)), (.ref ca), (.int (5 : Int32)), (.ref b132), (.ref b132), (.ref b130), (.ref b130)])) rfl rfl (hb hby df_233) _ ?_
                  show Steps p.tables e below (T152.setTop (mkF m 234 #[.val (.ref ca), .val (.int nt)] [(.int d5), (.int (5 : Int32)), (.ref b132), (.ref b132), (.ref b130), (.ref b130)])) _
                  refine st156 _ ?_
                  show Steps p.tables e below (T156.setTop (mkF m 235 #[.val (.ref ca), .val (.int nt)] [(.ref b132), (.ref b130), (.ref b130)])) _
                  refine st163.trans ?_
                  show Steps p.tables e below (T163.setTop (mkF m 238 #[.val (.ref ca), .val (.int nt)] [(.ref b130)])) _
                  exact retOut X163 hx Bd.returns rfl (Or.inr (Or.inr (Or.inr (Or.inr ⟨rfl, rfl, rfl⟩)))) (hb hby df_238) lhr
                · skip
                  show QTk Z ca nt kc d0 d1 d2 d3 d4 d5 d6 d7 d8 G1 h0 n0 _ T163.heap _
                  skip
                  have hp164 : ∀ c ∈ ([(nar .char d0), (nar .char d1), (nar .char d2), (nar .char d3), (nar .char d4), (nar .char d5)] : List Int32), ¬ c < 0 ∧ ¬ (255 : Int32) < c := by
                    intro c hc
                    simp only [List.mem_cons, List.not_mem_nil, or_false] at hc
                    rcases hc with rfl | rfl | rfl | rfl | rfl | rfl
                    · exact (own_narc B_d0)
                    · exact (own_narc B_d1)
                    · exact (own_narc B_d2)
                    · exact (own_narc B_d3)
                    · exact (own_narc B_d4)
                    · exact (own_narc B_d5)
                  exact ⟨b130, ([(nar .char d0), (nar .char d1), (nar .char d2), (nar .char d3), (nar .char d4), (nar .char d5)] : List Int32), t163, _, rfl, N163, K163, gE163, gC163, gV163, gL163, hp164, Nat.le_of_ble_eq_true rfl⟩
                · skip
                  show CHr Z own_EL s.vm s.heap T163.vm T163.heap
                  rw [hh]
                  exact CR163.trans (CHv.at X163 hZ hEL CR163.1)
              · skip
                have k165 : ∀ t, Steps p.tables e below (s₁.setTop (mkF m 242 #[.val (.ref ca), .val (.int nt)] [(.int (7 : Int32)), (.int nt)])) t → Steps p.tables e below (s₁.setTop (entryFrame m #[(.ref ca), (.int nt)] 2)) t := by
                  intro t kt
                  refine k128 t ?_
                  show Steps p.tables e below (s₁.setTop (mkF m 188 #[.val (.ref ca), .val (.int nt)] [(.int (6 : Int32)), (.int nt)])) _
                  refine XS.icmpYes X0.here hx rfl (pc0 := 188) (pc' := 239) rfl (hb hby df_188) rfl (feq hc129).2 (by decide) (by decide) ?_
                  show Steps p.tables e below (s₁.setTop (mkF m 239 #[.val (.ref ca), .val (.int nt)] [])) _
                  refine XS.iloadN X0.here hx rfl (hb hby df_239) rfl ?_
                  show Steps p.tables e below (s₁.setTop (mkF m 240 #[.val (.ref ca), .val (.int nt)] [(.int nt)])) _
                  refine XS.bipush X0.here hx rfl (hb hby df_240) ?_
                  exact kt
                by_cases hc166 : nt = (7 : Int32)
                · skip
                  obtain ⟨T167, h167, X167, e167, E167, A167, D167, -, st167⟩ := newO X0 hx hZ hown (wd5 hw) (wd6 hw) (wd7 hw) e0 (g := (mkF m 245 #[.val (.ref ca), .val (.int nt)] [])) rfl (hb hby df_245) (by decide) (by decide)
                  obtain ⟨b167, g167⟩ : ∃ z, z = h0.size := ⟨_, rfl⟩
                  rw [← g167] at A167 D167 st167
                  have ne_ca_b167 : ca ≠ b167 := Nat.ne_of_lt (Nat.lt_of_lt_of_le V_a.lt (Nat.le_of_eq g167.symm))
                  have ge_b167 : n0 ≤ b167 := Nat.le_trans Z0 (Nat.le_of_eq g167.symm)
                  have sz_b167 : h0.size ≤ b167 := Nat.le_trans (Nat.le_refl _) (Nat.le_of_eq g167.symm)
                  have sf_b167 : Safe Z own_EL s.vm h0 b167 := Safe.new (Nat.le_of_eq g167.symm)
                  have sf2_b167 : Safe Z own_EL s.vm h167 b167 := sf_b167.ext E167 CR0.1
                  have CS167 := CHr.ext E167 CR0.1
                  have CR167 := CR0.trans CS167
                  have hk167 : _ ≤ h167.size := Nat.le_trans hk0 E167.1
                  have Z167 : n0 ≤ h167.size := Nat.le_trans Z0 E167.1
                  have K167 : Keep h0 h167 [] := ((Keep.refl h0 []).ext E167)
                  have F167_coder : Fld Z h167 b167 "java/lang/String" "coder" "B" (.int (0 : Int32)) := D167 (Or.inr (wd31 hw)) (ty := .byte) (by decide)
                  have F167_value : Fld Z h167 b167 "java/lang/String" "value" "[B" .null := D167 (Or.inr (wd33 hw)) (ty := (.array .byte)) (by decide)
                  have f168 := (V_a.ext E167)
                  obtain ⟨T169, h169, kk169, X169, e169, E169, A169, st169⟩ := newP X167 hx hZ (aty := .char) (wd0 hw) e167 (g := (mkF m 251 #[.val (.ref ca), .val (.int nt)] [(.int (7 : Int32)), (.ref b167), (.ref b167)])) rfl (hb hby df_251) rfl (by decide) (cap := 7) (by decide) (by decide) (by decide) (by decide)
                  obtain ⟨b169, g169⟩ : ∃ z, z = h167.size := ⟨_, rfl⟩
                  rw [← g169] at A169 st169
                  have ne_ca_b169 : ca ≠ b169 := Nat.ne_of_lt (Nat.lt_of_lt_of_le f168.lt (Nat.le_of_eq g169.symm))
                  have ne_b167_b169 : b167 ≠ b169 := Nat.ne_of_lt (Nat.lt_of_lt_of_le A167.lt (Nat.le_of_eq g169.symm))
                  have ge_b169 : n0 ≤ b169 := Nat.le_trans Z167 (Nat.le_of_eq g169.symm)
                  have sz_b169 : h0.size ≤ b169 := Nat.le_trans K167.1 (Nat.le_of_eq g169.symm)
                  have CS169 := CHr.ext E169 CR167.1
                  have CR169 := CR167.trans CS169
                  have hk169 : _ ≤ h169.size := Nat.le_trans hk167 E169.1
                  have Z169 : n0 ≤ h169.size := Nat.le_trans Z167 E169.1
                  have K169 : Keep h0 h169 [] := (K167.ext E169)
                  have V169 : Arv Z h169 b169 kk169 .char (7 : Int32) [(.int (0 : Int32)), (.int (0 : Int32)), (.int (0 : Int32)), (.int (0 : Int32)), (.int (0 : Int32)), (.int (0 : Int32)), (.int (0 : Int32))] (.int (0 : Int32)) := (Arv.new A169 (by decide)).pad (pad_rep [] (.int (0 : Int32)) 7)
                  have f170 := (f168.ext E169)
                  obtain ⟨cl171, Ar171, q171, S171, M171, HH171, GG171⟩ := id f170
                  have hin171 : ¬ ((0 : Int32) < 0 ∨ cl171.slots.size ≤ ((0 : Int32)).toNatClampNeg) := inb_of S171 ⟨by decide, by decide⟩
                  have hat171 : cl171.slots[((0 : Int32)).toNatClampNeg]? = some (.int d0) := Has.at HH171 hin171 rfl
                  obtain ⟨cl172, Ar172, q172, S172, M172, HH172, GG172⟩ := id V169
                  have hin172 : ¬ ((0 : Int32) < 0 ∨ cl172.slots.size ≤ ((0 : Int32)).toNatClampNeg) := inb_of S172 ⟨by decide, by decide⟩
                  obtain ⟨T173, h173, X173, e173, W173, st173⟩ := stC X169 hx hZ e169 Ar172 (j := (0 : Int32)) hin172 (g := (mkF m 258 #[.val (.ref ca), .val (.int nt)] [(.int d0), (.int (0 : Int32)), (.ref b169), (.ref b169), (.ref b167), (.ref b167)])) rfl rfl (hb hby df_258)
                  have CS173 := CHr.wr W173 (own_safeArv hZ.alike V169 (by decide)) CR169.1
                  have CR173 := CR169.trans CS173
                  have hk173 : _ ≤ h173.size := Nat.le_trans hk169 (Nat.le_of_eq W173.size.symm)
                  have N173 := Fr.snoc X173 N0 ge_b169
                  have Z173 : n0 ≤ h173.size := by rw [W173.size]; exact Z169
                  have K173 : Keep h0 h173 [] := (K169.wr W173 (Or.inr sz_b169))
                  have V173 := Arv.set Ar172 q172 S172 M172 HH172 GG172 (fits_nar_char _) W173 0 rfl (Nat.le_of_ble_eq_true rfl)
                  have f174 := (f170.other W173 ne_ca_b169)
                  obtain ⟨cl175, Ar175, q175, S175, M175, HH175, GG175⟩ := id f174
                  have hin175 : ¬ ((1 : Int32) < 0 ∨ cl175.slots.size ≤ ((1 : Int32)).toNatClampNeg) := inb_of S175 ⟨by decide, by decide⟩
                  have hat175 : cl175.slots[((1 : Int32)).toNatClampNeg]? = some (.int d1) := Has.at HH175 hin175 rfl
                  obtain ⟨cl176, Ar176, q176, S176, M176, HH176, GG176⟩ := id V173
                  have hin176 : ¬ ((1 : Int32) < 0 ∨ cl176.slots.size ≤ ((1 : Int32)).toNatClampNeg) := inb_of S176 ⟨by decide, by decide⟩
                  obtain ⟨T177, h177, X177, e177, W177, st177⟩ := stC X173 hx hZ e173 Ar176 (j := (1 : Int32)) hin176 (g := (mkF m 264 #[.val (.ref ca), .val (.int nt)] [(.int d1), (.int (1 : Int32)), (.ref b169), (.ref b169), (.ref b167), (.ref b167)])) rfl rfl (hb hby df_264)
                  have CS177 := CHr.wr W177 (own_safeArv hZ.alike V173 (by decide)) CR173.1
                  have CR177 := CR173.trans CS177
                  have hk177 : _ ≤ h177.size := Nat.le_trans hk173 (Nat.le_of_eq W177.size.symm)
                  have N177 := Fr.snoc X177 N173 ge_b169
                  have Z177 : n0 ≤ h177.size := by rw [W177.size]; exact Z173
                  have K177 : Keep h0 h177 [] := (K173.wr W177 (Or.inr sz_b169))
                  have V177 := Arv.set Ar176 q176 S176 M176 HH176 GG176 (fits_nar_char _) W177 1 rfl (Nat.le_of_ble_eq_true rfl)
                  have f178 := (f174.other W177 ne_ca_b169)
                  obtain ⟨cl179, Ar179, q179, S179, M179, HH179, GG179⟩ := id f178
                  have hin179 : ¬ ((2 : Int32) < 0 ∨ cl179.slots.size ≤ ((2 : Int32)).toNatClampNeg) := inb_of S179 ⟨by decide, by decide⟩
                  have hat179 : cl179.slots[((2 : Int32)).toNatClampNeg]? = some (.int d2) := Has.at HH179 hin179 rfl
                  obtain ⟨cl180, Ar180, q180, S180, M180, HH180, GG180⟩ := id V177
                  have hin180 : ¬ ((2 : Int32) < 0 ∨ cl180.slots.size ≤ ((2 : Int32)).toNatClampNeg) := inb_of S180 ⟨by decide, by decide⟩
                  obtain ⟨T181, h181, X181, e181, W181, st181⟩ := stC X177 hx hZ e177 Ar180 (j := (2 : Int32)) hin180 (g := (mkF m 270 #[.val (.ref ca), .val (.int nt)] [(.int d2), (.int (2 : Int32)), (.ref b169), (.ref b169), (.ref b167), (.ref b167)])) rfl rfl (hb hby df_270)
                  have CS181 := CHr.wr W181 (own_safeArv hZ.alike V177 (by decide)) CR177.1
                  have CR181 := CR177.trans CS181
                  have hk181 : _ ≤ h181.size := Nat.le_trans hk177 (Nat.le_of_eq W181.size.symm)
                  have N181 := Fr.snoc X181 N177 ge_b169
                  have Z181 : n0 ≤ h181.size := by rw [W181.size]; exact Z177
                  have K181 : Keep h0 h181 [] := (K177.wr W181 (Or.inr sz_b169))
                  have V181 := Arv.set Ar180 q180 S180 M180 HH180 GG180 (fits_nar_char _) W181 2 rfl (Nat.le_of_ble_eq_true rfl)
                  have f182 := (f178.other W181 ne_ca_b169)
                  obtain ⟨cl183, Ar183, q183, S183, M183, HH183, GG183⟩ := id f182
                  have hin183 : ¬ ((3 : Int32) < 0 ∨ cl183.slots.size ≤ ((3 : Int32)).toNatClampNeg) := inb_of S183 ⟨by decide, by decide⟩
                  have hat183 : cl183.slots[((3 : Int32)).toNatClampNeg]? = some (.int d3) := Has.at HH183 hin183 rfl
                  obtain ⟨cl184, Ar184, q184, S184, M184, HH184, GG184⟩ := id V181
                  have hin184 : ¬ ((3 : Int32) < 0 ∨ cl184.slots.size ≤ ((3 : Int32)).toNatClampNeg) := inb_of S184 ⟨by decide, by decide⟩
                  obtain ⟨T185, h185, X185, e185, W185, st185⟩ := stC X181 hx hZ e181 Ar184 (j := (3 : Int32)) hin184 (g := (mkF m 276 #[.val (.ref ca), .val (.int nt)] [(.int d3), (.int (3 : Int32)), (.ref b169), (.ref b169), (.ref b167), (.ref b167)])) rfl rfl (hb hby df_276)
                  have CS185 := CHr.wr W185 (own_safeArv hZ.alike V181 (by decide)) CR181.1
                  have CR185 := CR181.trans CS185
                  have hk185 : _ ≤ h185.size := Nat.le_trans hk181 (Nat.le_of_eq W185.size.symm)
                  have N185 := Fr.snoc X185 N181 ge_b169
                  have Z185 : n0 ≤ h185.size := by rw [W185.size]; exact Z181
                  have K185 : Keep h0 h185 [] := (K181.wr W185 (Or.inr sz_b169))
                  have V185 := Arv.set Ar184 q184 S184 M184 HH184 GG184 (fits_nar_char _) W185 3 rfl (Nat.le_of_ble_eq_true rfl)
                  have f186 := (f182.other W185 ne_ca_b169)
                  obtain ⟨cl187, Ar187, q187, S187, M187, HH187, GG187⟩ := id f186
                  have hin187 : ¬ ((4 : Int32) < 0 ∨ cl187.slots.size ≤ ((4 : Int32)).toNatClampNeg) := inb_of S187 ⟨by decide, by decide⟩
                  have hat187 : cl187.slots[((4 : Int32)).toNatClampNeg]? = some (.int d4) := Has.at HH187 hin187 rfl
                  obtain ⟨cl188, Ar188, q188, S188, M188, HH188, GG188⟩ := id V185
                  have hin188 : ¬ ((4 : Int32) < 0 ∨ cl188.slots.size ≤ ((4 : Int32)).toNatClampNeg) := inb_of S188 ⟨by decide, by decide⟩
                  obtain ⟨T189, h189, X189, e189, W189, st189⟩ := stC X185 hx hZ e185 Ar188 (j := (4 : Int32)) hin188 (g := (mkF m 282 #[.val (.ref ca), .val (.int nt)] [(.int d4), (.int (4 : Int32)), (.ref b169), (.ref b169), (.ref b167), (.ref b167)])) rfl rfl (hb hby df_282)
                  have CS189 := CHr.wr W189 (own_safeArv hZ.alike V185 (by decide)) CR185.1
                  have CR189 := CR185.trans CS189
                  have hk189 : _ ≤ h189.size := Nat.le_trans hk185 (Nat.le_of_eq W189.size.symm)
                  have N189 := Fr.snoc X189 N185 ge_b169
                  have Z189 : n0 ≤ h189.size := by rw [W189.size]; exact Z185
                  have K189 : Keep h0 h189 [] := (K185.wr W189 (Or.inr sz_b169))
                  have V189 := Arv.set Ar188 q188 S188 M188 HH188 GG188 (fits_nar_char _) W189 4 rfl (Nat.le_of_ble_eq_true rfl)
                  have f190 := (f186.other W189 ne_ca_b169)
                  obtain ⟨cl191, Ar191, q191, S191, M191, HH191, GG191⟩ := id f190
                  have hin191 : ¬ ((5 : Int32) < 0 ∨ cl191.slots.size ≤ ((5 : Int32)).toNatClampNeg) := inb_of S191 ⟨by decide, by decide⟩
                  have hat191 : cl191.slots[((5 : Int32)).toNatClampNeg]? = some (.int d5) := Has.at HH191 hin191 rfl
                  obtain ⟨cl192, Ar192, q192, S192, M192, HH192, GG192⟩ := id V189
                  have hin192 : ¬ ((5 : Int32) < 0 ∨ cl192.slots.size ≤ ((5 : Int32)).toNatClampNeg) := inb_of S192 ⟨by decide, by decide⟩
                  obtain ⟨T193, h193, X193, e193, W193, st193⟩ := stC X189 hx hZ e189 Ar192 (j := (5 : Int32)) hin192 (g := (mkF m 288 #[.val (.ref ca), .val (.int nt)] [(.int d5), (.int (5 : Int32)), (.ref b169), (.ref b169), (.ref b167), (.ref b167)])) rfl rfl (hb hby df_288)
                  have CS193 := CHr.wr W193 (own_safeArv hZ.alike V189 (by decide)) CR189.1
                  have CR193 := CR189.trans CS193
                  have hk193 : _ ≤ h193.size := Nat.le_trans hk189 (Nat.le_of_eq W193.size.symm)
                  have N193 := Fr.snoc X193 N189 ge_b169
                  have Z193 : n0 ≤ h193.size := by rw [W193.size]; exact Z189
                  have K193 : Keep h0 h193 [] := (K189.wr W193 (Or.inr sz_b169))
                  have V193 := Arv.set Ar192 q192 S192 M192 HH192 GG192 (fits_nar_char _) W193 5 rfl (Nat.le_of_ble_eq_true rfl)
                  have f194 := (f190.other W193 ne_ca_b169)
                  obtain ⟨cl195, Ar195, q195, S195, M195, HH195, GG195⟩ := id f194
                  have hin195 : ¬ ((6 : Int32) < 0 ∨ cl195.slots.size ≤ ((6 : Int32)).toNatClampNeg) := inb_of S195 ⟨by decide, by decide⟩
                  have hat195 : cl195.slots[((6 : Int32)).toNatClampNeg]? = some (.int d6) := Has.at HH195 hin195 rfl
                  obtain ⟨cl196, Ar196, q196, S196, M196, HH196, GG196⟩ := id V193
                  have hin196 : ¬ ((6 : Int32) < 0 ∨ cl196.slots.size ≤ ((6 : Int32)).toNatClampNeg) := inb_of S196 ⟨by decide, by decide⟩
                  obtain ⟨T197, h197, X197, e197, W197, st197⟩ := stC X193 hx hZ e193 Ar196 (j := (6 : Int32)) hin196 (g := (mkF m 296 #[.val (.ref ca), .val (.int nt)] [(.int d6), (.int (6 : Int32)), (.ref b169), (.ref b169), (.ref b167), (.ref b167)])) rfl rfl (hb hby df_296)
                  have CS197 := CHr.wr W197 (own_safeArv hZ.alike V193 (by decide)) CR193.1
                  have CR197 := CR193.trans CS197
                  have hk197 : _ ≤ h197.size := Nat.le_trans hk193 (Nat.le_of_eq W197.size.symm)
                  have N197 := Fr.snoc X197 N193 ge_b169
                  have Z197 : n0 ≤ h197.size := by rw [W197.size]; exact Z193
                  have K197 : Keep h0 h197 [] := (K193.wr W197 (Or.inr sz_b169))
                  have V197 := Arv.set Ar196 q196 S196 M196 HH196 GG196 (fits_nar_char _) W197 6 rfl (Nat.le_of_ble_eq_true rfl)
                  have hp198 : ∀ c ∈ ([(nar .char d0), (nar .char d1), (nar .char d2), (nar .char d3), (nar .char d4), (nar .char d5), (nar .char d6)] : List Int32), ¬ c < 0 ∧ ¬ (255 : Int32) < c := by
                    intro c hc
                    simp only [List.mem_cons, List.not_mem_nil, or_false] at hc
                    rcases hc with rfl | rfl | rfl | rfl | rfl | rfl | rfl
                    · exact (own_narc B_d0)
                    · exact (own_narc B_d1)
                    · exact (own_narc B_d2)
                    · exact (own_narc B_d3)
                    · exact (own_narc B_d4)
                    · exact (own_narc B_d5)
                    · exact (own_narc B_d6)
                  have f199 := ((((((((A167.ext E169).wr W173).wr W177).wr W181).wr W185).wr W189).wr W193).wr W197)
                  have f200 := ((((((((F167_value.ext E169).other W173 (Or.inl ne_b167_b169)).other W177 (Or.inl ne_b167_b169)).other W181 (Or.inl ne_b167_b169)).other W185 (Or.inl ne_b167_b169)).other W189 (Or.inl ne_b167_b169)).other W193 (Or.inl ne_b167_b169)).other W197 (Or.inl ne_b167_b169))
                  have f201 := ((((((((F167_coder.ext E169).other W173 (Or.inl ne_b167_b169)).other W177 (Or.inl ne_b167_b169)).other W181 (Or.inl ne_b167_b169)).other W185 (Or.inl ne_b167_b169)).other W189 (Or.inl ne_b167_b169)).other W193 (Or.inl ne_b167_b169)).other W197 (Or.inl ne_b167_b169))
                  have f202 := (((((((((X00.ext E167).ext E169).wr W173 ge_b169).wr W177 ge_b169).wr W181 ge_b169).wr W185 ge_b169).wr W189 ge_b169).wr W193 ge_b169).wr W197 ge_b169)
                  have f203 := (f194.other W197 ne_ca_b169)
                  obtain ⟨_, _, ⟨T204, L204, kc204, ks204⟩, -, X204, ⟨Lc204, hQ204, l204, y204, z204⟩, st204⟩ := X197.specialBack hx (y := mn3) rfl hown (mvT hZ (wd8 hw)) (mvT hZ (wd9 hw)) (mvT hZ (wd10 hw)) (by decide) (StrChars.Road.backV (W := 1) hZ (own_hws hw) (kI := 4) (wd6 hw) (cs := ([(nar .char d0), (nar .char d1), (nar .char d2), (nar .char d3), (nar .char d4), (nar .char d5), (nar .char d6)] : List Int32)) (bs := ([(nar .char d0), (nar .char d1), (nar .char d2), (nar .char d3), (nar .char d4), (nar .char d5), (nar .char d6)] : List Int32).map (fun c => c.toInt8.toInt32)) (n := 7) ge_b167 Z197 f199 f200 f201 V197 (O2.ext f202.2) P5 rfl rfl (by decide) (by decide) hp198 rfl (by decide) (by decide)) (g := (mkF m 297 #[.val (.ref ca), .val (.int nt)] [(.ref b169), (.ref b167), (.ref b167)])) rfl (by rw [hml]; rfl) (Steps.refl _) (a := b167) (argsL := [(.ref b169)]) (rest := [(.ref b167)]) (lenOf pd___C_V rfl) rfl (by show 2 * 0 + _ ≤ _; exact Nat.le_of_eq rfl) (hb hby df_297) (fun _ _ => ⟨rfl, e197, (by decide : 2 + 1 ≤ _), (by decide : 11 + 7 ≤ _)⟩)
                  dsimp only [Pt.U, Pt.locs, Pt.cells, Pt.slots] at X204 l204 y204 z204 st204 hQ204
                  subst l204 y204 z204
                  obtain ⟨rfl, Nq204, Kq204, gE204, gC204, t204, kb204, gt204, gs204, gn204, gV204, gK204⟩ := hQ204
                  have N204 := Fr.app N197 Nq204
                  have CS204 := CHr.keep Kq204 (allS (CHr.safe (((((((CS169.trans CS173).trans CS177).trans CS181).trans CS185).trans CS189).trans CS193).trans CS197) A167.lt sf2_b167) all0) CR197.1
                  have CR204 := CR197.trans CS204
                  have hk204 : _ ≤ T204.heap.size := Nat.le_trans hk197 Kq204.1
                  have Z204 : n0 ≤ T204.heap.size := Nat.le_trans Z197 Kq204.1
                  have K204 : Keep h0 T204.heap [] := Keep.trans K197 Kq204 (allS (Or.inr sz_b167) all0)
                  have gL204 : Arv Z T204.heap t204 kb204 .byte (7 : Int32) [(.int (((nar .char d0)).toInt8.toInt32)), (.int (((nar .char d1)).toInt8.toInt32)), (.int (((nar .char d2)).toInt8.toInt32)), (.int (((nar .char d3)).toInt8.toInt32)), (.int (((nar .char d4)).toInt8.toInt32)), (.int (((nar .char d5)).toInt8.toInt32)), (.int (((nar .char d6)).toInt8.toInt32))] (.int (0 : Int32)) := gK204
                  have ne_ca_t204 : ca ≠ t204 := Nat.ne_of_lt (Nat.lt_of_lt_of_le f203.lt gs204)
                  have ne_b167_t204 : b167 ≠ t204 := Nat.ne_of_lt (Nat.lt_of_lt_of_le f199.lt gs204)
                  have ne_b169_t204 : b169 ≠ t204 := Nat.ne_of_lt (Nat.lt_of_lt_of_le V197.lt gs204)
                  have sz_t204 : h0.size ≤ t204 := Nat.le_trans K197.1 gs204
                  obtain ⟨lfs, lhr, lhrun, lhended, lhE⟩ := X204.leaveW hS0 hk204 (v := some (.ref b167)) (fun h => by rw [Bd.returns] at h; cases h)
                  refine ⟨_, _, k165 _ ?_, lhrun, lhended, _, _, rfl, ?_, ?_, lhE.1, lhE.2.1, lhE.2.2.1, lhE.2.2.2.mono (by decide) (by decide)⟩
                  · skip
                    show Steps p.tables e below (s₁.setTop (mkF m 242 #[.val (.ref ca), .val (.int nt)] [(.int (7 : Int32)), (.int nt)])) _
                    refine XS.icmpNo X0.here hx rfl (hb hby df_242) rfl (teq hc166).2 ?_
                    show Steps p.tables e below (s₁.setTop (mkF m 245 #[.val (.ref ca), .val (.int nt)] [])) _
                    refine st167 _ ?_
                    show Steps p.tables e below (T167.setTop (mkF m 248 #[.val (.ref ca), .val (.int nt)] [(.ref b167)])) _
                    refine XS.dup X167.here hx rfl (hb hby df_248) rfl rfl ?_
                    show Steps p.tables e below (T167.setTop (mkF m 249 #[.val (.ref ca), .val (.int nt)] [(.ref b167), (.ref b167)])) _
                    refine XS.bipush X167.here hx rfl (hb hby df_249) ?_
                    show Steps p.tables e below (T167.setTop (mkF m 251 #[.val (.ref ca), .val (.int nt)] [(.int (7 : Int32)), (.ref b167), (.ref b167)])) _
                    refine st169 _ ?_
                    show Steps p.tables e below (T169.setTop (mkF m 253 #[.val (.ref ca), .val (.int nt)] [(.ref b169), (.ref b167), (.ref b167)])) _
                    refine XS.dup X169.here hx rfl (hb hby df_253) rfl rfl ?_
                    show Steps p.tables e below (T169.setTop (mkF m 254 #[.val (.ref ca), .val (.int nt)] [(.ref b169), (.ref b169), (.ref b167), (.ref b167)])) _
                    refine XS.iconst X169.here hx rfl (hb hby df_254) ?_
                    show Steps p.tables e below (T169.setTop (mkF m 255 #[.val (.ref ca), .val (.int nt)] [(.int (0 : Int32)), (.ref b169), (.ref b169), (.ref b167), (.ref b167)])) _
                    refine XS.aloadN X169.here hx rfl (hb hby df_255) rfl rfl ?_
                    show Steps p.tables e below (T169.setTop (mkF m 256 #[.val (.ref ca), .val (.int nt)] [(.ref ca), (.int (0 : Int32)), (.ref b169), (.ref b169), (.ref b167), (.ref b167)])) _
                    refine XS.iconst X169.here hx rfl (hb hby df_256) ?_
                    show Steps p.tables e below (T169.setTop (mkF m 257 #[.val (.ref ca), .val (.int nt)] [(.int (0 : Int32)), (.ref ca), (.int (0 : Int32)), (.ref b169), (.ref b169), (.ref b167), (.ref b167)])) _
                    refine X169.caload hx (j := (0 : Int32)) (v := (.int d0)) (by (try rw [e169]); exact Ar171.1) (State.isArrayOf_alike hZ.alike Ar171.2.1) Ar171.2.2 hin171 hat171 (g := (mkF m 257 #[.val (.ref ca), .val (.int nt)] [(.int (0 : Int32)), (.ref ca), (.int (0 : Int32)), (.ref b169), (.ref b169), (.ref b167), (.ref b167)])) rfl rfl (hb hby df_257) _ ?_
                    show Steps p.tables e below (T169.setTop (mkF m 258 #[.val (.ref ca), .val (.int nt)] [(.int d0), (.int (0 : Int32)), (.ref b169), (.ref b169), (.ref b167), (.ref b167)])) _
                    refine st173 _ ?_
                    show Steps p.tables e below (T173.setTop (mkF m 259 #[.val (.ref ca), .val (.int nt)] [(.ref b169), (.ref b167), (.ref b167)])) _
                    refine XS.dup X173.here hx rfl (hb hby df_259) rfl rfl ?_
                    show Steps p.tables e below (T173.setTop (mkF m 260 #[.val (.ref ca), .val (.int nt)] [(.ref b169), (.ref b169), (.ref b167), (.ref b167)])) _
                    refine XS.iconst X173.here hx rfl (hb hby df_260) ?_
                    show Steps p.tables e below (T173.setTop (mkF m 261 #[.val (.ref ca), .val (.int nt)] [(.int (1 : Int32)), (.ref b169), (.ref b169), (.ref b167), (.ref b167)])) _
                    refine XS.aloadN X173.here hx rfl (hb hby df_261) rfl rfl ?_
                    show Steps p.tables e below (T173.setTop (mkF m 262 #[.val (.ref ca), .val (.int nt)] [(.ref ca), (.int (1 : Int32)), (.ref b169), (.ref b169), (.ref b167), (.ref b167)])) _
                    refine XS.iconst X173.here hx rfl (hb hby df_262) ?_
                    show Steps p.tables e below (T173.setTop (mkF m 263 #[.val (.ref ca), .val (.int nt)] [(.int (1 : Int32)), (.ref ca), (.int (1 : Int32)), (.ref b169), (.ref b169), (.ref b167), (.ref b167)])) _
                    refine X173.caload hx (j := (1 : Int32)) (v := (.int d1)) (by (try rw [e173]); exact Ar175.1) (State.isArrayOf_alike hZ.alike Ar175.2.1) Ar175.2.2 hin175 hat175 (g := (mkF m 263 #[.val (.ref ca), .val (.int nt)] [(.int (1 : Int32)), (.ref ca), (.int (1 : Int32)), (.ref b169), (.ref b169), (.ref b167), (.ref b167)])) rfl rfl (hb hby df_263) _ ?_
                    show Steps p.tables e below (T173.setTop (mkF m 264 #[.val (.ref ca), .val (.int nt)] [(.int d1), (.int (1 : Int32)), (.ref b169), (.ref b169), (.ref b167), (.ref b167)])) _
                    refine st177 _ ?_
                    show Steps p.tables e below (T177.setTop (mkF m 265 #[.val (.ref ca), .val (.int nt)] [(.ref b169), (.ref b167), (.ref b167)])) _
                    refine XS.dup X177.here hx rfl (hb hby df_265) rfl rfl ?_
                    show Steps p.tables e below (T177.setTop (mkF m 266 #[.val (.ref ca), .val (.int nt)] [(.ref b169), (.ref b169), (.ref b167), (.ref b167)])) _
                    refine XS.iconst X177.here hx rfl (hb hby df_266) ?_
                    show Steps p.tables e below (T177.setTop (mkF m 267 #[.val (.ref ca), .val (.int nt)] [(.int (2 : Int32)), (.ref b169), (.ref b169), (.ref b167), (.ref b167)])) _
                    refine XS.aloadN X177.here hx rfl (hb hby df_267) rfl rfl ?_
                    show Steps p.tables e below (T177.setTop (mkF m 268 #[.val (.ref ca), .val (.int nt)] [(.ref ca), (.int (2 : Int32)), (.ref b169), (.ref b169), (.ref b167), (.ref b167)])) _
                    refine XS.iconst X177.here hx rfl (hb hby df_268) ?_
                    show Steps p.tables e below (T177.setTop (mkF m 269 #[.val (.ref ca), .val (.int nt)] [(.int (2 : Int32)), (.ref ca), (.int (2 : Int32)), (.ref b169), (.ref b169), (.ref b167), (.ref b167)])) _
                    refine X177.caload hx (j := (2 : Int32)) (v := (.int d2)) (by (try rw [e177]); exact Ar179.1) (State.isArrayOf_alike hZ.alike Ar179.2.1) Ar179.2.2 hin179 hat179 (g := (mkF m 269 #[.val (.ref ca), .val (.int nt)] [(.int (2 : Int32)), (.ref ca), (.int (2 : Int32)), (.ref b169), (.ref b169), (.ref b167), (.ref b167)])) rfl rfl (hb hby df_269) _ ?_
                    show Steps p.tables e below (T177.setTop (mkF m 270 #[.val (.ref ca), .val (.int nt)] [(.int d2), (.int (2 : Int32)), (.ref b169), (.ref b169), (.ref b167), (.ref b167)])) _
                    refine st181 _ ?_
                    show Steps p.tables e below (T181.setTop (mkF m 271 #[.val (.ref ca), .val (.int nt)] [(.ref b169), (.ref b167), (.ref b167)])) _
                    refine XS.dup X181.here hx rfl (hb hby df_271) rfl rfl ?_
                    show Steps p.tables e below (T181.setTop (mkF m 272 #[.val (.ref ca), .val (.int nt)] [(.ref b169), (.ref b169), (.ref b167), (.ref b167)])) _
                    refine XS.iconst X181.here hx rfl (hb hby df_272) ?_
                    show Steps p.tables e below (T181.setTop (mkF m 273 #[.val (.ref ca), .val (.int nt)] [(.int (3 : Int32)), (.ref b169), (.ref b169), (.ref b167), (.ref b167)])) _
                    refine XS.aloadN X181.here hx rfl (hb hby df_273) rfl rfl ?_
                    show Steps p.tables e below (T181.setTop (mkF m 274 #[.val (.ref ca), .val (.int nt)] [(.ref ca), (.int (3 : Int32)), (.ref b169), (.ref b169), (.ref b167), (.ref b167)])) _
                    refine XS.iconst X181.here hx rfl (hb hby df_274) ?_
                    show Steps p.tables e below (T181.setTop (mkF m 275 #[.val (.ref ca), .val (.int nt)] [(.int (3 : Int32)), (.ref ca), (.int (3 : Int32)), (.ref b169), (.ref b169), (.ref b167), (.ref b167)])) _
                    refine X181.caload hx (j := (3 : Int32)) (v := (.int d3)) (by (try rw [e181]); exact Ar183.1) (State.isArrayOf_alike hZ.alike Ar183.2.1) Ar183.2.2 hin183 hat183 (g := (mkF m 275 #[.val (.ref ca), .val (.int nt)] [(.int (3 : Int32)), (.ref ca), (.int (3 : Int32)), (.ref b169), (.ref b169), (.ref b167), (.ref b167)])) rfl rfl (hb hby df_275) _ ?_
                    show Steps p.tables e below (T181.setTop (mkF m 276 #[.val (.ref ca), .val (.int nt)] [(.int d3), (.int (3 : Int32)), (.ref b169), (.ref b169), (.ref b167), (.ref b167)])) _
                    refine st185 _ ?_
                    show Steps p.tables e below (T185.setTop (mkF m 277 #[.val (.ref ca), .val (.int nt)] [(.ref b169), (.ref b167), (.ref b167)])) _
                    refine XS.dup X185.here hx rfl (hb hby df_277) rfl rfl ?_
                    show Steps p.tables e below (T185.setTop (mkF m 278 #[.val (.ref ca), .val (.int nt)] [(.ref b169), (.ref b169), (.ref b167), (.ref b167)])) _
                    refine XS.iconst X185.here hx rfl (hb hby df_278) ?_
                    show Steps p.tables e below (T185.setTop (mkF m 279 #[.val (.ref ca), .val (.int nt)] [(.int (4 : Int32)), (.ref b169), (.ref b169), (.ref b167), (.ref b167)])) _
                    refine XS.aloadN X185.here hx rfl (hb hby df_279) rfl rfl ?_
                    show Steps p.tables e below (T185.setTop (mkF m 280 #[.val (.ref ca), .val (.int nt)] [(.ref ca), (.int (4 : Int32)), (.ref b169), (.ref b169), (.ref b167), (.ref b167)])) _
                    refine XS.iconst X185.here hx rfl (hb hby df_280) ?_
                    show Steps p.tables e below (T185.setTop (mkF m 281 #[.val (.ref ca), .val (.int nt)] [(.int (4 : Int32)), (.ref ca), (.int (4 : Int32)), (.ref b169), (.ref b169), (.ref b167), (.ref b167)])) _
                    refine X185.caload hx (j := (4 : Int32)) (v := (.int d4)) (by (try rw [e185]); exact Ar187.1) (State.isArrayOf_alike hZ.alike Ar187.2.1) Ar187.2.2 hin187 hat187 (g := (mkF m 281 #[.val (.ref ca), .val (.int nt)] [(.int (4 : Int32)), (.ref ca), (.int (4 : Int32)), (.ref b169), (.ref b169), (.ref b167), (.ref b167)])) rfl rfl (hb hby df_281) _ ?_
                    show Steps p.tables e below (T185.setTop (mkF m 282 #[.val (.ref ca), .val (.int nt)] [(.int d4), (.int (4 : Int32)), (.ref b169), (.ref b169), (.ref b167), (.ref b167)])) _
                    refine st189 _ ?_
                    show Steps p.tables e below (T189.setTop (mkF m 283 #[.val (.ref ca), .val (.int nt)] [(.ref b169), (.ref b167), (.ref b167)])) _
                    refine XS.dup X189.here hx rfl (hb hby df_283) rfl rfl ?_
                    show Steps p.tables e below (T189.setTop (mkF m 284 #[.val (.ref ca), .val (.int nt)] [(.ref b169), (.ref b169), (.ref b167), (.ref b167)])) _
                    refine XS.iconst X189.here hx rfl (hb hby df_284) ?_
                    show Steps p.tables e below (T189.setTop (mkF m 285 #[.val (.ref ca), .val (.int nt)] [(.int (5 : Int32)), (.ref b169), (.ref b169), (.ref b167), (.ref b167)])) _
                    refine XS.aloadN X189.here hx rfl (hb hby df_285) rfl rfl ?_
                    show Steps p.tables e below (T189.setTop (mkF m 286 #[.val (.ref ca), .val (.int nt)] [(.ref ca), (.int (5 : Int32)), (.ref b169), (.ref b169), (.ref b167), (.ref b167)])) _
                    refine XS.iconst X189.here hx rfl (hb hby df_286) ?_
                    show Steps p.tables e below (T189.setTop (mkF m 287 #[.val (.ref ca), .val (.int nt)] [(.int (5 : Int32)), (.ref ca), (.int (5 : Int32)), (.ref b169), (.ref b169), (.ref b167), (.ref b167)])) _
                    refine X189.caload hx (j := (5 : Int32)) (v := (.int d5)) (by (try rw [e189]); exact Ar191.1) (State.isArrayOf_alike hZ.alike Ar191.2.1) Ar191.2.2 hin191 hat191 (g := (mkF m 287 #[.val (.ref ca), .val (.int nt)] [(.int (5 : Int32)), (.ref ca), (.int (5 : Int32)), (.ref b169), (.ref b169), (.ref b167), (.ref b167)])) rfl rfl (hb hby df_287) _ ?_
                    show Steps p.tables e below (T189.setTop (mkF m 288 #[.val (.ref ca), .val (.int nt)] [(.int d5), (.int (5 : Int32)), (.ref b169), (.ref b169), (.ref b167), (.ref b167)])) _
                    refine st193 _ ?_
                    show Steps p.tables e below (T193.setTop (mkF m 289 #[.val (.ref ca), .val (.int nt)] [(.ref b169), (.ref b167), (.ref b167)])) _
                    refine XS.dup X193.here hx rfl (hb hby df_289) rfl rfl ?_
                    show Steps p.tables e below (T193.setTop (mkF m 290 #[.val (.ref ca), .val (.int nt)] [(.ref b169), (.ref b169), (.ref b167), (.ref b167)])) _
                    refine XS.bipush X193.here hx rfl (hb hby df_290) ?_
                    show Steps p.tables e below (T193.setTop (mkF m 292 #[.val (.ref ca), .val (.int nt)] [(.int (6 : Int32)), (.ref b169), (.ref b169), (.ref b167), (.ref b167)])) _
                    refine XS.aloadN X193.here hx rfl (hb hby df_292) rfl rfl ?_
                    show Steps p.tables e below (T193.setTop (mkF m 293 #[.val (.ref ca), .val (.int nt)] [(.ref ca), (.int (6 : Int32)), (.ref b169), (.ref b169), (.ref b167), (.ref b167)])) _
                    refine XS.bipush X193.here hx rfl (hb hby df_293) ?_
                    show Steps p.tables e below (T193.setTop (mkF m 295 #[.val (.ref ca), .val (.int nt)] [(.int (6 : Int32)), (.ref ca), (.int (6 : Int32)), (.ref b169), (.ref b169), (.ref b167), (.ref b167)])) _
                    refine X193.caload hx (j := (6 : Int32)) (v := (.int d6)) (by (try rw [e193]); exact Ar195.1) (State.isArrayOf_alike hZ.alike Ar195.2.1) Ar195.2.2 hin195 hat195 (g := (mkF m 295 #[.val (.ref ca), .val (.int nt)] [(.int (6 : Int32)), (.ref ca), (.int (6 : Int32)), (.ref b169), (.ref b169), (.ref b167), (.ref b167)])) rfl rfl (hb hby df_295) _ ?_
                    show Steps p.tables e below (T193.setTop (mkF m 296 #[.val (.ref ca), .val (.int nt)] [(.int d6), (.int (6 : Int32)), (.ref b169), (.ref b169), (.ref b167), (.ref b167)])) _
                    refine st197 _ ?_
                    show Steps p.tables e below (T197.setTop (mkF m 297 #[.val (.ref ca), .val (.int nt)] [(.ref b169), (.ref b167), (.ref b167)])) _
                    refine st204.trans ?_
                    show Steps p.tables e below (T204.setTop (mkF m 300 #[.val (.ref ca), .val (.int nt)] [(.ref b167)])) _
                    exact retOut X204 hx Bd.returns rfl (Or.inr (Or.inr (Or.inr (Or.inr ⟨rfl, rfl, rfl⟩)))) (hb hby df_300) lhr
                  · skip
                    show QTk Z ca nt kc d0 d1 d2 d3 d4 d5 d6 d7 d8 G1 h0 n0 _ T204.heap _
                    skip
                    have hp205 : ∀ c ∈ ([(nar .char d0), (nar .char d1), (nar .char d2), (nar .char d3), (nar .char d4), (nar .char d5), (nar .char d6)] : List Int32), ¬ c < 0 ∧ ¬ (255 : Int32) < c := by
                      intro c hc
                      simp only [List.mem_cons, List.not_mem_nil, or_false] at hc
                      rcases hc with rfl | rfl | rfl | rfl | rfl | rfl | rfl
                      · exact (own_narc B_d0)
                      · exact (own_narc B_d1)
                      · exact (own_narc B_d2)
                      · exact (own_narc B_d3)
                      · exact (own_narc B_d4)
                      · exact (own_narc B_d5)
                      · exact (own_narc B_d6)
                    exact ⟨b167, ([(nar .char d0), (nar .char d1), (nar .char d2), (nar .char d3), (nar .char d4), (nar .char d5), (nar .char d6)] : List Int32), t204, _, rfl, N204, K204, gE204, gC204, gV204, gL204, hp205, Nat.le_of_ble_eq_true rfl⟩
                  · skip
                    show CHr Z own_EL s.vm s.heap T204.vm T204.heap
                    rw [hh]
                    exact CR204.trans (CHv.at X204 hZ hEL CR204.1)
                · skip
                  have k206 : ∀ t, Steps p.tables e below (s₁.setTop (mkF m 304 #[.val (.ref ca), .val (.int nt)] [(.int (8 : Int32)), (.int nt)])) t → Steps p.tables e below (s₁.setTop (entryFrame m #[(.ref ca), (.int nt)] 2)) t := by
                    intro t kt
                    refine k165 t ?_
                    show Steps p.tables e below (s₁.setTop (mkF m 242 #[.val (.ref ca), .val (.int nt)] [(.int (7 : Int32)), (.int nt)])) _
                    refine XS.icmpYes X0.here hx rfl (pc0 := 242) (pc' := 301) rfl (hb hby df_242) rfl (feq hc166).2 (by decide) (by decide) ?_
                    show Steps p.tables e below (s₁.setTop (mkF m 301 #[.val (.ref ca), .val (.int nt)] [])) _
                    refine XS.iloadN X0.here hx rfl (hb hby df_301) rfl ?_
                    show Steps p.tables e below (s₁.setTop (mkF m 302 #[.val (.ref ca), .val (.int nt)] [(.int nt)])) _
                    refine XS.bipush X0.here hx rfl (hb hby df_302) ?_
                    exact kt
                  by_cases hc207 : nt = (8 : Int32)
                  · skip
                    obtain ⟨T208, h208, X208, e208, E208, A208, D208, -, st208⟩ := newO X0 hx hZ hown (wd5 hw) (wd6 hw) (wd7 hw) e0 (g := (mkF m 307 #[.val (.ref ca), .val (.int nt)] [])) rfl (hb hby df_307) (by decide) (by decide)
                    obtain ⟨b208, g208⟩ : ∃ z, z = h0.size := ⟨_, rfl⟩
                    rw [← g208] at A208 D208 st208
                    have ne_ca_b208 : ca ≠ b208 := Nat.ne_of_lt (Nat.lt_of_lt_of_le V_a.lt (Nat.le_of_eq g208.symm))
                    have ge_b208 : n0 ≤ b208 := Nat.le_trans Z0 (Nat.le_of_eq g208.symm)
                    have sz_b208 : h0.size ≤ b208 := Nat.le_trans (Nat.le_refl _) (Nat.le_of_eq g208.symm)
                    have sf_b208 : Safe Z own_EL s.vm h0 b208 := Safe.new (Nat.le_of_eq g208.symm)
                    have sf2_b208 : Safe Z own_EL s.vm h208 b208 := sf_b208.ext E208 CR0.1
                    have CS208 := CHr.ext E208 CR0.1
                    have CR208 := CR0.trans CS208
                    have hk208 : _ ≤ h208.size := Nat.le_trans hk0 E208.1
                    have Z208 : n0 ≤ h208.size := Nat.le_trans Z0 E208.1
                    have K208 : Keep h0 h208 [] := ((Keep.refl h0 []).ext E208)
                    have F208_coder : Fld Z h208 b208 "java/lang/String" "coder" "B" (.int (0 : Int32)) := D208 (Or.inr (wd31 hw)) (ty := .byte) (by decide)
                    have F208_value : Fld Z h208 b208 "java/lang/String" "value" "[B" .null := D208 (Or.inr (wd33 hw)) (ty := (.array .byte)) (by decide)
                    have f209 := (V_a.ext E208)
                    obtain ⟨T210, h210, kk210, X210, e210, E210, A210, st210⟩ := newP X208 hx hZ (aty := .char) (wd0 hw) e208 (g := (mkF m 313 #[.val (.ref ca), .val (.int nt)] [(.int (8 : Int32)), (.ref b208), (.ref b208)])) rfl (hb hby df_313) rfl (by decide) (cap := 8) (by decide) (by decide) (by decide) (by decide)
                    obtain ⟨b210, g210⟩ : ∃ z, z = h208.size := ⟨_, rfl⟩
                    rw [← g210] at A210 st210
                    have ne_ca_b210 : ca ≠ b210 := Nat.ne_of_lt (Nat.lt_of_lt_of_le f209.lt (Nat.le_of_eq g210.symm))
                    have ne_b208_b210 : b208 ≠ b210 := Nat.ne_of_lt (Nat.lt_of_lt_of_le A208.lt (Nat.le_of_eq g210.symm))
                    have ge_b210 : n0 ≤ b210 := Nat.le_trans Z208 (Nat.le_of_eq g210.symm)
                    have sz_b210 : h0.size ≤ b210 := Nat.le_trans K208.1 (Nat.le_of_eq g210.symm)
                    have CS210 := CHr.ext E210 CR208.1
                    have CR210 := CR208.trans CS210
                    have hk210 : _ ≤ h210.size := Nat.le_trans hk208 E210.1
                    have Z210 : n0 ≤ h210.size := Nat.le_trans Z208 E210.1
                    have K210 : Keep h0 h210 [] := (K208.ext E210)
                    have V210 : Arv Z h210 b210 kk210 .char (8 : Int32) [(.int (0 : Int32)), (.int (0 : Int32)), (.int (0 : Int32)), (.int (0 : Int32)), (.int (0 : Int32)), (.int (0 : Int32)), (.int (0 : Int32)), (.int (0 : Int32))] (.int (0 : Int32)) := (Arv.new A210 (by decide)).pad (pad_rep [] (.int (0 : Int32)) 8)
                    have f211 := (f209.ext E210)
                    obtain ⟨cl212, Ar212, q212, S212, M212, HH212, GG212⟩ := id f211
                    have hin212 : ¬ ((0 : Int32) < 0 ∨ cl212.slots.size ≤ ((0 : Int32)).toNatClampNeg) := inb_of S212 ⟨by decide, by decide⟩
                    have hat212 : cl212.slots[((0 : Int32)).toNatClampNeg]? = some (.int d0) := Has.at HH212 hin212 rfl
                    obtain ⟨cl213, Ar213, q213, S213, M213, HH213, GG213⟩ := id V210
                    have hin213 : ¬ ((0 : Int32) < 0 ∨ cl213.slots.size ≤ ((0 : Int32)).toNatClampNeg) := inb_of S213 ⟨by decide, by decide⟩
                    obtain ⟨T214, h214, X214, e214, W214, st214⟩ := stC X210 hx hZ e210 Ar213 (j := (0 : Int32)) hin213 (g := (mkF m 320 #[.val (.ref ca), .val (.int nt)] [(.int d0), (.int (0 : Int32)), (.ref b210), (.ref b210), (.ref b208), (.ref b208)])) rfl rfl (hb hby df_320)
                    have CS214 := CHr.wr W214 (own_safeArv hZ.alike V210 (by decide)) CR210.1
                    have CR214 := CR210.trans CS214
                    have hk214 : _ ≤ h214.size := Nat.le_trans hk210 (Nat.le_of_eq W214.size.symm)
                    have N214 := Fr.snoc X214 N0 ge_b210
                    have Z214 : n0 ≤ h214.size := by rw [W214.size]; exact Z210
                    have K214 : Keep h0 h214 [] := (K210.wr W214 (Or.inr sz_b210))
                    have V214 := Arv.set Ar213 q213 S213 M213 HH213 GG213 (fits_nar_char _) W214 0 rfl (Nat.le_of_ble_eq_true rfl)
                    have f215 := (f211.other W214 ne_ca_b210)
                    obtain ⟨cl216, Ar216, q216, S216, M216, HH216, GG216⟩ := id f215
                    have hin216 : ¬ ((1 : Int32) < 0 ∨ cl216.slots.size ≤ ((1 : Int32)).toNatClampNeg) := inb_of S216 ⟨by decide, by decide⟩
                    have hat216 : cl216.slots[((1 : Int32)).toNatClampNeg]? = some (.int d1) := Has.at HH216 hin216 rfl
                    obtain ⟨cl217, Ar217, q217, S217, M217, HH217, GG217⟩ := id V214
                    have hin217 : ¬ ((1 : Int32) < 0 ∨ cl217.slots.size ≤ ((1 : Int32)).toNatClampNeg) := inb_of S217 ⟨by decide, by decide⟩
                    obtain ⟨T218, h218, X218, e218, W218, st218⟩ := stC X214 hx hZ e214 Ar217 (j := (1 : Int32)) hin217 (g := (mkF m 326 #[.val (.ref ca), .val (.int nt)] [(.int d1), (.int (1 : Int32)), (.ref b210), (.ref b210), (.ref b208), (.ref b208)])) rfl rfl (hb hby df_326)
                    have CS218 := CHr.wr W218 (own_safeArv hZ.alike V214 (by decide)) CR214.1
                    have CR218 := CR214.trans CS218
                    have hk218 : _ ≤ h218.size := Nat.le_trans hk214 (Nat.le_of_eq W218.size.symm)
                    have N218 := Fr.snoc X218 N214 ge_b210
                    have Z218 : n0 ≤ h218.size := by rw [W218.size]; exact Z214
                    have K218 : Keep h0 h218 [] := (K214.wr W218 (Or.inr sz_b210))
                    have V218 := Arv.set Ar217 q217 S217 M217 HH217 GG217 (fits_nar_char _) W218 1 rfl (Nat.le_of_ble_eq_true rfl)
                    have f219 := (f215.other W218 ne_ca_b210)
                    obtain ⟨cl220, Ar220, q220, S220, M220, HH220, GG220⟩ := id f219
                    have hin220 : ¬ ((2 : Int32) < 0 ∨ cl220.slots.size ≤ ((2 : Int32)).toNatClampNeg) := inb_of S220 ⟨by decide, by decide⟩
                    have hat220 : cl220.slots[((2 : Int32)).toNatClampNeg]? = some (.int d2) := Has.at HH220 hin220 rfl
                    obtain ⟨cl221, Ar221, q221, S221, M221, HH221, GG221⟩ := id V218
                    have hin221 : ¬ ((2 : Int32) < 0 ∨ cl221.slots.size ≤ ((2 : Int32)).toNatClampNeg) := inb_of S221 ⟨by decide, by decide⟩
                    obtain ⟨T222, h222, X222, e222, W222, st222⟩ := stC X218 hx hZ e218 Ar221 (j := (2 : Int32)) hin221 (g := (mkF m 332 #[.val (.ref ca), .val (.int nt)] [(.int d2), (.int (2 : Int32)), (.ref b210), (.ref b210), (.ref b208), (.ref b208)])) rfl rfl (hb hby df_332)
                    have CS222 := CHr.wr W222 (own_safeArv hZ.alike V218 (by decide)) CR218.1
                    have CR222 := CR218.trans CS222
                    have hk222 : _ ≤ h222.size := Nat.le_trans hk218 (Nat.le_of_eq W222.size.symm)
                    have N222 := Fr.snoc X222 N218 ge_b210
                    have Z222 : n0 ≤ h222.size := by rw [W222.size]; exact Z218
                    have K222 : Keep h0 h222 [] := (K218.wr W222 (Or.inr sz_b210))
                    have V222 := Arv.set Ar221 q221 S221 M221 HH221 GG221 (fits_nar_char _) W222 2 rfl (Nat.le_of_ble_eq_true rfl)
                    have f223 := (f219.other W222 ne_ca_b210)
                    obtain ⟨cl224, Ar224, q224, S224, M224, HH224, GG224⟩ := id f223
                    have hin224 : ¬ ((3 : Int32) < 0 ∨ cl224.slots.size ≤ ((3 : Int32)).toNatClampNeg) := inb_of S224 ⟨by decide, by decide⟩
                    have hat224 : cl224.slots[((3 : Int32)).toNatClampNeg]? = some (.int d3) := Has.at HH224 hin224 rfl
                    obtain ⟨cl225, Ar225, q225, S225, M225, HH225, GG225⟩ := id V222
                    have hin225 : ¬ ((3 : Int32) < 0 ∨ cl225.slots.size ≤ ((3 : Int32)).toNatClampNeg) := inb_of S225 ⟨by decide, by decide⟩
                    obtain ⟨T226, h226, X226, e226, W226, st226⟩ := stC X222 hx hZ e222 Ar225 (j := (3 : Int32)) hin225 (g := (mkF m 338 #[.val (.ref ca), .val (.int nt)] [(.int d3), (.int (3 : Int32)), (.ref b210), (.ref b210), (.ref b208), (.ref b208)])) rfl rfl (hb hby df_338)
                    have CS226 := CHr.wr W226 (own_safeArv hZ.alike V222 (by decide)) CR222.1
                    have CR226 := CR222.trans CS226
                    have hk226 : _ ≤ h226.size := Nat.le_trans hk222 (Nat.le_of_eq W226.size.symm)
                    have N226 := Fr.snoc X226 N222 ge_b210
                    have Z226 : n0 ≤ h226.size := by rw [W226.size]; exact Z222
                    have K226 : Keep h0 h226 [] := (K222.wr W226 (Or.inr sz_b210))
                    have V226 := Arv.set Ar225 q225 S225 M225 HH225 GG225 (fits_nar_char _) W226 3 rfl (Nat.le_of_ble_eq_true rfl)
                    have f227 := (f223.other W226 ne_ca_b210)
                    obtain ⟨cl228, Ar228, q228, S228, M228, HH228, GG228⟩ := id f227
                    have hin228 : ¬ ((4 : Int32) < 0 ∨ cl228.slots.size ≤ ((4 : Int32)).toNatClampNeg) := inb_of S228 ⟨by decide, by decide⟩
                    have hat228 : cl228.slots[((4 : Int32)).toNatClampNeg]? = some (.int d4) := Has.at HH228 hin228 rfl
                    obtain ⟨cl229, Ar229, q229, S229, M229, HH229, GG229⟩ := id V226
                    have hin229 : ¬ ((4 : Int32) < 0 ∨ cl229.slots.size ≤ ((4 : Int32)).toNatClampNeg) := inb_of S229 ⟨by decide, by decide⟩
                    obtain ⟨T230, h230, X230, e230, W230, st230⟩ := stC X226 hx hZ e226 Ar229 (j := (4 : Int32)) hin229 (g := (mkF m 344 #[.val (.ref ca), .val (.int nt)] [(.int d4), (.int (4 : Int32)), (.ref b210), (.ref b210), (.ref b208), (.ref b208)])) rfl rfl (hb hby df_344)
                    have CS230 := CHr.wr W230 (own_safeArv hZ.alike V226 (by decide)) CR226.1
                    have CR230 := CR226.trans CS230
                    have hk230 : _ ≤ h230.size := Nat.le_trans hk226 (Nat.le_of_eq W230.size.symm)
                    have N230 := Fr.snoc X230 N226 ge_b210
                    have Z230 : n0 ≤ h230.size := by rw [W230.size]; exact Z226
                    have K230 : Keep h0 h230 [] := (K226.wr W230 (Or.inr sz_b210))
                    have V230 := Arv.set Ar229 q229 S229 M229 HH229 GG229 (fits_nar_char _) W230 4 rfl (Nat.le_of_ble_eq_true rfl)
                    have f231 := (f227.other W230 ne_ca_b210)
                    obtain ⟨cl232, Ar232, q232, S232, M232, HH232, GG232⟩ := id f231
                    have hin232 : ¬ ((5 : Int32) < 0 ∨ cl232.slots.size ≤ ((5 : Int32)).toNatClampNeg) := inb_of S232 ⟨by decide, by decide⟩
                    have hat232 : cl232.slots[((5 : Int32)).toNatClampNeg]? = some (.int d5) := Has.at HH232 hin232 rfl
                    obtain ⟨cl233, Ar233, q233, S233, M233, HH233, GG233⟩ := id V230
                    have hin233 : ¬ ((5 : Int32) < 0 ∨ cl233.slots.size ≤ ((5 : Int32)).toNatClampNeg) := inb_of S233 ⟨by decide, by decide⟩
                    obtain ⟨T234, h234, X234, e234, W234, st234⟩ := stC X230 hx hZ e230 Ar233 (j := (5 : Int32)) hin233 (g := (mkF m 350 #[.val (.ref ca), .val (.int nt)] [(.int d5), (.int (5 : Int32)), (.ref b210), (.ref b210), (.ref b208), (.ref b208)])) rfl rfl (hb hby df_350)
                    have CS234 := CHr.wr W234 (own_safeArv hZ.alike V230 (by decide)) CR230.1
                    have CR234 := CR230.trans CS234
                    have hk234 : _ ≤ h234.size := Nat.le_trans hk230 (Nat.le_of_eq W234.size.symm)
                    have N234 := Fr.snoc X234 N230 ge_b210
                    have Z234 : n0 ≤ h234.size := by rw [W234.size]; exact Z230
                    have K234 : Keep h0 h234 [] := (K230.wr W234 (Or.inr sz_b210))
                    have V234 := Arv.set Ar233 q233 S233 M233 HH233 GG233 (fits_nar_char _) W234 5 rfl (Nat.le_of_ble_eq_true rfl)
                    have f235 := (f231.other W234 ne_ca_b210)
                    obtain ⟨cl236, Ar236, q236, S236, M236, HH236, GG236⟩ := id f235
                    have hin236 : ¬ ((6 : Int32) < 0 ∨ cl236.slots.size ≤ ((6 : Int32)).toNatClampNeg) := inb_of S236 ⟨by decide, by decide⟩
                    have hat236 : cl236.slots[((6 : Int32)).toNatClampNeg]? = some (.int d6) := Has.at HH236 hin236 rfl
                    obtain ⟨cl237, Ar237, q237, S237, M237, HH237, GG237⟩ := id V234
                    have hin237 : ¬ ((6 : Int32) < 0 ∨ cl237.slots.size ≤ ((6 : Int32)).toNatClampNeg) := inb_of S237 ⟨by decide, by decide⟩
                    obtain ⟨T238, h238, X238, e238, W238, st238⟩ := stC X234 hx hZ e234 Ar237 (j := (6 : Int32)) hin237 (g := (mkF m 358 #[.val (.ref ca), .val (.int nt)] [(.int d6), (.int (6 : Int32)), (.ref b210), (.ref b210), (.ref b208), (.ref b208)])) rfl rfl (hb hby df_358)
                    have CS238 := CHr.wr W238 (own_safeArv hZ.alike V234 (by decide)) CR234.1
                    have CR238 := CR234.trans CS238
                    have hk238 : _ ≤ h238.size := Nat.le_trans hk234 (Nat.le_of_eq W238.size.symm)
                    have N238 := Fr.snoc X238 N234 ge_b210
                    have Z238 : n0 ≤ h238.size := by rw [W238.size]; exact Z234
                    have K238 : Keep h0 h238 [] := (K234.wr W238 (Or.inr sz_b210))
                    have V238 := Arv.set Ar237 q237 S237 M237 HH237 GG237 (fits_nar_char _) W238 6 rfl (Nat.le_of_ble_eq_true rfl)
                    have f239 := (f235.other W238 ne_ca_b210)
                    obtain ⟨cl240, Ar240, q240, S240, M240, HH240, GG240⟩ := id f239
                    have hin240 : ¬ ((7 : Int32) < 0 ∨ cl240.slots.size ≤ ((7 : Int32)).toNatClampNeg) := inb_of S240 ⟨by decide, by decide⟩
                    have hat240 : cl240.slots[((7 : Int32)).toNatClampNeg]? = some (.int d7) := Has.at HH240 hin240 rfl
                    obtain ⟨cl241, Ar241, q241, S241, M241, HH241, GG241⟩ := id V238
                    have hin241 : ¬ ((7 : Int32) < 0 ∨ cl241.slots.size ≤ ((7 : Int32)).toNatClampNeg) := inb_of S241 ⟨by decide, by decide⟩
                    obtain ⟨T242, h242, X242, e242, W242, st242⟩ := stC X238 hx hZ e238 Ar241 (j := (7 : Int32)) hin241 (g := (mkF m 366 #[.val (.ref ca), .val (.int nt)] [(.int d7), (.int (7 : Int32)), (.ref b210), (.ref b210), (.ref b208), (.ref b208)])) rfl rfl (hb hby df_366)
                    have CS242 := CHr.wr W242 (own_safeArv hZ.alike V238 (by decide)) CR238.1
                    have CR242 := CR238.trans CS242
                    have hk242 : _ ≤ h242.size := Nat.le_trans hk238 (Nat.le_of_eq W242.size.symm)
                    have N242 := Fr.snoc X242 N238 ge_b210
                    have Z242 : n0 ≤ h242.size := by rw [W242.size]; exact Z238
                    have K242 : Keep h0 h242 [] := (K238.wr W242 (Or.inr sz_b210))
                    have V242 := Arv.set Ar241 q241 S241 M241 HH241 GG241 (fits_nar_char _) W242 7 rfl (Nat.le_of_ble_eq_true rfl)
                    have hp243 : ∀ c ∈ ([(nar .char d0), (nar .char d1), (nar .char d2), (nar .char d3), (nar .char d4), (nar .char d5), (nar .char d6), (nar .char d7)] : List Int32), ¬ c < 0 ∧ ¬ (255 : Int32) < c := by
                      intro c hc
                      simp only [List.mem_cons, List.not_mem_nil, or_false] at hc
                      rcases hc with rfl | rfl | rfl | rfl | rfl | rfl | rfl | rfl
                      · exact (own_narc B_d0)
                      · exact (own_narc B_d1)
                      · exact (own_narc B_d2)
                      · exact (own_narc B_d3)
                      · exact (own_narc B_d4)
                      · exact (own_narc B_d5)
                      · exact (own_narc B_d6)
                      · exact (own_narc B_d7)
                    have f244 := (((((((((A208.ext E210).wr W214).wr W218).wr W222).wr W226).wr W230).wr W234).wr W238).wr W242)
                    have f245 := (((((((((F208_value.ext E210).other W214 (Or.inl ne_b208_b210)).other W218 (Or.inl ne_b208_b210)).other W222 (Or.inl ne_b208_b210)).other W226 (Or.inl ne_b208_b210)).other W230 (Or.inl ne_b208_b210)).other W234 (Or.inl ne_b208_b210)).other W238 (Or.inl ne_b208_b210)).other W242 (Or.inl ne_b208_b210))
                    have f246 := (((((((((F208_coder.ext E210).other W214 (Or.inl ne_b208_b210)).other W218 (Or.inl ne_b208_b210)).other W222 (Or.inl ne_b208_b210)).other W226 (Or.inl ne_b208_b210)).other W230 (Or.inl ne_b208_b210)).other W234 (Or.inl ne_b208_b210)).other W238 (Or.inl ne_b208_b210)).other W242 (Or.inl ne_b208_b210))
                    have f247 := ((((((((((X00.ext E208).ext E210).wr W214 ge_b210).wr W218 ge_b210).wr W222 ge_b210).wr W226 ge_b210).wr W230 ge_b210).wr W234 ge_b210).wr W238 ge_b210).wr W242 ge_b210)
                    have f248 := (f239.other W242 ne_ca_b210)
                    obtain ⟨_, _, ⟨T249, L249, kc249, ks249⟩, -, X249, ⟨Lc249, hQ249, l249, y249, z249⟩, st249⟩ := X242.specialBack hx (y := mn3) rfl hown (mvT hZ (wd8 hw)) (mvT hZ (wd9 hw)) (mvT hZ (wd10 hw)) (by decide) (StrChars.Road.backV (W := 1) hZ (own_hws hw) (kI := 4) (wd6 hw) (cs := ([(nar .char d0), (nar .char d1), (nar .char d2), (nar .char d3), (nar .char d4), (nar .char d5), (nar .char d6), (nar .char d7)] : List Int32)) (bs := ([(nar .char d0), (nar .char d1), (nar .char d2), (nar .char d3), (nar .char d4), (nar .char d5), (nar .char d6), (nar .char d7)] : List Int32).map (fun c => c.toInt8.toInt32)) (n := 8) ge_b208 Z242 f244 f245 f246 V242 (O2.ext f247.2) P5 rfl rfl (by decide) (by decide) hp243 rfl (by decide) (by decide)) (g := (mkF m 367 #[.val (.ref ca), .val (.int nt)] [(.ref b210), (.ref b208), (.ref b208)])) rfl (by rw [hml]; rfl) (Steps.refl _) (a := b208) (argsL := [(.ref b210)]) (rest := [(.ref b208)]) (lenOf pd___C_V rfl) rfl (by show 2 * 0 + _ ≤ _; exact Nat.le_of_eq rfl) (hb hby df_367) (fun _ _ => ⟨rfl, e242, (by decide : 2 + 1 ≤ _), (by decide : 12 + 8 ≤ _)⟩)
                    dsimp only [Pt.U, Pt.locs, Pt.cells, Pt.slots] at X249 l249 y249 z249 st249 hQ249
                    subst l249 y249 z249
                    obtain ⟨rfl, Nq249, Kq249, gE249, gC249, t249, kb249, gt249, gs249, gn249, gV249, gK249⟩ := hQ249
                    have N249 := Fr.app N242 Nq249
                    have CS249 := CHr.keep Kq249 (allS (CHr.safe ((((((((CS210.trans CS214).trans CS218).trans CS222).trans CS226).trans CS230).trans CS234).trans CS238).trans CS242) A208.lt sf2_b208) all0) CR242.1
                    have CR249 := CR242.trans CS249
                    have hk249 : _ ≤ T249.heap.size := Nat.le_trans hk242 Kq249.1
                    have Z249 : n0 ≤ T249.heap.size := Nat.le_trans Z242 Kq249.1
                    have K249 : Keep h0 T249.heap [] := Keep.trans K242 Kq249 (allS (Or.inr sz_b208) all0)
                    have gL249 : Arv Z T249.heap t249 kb249 .byte (8 : Int32) [(.int (((nar .char d0)).toInt8.toInt32)), (.int (((nar .char d1)).toInt8.toInt32)), (.int (((nar .char d2)).toInt8.toInt32)), (.int (((nar .char d3)).toInt8.toInt32)), (.int (((nar .char d4)).toInt8.toInt32)), (.int (((nar .char d5)).toInt8.toInt32)), (.int (((nar .char d6)).toInt8.toInt32)), (.int (((nar .char d7)).toInt8.toInt32))] (.int (0 : Int32)) := gK249
                    have ne_ca_t249 : ca ≠ t249 := Nat.ne_of_lt (Nat.lt_of_lt_of_le f248.lt gs249)
                    have ne_b208_t249 : b208 ≠ t249 := Nat.ne_of_lt (Nat.lt_of_lt_of_le f244.lt gs249)
                    have ne_b210_t249 : b210 ≠ t249 := Nat.ne_of_lt (Nat.lt_of_lt_of_le V242.lt gs249)
                    have sz_t249 : h0.size ≤ t249 := Nat.le_trans K242.1 gs249
                    obtain ⟨lfs, lhr, lhrun, lhended, lhE⟩ := X249.leaveW hS0 hk249 (v := some (.ref b208)) (fun h => by rw [Bd.returns] at h; cases h)
                    refine ⟨_, _, k206 _ ?_, lhrun, lhended, _, _, rfl, ?_, ?_, lhE.1, lhE.2.1, lhE.2.2.1, lhE.2.2.2.mono (by decide) (by decide)⟩
                    · skip
                      show Steps p.tables e below (s₁.setTop (mkF m 304 #[.val (.ref ca), .val (.int nt)] [(.int (8 : Int32)), (.int nt)])) _
                      refine XS.icmpNo X0.here hx rfl (hb hby df_304) rfl (teq hc207).2 ?_
                      show Steps p.tables e below (s₁.setTop (mkF m 307 #[.val (.ref ca), .val (.int nt)] [])) _
                      refine st208 _ ?_
                      show Steps p.tables e below (T208.setTop (mkF m 310 #[.val (.ref ca), .val (.int nt)] [(.ref b208)])) _
                      refine XS.dup X208.here hx rfl (hb hby df_310) rfl rfl ?_
                      show Steps p.tables e below (T208.setTop (mkF m 311 #[.val (.ref ca), .val (.int nt)] [(.ref b208), (.ref b208)])) _
                      refine XS.bipush X208.here hx rfl (hb hby df_311) ?_
                      show Steps p.tables e below (T208.setTop (mkF m 313 #[.val (.ref ca), .val (.int nt)] [(.int (8 : Int32)), (.ref b208), (.ref b208)])) _
                      refine st210 _ ?_
                      show Steps p.tables e below (T210.setTop (mkF m 315 #[.val (.ref ca), .val (.int nt)] [(.ref b210), (.ref b208), (.ref b208)])) _
                      refine XS.dup X210.here hx rfl (hb hby df_315) rfl rfl ?_
                      show Steps p.tables e below (T210.setTop (mkF m 316 #[.val (.ref ca), .val (.int nt)] [(.ref b210), (.ref b210), (.ref b208), (.ref b208)])) _
                      refine XS.iconst X210.here hx rfl (hb hby df_316) ?_
                      show Steps p.tables e below (T210.setTop (mkF m 317 #[.val (.ref ca), .val (.int nt)] [(.int (0 : Int32)), (.ref b210), (.ref b210), (.ref b208), (.ref b208)])) _
                      refine XS.aloadN X210.here hx rfl (hb hby df_317) rfl rfl ?_
                      show Steps p.tables e below (T210.setTop (mkF m 318 #[.val (.ref ca), .val (.int nt)] [(.ref ca), (.int (0 : Int32)), (.ref b210), (.ref b210), (.ref b208), (.ref b208)])) _
                      refine XS.iconst X210.here hx rfl (hb hby df_318) ?_
                      show Steps p.tables e below (T210.setTop (mkF m 319 #[.val (.ref ca), .val (.int nt)] [(.int (0 : Int32)), (.ref ca), (.int (0 : Int32)), (.ref b210), (.ref b210), (.ref b208), (.ref b208)])) _
                      refine X210.caload hx (j := (0 : Int32)) (v := (.int d0)) (by (try rw [e210]); exact Ar212.1) (State.isArrayOf_alike hZ.alike Ar212.2.1) Ar212.2.2 hin212 hat212 (g := (mkF m 319 #[.val (.ref ca), .val (.int nt)] [(.int (0 : Int32)), (.ref ca), (.int (0 : Int32)), (.ref b210), (.ref b210), (.ref b208), (.ref b208)])) rfl rfl (hb hby df_319) _ ?_
                      show Steps p.tables e below (T210.setTop (mkF m 320 #[.val (.ref ca), .val (.int nt)] [(.int d0), (.int (0 : Int32)), (.ref b210), (.ref b210), (.ref b208), (.ref b208)])) _
                      refine st214 _ ?_
                      show Steps p.tables e below (T214.setTop (mkF m 321 #[.val (.ref ca), .val (.int nt)] [(.ref b210), (.ref b208), (.ref b208)])) _
                      refine XS.dup X214.here hx rfl (hb hby df_321) rfl rfl ?_
                      show Steps p.tables e below (T214.setTop (mkF m 322 #[.val (.ref ca), .val (.int nt)] [(.ref b210), (.ref b210), (.ref b208), (.ref b208)])) _
                      refine XS.iconst X214.here hx rfl (hb hby df_322) ?_
                      show Steps p.tables e below (T214.setTop (mkF m 323 #[.val (.ref ca), .val (.int nt)] [(.int (1 : Int32)), (.ref b210), (.ref b210), (.ref b208), (.ref b208)])) _
                      refine XS.aloadN X214.here hx rfl (hb hby df_323) rfl rfl ?_
                      show Steps p.tables e below (T214.setTop (mkF m 324 #[.val (.ref ca), .val (.int nt)] [(.ref ca), (.int (1 : Int32)), (.ref b210), (.ref b210), (.ref b208), (.ref b208)])) _
                      refine XS.iconst X214.here hx rfl (hb hby df_324) ?_
                      show Steps p.tables e below (T214.setTop (mkF m 325 #[.val (.ref ca), .val (.int nt)] [(.int (1 : Int32)), (.ref ca), (.int (1 : Int32)), (.ref b210), (.ref b210), (.ref b208), (.ref b208)])) _
                      refine X214.caload hx (j := (1 : Int32)) (v := (.int d1)) (by (try rw [e214]); exact Ar216.1) (State.isArrayOf_alike hZ.alike Ar216.2.1) Ar216.2.2 hin216 hat216 (g := (mkF m 325 #[.val (.ref ca), .val (.int nt)] [(.int (1 : Int32)), (.ref ca), (.int (1 : Int32)), (.ref b210), (.ref b210), (.ref b208), (.ref b208)])) rfl rfl (hb hby df_325) _ ?_
                      show Steps p.tables e below (T214.setTop (mkF m 326 #[.val (.ref ca), .val (.int nt)] [(.int d1), (.int (1 : Int32)), (.ref b210), (.ref b210), (.ref b208), (.ref b208)])) _
                      refine st218 _ ?_
                      show Steps p.tables e below (T218.setTop (mkF m 327 #[.val (.ref ca), .val (.int nt)] [(.ref b210), (.ref b208), (.ref b208)])) _
                      refine XS.dup X218.here hx rfl (hb hby df_327) rfl rfl ?_
                      show Steps p.tables e below (T218.setTop (mkF m 328 #[.val (.ref ca), .val (.int nt)] [(.ref b210), (.ref b210), (.ref b208), (.ref b208)])) _
                      refine XS.iconst X218.here hx rfl (hb hby df_328) ?_
                      show Steps p.tables e below (T218.setTop (mkF m 329 #[.val (.ref ca), .val (.int nt)] [(.int (2 : Int32)), (.ref b210), (.ref b210), (.ref b208), (.ref b208)])) _
                      refine XS.aloadN X218.here hx rfl (hb hby df_329) rfl rfl ?_
                      show Steps p.tables e below (T218.setTop (mkF m 330 #[.val (.ref ca), .val (.int nt)] [(.ref ca), (.int (2 : Int32)), (.ref b210), (.ref b210), (.ref b208), (.ref b208)])) _
                      refine XS.iconst X218.here hx rfl (hb hby df_330) ?_
                      show Steps p.tables e below (T218.setTop (mkF m 331 #[.val (.ref ca), .val (.int nt)] [(.int (2 : Int32)), (.ref ca), (.int (2 : Int32)), (.ref b210), (.ref b210), (.ref b208), (.ref b208)])) _
                      refine X218.caload hx (j := (2 : Int32)) (v := (.int d2)) (by (try rw [e218]); exact Ar220.1) (State.isArrayOf_alike hZ.alike Ar220.2.1) Ar220.2.2 hin220 hat220 (g := (mkF m 331 #[.val (.ref ca), .val (.int nt)] [(.int (2 : Int32)), (.ref ca), (.int (2 : Int32)), (.ref b210), (.ref b210), (.ref b208), (.ref b208)])) rfl rfl (hb hby df_331) _ ?_
                      show Steps p.tables e below (T218.setTop (mkF m 332 #[.val (.ref ca), .val (.int nt)] [(.int d2), (.int (2 : Int32)), (.ref b210), (.ref b210), (.ref b208), (.ref b208)])) _
                      refine st222 _ ?_
                      show Steps p.tables e below (T222.setTop (mkF m 333 #[.val (.ref ca), .val (.int nt)] [(.ref b210), (.ref b208), (.ref b208)])) _
                      refine XS.dup X222.here hx rfl (hb hby df_333) rfl rfl ?_
                      show Steps p.tables e below (T222.setTop (mkF m 334 #[.val (.ref ca), .val (.int nt)] [(.ref b210), (.ref b210), (.ref b208), (.ref b208)])) _
                      refine XS.iconst X222.here hx rfl (hb hby df_334) ?_
                      show Steps p.tables e below (T222.setTop (mkF m 335 #[.val (.ref ca), .val (.int nt)] [(.int (3 : Int32)), (.ref b210), (.ref b210), (.ref b208), (.ref b208)])) _
                      refine XS.aloadN X222.here hx rfl (hb hby df_335) rfl rfl ?_
                      show Steps p.tables e below (T222.setTop (mkF m 336 #[.val (.ref ca), .val (.int nt)] [(.ref ca), (.int (3 : Int32)), (.ref b210), (.ref b210), (.ref b208), (.ref b208)])) _
                      refine XS.iconst X222.here hx rfl (hb hby df_336) ?_
                      show Steps p.tables e below (T222.setTop (mkF m 337 #[.val (.ref ca), .val (.int nt)] [(.int (3 : Int32)), (.ref ca), (.int (3 : Int32)), (.ref b210), (.ref b210), (.ref b208), (.ref b208)])) _
                      refine X222.caload hx (j := (3 : Int32)) (v := (.int d3)) (by (try rw [e222]); exact Ar224.1) (State.isArrayOf_alike hZ.alike Ar224.2.1) Ar224.2.2 hin224 hat224 (g := (mkF m 337 #[.val (.ref ca), .val (.int nt)] [(.int (3 : Int32)), (.ref ca), (.int (3 : Int32)), (.ref b210), (.ref b210), (.ref b208), (.ref b208)])) rfl rfl (hb hby df_337) _ ?_
                      show Steps p.tables e below (T222.setTop (mkF m 338 #[.val (.ref ca), .val (.int nt)] [(.int d3), (.int (3 : Int32)), (.ref b210), (.ref b210), (.ref b208), (.ref b208)])) _
                      refine st226 _ ?_
                      show Steps p.tables e below (T226.setTop (mkF m 339 #[.val (.ref ca), .val (.int nt)] [(.ref b210), (.ref b208), (.ref b208)])) _
                      refine XS.dup X226.here hx rfl (hb hby df_339) rfl rfl ?_
                      show Steps p.tables e below (T226.setTop (mkF m 340 #[.val (.ref ca), .val (.int nt)] [(.ref b210), (.ref b210), (.ref b208), (.ref b208)])) _
                      refine XS.iconst X226.here hx rfl (hb hby df_340) ?_
                      show Steps p.tables e below (T226.setTop (mkF m 341 #[.val (.ref ca), .val (.int nt)] [(.int (4 : Int32)), (.ref b210), (.ref b210), (.ref b208), (.ref b208)])) _
                      refine XS.aloadN X226.here hx rfl (hb hby df_341) rfl rfl ?_
                      show Steps p.tables e below (T226.setTop (mkF m 342 #[.val (.ref ca), .val (.int nt)] [(.ref ca), (.int (4 : Int32)), (.ref b210), (.ref b210), (.ref b208), (.ref b208)])) _
                      refine XS.iconst X226.here hx rfl (hb hby df_342) ?_
                      show Steps p.tables e below (T226.setTop (mkF m 343 #[.val (.ref ca), .val (.int nt)] [(.int (4 : Int32)), (.ref ca), (.int (4 : Int32)), (.ref b210), (.ref b210), (.ref b208), (.ref b208)])) _
                      refine X226.caload hx (j := (4 : Int32)) (v := (.int d4)) (by (try rw [e226]); exact Ar228.1) (State.isArrayOf_alike hZ.alike Ar228.2.1) Ar228.2.2 hin228 hat228 (g := (mkF m 343 #[.val (.ref ca), .val (.int nt)] [(.int (4 : Int32)), (.ref ca), (.int (4 : Int32)), (.ref b210), (.ref b210), (.ref b208), (.ref b208)])) rfl rfl (hb hby df_343) _ ?_
                      show Steps p.tables e below (T226.setTop (mkF m 344 #[.val (.ref ca), .val (.int nt)] [(.int d4), (.int (4 : Int32)), (.ref b210), (.ref b210), (.ref b208), (.ref b208)])) _
                      refine st230 _ ?_
                      show Steps p.tables e below (T230.setTop (mkF m 345 #[.val (.ref ca), .val (.int nt)] [(.ref b210), (.ref b208), (.ref b208)])) _
                      refine XS.dup X230.here hx rfl (hb hby df_345) rfl rfl ?_
                      show Steps p.tables e below (T230.setTop (mkF m 346 #[.val (.ref ca), .val (.int nt)] [(.ref b210), (.ref b210), (.ref b208), (.ref b208)])) _
                      refine XS.iconst X230.here hx rfl (hb hby df_346) ?_
                      show Steps p.tables e below (T230.setTop (mkF m 347 #[.val (.ref ca), .val (.int nt)] [(.int (5 : Int32)), (.ref b210), (.ref b210), (.ref b208), (.ref b208)])) _
                      refine XS.aloadN X230.here hx rfl (hb hby df_347) rfl rfl ?_
                      show Steps p.tables e below (T230.setTop (mkF m 348 #[.val (.ref ca), .val (.int nt)] [(.ref ca), (.int (5 : Int32)), (.ref b210), (.ref b210), (.ref b208), (.ref b208)])) _
                      refine XS.iconst X230.here hx rfl (hb hby df_348) ?_
                      show Steps p.tables e below (T230.setTop (mkF m 349 #[.val (.ref ca), .val (.int nt)] [(.int (5 : Int32)), (.ref ca), (.int (5 : Int32)), (.ref b210), (.ref b210), (.ref b208), (.ref b208)])) _
                      refine X230.caload hx (j := (5 : Int32)) (v := (.int d5)) (by (try rw [e230]); exact Ar232.1) (State.isArrayOf_alike hZ.alike Ar232.2.1) Ar232.2.2 hin232 hat232 (g := (mkF m 349 #[.val (.ref ca), .val (.int nt)] [(.int (5 : Int32)), (.ref ca), (.int (5 : Int32)), (.ref b210), (.ref b210), (.ref b208), (.ref b208)])) rfl rfl (hb hby df_349) _ ?_
                      show Steps p.tables e below (T230.setTop (mkF m 350 #[.val (.ref ca), .val (.int nt)] [(.int d5), (.int (5 : Int32)), (.ref b210), (.ref b210), (.ref b208), (.ref b208)])) _
                      refine st234 _ ?_
                      show Steps p.tables e below (T234.setTop (mkF m 351 #[.val (.ref ca), .val (.int nt)] [(.ref b210), (.ref b208), (.ref b208)])) _
                      refine XS.dup X234.here hx rfl (hb hby df_351) rfl rfl ?_
                      show Steps p.tables e below (T234.setTop (mkF m 352 #[.val (.ref ca), .val (.int nt)] [(.ref b210), (.ref b210), (.ref b208), (.ref b208)])) _
                      refine XS.bipush X234.here hx rfl (hb hby df_352) ?_
                      show Steps p.tables e below (T234.setTop (mkF m 354 #[.val (.ref ca), .val (.int nt)] [(.int (6 : Int32)), (.ref b210), (.ref b210), (.ref b208), (.ref b208)])) _
                      refine XS.aloadN X234.here hx rfl (hb hby df_354) rfl rfl ?_
                      show Steps p.tables e below (T234.setTop (mkF m 355 #[.val (.ref ca), .val (.int nt)] [(.ref ca), (.int (6 : Int32)), (.ref b210), (.ref b210), (.ref b208), (.ref b208)])) _
                      refine XS.bipush X234.here hx rfl (hb hby df_355) ?_
                      show Steps p.tables e below (T234.setTop (mkF m 357 #[.val (.ref ca), .val (.int nt)] [(.int (6 : Int32)), (.ref ca), (.int (6 : Int32)), (.ref b210), (.ref b210), (.ref b208), (.ref b208)])) _
                      refine X234.caload hx (j := (6 : Int32)) (v := (.int d6)) (by (try rw [e234]); exact Ar236.1) (State.isArrayOf_alike hZ.alike Ar236.2.1) Ar236.2.2 hin236 hat236 (g := (mkF m 357 #[.val (.ref ca), .val (.int nt)] [(.int (6 : Int32)), (.ref ca), (.int (6 : Int32)), (.ref b210), (.ref b210), (.ref b208), (.ref b208)])) rfl rfl (hb hby df_357) _ ?_
                      show Steps p.tables e below (T234.setTop (mkF m 358 #[.val (.ref ca), .val (.int nt)] [(.int d6), (.int (6 : Int32)), (.ref b210), (.ref b210), (.ref b208), (.ref b208)])) _
                      refine st238 _ ?_
                      show Steps p.tables e below (T238.setTop (mkF m 359 #[.val (.ref ca), .val (.int nt)] [(.ref b210), (.ref b208), (.ref b208)])) _
                      refine XS.dup X238.here hx rfl (hb hby df_359) rfl rfl ?_
                      show Steps p.tables e below (T238.setTop (mkF m 360 #[.val (.ref ca), .val (.int nt)] [(.ref b210), (.ref b210), (.ref b208), (.ref b208)])) _
                      refine XS.bipush X238.here hx rfl (hb hby df_360) ?_
                      show Steps p.tables e below (T238.setTop (mkF m 362 #[.val (.ref ca), .val (.int nt)] [(.int (7 : Int32)), (.ref b210), (.ref b210), (.ref b208), (.ref b208)])) _
                      refine XS.aloadN X238.here hx rfl (hb hby df_362) rfl rfl ?_
                      show Steps p.tables e below (T238.setTop (mkF m 363 #[.val (.ref ca), .val (.int nt)] [(.ref ca), (.int (7 : Int32)), (.ref b210), (.ref b210), (.ref b208), (.ref b208)])) _
                      refine XS.bipush X238.here hx rfl (hb hby df_363) ?_
                      show Steps p.tables e below (T238.setTop (mkF m 365 #[.val (.ref ca), .val (.int nt)] [(.int (7 : Int32)), (.ref ca), (.int (7 : Int32)), (.ref b210), (.ref b210), (.ref b208), (.ref b208)])) _
                      refine X238.caload hx (j := (7 : Int32)) (v := (.int d7)) (by (try rw [e238]); exact Ar240.1) (State.isArrayOf_alike hZ.alike Ar240.2.1) Ar240.2.2 hin240 hat240 (g := (mkF m 365 #[.val (.ref ca), .val (.int nt)] [(.int (7 : Int32)), (.ref ca), (.int (7 : Int32)), (.ref b210), (.ref b210), (.ref b208), (.ref b208)])) rfl rfl (hb hby df_365) _ ?_
                      show Steps p.tables e below (T238.setTop (mkF m 366 #[.val (.ref ca), .val (.int nt)] [(.int d7), (.int (7 : Int32)), (.ref b210), (.ref b210), (.ref b208), (.ref b208)])) _
                      refine st242 _ ?_
                      show Steps p.tables e below (T242.setTop (mkF m 367 #[.val (.ref ca), .val (.int nt)] [(.ref b210), (.ref b208), (.ref b208)])) _
                      refine st249.trans ?_
                      show Steps p.tables e below (T249.setTop (mkF m 370 #[.val (.ref ca), .val (.int nt)] [(.ref b208)])) _
                      exact retOut X249 hx Bd.returns rfl (Or.inr (Or.inr (Or.inr (Or.inr ⟨rfl, rfl, rfl⟩)))) (hb hby df_370) lhr
                    · skip
                      show QTk Z ca nt kc d0 d1 d2 d3 d4 d5 d6 d7 d8 G1 h0 n0 _ T249.heap _
                      skip
                      have hp250 : ∀ c ∈ ([(nar .char d0), (nar .char d1), (nar .char d2), (nar .char d3), (nar .char d4), (nar .char d5), (nar .char d6), (nar .char d7)] : List Int32), ¬ c < 0 ∧ ¬ (255 : Int32) < c := by
                        intro c hc
                        simp only [List.mem_cons, List.not_mem_nil, or_false] at hc
                        rcases hc with rfl | rfl | rfl | rfl | rfl | rfl | rfl | rfl
                        · exact (own_narc B_d0)
                        · exact (own_narc B_d1)
                        · exact (own_narc B_d2)
                        · exact (own_narc B_d3)
                        · exact (own_narc B_d4)
                        · exact (own_narc B_d5)
                        · exact (own_narc B_d6)
                        · exact (own_narc B_d7)
                      exact ⟨b208, ([(nar .char d0), (nar .char d1), (nar .char d2), (nar .char d3), (nar .char d4), (nar .char d5), (nar .char d6), (nar .char d7)] : List Int32), t249, _, rfl, N249, K249, gE249, gC249, gV249, gL249, hp250, Nat.le_of_ble_eq_true rfl⟩
                    · skip
                      show CHr Z own_EL s.vm s.heap T249.vm T249.heap
                      rw [hh]
                      exact CR249.trans (CHv.at X249 hZ hEL CR249.1)
                  · skip
                    obtain ⟨T251, h251, X251, e251, E251, A251, D251, -, st251⟩ := newO X0 hx hZ hown (wd5 hw) (wd6 hw) (wd7 hw) e0 (g := (mkF m 371 #[.val (.ref ca), .val (.int nt)] [])) rfl (hb hby df_371) (by decide) (by decide)
                    obtain ⟨b251, g251⟩ : ∃ z, z = h0.size := ⟨_, rfl⟩
                    rw [← g251] at A251 D251 st251
                    have ne_ca_b251 : ca ≠ b251 := Nat.ne_of_lt (Nat.lt_of_lt_of_le V_a.lt (Nat.le_of_eq g251.symm))
                    have ge_b251 : n0 ≤ b251 := Nat.le_trans Z0 (Nat.le_of_eq g251.symm)
                    have sz_b251 : h0.size ≤ b251 := Nat.le_trans (Nat.le_refl _) (Nat.le_of_eq g251.symm)
                    have sf_b251 : Safe Z own_EL s.vm h0 b251 := Safe.new (Nat.le_of_eq g251.symm)
                    have sf2_b251 : Safe Z own_EL s.vm h251 b251 := sf_b251.ext E251 CR0.1
                    have CS251 := CHr.ext E251 CR0.1
                    have CR251 := CR0.trans CS251
                    have hk251 : _ ≤ h251.size := Nat.le_trans hk0 E251.1
                    have Z251 : n0 ≤ h251.size := Nat.le_trans Z0 E251.1
                    have K251 : Keep h0 h251 [] := ((Keep.refl h0 []).ext E251)
                    have F251_coder : Fld Z h251 b251 "java/lang/String" "coder" "B" (.int (0 : Int32)) := D251 (Or.inr (wd31 hw)) (ty := .byte) (by decide)
                    have F251_value : Fld Z h251 b251 "java/lang/String" "value" "[B" .null := D251 (Or.inr (wd33 hw)) (ty := (.array .byte)) (by decide)
                    have f252 := (V_a.ext E251)
                    obtain ⟨T253, h253, kk253, X253, e253, E253, A253, st253⟩ := newP X251 hx hZ (aty := .char) (wd0 hw) e251 (g := (mkF m 377 #[.val (.ref ca), .val (.int nt)] [(.int (9 : Int32)), (.ref b251), (.ref b251)])) rfl (hb hby df_377) rfl (by decide) (cap := 9) (by decide) (by decide) (by decide) (by decide)
                    obtain ⟨b253, g253⟩ : ∃ z, z = h251.size := ⟨_, rfl⟩
                    rw [← g253] at A253 st253
                    have ne_ca_b253 : ca ≠ b253 := Nat.ne_of_lt (Nat.lt_of_lt_of_le f252.lt (Nat.le_of_eq g253.symm))
                    have ne_b251_b253 : b251 ≠ b253 := Nat.ne_of_lt (Nat.lt_of_lt_of_le A251.lt (Nat.le_of_eq g253.symm))
                    have ge_b253 : n0 ≤ b253 := Nat.le_trans Z251 (Nat.le_of_eq g253.symm)
                    have sz_b253 : h0.size ≤ b253 := Nat.le_trans K251.1 (Nat.le_of_eq g253.symm)
                    have CS253 := CHr.ext E253 CR251.1
                    have CR253 := CR251.trans CS253
                    have hk253 : _ ≤ h253.size := Nat.le_trans hk251 E253.1
                    have Z253 : n0 ≤ h253.size := Nat.le_trans Z251 E253.1
                    have K253 : Keep h0 h253 [] := (K251.ext E253)
                    have V253 : Arv Z h253 b253 kk253 .char (9 : Int32) [(.int (0 : Int32)), (.int (0 : Int32)), (.int (0 : Int32)), (.int (0 : Int32)), (.int (0 : Int32)), (.int (0 : Int32)), (.int (0 : Int32)), (.int (0 : Int32)), (.int (0 : Int32))] (.int (0 : Int32)) := (Arv.new A253 (by decide)).pad (pad_rep [] (.int (0 : Int32)) 9)
                    have f254 := (f252.ext E253)
                    obtain ⟨cl255, Ar255, q255, S255, M255, HH255, GG255⟩ := id f254
                    have hin255 : ¬ ((0 : Int32) < 0 ∨ cl255.slots.size ≤ ((0 : Int32)).toNatClampNeg) := inb_of S255 ⟨by decide, by decide⟩
                    have hat255 : cl255.slots[((0 : Int32)).toNatClampNeg]? = some (.int d0) := Has.at HH255 hin255 rfl
                    obtain ⟨cl256, Ar256, q256, S256, M256, HH256, GG256⟩ := id V253
                    have hin256 : ¬ ((0 : Int32) < 0 ∨ cl256.slots.size ≤ ((0 : Int32)).toNatClampNeg) := inb_of S256 ⟨by decide, by decide⟩
                    obtain ⟨T257, h257, X257, e257, W257, st257⟩ := stC X253 hx hZ e253 Ar256 (j := (0 : Int32)) hin256 (g := (mkF m 384 #[.val (.ref ca), .val (.int nt)] [(.int d0), (.int (0 : Int32)), (.ref b253), (.ref b253), (.ref b251), (.ref b251)])) rfl rfl (hb hby df_384)
                    have CS257 := CHr.wr W257 (own_safeArv hZ.alike V253 (by decide)) CR253.1
                    have CR257 := CR253.trans CS257
                    have hk257 : _ ≤ h257.size := Nat.le_trans hk253 (Nat.le_of_eq W257.size.symm)
                    have N257 := Fr.snoc X257 N0 ge_b253
                    have Z257 : n0 ≤ h257.size := by rw [W257.size]; exact Z253
                    have K257 : Keep h0 h257 [] := (K253.wr W257 (Or.inr sz_b253))
                    have V257 := Arv.set Ar256 q256 S256 M256 HH256 GG256 (fits_nar_char _) W257 0 rfl (Nat.le_of_ble_eq_true rfl)
                    have f258 := (f254.other W257 ne_ca_b253)
                    obtain ⟨cl259, Ar259, q259, S259, M259, HH259, GG259⟩ := id f258
                    have hin259 : ¬ ((1 : Int32) < 0 ∨ cl259.slots.size ≤ ((1 : Int32)).toNatClampNeg) := inb_of S259 ⟨by decide, by decide⟩
                    have hat259 : cl259.slots[((1 : Int32)).toNatClampNeg]? = some (.int d1) := Has.at HH259 hin259 rfl
                    obtain ⟨cl260, Ar260, q260, S260, M260, HH260, GG260⟩ := id V257
                    have hin260 : ¬ ((1 : Int32) < 0 ∨ cl260.slots.size ≤ ((1 : Int32)).toNatClampNeg) := inb_of S260 ⟨by decide, by decide⟩
                    obtain ⟨T261, h261, X261, e261, W261, st261⟩ := stC X257 hx hZ e257 Ar260 (j := (1 : Int32)) hin260 (g := (mkF m 390 #[.val (.ref ca), .val (.int nt)] [(.int d1), (.int (1 : Int32)), (.ref b253), (.ref b253), (.ref b251), (.ref b251)])) rfl rfl (hb hby df_390)
                    have CS261 := CHr.wr W261 (own_safeArv hZ.alike V257 (by decide)) CR257.1
                    have CR261 := CR257.trans CS261
                    have hk261 : _ ≤ h261.size := Nat.le_trans hk257 (Nat.le_of_eq W261.size.symm)
                    have N261 := Fr.snoc X261 N257 ge_b253
                    have Z261 : n0 ≤ h261.size := by rw [W261.size]; exact Z257
                    have K261 : Keep h0 h261 [] := (K257.wr W261 (Or.inr sz_b253))
                    have V261 := Arv.set Ar260 q260 S260 M260 HH260 GG260 (fits_nar_char _) W261 1 rfl (Nat.le_of_ble_eq_true rfl)
                    have f262 := (f258.other W261 ne_ca_b253)
                    obtain ⟨cl263, Ar263, q263, S263, M263, HH263, GG263⟩ := id f262
                    have hin263 : ¬ ((2 : Int32) < 0 ∨ cl263.slots.size ≤ ((2 : Int32)).toNatClampNeg) := inb_of S263 ⟨by decide, by decide⟩
                    have hat263 : cl263.slots[((2 : Int32)).toNatClampNeg]? = some (.int d2) := Has.at HH263 hin263 rfl
                    obtain ⟨cl264, Ar264, q264, S264, M264, HH264, GG264⟩ := id V261
                    have hin264 : ¬ ((2 : Int32) < 0 ∨ cl264.slots.size ≤ ((2 : Int32)).toNatClampNeg) := inb_of S264 ⟨by decide, by decide⟩
                    obtain ⟨T265, h265, X265, e265, W265, st265⟩ := stC X261 hx hZ e261 Ar264 (j := (2 : Int32)) hin264 (g := (mkF m 396 #[.val (.ref ca), .val (.int nt)] [(.int d2), (.int (2 : Int32)), (.ref b253), (.ref b253), (.ref b251), (.ref b251)])) rfl rfl (hb hby df_396)
                    have CS265 := CHr.wr W265 (own_safeArv hZ.alike V261 (by decide)) CR261.1
                    have CR265 := CR261.trans CS265
                    have hk265 : _ ≤ h265.size := Nat.le_trans hk261 (Nat.le_of_eq W265.size.symm)
                    have N265 := Fr.snoc X265 N261 ge_b253
                    have Z265 : n0 ≤ h265.size := by rw [W265.size]; exact Z261
                    have K265 : Keep h0 h265 [] := (K261.wr W265 (Or.inr sz_b253))
                    have V265 := Arv.set Ar264 q264 S264 M264 HH264 GG264 (fits_nar_char _) W265 2 rfl (Nat.le_of_ble_eq_true rfl)
                    have f266 := (f262.other W265 ne_ca_b253)
                    obtain ⟨cl267, Ar267, q267, S267, M267, HH267, GG267⟩ := id f266
                    have hin267 : ¬ ((3 : Int32) < 0 ∨ cl267.slots.size ≤ ((3 : Int32)).toNatClampNeg) := inb_of S267 ⟨by decide, by decide⟩
                    have hat267 : cl267.slots[((3 : Int32)).toNatClampNeg]? = some (.int d3) := Has.at HH267 hin267 rfl
                    obtain ⟨cl268, Ar268, q268, S268, M268, HH268, GG268⟩ := id V265
                    have hin268 : ¬ ((3 : Int32) < 0 ∨ cl268.slots.size ≤ ((3 : Int32)).toNatClampNeg) := inb_of S268 ⟨by decide, by decide⟩
                    obtain ⟨T269, h269, X269, e269, W269, st269⟩ := stC X265 hx hZ e265 Ar268 (j := (3 : Int32)) hin268 (g := (mkF m 402 #[.val (.ref ca), .val (.int nt)] [(.int d3), (.int (3 : Int32)), (.ref b253), (.ref b253), (.ref b251), (.ref b251)])) rfl rfl (hb hby df_402)
                    have CS269 := CHr.wr W269 (own_safeArv hZ.alike V265 (by decide)) CR265.1
                    have CR269 := CR265.trans CS269
                    have hk269 : _ ≤ h269.size := Nat.le_trans hk265 (Nat.le_of_eq W269.size.symm)
                    have N269 := Fr.snoc X269 N265 ge_b253
                    have Z269 : n0 ≤ h269.size := by rw [W269.size]; exact Z265
                    have K269 : Keep h0 h269 [] := (K265.wr W269 (Or.inr sz_b253))
                    have V269 := Arv.set Ar268 q268 S268 M268 HH268 GG268 (fits_nar_char _) W269 3 rfl (Nat.le_of_ble_eq_true rfl)
                    have f270 := (f266.other W269 ne_ca_b253)
                    obtain ⟨cl271, Ar271, q271, S271, M271, HH271, GG271⟩ := id f270
                    have hin271 : ¬ ((4 : Int32) < 0 ∨ cl271.slots.size ≤ ((4 : Int32)).toNatClampNeg) := inb_of S271 ⟨by decide, by decide⟩
                    have hat271 : cl271.slots[((4 : Int32)).toNatClampNeg]? = some (.int d4) := Has.at HH271 hin271 rfl
                    obtain ⟨cl272, Ar272, q272, S272, M272, HH272, GG272⟩ := id V269
                    have hin272 : ¬ ((4 : Int32) < 0 ∨ cl272.slots.size ≤ ((4 : Int32)).toNatClampNeg) := inb_of S272 ⟨by decide, by decide⟩
                    obtain ⟨T273, h273, X273, e273, W273, st273⟩ := stC X269 hx hZ e269 Ar272 (j := (4 : Int32)) hin272 (g := (mkF m 408 #[.val (.ref ca), .val (.int nt)] [(.int d4), (.int (4 : Int32)), (.ref b253), (.ref b253), (.ref b251), (.ref b251)])) rfl rfl (hb hby df_408)
                    have CS273 := CHr.wr W273 (own_safeArv hZ.alike V269 (by decide)) CR269.1
                    have CR273 := CR269.trans CS273
                    have hk273 : _ ≤ h273.size := Nat.le_trans hk269 (Nat.le_of_eq W273.size.symm)
                    have N273 := Fr.snoc X273 N269 ge_b253
                    have Z273 : n0 ≤ h273.size := by rw [W273.size]; exact Z269
                    have K273 : Keep h0 h273 [] := (K269.wr W273 (Or.inr sz_b253))
                    have V273 := Arv.set Ar272 q272 S272 M272 HH272 GG272 (fits_nar_char _) W273 4 rfl (Nat.le_of_ble_eq_true rfl)
                    have f274 := (f270.other W273 ne_ca_b253)
                    obtain ⟨cl275, Ar275, q275, S275, M275, HH275, GG275⟩ := id f274
                    have hin275 : ¬ ((5 : Int32) < 0 ∨ cl275.slots.size ≤ ((5 : Int32)).toNatClampNeg) := inb_of S275 ⟨by decide, by decide⟩
                    have hat275 : cl275.slots[((5 : Int32)).toNatClampNeg]? = some (.int d5) := Has.at HH275 hin275 rfl
                    obtain ⟨cl276, Ar276, q276, S276, M276, HH276, GG276⟩ := id V273
                    have hin276 : ¬ ((5 : Int32) < 0 ∨ cl276.slots.size ≤ ((5 : Int32)).toNatClampNeg) := inb_of S276 ⟨by decide, by decide⟩
                    obtain ⟨T277, h277, X277, e277, W277, st277⟩ := stC X273 hx hZ e273 Ar276 (j := (5 : Int32)) hin276 (g := (mkF m 414 #[.val (.ref ca), .val (.int nt)] [(.int d5), (.int (5 : Int32)), (.ref b253), (.ref b253), (.ref b251), (.ref b251)])) rfl rfl (hb hby df_414)
                    have CS277 := CHr.wr W277 (own_safeArv hZ.alike V273 (by decide)) CR273.1
                    have CR277 := CR273.trans CS277
                    have hk277 : _ ≤ h277.size := Nat.le_trans hk273 (Nat.le_of_eq W277.size.symm)
                    have N277 := Fr.snoc X277 N273 ge_b253
                    have Z277 : n0 ≤ h277.size := by rw [W277.size]; exact Z273
                    have K277 : Keep h0 h277 [] := (K273.wr W277 (Or.inr sz_b253))
                    have V277 := Arv.set Ar276 q276 S276 M276 HH276 GG276 (fits_nar_char _) W277 5 rfl (Nat.le_of_ble_eq_true rfl)
                    have f278 := (f274.other W277 ne_ca_b253)
                    obtain ⟨cl279, Ar279, q279, S279, M279, HH279, GG279⟩ := id f278
                    have hin279 : ¬ ((6 : Int32) < 0 ∨ cl279.slots.size ≤ ((6 : Int32)).toNatClampNeg) := inb_of S279 ⟨by decide, by decide⟩
                    have hat279 : cl279.slots[((6 : Int32)).toNatClampNeg]? = some (.int d6) := Has.at HH279 hin279 rfl
                    obtain ⟨cl280, Ar280, q280, S280, M280, HH280, GG280⟩ := id V277
                    have hin280 : ¬ ((6 : Int32) < 0 ∨ cl280.slots.size ≤ ((6 : Int32)).toNatClampNeg) := inb_of S280 ⟨by decide, by decide⟩
                    obtain ⟨T281, h281, X281, e281, W281, st281⟩ := stC X277 hx hZ e277 Ar280 (j := (6 : Int32)) hin280 (g := (mkF m 422 #[.val (.ref ca), .val (.int nt)] [(.int d6), (.int (6 : Int32)), (.ref b253), (.ref b253), (.ref b251), (.ref b251)])) rfl rfl (hb hby df_422)
                    have CS281 := CHr.wr W281 (own_safeArv hZ.alike V277 (by decide)) CR277.1
                    have CR281 := CR277.trans CS281
                    have hk281 : _ ≤ h281.size := Nat.le_trans hk277 (Nat.le_of_eq W281.size.symm)
                    have N281 := Fr.snoc X281 N277 ge_b253
                    have Z281 : n0 ≤ h281.size := by rw [W281.size]; exact Z277
                    have K281 : Keep h0 h281 [] := (K277.wr W281 (Or.inr sz_b253))
                    have V281 := Arv.set Ar280 q280 S280 M280 HH280 GG280 (fits_nar_char _) W281 6 rfl (Nat.le_of_ble_eq_true rfl)
                    have f282 := (f278.other W281 ne_ca_b253)
                    obtain ⟨cl283, Ar283, q283, S283, M283, HH283, GG283⟩ := id f282
                    have hin283 : ¬ ((7 : Int32) < 0 ∨ cl283.slots.size ≤ ((7 : Int32)).toNatClampNeg) := inb_of S283 ⟨by decide, by decide⟩
                    have hat283 : cl283.slots[((7 : Int32)).toNatClampNeg]? = some (.int d7) := Has.at HH283 hin283 rfl
                    obtain ⟨cl284, Ar284, q284, S284, M284, HH284, GG284⟩ := id V281
                    have hin284 : ¬ ((7 : Int32) < 0 ∨ cl284.slots.size ≤ ((7 : Int32)).toNatClampNeg) := inb_of S284 ⟨by decide, by decide⟩
                    obtain ⟨T285, h285, X285, e285, W285, st285⟩ := stC X281 hx hZ e281 Ar284 (j := (7 : Int32)) hin284 (g := (mkF m 430 #[.val (.ref ca), .val (.int nt)] [(.int d7), (.int (7 : Int32)), (.ref b253), (.ref b253), (.ref b251), (.ref b251)])) rfl rfl (hb hby df_430)
                    have CS285 := CHr.wr W285 (own_safeArv hZ.alike V281 (by decide)) CR281.1
                    have CR285 := CR281.trans CS285
                    have hk285 : _ ≤ h285.size := Nat.le_trans hk281 (Nat.le_of_eq W285.size.symm)
                    have N285 := Fr.snoc X285 N281 ge_b253
                    have Z285 : n0 ≤ h285.size := by rw [W285.size]; exact Z281
                    have K285 : Keep h0 h285 [] := (K281.wr W285 (Or.inr sz_b253))
                    have V285 := Arv.set Ar284 q284 S284 M284 HH284 GG284 (fits_nar_char _) W285 7 rfl (Nat.le_of_ble_eq_true rfl)
                    have f286 := (f282.other W285 ne_ca_b253)
                    obtain ⟨cl287, Ar287, q287, S287, M287, HH287, GG287⟩ := id f286
                    have hin287 : ¬ ((8 : Int32) < 0 ∨ cl287.slots.size ≤ ((8 : Int32)).toNatClampNeg) := inb_of S287 ⟨by decide, by decide⟩
                    have hat287 : cl287.slots[((8 : Int32)).toNatClampNeg]? = some (.int d8) := Has.at HH287 hin287 rfl
                    obtain ⟨cl288, Ar288, q288, S288, M288, HH288, GG288⟩ := id V285
                    have hin288 : ¬ ((8 : Int32) < 0 ∨ cl288.slots.size ≤ ((8 : Int32)).toNatClampNeg) := inb_of S288 ⟨by decide, by decide⟩
                    obtain ⟨T289, h289, X289, e289, W289, st289⟩ := stC X285 hx hZ e285 Ar288 (j := (8 : Int32)) hin288 (g := (mkF m 438 #[.val (.ref ca), .val (.int nt)] [(.int d8), (.int (8 : Int32)), (.ref b253), (.ref b253), (.ref b251), (.ref b251)])) rfl rfl (hb hby df_438)
                    have CS289 := CHr.wr W289 (own_safeArv hZ.alike V285 (by decide)) CR285.1
                    have CR289 := CR285.trans CS289
                    have hk289 : _ ≤ h289.size := Nat.le_trans hk285 (Nat.le_of_eq W289.size.symm)
                    have N289 := Fr.snoc X289 N285 ge_b253
                    have Z289 : n0 ≤ h289.size := by rw [W289.size]; exact Z285
                    have K289 : Keep h0 h289 [] := (K285.wr W289 (Or.inr sz_b253))
                    have V289 := Arv.set Ar288 q288 S288 M288 HH288 GG288 (fits_nar_char _) W289 8 rfl (Nat.le_of_ble_eq_true rfl)
                    have hp290 : ∀ c ∈ ([(nar .char d0), (nar .char d1), (nar .char d2), (nar .char d3), (nar .char d4), (nar .char d5), (nar .char d6), (nar .char d7), (nar .char d8)] : List Int32), ¬ c < 0 ∧ ¬ (255 : Int32) < c := by
                      intro c hc
                      simp only [List.mem_cons, List.not_mem_nil, or_false] at hc
                      rcases hc with rfl | rfl | rfl | rfl | rfl | rfl | rfl | rfl | rfl
                      · exact (own_narc B_d0)
                      · exact (own_narc B_d1)
                      · exact (own_narc B_d2)
                      · exact (own_narc B_d3)
                      · exact (own_narc B_d4)
                      · exact (own_narc B_d5)
                      · exact (own_narc B_d6)
                      · exact (own_narc B_d7)
                      · exact (own_narc B_d8)
                    have f291 := ((((((((((A251.ext E253).wr W257).wr W261).wr W265).wr W269).wr W273).wr W277).wr W281).wr W285).wr W289)
                    have f292 := ((((((((((F251_value.ext E253).other W257 (Or.inl ne_b251_b253)).other W261 (Or.inl ne_b251_b253)).other W265 (Or.inl ne_b251_b253)).other W269 (Or.inl ne_b251_b253)).other W273 (Or.inl ne_b251_b253)).other W277 (Or.inl ne_b251_b253)).other W281 (Or.inl ne_b251_b253)).other W285 (Or.inl ne_b251_b253)).other W289 (Or.inl ne_b251_b253))
                    have f293 := ((((((((((F251_coder.ext E253).other W257 (Or.inl ne_b251_b253)).other W261 (Or.inl ne_b251_b253)).other W265 (Or.inl ne_b251_b253)).other W269 (Or.inl ne_b251_b253)).other W273 (Or.inl ne_b251_b253)).other W277 (Or.inl ne_b251_b253)).other W281 (Or.inl ne_b251_b253)).other W285 (Or.inl ne_b251_b253)).other W289 (Or.inl ne_b251_b253))
                    have f294 := (((((((((((X00.ext E251).ext E253).wr W257 ge_b253).wr W261 ge_b253).wr W265 ge_b253).wr W269 ge_b253).wr W273 ge_b253).wr W277 ge_b253).wr W281 ge_b253).wr W285 ge_b253).wr W289 ge_b253)
                    have f295 := (f286.other W289 ne_ca_b253)
                    obtain ⟨_, _, ⟨T296, L296, kc296, ks296⟩, -, X296, ⟨Lc296, hQ296, l296, y296, z296⟩, st296⟩ := X289.specialBack hx (y := mn3) rfl hown (mvT hZ (wd8 hw)) (mvT hZ (wd9 hw)) (mvT hZ (wd10 hw)) (by decide) (StrChars.Road.backV (W := 1) hZ (own_hws hw) (kI := 4) (wd6 hw) (cs := ([(nar .char d0), (nar .char d1), (nar .char d2), (nar .char d3), (nar .char d4), (nar .char d5), (nar .char d6), (nar .char d7), (nar .char d8)] : List Int32)) (bs := ([(nar .char d0), (nar .char d1), (nar .char d2), (nar .char d3), (nar .char d4), (nar .char d5), (nar .char d6), (nar .char d7), (nar .char d8)] : List Int32).map (fun c => c.toInt8.toInt32)) (n := 9) ge_b251 Z289 f291 f292 f293 V289 (O2.ext f294.2) P5 rfl rfl (by decide) (by decide) hp290 rfl (by decide) (by decide)) (g := (mkF m 439 #[.val (.ref ca), .val (.int nt)] [(.ref b253), (.ref b251), (.ref b251)])) rfl (by rw [hml]; rfl) (Steps.refl _) (a := b251) (argsL := [(.ref b253)]) (rest := [(.ref b251)]) (lenOf pd___C_V rfl) rfl (by show 2 * 0 + _ ≤ _; exact Nat.le_of_eq rfl) (hb hby df_439) (fun _ _ => ⟨rfl, e289, (by decide : 2 + 1 ≤ _), (by decide : 13 + 9 ≤ _)⟩)
                    dsimp only [Pt.U, Pt.locs, Pt.cells, Pt.slots] at X296 l296 y296 z296 st296 hQ296
                    subst l296 y296 z296
                    obtain ⟨rfl, Nq296, Kq296, gE296, gC296, t296, kb296, gt296, gs296, gn296, gV296, gK296⟩ := hQ296
                    have N296 := Fr.app N289 Nq296
                    have CS296 := CHr.keep Kq296 (allS (CHr.safe (((((((((CS253.trans CS257).trans CS261).trans CS265).trans CS269).trans CS273).trans CS277).trans CS281).trans CS285).trans CS289) A251.lt sf2_b251) all0) CR289.1
                    have CR296 := CR289.trans CS296
                    have hk296 : _ ≤ T296.heap.size := Nat.le_trans hk289 Kq296.1
                    have Z296 : n0 ≤ T296.heap.size := Nat.le_trans Z289 Kq296.1
                    have K296 : Keep h0 T296.heap [] := Keep.trans K289 Kq296 (allS (Or.inr sz_b251) all0)
                    have gL296 : Arv Z T296.heap t296 kb296 .byte (9 : Int32) [(.int (((nar .char d0)).toInt8.toInt32)), (.int (((nar .char d1)).toInt8.toInt32)), (.int (((nar .char d2)).toInt8.toInt32)), (.int (((nar .char d3)).toInt8.toInt32)), (.int (((nar .char d4)).toInt8.toInt32)), (.int (((nar .char d5)).toInt8.toInt32)), (.int (((nar .char d6)).toInt8.toInt32)), (.int (((nar .char d7)).toInt8.toInt32)), (.int (((nar .char d8)).toInt8.toInt32))] (.int (0 : Int32)) := gK296
                    have ne_ca_t296 : ca ≠ t296 := Nat.ne_of_lt (Nat.lt_of_lt_of_le f295.lt gs296)
                    have ne_b251_t296 : b251 ≠ t296 := Nat.ne_of_lt (Nat.lt_of_lt_of_le f291.lt gs296)
                    have ne_b253_t296 : b253 ≠ t296 := Nat.ne_of_lt (Nat.lt_of_lt_of_le V289.lt gs296)
                    have sz_t296 : h0.size ≤ t296 := Nat.le_trans K289.1 gs296
                    obtain ⟨lfs, lhr, lhrun, lhended, lhE⟩ := X296.leaveW hS0 hk296 (v := some (.ref b251)) (fun h => by rw [Bd.returns] at h; cases h)
                    refine ⟨_, _, k206 _ ?_, lhrun, lhended, _, _, rfl, ?_, ?_, lhE.1, lhE.2.1, lhE.2.2.1, lhE.2.2.2.mono (by decide) (by decide)⟩
                    · skip
                      show Steps p.tables e below (s₁.setTop (mkF m 304 #[.val (.ref ca), .val (.int nt)] [(.int (8 : Int32)), (.int nt)])) _
                      refine XS.icmpYes X0.here hx rfl (pc0 := 304) (pc' := 371) rfl (hb hby df_304) rfl (feq hc207).2 (by decide) (by decide) ?_
                      show Steps p.tables e below (s₁.setTop (mkF m 371 #[.val (.ref ca), .val (.int nt)] [])) _
                      refine st251 _ ?_
                      show Steps p.tables e below (T251.setTop (mkF m 374 #[.val (.ref ca), .val (.int nt)] [(.ref b251)])) _
                      refine XS.dup X251.here hx rfl (hb hby df_374) rfl rfl ?_
                      show Steps p.tables e below (T251.setTop (mkF m 375 #[.val (.ref ca), .val (.int nt)] [(.ref b251), (.ref b251)])) _
                      refine XS.bipush X251.here hx rfl (hb hby df_375) ?_
                      show Steps p.tables e below (T251.setTop (mkF m 377 #[.val (.ref ca), .val (.int nt)] [(.int (9 : Int32)), (.ref b251), (.ref b251)])) _
                      refine st253 _ ?_
                      show Steps p.tables e below (T253.setTop (mkF m 379 #[.val (.ref ca), .val (.int nt)] [(.ref b253), (.ref b251), (.ref b251)])) _
                      refine XS.dup X253.here hx rfl (hb hby df_379) rfl rfl ?_
                      show Steps p.tables e below (T253.setTop (mkF m 380 #[.val (.ref ca), .val (.int nt)] [(.ref b253), (.ref b253), (.ref b251), (.ref b251)])) _
                      refine XS.iconst X253.here hx rfl (hb hby df_380) ?_
                      show Steps p.tables e below (T253.setTop (mkF m 381 #[.val (.ref ca), .val (.int nt)] [(.int (0 : Int32)), (.ref b253), (.ref b253), (.ref b251), (.ref b251)])) _
                      refine XS.aloadN X253.here hx rfl (hb hby df_381) rfl rfl ?_
                      show Steps p.tables e below (T253.setTop (mkF m 382 #[.val (.ref ca), .val (.int nt)] [(.ref ca), (.int (0 : Int32)), (.ref b253), (.ref b253), (.ref b251), (.ref b251)])) _
                      refine XS.iconst X253.here hx rfl (hb hby df_382) ?_
                      show Steps p.tables e below (T253.setTop (mkF m 383 #[.val (.ref ca), .val (.int nt)] [(.int (0 : Int32)), (.ref ca), (.int (0 : Int32)), (.ref b253), (.ref b253), (.ref b251), (.ref b251)])) _
                      refine X253.caload hx (j := (0 : Int32)) (v := (.int d0)) (by (try rw [e253]); exact Ar255.1) (State.isArrayOf_alike hZ.alike Ar255.2.1) Ar255.2.2 hin255 hat255 (g := (mkF m 383 #[.val (.ref ca), .val (.int nt)] [(.int (0 : Int32)), (.ref ca), (.int (0 : Int32)), (.ref b253), (.ref b253), (.ref b251), (.ref b251)])) rfl rfl (hb hby df_383) _ ?_
                      show Steps p.tables e below (T253.setTop (mkF m 384 #[.val (.ref ca), .val (.int nt)] [(.int d0), (.int (0 : Int32)), (.ref b253), (.ref b253), (.ref b251), (.ref b251)])) _
                      refine st257 _ ?_
                      show Steps p.tables e below (T257.setTop (mkF m 385 #[.val (.ref ca), .val (.int nt)] [(.ref b253), (.ref b251), (.ref b251)])) _
                      refine XS.dup X257.here hx rfl (hb hby df_385) rfl rfl ?_
                      show Steps p.tables e below (T257.setTop (mkF m 386 #[.val (.ref ca), .val (.int nt)] [(.ref b253), (.ref b253), (.ref b251), (.ref b251)])) _
                      refine XS.iconst X257.here hx rfl (hb hby df_386) ?_
                      show Steps p.tables e below (T257.setTop (mkF m 387 #[.val (.ref ca), .val (.int nt)] [(.int (1 : Int32)), (.ref b253), (.ref b253), (.ref b251), (.ref b251)])) _
                      refine XS.aloadN X257.here hx rfl (hb hby df_387) rfl rfl ?_
                      show Steps p.tables e below (T257.setTop (mkF m 388 #[.val (.ref ca), .val (.int nt)] [(.ref ca), (.int (1 : Int32)), (.ref b253), (.ref b253), (.ref b251), (.ref b251)])) _
                      refine XS.iconst X257.here hx rfl (hb hby df_388) ?_
                      show Steps p.tables e below (T257.setTop (mkF m 389 #[.val (.ref ca), .val (.int nt)] [(.int (1 : Int32)), (.ref ca), (.int (1 : Int32)), (.ref b253), (.ref b253), (.ref b251), (.ref b251)])) _
                      refine X257.caload hx (j := (1 : Int32)) (v := (.int d1)) (by (try rw [e257]); exact Ar259.1) (State.isArrayOf_alike hZ.alike Ar259.2.1) Ar259.2.2 hin259 hat259 (g := (mkF m 389 #[.val (.ref ca), .val (.int nt)] [(.int (1 : Int32)), (.ref ca), (.int (1 : Int32)), (.ref b253), (.ref b253), (.ref b251), (.ref b251)])) rfl rfl (hb hby df_389) _ ?_
                      show Steps p.tables e below (T257.setTop (mkF m 390 #[.val (.ref ca), .val (.int nt)] [(.int d1), (.int (1 : Int32)), (.ref b253), (.ref b253), (.ref b251), (.ref b251)])) _
                      refine st261 _ ?_
                      show Steps p.tables e below (T261.setTop (mkF m 391 #[.val (.ref ca), .val (.int nt)] [(.ref b253), (.ref b251), (.ref b251)])) _
                      refine XS.dup X261.here hx rfl (hb hby df_391) rfl rfl ?_
                      show Steps p.tables e below (T261.setTop (mkF m 392 #[.val (.ref ca), .val (.int nt)] [(.ref b253), (.ref b253), (.ref b251), (.ref b251)])) _
                      refine XS.iconst X261.here hx rfl (hb hby df_392) ?_
                      show Steps p.tables e below (T261.setTop (mkF m 393 #[.val (.ref ca), .val (.int nt)] [(.int (2 : Int32)), (.ref b253), (.ref b253), (.ref b251), (.ref b251)])) _
                      refine XS.aloadN X261.here hx rfl (hb hby df_393) rfl rfl ?_
                      show Steps p.tables e below (T261.setTop (mkF m 394 #[.val (.ref ca), .val (.int nt)] [(.ref ca), (.int (2 : Int32)), (.ref b253), (.ref b253), (.ref b251), (.ref b251)])) _
                      refine XS.iconst X261.here hx rfl (hb hby df_394) ?_
                      show Steps p.tables e below (T261.setTop (mkF m 395 #[.val (.ref ca), .val (.int nt)] [(.int (2 : Int32)), (.ref ca), (.int (2 : Int32)), (.ref b253), (.ref b253), (.ref b251), (.ref b251)])) _
                      refine X261.caload hx (j := (2 : Int32)) (v := (.int d2)) (by (try rw [e261]); exact Ar263.1) (State.isArrayOf_alike hZ.alike Ar263.2.1) Ar263.2.2 hin263 hat263 (g := (mkF m 395 #[.val (.ref ca), .val (.int nt)] [(.int (2 : Int32)), (.ref ca), (.int (2 : Int32)), (.ref b253), (.ref b253), (.ref b251), (.ref b251)])) rfl rfl (hb hby df_395) _ ?_
                      show Steps p.tables e below (T261.setTop (mkF m 396 #[.val (.ref ca), .val (.int nt)] [(.int d2), (.int (2 : Int32)), (.ref b253), (.ref b253), (.ref b251), (.ref b251)])) _
                      refine st265 _ ?_
                      show Steps p.tables e below (T265.setTop (mkF m 397 #[.val (.ref ca), .val (.int nt)] [(.ref b253), (.ref b251), (.ref b251)])) _
                      refine XS.dup X265.here hx rfl (hb hby df_397) rfl rfl ?_
                      show Steps p.tables e below (T265.setTop (mkF m 398 #[.val (.ref ca), .val (.int nt)] [(.ref b253), (.ref b253), (.ref b251), (.ref b251)])) _
                      refine XS.iconst X265.here hx rfl (hb hby df_398) ?_
                      show Steps p.tables e below (T265.setTop (mkF m 399 #[.val (.ref ca), .val (.int nt)] [(.int (3 : Int32)), (.ref b253), (.ref b253), (.ref b251), (.ref b251)])) _
                      refine XS.aloadN X265.here hx rfl (hb hby df_399) rfl rfl ?_
                      show Steps p.tables e below (T265.setTop (mkF m 400 #[.val (.ref ca), .val (.int nt)] [(.ref ca), (.int (3 : Int32)), (.ref b253), (.ref b253), (.ref b251), (.ref b251)])) _
                      refine XS.iconst X265.here hx rfl (hb hby df_400) ?_
                      show Steps p.tables e below (T265.setTop (mkF m 401 #[.val (.ref ca), .val (.int nt)] [(.int (3 : Int32)), (.ref ca), (.int (3 : Int32)), (.ref b253), (.ref b253), (.ref b251), (.ref b251)])) _
                      refine X265.caload hx (j := (3 : Int32)) (v := (.int d3)) (by (try rw [e265]); exact Ar267.1) (State.isArrayOf_alike hZ.alike Ar267.2.1) Ar267.2.2 hin267 hat267 (g := (mkF m 401 #[.val (.ref ca), .val (.int nt)] [(.int (3 : Int32)), (.ref ca), (.int (3 : Int32)), (.ref b253), (.ref b253), (.ref b251), (.ref b251)])) rfl rfl (hb hby df_401) _ ?_
                      show Steps p.tables e below (T265.setTop (mkF m 402 #[.val (.ref ca), .val (.int nt)] [(.int d3), (.int (3 : Int32)), (.ref b253), (.ref b253), (.ref b251), (.ref b251)])) _
                      refine st269 _ ?_
                      show Steps p.tables e below (T269.setTop (mkF m 403 #[.val (.ref ca), .val (.int nt)] [(.ref b253), (.ref b251), (.ref b251)])) _
                      refine XS.dup X269.here hx rfl (hb hby df_403) rfl rfl ?_
                      show Steps p.tables e below (T269.setTop (mkF m 404 #[.val (.ref ca), .val (.int nt)] [(.ref b253), (.ref b253), (.ref b251), (.ref b251)])) _
                      refine XS.iconst X269.here hx rfl (hb hby df_404) ?_
                      show Steps p.tables e below (T269.setTop (mkF m 405 #[.val (.ref ca), .val (.int nt)] [(.int (4 : Int32)), (.ref b253), (.ref b253), (.ref b251), (.ref b251)])) _
                      refine XS.aloadN X269.here hx rfl (hb hby df_405) rfl rfl ?_
                      show Steps p.tables e below (T269.setTop (mkF m 406 #[.val (.ref ca), .val (.int nt)] [(.ref ca), (.int (4 : Int32)), (.ref b253), (.ref b253), (.ref b251), (.ref b251)])) _
                      refine XS.iconst X269.here hx rfl (hb hby df_406) ?_
                      show Steps p.tables e below (T269.setTop (mkF m 407 #[.val (.ref ca), .val (.int nt)] [(.int (4 : Int32)), (.ref ca), (.int (4 : Int32)), (.ref b253), (.ref b253), (.ref b251), (.ref b251)])) _
                      refine X269.caload hx (j := (4 : Int32)) (v := (.int d4)) (by (try rw [e269]); exact Ar271.1) (State.isArrayOf_alike hZ.alike Ar271.2.1) Ar271.2.2 hin271 hat271 (g := (mkF m 407 #[.val (.ref ca), .val (.int nt)] [(.int (4 : Int32)), (.ref ca), (.int (4 : Int32)), (.ref b253), (.ref b253), (.ref b251), (.ref b251)])) rfl rfl (hb hby df_407) _ ?_
                      show Steps p.tables e below (T269.setTop (mkF m 408 #[.val (.ref ca), .val (.int nt)] [(.int d4), (.int (4 : Int32)), (.ref b253), (.ref b253), (.ref b251), (.ref b251)])) _
                      refine st273 _ ?_
                      show Steps p.tables e below (T273.setTop (mkF m 409 #[.val (.ref ca), .val (.int nt)] [(.ref b253), (.ref b251), (.ref b251)])) _
                      refine XS.dup X273.here hx rfl (hb hby df_409) rfl rfl ?_
                      show Steps p.tables e below (T273.setTop (mkF m 410 #[.val (.ref ca), .val (.int nt)] [(.ref b253), (.ref b253), (.ref b251), (.ref b251)])) _
                      refine XS.iconst X273.here hx rfl (hb hby df_410) ?_
                      show Steps p.tables e below (T273.setTop (mkF m 411 #[.val (.ref ca), .val (.int nt)] [(.int (5 : Int32)), (.ref b253), (.ref b253), (.ref b251), (.ref b251)])) _
                      refine XS.aloadN X273.here hx rfl (hb hby df_411) rfl rfl ?_
                      show Steps p.tables e below (T273.setTop (mkF m 412 #[.val (.ref ca), .val (.int nt)] [(.ref ca), (.int (5 : Int32)), (.ref b253), (.ref b253), (.ref b251), (.ref b251)])) _
                      refine XS.iconst X273.here hx rfl (hb hby df_412) ?_
                      show Steps p.tables e below (T273.setTop (mkF m 413 #[.val (.ref ca), .val (.int nt)] [(.int (5 : Int32)), (.ref ca), (.int (5 : Int32)), (.ref b253), (.ref b253), (.ref b251), (.ref b251)])) _
                      refine X273.caload hx (j := (5 : Int32)) (v := (.int d5)) (by (try rw [e273]); exact Ar275.1) (State.isArrayOf_alike hZ.alike Ar275.2.1) Ar275.2.2 hin275 hat275 (g := (mkF m 413 #[.val (.ref ca), .val (.int nt)] [(.int (5 : Int32)), (.ref ca), (.int (5 : Int32)), (.ref b253), (.ref b253), (.ref b251), (.ref b251)])) rfl rfl (hb hby df_413) _ ?_
                      show Steps p.tables e below (T273.setTop (mkF m 414 #[.val (.ref ca), .val (.int nt)] [(.int d5), (.int (5 : Int32)), (.ref b253), (.ref b253), (.ref b251), (.ref b251)])) _
                      refine st277 _ ?_
                      show Steps p.tables e below (T277.setTop (mkF m 415 #[.val (.ref ca), .val (.int nt)] [(.ref b253), (.ref b251), (.ref b251)])) _
                      refine XS.dup X277.here hx rfl (hb hby df_415) rfl rfl ?_
                      show Steps p.tables e below (T277.setTop (mkF m 416 #[.val (.ref ca), .val (.int nt)] [(.ref b253), (.ref b253), (.ref b251), (.ref b251)])) _
                      refine XS.bipush X277.here hx rfl (hb hby df_416) ?_
                      show Steps p.tables e below (T277.setTop (mkF m 418 #[.val (.ref ca), .val (.int nt)] [(.int (6 : Int32)), (.ref b253), (.ref b253), (.ref b251), (.ref b251)])) _
                      refine XS.aloadN X277.here hx rfl (hb hby df_418) rfl rfl ?_
                      show Steps p.tables e below (T277.setTop (mkF m 419 #[.val (.ref ca), .val (.int nt)] [(.ref ca), (.int (6 : Int32)), (.ref b253), (.ref b253), (.ref b251), (.ref b251)])) _
                      refine XS.bipush X277.here hx rfl (hb hby df_419) ?_
                      show Steps p.tables e below (T277.setTop (mkF m 421 #[.val (.ref ca), .val (.int nt)] [(.int (6 : Int32)), (.ref ca), (.int (6 : Int32)), (.ref b253), (.ref b253), (.ref b251), (.ref b251)])) _
                      refine X277.caload hx (j := (6 : Int32)) (v := (.int d6)) (by (try rw [e277]); exact Ar279.1) (State.isArrayOf_alike hZ.alike Ar279.2.1) Ar279.2.2 hin279 hat279 (g := (mkF m 421 #[.val (.ref ca), .val (.int nt)] [(.int (6 : Int32)), (.ref ca), (.int (6 : Int32)), (.ref b253), (.ref b253), (.ref b251), (.ref b251)])) rfl rfl (hb hby df_421) _ ?_
                      show Steps p.tables e below (T277.setTop (mkF m 422 #[.val (.ref ca), .val (.int nt)] [(.int d6), (.int (6 : Int32)), (.ref b253), (.ref b253), (.ref b251), (.ref b251)])) _
                      refine st281 _ ?_
                      show Steps p.tables e below (T281.setTop (mkF m 423 #[.val (.ref ca), .val (.int nt)] [(.ref b253), (.ref b251), (.ref b251)])) _
                      refine XS.dup X281.here hx rfl (hb hby df_423) rfl rfl ?_
                      show Steps p.tables e below (T281.setTop (mkF m 424 #[.val (.ref ca), .val (.int nt)] [(.ref b253), (.ref b253), (.ref b251), (.ref b251)])) _
                      refine XS.bipush X281.here hx rfl (hb hby df_424) ?_
                      show Steps p.tables e below (T281.setTop (mkF m 426 #[.val (.ref ca), .val (.int nt)] [(.int (7 : Int32)), (.ref b253), (.ref b253), (.ref b251), (.ref b251)])) _
                      refine XS.aloadN X281.here hx rfl (hb hby df_426) rfl rfl ?_
                      show Steps p.tables e below (T281.setTop (mkF m 427 #[.val (.ref ca), .val (.int nt)] [(.ref ca), (.int (7 : Int32)), (.ref b253), (.ref b253), (.ref b251), (.ref b251)])) _
                      refine XS.bipush X281.here hx rfl (hb hby df_427) ?_
                      show Steps p.tables e below (T281.setTop (mkF m 429 #[.val (.ref ca), .val (.int nt)] [(.int (7 : Int32)), (.ref ca), (.int (7 : Int32)), (.ref b253), (.ref b253), (.ref b251), (.ref b251)])) _
                      refine X281.caload hx (j := (7 : Int32)) (v := (.int d7)) (by (try rw [e281]); exact Ar283.1) (State.isArrayOf_alike hZ.alike Ar283.2.1) Ar283.2.2 hin283 hat283 (g := (mkF m 429 #[.val (.ref ca), .val (.int nt)] [(.int (7 : Int32)), (.ref ca), (.int (7 : Int32)), (.ref b253), (.ref b253), (.ref b251), (.ref b251)])) rfl rfl (hb hby df_429) _ ?_
                      show Steps p.tables e below (T281.setTop (mkF m 430 #[.val (.ref ca), .val (.int nt)] [(.int d7), (.int (7 : Int32)), (.ref b253), (.ref b253), (.ref b251), (.ref b251)])) _
                      refine st285 _ ?_
                      show Steps p.tables e below (T285.setTop (mkF m 431 #[.val (.ref ca), .val (.int nt)] [(.ref b253), (.ref b251), (.ref b251)])) _
                      refine XS.dup X285.here hx rfl (hb hby df_431) rfl rfl ?_
                      show Steps p.tables e below (T285.setTop (mkF m 432 #[.val (.ref ca), .val (.int nt)] [(.ref b253), (.ref b253), (.ref b251), (.ref b251)])) _
                      refine XS.bipush X285.here hx rfl (hb hby df_432) ?_
                      show Steps p.tables e below (T285.setTop (mkF m 434 #[.val (.ref ca), .val (.int nt)] [(.int (8 : Int32)), (.ref b253), (.ref b253), (.ref b251), (.ref b251)])) _
                      refine XS.aloadN X285.here hx rfl (hb hby df_434) rfl rfl ?_
                      show Steps p.tables e below (T285.setTop (mkF m 435 #[.val (.ref ca), .val (.int nt)] [(.ref ca), (.int (8 : Int32)), (.ref b253), (.ref b253), (.ref b251), (.ref b251)])) _
                      refine XS.bipush X285.here hx rfl (hb hby df_435) ?_
                      show Steps p.tables e below (T285.setTop (mkF m 437 #[.val (.ref ca), .val (.int nt)] [(.int (8 : Int32)), (.ref ca), (.int (8 : Int32)), (.ref b253), (.ref b253), (.ref b251), (.ref b251)])) _
                      refine X285.caload hx (j := (8 : Int32)) (v := (.int d8)) (by (try rw [e285]); exact Ar287.1) (State.isArrayOf_alike hZ.alike Ar287.2.1) Ar287.2.2 hin287 hat287 (g := (mkF m 437 #[.val (.ref ca), .val (.int nt)] [(.int (8 : Int32)), (.ref ca), (.int (8 : Int32)), (.ref b253), (.ref b253), (.ref b251), (.ref b251)])) rfl rfl (hb hby df_437) _ ?_
                      show Steps p.tables e below (T285.setTop (mkF m 438 #[.val (.ref ca), .val (.int nt)] [(.int d8), (.int (8 : Int32)), (.ref b253), (.ref b253), (.ref b251), (.ref b251)])) _
                      refine st289 _ ?_
                      show Steps p.tables e below (T289.setTop (mkF m 439 #[.val (.ref ca), .val (.int nt)] [(.ref b253), (.ref b251), (.ref b251)])) _
                      refine st296.trans ?_
                      show Steps p.tables e below (T296.setTop (mkF m 442 #[.val (.ref ca), .val (.int nt)] [(.ref b251)])) _
                      exact retOut X296 hx Bd.returns rfl (Or.inr (Or.inr (Or.inr (Or.inr ⟨rfl, rfl, rfl⟩)))) (hb hby df_442) lhr
                    · skip
                      show QTk Z ca nt kc d0 d1 d2 d3 d4 d5 d6 d7 d8 G1 h0 n0 _ T296.heap _
                      skip
                      have hp297 : ∀ c ∈ ([(nar .char d0), (nar .char d1), (nar .char d2), (nar .char d3), (nar .char d4), (nar .char d5), (nar .char d6), (nar .char d7), (nar .char d8)] : List Int32), ¬ c < 0 ∧ ¬ (255 : Int32) < c := by
                        intro c hc
                        simp only [List.mem_cons, List.not_mem_nil, or_false] at hc
                        rcases hc with rfl | rfl | rfl | rfl | rfl | rfl | rfl | rfl | rfl
                        · exact (own_narc B_d0)
                        · exact (own_narc B_d1)
                        · exact (own_narc B_d2)
                        · exact (own_narc B_d3)
                        · exact (own_narc B_d4)
                        · exact (own_narc B_d5)
                        · exact (own_narc B_d6)
                        · exact (own_narc B_d7)
                        · exact (own_narc B_d8)
                      exact ⟨b251, ([(nar .char d0), (nar .char d1), (nar .char d2), (nar .char d3), (nar .char d4), (nar .char d5), (nar .char d6), (nar .char d7), (nar .char d8)] : List Int32), t296, _, rfl, N296, K296, gE296, gC296, gV296, gL296, hp297, Nat.le_of_ble_eq_true rfl⟩
                    · skip
                      show CHr Z own_EL s.vm s.heap T296.vm T296.heap
                      rw [hh]
                      exact CR296.trans (CHv.at X296 hZ hEL CR296.1)
  · skip
    obtain ⟨T298, h298, X298, e298, E298, A298, D298, -, st298⟩ := newO X0 hx hZ hown (wd5 hw) (wd6 hw) (wd7 hw) e0 (g := (mkF m 4 #[.val (.ref ca), .val (.int nt)] [])) rfl (hb hby df_4) (by decide) (by decide)
    obtain ⟨b298, g298⟩ : ∃ z, z = h0.size := ⟨_, rfl⟩
    rw [← g298] at A298 D298 st298
    have ne_ca_b298 : ca ≠ b298 := Nat.ne_of_lt (Nat.lt_of_lt_of_le V_a.lt (Nat.le_of_eq g298.symm))
    have ge_b298 : n0 ≤ b298 := Nat.le_trans Z0 (Nat.le_of_eq g298.symm)
    have sz_b298 : h0.size ≤ b298 := Nat.le_trans (Nat.le_refl _) (Nat.le_of_eq g298.symm)
    have sf_b298 : Safe Z own_EL s.vm h0 b298 := Safe.new (Nat.le_of_eq g298.symm)
    have sf2_b298 : Safe Z own_EL s.vm h298 b298 := sf_b298.ext E298 CR0.1
    have CS298 := CHr.ext E298 CR0.1
    have CR298 := CR0.trans CS298
    have hk298 : _ ≤ h298.size := Nat.le_trans hk0 E298.1
    have Z298 : n0 ≤ h298.size := Nat.le_trans Z0 E298.1
    have K298 : Keep h0 h298 [] := ((Keep.refl h0 []).ext E298)
    have F298_coder : Fld Z h298 b298 "java/lang/String" "coder" "B" (.int (0 : Int32)) := D298 (Or.inr (wd31 hw)) (ty := .byte) (by decide)
    have F298_value : Fld Z h298 b298 "java/lang/String" "value" "[B" .null := D298 (Or.inr (wd33 hw)) (ty := (.array .byte)) (by decide)
    have f299 := (V_a.ext E298)
    obtain ⟨T300, h300, kk300, X300, e300, E300, A300, st300⟩ := newP X298 hx hZ (aty := .char) (wd0 hw) e298 (g := (mkF m 9 #[.val (.ref ca), .val (.int nt)] [(.int (0 : Int32)), (.ref b298), (.ref b298)])) rfl (hb hby df_9) rfl (by decide) (cap := 0) (by decide) (by decide) (by decide) (by decide)
    obtain ⟨b300, g300⟩ : ∃ z, z = h298.size := ⟨_, rfl⟩
    rw [← g300] at A300 st300
    have ne_ca_b300 : ca ≠ b300 := Nat.ne_of_lt (Nat.lt_of_lt_of_le f299.lt (Nat.le_of_eq g300.symm))
    have ne_b298_b300 : b298 ≠ b300 := Nat.ne_of_lt (Nat.lt_of_lt_of_le A298.lt (Nat.le_of_eq g300.symm))
    have ge_b300 : n0 ≤ b300 := Nat.le_trans Z298 (Nat.le_of_eq g300.symm)
    have sz_b300 : h0.size ≤ b300 := Nat.le_trans K298.1 (Nat.le_of_eq g300.symm)
    have CS300 := CHr.ext E300 CR298.1
    have CR300 := CR298.trans CS300
    have hk300 : _ ≤ h300.size := Nat.le_trans hk298 E300.1
    have Z300 : n0 ≤ h300.size := Nat.le_trans Z298 E300.1
    have K300 : Keep h0 h300 [] := (K298.ext E300)
    have V300 : Arv Z h300 b300 kk300 .char (0 : Int32) [] (.int (0 : Int32)) := (Arv.new A300 (by decide)).pad (pad_rep [] (.int (0 : Int32)) 0)
    have f301 := (f299.ext E300)
    have f302 := (A298.ext E300)
    have f303 := (F298_value.ext E300)
    have f304 := (F298_coder.ext E300)
    obtain ⟨_, _, ⟨T305, L305, kc305, ks305⟩, -, X305, hSq305, hgr305, ⟨Lc305, hQ305, l305, y305, z305, CS305⟩, st305⟩ := X300.specialBackS hx (y := mn3) rfl hown (mvT hZ (wd8 hw)) (mvT hZ (wd9 hw)) (mvT hZ (wd10 hw)) (by decide) (own_backSafe (s := s) (vm0 := s.vm) (EL := own_EL) (ss := [b298]) (W := 1) (rmSe1 l Z a0 hw [] b298 b300 _ _ _ _ h300 n0 Z300 ge_b298 f302 f303 f304 V300) hZ (wd10 hw) (wd7 hw) (by decide) (by decide) hEL CR300.1 (allS ⟨f302.lt, (CHr.safe CS300 A298.lt sf2_b298)⟩ all0)) (g := (mkF m 11 #[.val (.ref ca), .val (.int nt)] [(.ref b300), (.ref b298), (.ref b298)])) rfl (by rw [hml]; rfl) (Steps.refl _) (a := b298) (argsL := [(.ref b300)]) (rest := [(.ref b298)]) (lenOf pd___C_V rfl) rfl (by show 2 * 0 + _ ≤ _; exact Nat.le_of_eq rfl) (hb hby df_11) (fun _ _ => ⟨rfl, e300, (by decide : 2 + 4 ≤ _), (by decide : 4 + 8 ≤ _)⟩)
    dsimp only [Pt.U, Pt.locs, Pt.cells, Pt.slots] at X305 l305 y305 z305 st305 hQ305 hSq305 hgr305 CS305
    subst l305 y305 z305
    obtain ⟨X305, hS305, hZ305, hown305⟩ := rebS hS0 hk300 X305 hSq305 (by rw [e300] at hgr305; exact hgr305) hZ hown
    obtain ⟨rfl, Nq305, Kq305, gE305, gC305, t305, kb305, gV305, gK305⟩ := hQ305
    have N305 := Fr.app N0 Nq305
    have CR305 := CR300.trans CS305
    have Z305 : n0 ≤ T305.heap.size := Nat.le_trans Z300 Kq305.1
    have K305 : Keep h0 T305.heap [] := Keep.trans K300 Kq305 (allS (Or.inr sz_b298) all0)
    obtain ⟨lfs, lhr, lhrun, lhended, lhE⟩ := X305.leaveW hS305 (Nat.le_refl T305.heap.size) (v := some (.ref b298)) (fun h => by rw [Bd.returns] at h; cases h)
    refine ⟨_, _, k1 _ ?_, lhrun, lhended, _, _, rfl, ?_, ?_, lhE.1, lhE.2.1, lhE.2.2.1, lhE.2.2.2.mono (by decide) (by decide)⟩
    · skip
      show Steps p.tables e below (s₁.setTop (mkF m 1 #[.val (.ref ca), .val (.int nt)] [(.int nt)])) _
      refine XS.ifNo X0.here hx rfl (hb hby df_1) rfl ((if0 _ _).trans (flt hc2).2.2.1) ?_
      show Steps p.tables e below (s₁.setTop (mkF m 4 #[.val (.ref ca), .val (.int nt)] [])) _
      refine st298 _ ?_
      show Steps p.tables e below (T298.setTop (mkF m 7 #[.val (.ref ca), .val (.int nt)] [(.ref b298)])) _
      refine XS.dup X298.here hx rfl (hb hby df_7) rfl rfl ?_
      show Steps p.tables e below (T298.setTop (mkF m 8 #[.val (.ref ca), .val (.int nt)] [(.ref b298), (.ref b298)])) _
      refine XS.iconst X298.here hx rfl (hb hby df_8) ?_
      show Steps p.tables e below (T298.setTop (mkF m 9 #[.val (.ref ca), .val (.int nt)] [(.int (0 : Int32)), (.ref b298), (.ref b298)])) _
      refine st300 _ ?_
      show Steps p.tables e below (T300.setTop (mkF m 11 #[.val (.ref ca), .val (.int nt)] [(.ref b300), (.ref b298), (.ref b298)])) _
      refine st305.trans ?_
      show Steps p.tables e below (T305.setTop (mkF m 14 #[.val (.ref ca), .val (.int nt)] [(.ref b298)])) _
      exact retOut X305 hx Bd.returns rfl (Or.inr (Or.inr (Or.inr (Or.inr ⟨rfl, rfl, rfl⟩)))) (hb hby df_14) lhr
    · skip
      show QTk Z ca nt kc d0 d1 d2 d3 d4 d5 d6 d7 d8 G1 h0 n0 _ T305.heap _
      skip
      have hp306 : ∀ c ∈ ([] : List Int32), ¬ c < 0 ∧ ¬ (255 : Int32) < c := fun c hc => by cases hc
      exact ⟨b298, ([] : List Int32), t305, _, rfl, N305, K305, gE305, gC305, gV305, gK305, hp306, Nat.le_of_ble_eq_true rfl⟩
    · skip
      show CHr Z own_EL s.vm s.heap T305.vm T305.heap
      rw [hh]
      exact CR305.trans (CHv.at X305 hZ305 hEL CR305.1)
theorem ef_Vs (m : MethodId)  : entryFrame m #[] 0 = mkF m 0 #[] [] := by first | (simp [entryFrame, mkF, argsToLocals, Value.category]; done) | rfl
theorem db_0 : decode prog_27_method_1_code 0 = .ok (.getstatic 10, 3) := by decide +kernel
theorem db_3 : decode prog_27_method_1_code 3 = .ok (.invokevirtual 14, 3) := by decide +kernel
theorem db_6 : decode prog_27_method_1_code 6 = .ok (.checkcast 15, 3) := by decide +kernel
theorem db_9 : decode prog_27_method_1_code 9 = .ok (.areturn, 1) := by decide +kernel
def QVs (Z : State) (va : Addr) (kv : ClassId) (gP : Addr) (gW : Addr) (h0 : Heap) (n0 : Nat) (v : Option Value) (h : Heap) (L : List Loc) : Prop := ∃ bq : Addr, v = some (.ref bq) ∧ Fr n0 L ∧ Keep h0 h [] ∧ Arv Z h bq kv (.object cn5) (2 : Int32) [(.ref gP), (.ref gW)] .null
set_option maxRecDepth 65536 in
set_option maxHeartbeats 40000000 in
theorem rmVs (l : Launch) (Z : State) (a0 : Array Value) (hw : ∀ d ∈ tables_1, d.before a0 Z = true) (ws : List Jvm.Cond) (va : Addr) (kv : ClassId) (gP : Addr) (gW : Addr) (h0 : Heap) (n0 : Nat) (Z0 : n0 ≤ h0.size) (S_V : Sta Z h0 cn5 "$VALUES" cn3 (.ref va)) (V_V : Arv Z h0 va kv (.object cn5) (2 : Int32) [(.ref gP), (.ref gW)] .null) (E_V : Exa Z h0 va cn3) :
    MetFree l mn1 (head1 (Jvm.Cond.code mn1 prog_27_method_1_code 0 (some (.array (.object cn5))) :: ws) ({ frames := 1, cells := 1, slots := 2, locals := 14 } : Room)) (fun a U => a = #[] ∧ Z.Warmed39 U.vm ∧ U.heap = h0) (fun _ _ _ _ _ => True) (fun _ U oc_ U' => ∃ v L, oc_ = .returned v ∧ QVs Z va kv gP gW h0 n0 v U'.heap L ∧ FrameEnd U oc_ U' L ({ frames := 1, cells := 1, slots := 2, locals := 14 } : Room).cells ({ frames := 1, cells := 1, slots := 2, locals := 14 } : Room).slots) := by
  refine MetFree.of_bodySF (plainFor_of_name pn_com_example_aloq_aloq_engine_TokenKind) hisR ?_
  intro p e s m args below meth c s₁ Bd hml0 hP hK
  obtain ⟨rfl, hZ, hh⟩ := hP
  have hx := Bd.exec
  have hby := Bd.bytes
  have hml : c.maxLocals = 0 := hml0
  have hown : s.vm.findClass cn5 = some m.cls := findClass_of_methodNamed Bd.named
  have hnm := (name_of_methodNamed Bd.named Bd.method).1
  have X0 : Stand p l e ({ frames := 1, cells := 1, slots := 2, locals := 14 } : Room) s m #[] below meth c s₁ [] 0 0 := Stand.of_body Bd
  have e0 : s₁.heap = h0 := by rw [← hh, Bd.state]; rfl
  have N0 := Fr.nil n0
  have pre0 : ∀ t, Steps p.tables e below (s₁.setTop (mkF m 0 #[] [])) t → Steps p.tables e below (s₁.setTop (entryFrame m #[] 0)) t := fun t k => castTop (ef_Vs m ) k
  obtain ⟨T1, X1, e1, st1⟩ := getS2 X0 hx hZ hown (host := "") (Or.inl (wd41 hw)) Via.refl e0 S_V (g := (mkF m 0 #[] [])) rfl (hb hby db_0)
  obtain ⟨T2, h2, X2, e2, E2, V2, A2, st2⟩ := cloneH X1 hx hZ hown (wd43 hw) (wd44 hw) (wd48 hw) (wd46 hw) (wd47 hw) (wd49 hw) e1 (Arv.arh V_V) E_V (g := (mkF m 3 #[] [(.ref va)])) rfl (by rw [hml]; rfl) rfl (hb hby db_3) (by decide) (W := 0) (by show 2 * 0 + _ ≤ _; exact Nat.le_of_eq rfl) (by decide) (cap := 2) (by decide) (by decide) (by decide)
  obtain ⟨b2, g2⟩ : ∃ z, z = h0.size := ⟨_, rfl⟩
  rw [← g2] at V2 A2 st2
  have ne_va_b2 : va ≠ b2 := Nat.ne_of_lt (Nat.lt_of_lt_of_le V_V.lt (Nat.le_of_eq g2.symm))
  have ge_b2 : n0 ≤ b2 := Nat.le_trans Z0 (Nat.le_of_eq g2.symm)
  have sz_b2 : h0.size ≤ b2 := Nat.le_trans (Nat.le_refl _) (Nat.le_of_eq g2.symm)
  have Z2 : n0 ≤ h2.size := Nat.le_trans Z0 E2.1
  have K2 : Keep h0 h2 [] := ((Keep.refl h0 []).ext E2)
  obtain ⟨T3, X3, e3, st3⟩ := castY X2 hx hZ hown (wd53 hw) e2 (Ins.self A2) (g := (mkF m 6 #[] [(.ref b2)])) rfl rfl (hb hby db_6)
  obtain ⟨lfs, lhr, lhrun, lhended, lhW, lhsame⟩ := X3.leave (v := some (.ref b2)) (fun h => by rw [Bd.returns] at h; cases h)
  refine ⟨_, _, pre0 _ ?_, lhrun, lhended, _, _, rfl, ?_, ⟨_, rfl⟩, lhW, lhsame.mono (by decide) (by decide)⟩
  · skip
    show Steps p.tables e below (s₁.setTop (mkF m 0 #[] [])) _
    refine st1 _ ?_
    show Steps p.tables e below (T1.setTop (mkF m 3 #[] [(.ref va)])) _
    refine st2 _ ?_
    show Steps p.tables e below (T2.setTop (mkF m 6 #[] [(.ref b2)])) _
    refine st3 _ ?_
    show Steps p.tables e below (T3.setTop (mkF m 9 #[] [(.ref b2)])) _
    exact retOut X3 hx Bd.returns rfl (Or.inr (Or.inr (Or.inr (Or.inr ⟨rfl, rfl, rfl⟩)))) (hb hby db_9) lhr
  · skip
    show QVs Z va kv gP gW h0 n0 _ T3.heap _
    rw [e3]
    exact ⟨b2, rfl, N0, K2, V2⟩
theorem ef_En (m : MethodId) (x0 : Addr) : entryFrame m #[(.ref x0), .null] 3 = mkF m 0 #[.val (.ref x0), .val .null, .unset] [] := by first | (simp [entryFrame, mkF, argsToLocals, Value.category]; done) | rfl
theorem dc_0 : decode jdk_42_method_66_code 0 = .ok (.aload_n 0, 1) := by decide +kernel
theorem dc_1 : decode jdk_42_method_66_code 1 = .ok (.aload_n 1, 1) := by decide +kernel
theorem dc_2 : decode jdk_42_method_66_code 2 = .ok (.if_acmp .ne 5, 3) := by decide +kernel
theorem dc_7 : decode jdk_42_method_66_code 7 = .ok (.aload_n 1, 1) := by decide +kernel
theorem dc_8 : decode jdk_42_method_66_code 8 = .ok (.instanceof 10, 3) := by decide +kernel
theorem dc_11 : decode jdk_42_method_66_code 11 = .ok (.ifCond .eq 43, 3) := by decide +kernel
theorem dc_54 : decode jdk_42_method_66_code 54 = .ok (.iconst 0, 1) := by decide +kernel
theorem dc_55 : decode jdk_42_method_66_code 55 = .ok (.ireturn, 1) := by decide +kernel
def QEn (Z : State) (o : Addr) (h0 : Heap) (n0 : Nat) (v : Option Value) (h : Heap) (L : List Loc) : Prop := v = some (.int 0) ∧ Fr n0 L ∧ h = h0
set_option maxRecDepth 65536 in
set_option maxHeartbeats 40000000 in
theorem rmEn (l : Launch) (Z : State) (a0 : Array Value) (hw : ∀ d ∈ tables_1, d.before a0 Z = true) (ws : List Jvm.Cond) (o : Addr) (h0 : Heap) (n0 : Nat) (Z0 : n0 ≤ h0.size) :
    MetFree l mn5 (head1 (Jvm.Cond.code mn5 jdk_42_method_66_code 3 (some .boolean) :: ws) ({ frames := 0, cells := 0, slots := 0, locals := 0 } : Room)) (fun a U => a = #[(.ref o), .null] ∧ Z.Warmed39 U.vm ∧ U.heap = h0) (fun _ _ _ _ _ => True) (fun _ U oc_ U' => ∃ v L, oc_ = .returned v ∧ QEn Z o h0 n0 v U'.heap L ∧ FrameEnd U oc_ U' L ({ frames := 0, cells := 0, slots := 0, locals := 0 } : Room).cells ({ frames := 0, cells := 0, slots := 0, locals := 0 } : Room).slots) := by
  refine MetFree.of_bodySF (plainFor_of_name pn_java_lang_String) hisR ?_
  intro p e s m args below meth c s₁ Bd hml0 hP hK
  obtain ⟨rfl, hZ, hh⟩ := hP
  have hx := Bd.exec
  have hby := Bd.bytes
  have hml : c.maxLocals = 3 := hml0
  have hown : s.vm.findClass "java/lang/String" = some m.cls := findClass_of_methodNamed Bd.named
  have hnm := (name_of_methodNamed Bd.named Bd.method).1
  have X0 : Stand p l e ({ frames := 0, cells := 0, slots := 0, locals := 0 } : Room) s m #[(.ref o), .null] below meth c s₁ [] 0 0 := Stand.of_body Bd
  have e0 : s₁.heap = h0 := by rw [← hh, Bd.state]; rfl
  have N0 := Fr.nil n0
  have pre0 : ∀ t, Steps p.tables e below (s₁.setTop (mkF m 0 #[.val (.ref o), .val .null, .unset] [])) t → Steps p.tables e below (s₁.setTop (entryFrame m #[(.ref o), .null] 3)) t := fun t k => castTop (ef_En m o) k
  obtain ⟨lfs, lhr, lhrun, lhended, lhW, lhsame⟩ := X0.leave (v := some (.int (0 : Int32))) (fun h => by rw [Bd.returns] at h; cases h)
  refine ⟨_, _, pre0 _ ?_, lhrun, lhended, _, _, rfl, ?_, ⟨_, rfl⟩, lhW, lhsame.mono (by decide) (by decide)⟩
  · skip
    show Steps p.tables e below (s₁.setTop (mkF m 0 #[.val (.ref o), .val .null, .unset] [])) _
    refine XS.aloadN X0.here hx rfl (hb hby dc_0) rfl rfl ?_
    show Steps p.tables e below (s₁.setTop (mkF m 1 #[.val (.ref o), .val .null, .unset] [(.ref o)])) _
    refine XS.aloadN X0.here hx rfl (hb hby dc_1) rfl rfl ?_
    show Steps p.tables e below (s₁.setTop (mkF m 2 #[.val (.ref o), .val .null, .unset] [.null, (.ref o)])) _
    refine Jvm.RoadKit.acmp (g := (mkF m 2 #[.val (.ref o), .val .null, .unset] [.null, (.ref o)])) X0 hx rfl rfl rfl (pc0 := 2) (pc' := 7) (same := false) rfl (hb hby dc_2) rfl (decide_eq_false nofun) (by decide) (by decide) ?_
    show Steps p.tables e below (s₁.setTop (mkF m 7 #[.val (.ref o), .val .null, .unset] [])) _
    refine XS.aloadN X0.here hx rfl (hb hby dc_7) rfl rfl ?_
    show Steps p.tables e below (s₁.setTop (mkF m 8 #[.val (.ref o), .val .null, .unset] [.null])) _
    refine X0.instanceofNull hx (g := (mkF m 8 #[.val (.ref o), .val .null, .unset] [.null])) rfl rfl (hb hby dc_8) _ ?_
    show Steps p.tables e below (s₁.setTop (mkF m 11 #[.val (.ref o), .val .null, .unset] [(.int (0 : Int32))])) _
    refine XS.ifYes X0.here hx rfl (pc0 := 11) (pc' := 54) rfl (hb hby dc_11) rfl ((if0 _ _).trans (teq (by decide : (0 : Int32) = (0 : Int32))).1) (by decide) (by decide) ?_
    show Steps p.tables e below (s₁.setTop (mkF m 54 #[.val (.ref o), .val .null, .unset] [])) _
    refine XS.iconst X0.here hx rfl (hb hby dc_54) ?_
    show Steps p.tables e below (s₁.setTop (mkF m 55 #[.val (.ref o), .val .null, .unset] [(.int (0 : Int32))])) _
    exact retN X0 hx (t := .boolean) Bd.returns (by simp) (hb hby dc_55) lhr
  · skip
    show QEn Z o h0 n0 _ s₁.heap _
    rw [e0]
    exact ⟨rfl, N0, rfl⟩
theorem ef_Pn (m : MethodId)  : entryFrame m #[.null] 5 = mkF m 0 #[.val .null, .unset, .unset, .unset, .unset] [] := by first | (simp [entryFrame, mkF, argsToLocals, Value.category]; done) | rfl
theorem dd_0 : decode prog_27_method_5_code 0 = .ok (.invokestatic 33, 3) := by decide +kernel
theorem dd_3 : decode prog_27_method_5_code 3 = .ok (.astore_n 1, 1) := by decide +kernel
theorem dd_4 : decode prog_27_method_5_code 4 = .ok (.aload_n 1, 1) := by decide +kernel
theorem dd_5 : decode prog_27_method_5_code 5 = .ok (.arraylength, 1) := by decide +kernel
theorem dd_6 : decode prog_27_method_5_code 6 = .ok (.istore_n 2, 1) := by decide +kernel
theorem dd_7 : decode prog_27_method_5_code 7 = .ok (.iconst 0, 1) := by decide +kernel
theorem dd_8 : decode prog_27_method_5_code 8 = .ok (.istore_n 3, 1) := by decide +kernel
theorem dd_9 : decode prog_27_method_5_code 9 = .ok (.iload_n 3, 1) := by decide +kernel
theorem dd_10 : decode prog_27_method_5_code 10 = .ok (.iload_n 2, 1) := by decide +kernel
theorem dd_11 : decode prog_27_method_5_code 11 = .ok (.if_icmp .ge 29, 3) := by decide +kernel
theorem dd_14 : decode prog_27_method_5_code 14 = .ok (.aload_n 1, 1) := by decide +kernel
theorem dd_15 : decode prog_27_method_5_code 15 = .ok (.iload_n 3, 1) := by decide +kernel
theorem dd_16 : decode prog_27_method_5_code 16 = .ok (.aaload, 1) := by decide +kernel
theorem dd_17 : decode prog_27_method_5_code 17 = .ok (.astore 4, 2) := by decide +kernel
theorem dd_19 : decode prog_27_method_5_code 19 = .ok (.aload 4, 2) := by decide +kernel
theorem dd_21 : decode prog_27_method_5_code 21 = .ok (.getfield 29, 3) := by decide +kernel
theorem dd_24 : decode prog_27_method_5_code 24 = .ok (.aload_n 0, 1) := by decide +kernel
theorem dd_25 : decode prog_27_method_5_code 25 = .ok (.invokevirtual 37, 3) := by decide +kernel
theorem dd_28 : decode prog_27_method_5_code 28 = .ok (.ifCond .eq 6, 3) := by decide +kernel
theorem dd_34 : decode prog_27_method_5_code 34 = .ok (.iinc 3 1, 3) := by decide +kernel
theorem dd_37 : decode prog_27_method_5_code 37 = .ok (.goto (-28), 3) := by decide +kernel
theorem dd_40 : decode prog_27_method_5_code 40 = .ok (.aconst_null, 1) := by decide +kernel
theorem dd_41 : decode prog_27_method_5_code 41 = .ok (.areturn, 1) := by decide +kernel
def QPn (Z : State) (gP : Addr) (gW : Addr) (tP : Addr) (tW : Addr) (vP : Addr) (vW : Addr) (kP : ClassId) (kW : ClassId) (va : Addr) (kv : ClassId) (G1 : Int32) (h0 : Heap) (n0 : Nat) (v : Option Value) (h : Heap) (L : List Loc) : Prop := v = some .null ∧ Fr n0 L ∧ Keep h0 h []
set_option maxRecDepth 65536 in
set_option maxHeartbeats 40000000 in
theorem rmPn (l : Launch) (Z : State) (a0 : Array Value) (hw : ∀ d ∈ tables_1, d.before a0 Z = true) (ws : List Jvm.Cond) (gP : Addr) (gW : Addr) (tP : Addr) (tW : Addr) (vP : Addr) (vW : Addr) (kP : ClassId) (kW : ClassId) (va : Addr) (kv : ClassId) (G1 : Int32) (h0 : Heap) (n0 : Nat) (Z0 : n0 ≤ h0.size) (S_V : Sta Z Z.heap cn5 "$VALUES" cn3 (.ref va)) (V_V : Arv Z Z.heap va kv (.object cn5) (2 : Int32) [(.ref gP), (.ref gW)] .null) (E_V : Exa Z Z.heap va cn3) (F_gP : Fld Z Z.heap gP cn5 "text" "Ljava/lang/String;" (.ref tP)) (E_tP : Exa Z Z.heap tP "java/lang/String") (Fv_tP : Fld Z Z.heap tP "java/lang/String" "value" "[B" (.ref vP)) (Fc_tP : Fld Z Z.heap tP "java/lang/String" "coder" "B" (.int (0 : Int32))) (V_vP : Arv Z Z.heap vP kP .byte (8 : Int32) [(.int (112 : Int32)), (.int (114 : Int32)), (.int (111 : Int32)), (.int (100 : Int32)), (.int (117 : Int32)), (.int (99 : Int32)), (.int (101 : Int32)), (.int (114 : Int32))] (.int (0 : Int32))) (F_gW : Fld Z Z.heap gW cn5 "text" "Ljava/lang/String;" (.ref tW)) (E_tW : Exa Z Z.heap tW "java/lang/String") (Fv_tW : Fld Z Z.heap tW "java/lang/String" "value" "[B" (.ref vW)) (Fc_tW : Fld Z Z.heap tW "java/lang/String" "coder" "B" (.int (0 : Int32))) (V_vW : Arv Z Z.heap vW kW .byte (6 : Int32) [(.int (119 : Int32)), (.int (111 : Int32)), (.int (114 : Int32)), (.int (107 : Int32)), (.int (101 : Int32)), (.int (114 : Int32))] (.int (0 : Int32))) (O2 : Sta Z Z.heap "java/lang/String" "COMPACT_STRINGS" "Z" (.int G1)) (P5 : ¬ (G1 = (0 : Int32))) (X00 : Old Z n0 h0) :
    MetFree l mn0 (head1 (Jvm.Cond.code mn0 prog_27_method_5_code 5 (some (.object cn5)) :: ws) ({ frames := 2, cells := 1, slots := 2, locals := 30 } : Room)) (fun a U => a = #[.null] ∧ Z.Warmed39 U.vm ∧ U.heap = h0) (fun _ _ _ _ _ => True) (fun _ U oc_ U' => ∃ v L, oc_ = .returned v ∧ QPn Z gP gW tP tW vP vW kP kW va kv G1 h0 n0 v U'.heap L ∧ FrameEnd U oc_ U' L ({ frames := 2, cells := 1, slots := 2, locals := 30 } : Room).cells ({ frames := 2, cells := 1, slots := 2, locals := 30 } : Room).slots) := by
  refine MetFree.of_bodySF (plainFor_of_name pn_com_example_aloq_aloq_engine_TokenKind) hisR ?_
  intro p e s m args below meth c s₁ Bd hml0 hP hK
  obtain ⟨rfl, hZ, hh⟩ := hP
  have hx := Bd.exec
  have hby := Bd.bytes
  have hml : c.maxLocals = 5 := hml0
  have hown : s.vm.findClass cn5 = some m.cls := findClass_of_methodNamed Bd.named
  have hnm := (name_of_methodNamed Bd.named Bd.method).1
  have X0 : Stand p l e ({ frames := 2, cells := 1, slots := 2, locals := 30 } : Room) s m #[.null] below meth c s₁ [] 0 0 := Stand.of_body Bd
  have e0 : s₁.heap = h0 := by rw [← hh, Bd.state]; rfl
  have N0 := Fr.nil n0
  have pre0 : ∀ t, Steps p.tables e below (s₁.setTop (mkF m 0 #[.val .null, .unset, .unset, .unset, .unset] [])) t → Steps p.tables e below (s₁.setTop (entryFrame m #[.null] 5)) t := fun t k => castTop (ef_Pn m ) k
  obtain ⟨_, _, ⟨T1, L1, kc1, ks1⟩, -, X1, ⟨Lc1, hQ1, l1, y1, z1⟩, st1⟩ := Jvm.LawKit.callS X0 hx (y := mn1) hown (mvT hZ (wd38 hw)) (mvT hZ (wd39 hw)) (mvT hZ (wd36 hw)) (mvT hZ (wd40 hw)) (by decide) (backOf (W := 0) (rmVs l Z a0 hw [] va kv gP gW h0 n0 Z0 (S_V.ext X00.2) (V_V.ext X00.2) (E_V.ext X00.2)) hZ (wd40 hw) (wd36 hw) (by decide) (by decide)) (g := (mkF m 0 #[.val .null, .unset, .unset, .unset, .unset] [])) rfl (by rw [hml]; rfl) (argsL := []) (rest := []) (lenOf pd____Lcom_example_aloq_aloq_engine_TokenKind_ rfl) rfl (by show 2 * 0 + _ ≤ _; exact Nat.le_of_eq rfl) (hb hby dd_0) (fun _ _ => ⟨rfl, e0, (by decide : 0 + 1 ≤ _), (by decide : 0 + 2 ≤ _)⟩)
  dsimp only [Pt.U, Pt.locs, Pt.cells, Pt.slots] at X1 l1 y1 z1 st1 hQ1
  subst l1 y1 z1
  obtain ⟨bq1, rfl, Nq1, Kq1, gV1⟩ := hQ1
  have N1 := Fr.app N0 Nq1
  have Z1 : n0 ≤ T1.heap.size := Nat.le_trans Z0 Kq1.1
  have K1 : Keep h0 T1.heap [] := Keep.trans (Keep.refl h0 []) Kq1 all0
  obtain ⟨cl2, Ar2, -, S2, M2, -, -⟩ := id gV1
  obtain ⟨cl3, Ar3, q3, S3, M3, HH3, GG3⟩ := id gV1
  have hin3 : ¬ ((0 : Int32) < 0 ∨ cl3.slots.size ≤ ((0 : Int32)).toNatClampNeg) := inb_of S3 ⟨by decide, by decide⟩
  have hat3 : cl3.slots[((0 : Int32)).toNatClampNeg]? = some (.ref gP) := Has.at HH3 hin3 rfl
  have f4 := (X00.keep Kq1 all0)
  obtain ⟨T5, X5, e5, st5⟩ := getF X1 hx hZ hown (host := "") (Or.inl (wd55 hw)) Via.refl rfl (F_gP.ext f4.2) (g := (mkF m 21 #[.val .null, .val (.ref bq1), .val (.int (2 : Int32)), .val (.int (0 : Int32)), .val (.ref gP)] [(.ref gP)])) rfl rfl (hb hby dd_21)
  obtain ⟨cq6, kq6, q6a, q6b, q6c⟩ := isOf hZ e5 (E_tP.ext f4.2)
  obtain ⟨_, _, ⟨T6, L6, kc6, ks6⟩, -, X6, ⟨Lc6, hQ6, l6, y6, z6⟩, st6⟩ := X5.virtualBack hx (y := mn5) (z := mn5) hown (mvT hZ (wd57 hw)) (mvT hZ (wd58 hw)) (notFace_of_selects (args := #[]) (mvT hZ (wd60 hw))) (mvT hZ (wd60 hw)) (mvT hZ (wd59 hw)) (by decide) (backOf (W := 0) (rmEn l Z a0 hw [] tP T1.heap n0 Z1) hZ (wd61 hw) (wd7 hw) (by decide) (by decide)) q6a q6c (g := (mkF m 25 #[.val .null, .val (.ref bq1), .val (.int (2 : Int32)), .val (.int (0 : Int32)), .val (.ref gP)] [.null, (.ref tP)])) rfl (by rw [hml]; rfl) (Steps.refl _) (argsL := [.null]) (rest := []) (lenOf pd__Ljava_lang_Object__Z rfl) rfl (by show 2 * 0 + _ ≤ _; exact Nat.le_of_eq rfl) (hb hby dd_25) (fun _ _ => ⟨rfl, e5, (by decide : 1 + 0 ≤ _), (by decide : 2 + 0 ≤ _)⟩)
  dsimp only [Pt.U, Pt.locs, Pt.cells, Pt.slots] at X6 l6 y6 z6 st6 hQ6
  subst l6 y6 z6
  obtain ⟨rfl, Nq6, eq6⟩ := hQ6
  have N6 := Fr.app N1 Nq6
  obtain ⟨cl7, Ar7, q7, S7, M7, HH7, GG7⟩ := id gV1
  have hin7 : ¬ ((1 : Int32) < 0 ∨ cl7.slots.size ≤ ((1 : Int32)).toNatClampNeg) := inb_of S7 ⟨by decide, by decide⟩
  have hat7 : cl7.slots[((1 : Int32)).toNatClampNeg]? = some (.ref gW) := Has.at HH7 hin7 rfl
  obtain ⟨T8, X8, e8, st8⟩ := getF X6 hx hZ hown (host := "") (Or.inl (wd55 hw)) Via.refl eq6 (F_gW.ext f4.2) (g := (mkF m 21 #[.val .null, .val (.ref bq1), .val (.int (2 : Int32)), .val (.int (1 : Int32)), .val (.ref gW)] [(.ref gW)])) rfl rfl (hb hby dd_21)
  obtain ⟨cq9, kq9, q9a, q9b, q9c⟩ := isOf hZ e8 (E_tW.ext f4.2)
  obtain ⟨_, _, ⟨T9, L9, kc9, ks9⟩, -, X9, ⟨Lc9, hQ9, l9, y9, z9⟩, st9⟩ := X8.virtualBack hx (y := mn5) (z := mn5) hown (mvT hZ (wd57 hw)) (mvT hZ (wd58 hw)) (notFace_of_selects (args := #[]) (mvT hZ (wd60 hw))) (mvT hZ (wd60 hw)) (mvT hZ (wd59 hw)) (by decide) (backOf (W := 0) (rmEn l Z a0 hw [] tW T1.heap n0 Z1) hZ (wd61 hw) (wd7 hw) (by decide) (by decide)) q9a q9c (g := (mkF m 25 #[.val .null, .val (.ref bq1), .val (.int (2 : Int32)), .val (.int (1 : Int32)), .val (.ref gW)] [.null, (.ref tW)])) rfl (by rw [hml]; rfl) (Steps.refl _) (argsL := [.null]) (rest := []) (lenOf pd__Ljava_lang_Object__Z rfl) rfl (by show 2 * 0 + _ ≤ _; exact Nat.le_of_eq rfl) (hb hby dd_25) (fun _ _ => ⟨rfl, e8, (by decide : 1 + 0 ≤ _), (by decide : 2 + 0 ≤ _)⟩)
  dsimp only [Pt.U, Pt.locs, Pt.cells, Pt.slots] at X9 l9 y9 z9 st9 hQ9
  subst l9 y9 z9
  obtain ⟨rfl, Nq9, eq9⟩ := hQ9
  have N9 := Fr.app N6 Nq9
  obtain ⟨lfs, lhr, lhrun, lhended, lhW, lhsame⟩ := X9.leave (v := some .null) (fun h => by rw [Bd.returns] at h; cases h)
  refine ⟨_, _, pre0 _ ?_, lhrun, lhended, _, _, rfl, ?_, ⟨_, rfl⟩, lhW, lhsame.mono (by decide) (by decide)⟩
  · skip
    show Steps p.tables e below (s₁.setTop (mkF m 0 #[.val .null, .unset, .unset, .unset, .unset] [])) _
    refine st1 _ ?_
    show Steps p.tables e below (T1.setTop (mkF m 3 #[.val .null, .unset, .unset, .unset, .unset] [(.ref bq1)])) _
    refine XS.astoreN X1.here hx rfl (hb hby dd_3) rfl rfl (l' := #[.val .null, .val (.ref bq1), .unset, .unset, .unset]) rfl ?_
    show Steps p.tables e below (T1.setTop (mkF m 4 #[.val .null, .val (.ref bq1), .unset, .unset, .unset] [])) _
    refine XS.aloadN X1.here hx rfl (hb hby dd_4) rfl rfl ?_
    show Steps p.tables e below (T1.setTop (mkF m 5 #[.val .null, .val (.ref bq1), .unset, .unset, .unset] [(.ref bq1)])) _
    refine X1.arraylength hx (by (try rw [rfl]); exact Ar2.1) (State.isArrayOf_alike hZ.alike Ar2.2.1) (g := (mkF m 5 #[.val .null, .val (.ref bq1), .unset, .unset, .unset] [(.ref bq1)])) rfl rfl (hb hby dd_5) _ ?_
    rw [len_of S2 M2]
    show Steps p.tables e below (T1.setTop (mkF m 6 #[.val .null, .val (.ref bq1), .unset, .unset, .unset] [(.int (2 : Int32))])) _
    refine XS.istoreN X1.here hx rfl (hb hby dd_6) rfl (l' := #[.val .null, .val (.ref bq1), .val (.int (2 : Int32)), .unset, .unset]) rfl ?_
    show Steps p.tables e below (T1.setTop (mkF m 7 #[.val .null, .val (.ref bq1), .val (.int (2 : Int32)), .unset, .unset] [])) _
    refine XS.iconst X1.here hx rfl (hb hby dd_7) ?_
    show Steps p.tables e below (T1.setTop (mkF m 8 #[.val .null, .val (.ref bq1), .val (.int (2 : Int32)), .unset, .unset] [(.int (0 : Int32))])) _
    refine XS.istoreN X1.here hx rfl (hb hby dd_8) rfl (l' := #[.val .null, .val (.ref bq1), .val (.int (2 : Int32)), .val (.int (0 : Int32)), .unset]) rfl ?_
    show Steps p.tables e below (T1.setTop (mkF m 9 #[.val .null, .val (.ref bq1), .val (.int (2 : Int32)), .val (.int (0 : Int32)), .unset] [])) _
    refine XS.iloadN X1.here hx rfl (hb hby dd_9) rfl ?_
    show Steps p.tables e below (T1.setTop (mkF m 10 #[.val .null, .val (.ref bq1), .val (.int (2 : Int32)), .val (.int (0 : Int32)), .unset] [(.int (0 : Int32))])) _
    refine XS.iloadN X1.here hx rfl (hb hby dd_10) rfl ?_
    show Steps p.tables e below (T1.setTop (mkF m 11 #[.val .null, .val (.ref bq1), .val (.int (2 : Int32)), .val (.int (0 : Int32)), .unset] [(.int (2 : Int32)), (.int (0 : Int32))])) _
    refine XS.icmpNo X1.here hx rfl (hb hby dd_11) rfl (tlt (by decide : (0 : Int32) < (2 : Int32))).2.1 ?_
    show Steps p.tables e below (T1.setTop (mkF m 14 #[.val .null, .val (.ref bq1), .val (.int (2 : Int32)), .val (.int (0 : Int32)), .unset] [])) _
    refine XS.aloadN X1.here hx rfl (hb hby dd_14) rfl rfl ?_
    show Steps p.tables e below (T1.setTop (mkF m 15 #[.val .null, .val (.ref bq1), .val (.int (2 : Int32)), .val (.int (0 : Int32)), .unset] [(.ref bq1)])) _
    refine XS.iloadN X1.here hx rfl (hb hby dd_15) rfl ?_
    show Steps p.tables e below (T1.setTop (mkF m 16 #[.val .null, .val (.ref bq1), .val (.int (2 : Int32)), .val (.int (0 : Int32)), .unset] [(.int (0 : Int32)), (.ref bq1)])) _
    refine X1.aaload hx (j := (0 : Int32)) (v := (.ref gP)) (by (try rw [rfl]); exact Ar3.1) (State.isArrayOf_alike hZ.alike Ar3.2.1) rfl Ar3.2.2 hin3 hat3 (g := (mkF m 16 #[.val .null, .val (.ref bq1), .val (.int (2 : Int32)), .val (.int (0 : Int32)), .unset] [(.int (0 : Int32)), (.ref bq1)])) rfl rfl (hb hby dd_16) _ ?_
    show Steps p.tables e below (T1.setTop (mkF m 17 #[.val .null, .val (.ref bq1), .val (.int (2 : Int32)), .val (.int (0 : Int32)), .unset] [(.ref gP)])) _
    refine XS.astore X1.here hx rfl (hb hby dd_17) rfl rfl (l' := #[.val .null, .val (.ref bq1), .val (.int (2 : Int32)), .val (.int (0 : Int32)), .val (.ref gP)]) rfl ?_
    show Steps p.tables e below (T1.setTop (mkF m 19 #[.val .null, .val (.ref bq1), .val (.int (2 : Int32)), .val (.int (0 : Int32)), .val (.ref gP)] [])) _
    refine XS.aload X1.here hx rfl (hb hby dd_19) rfl rfl ?_
    show Steps p.tables e below (T1.setTop (mkF m 21 #[.val .null, .val (.ref bq1), .val (.int (2 : Int32)), .val (.int (0 : Int32)), .val (.ref gP)] [(.ref gP)])) _
    refine st5 _ ?_
    show Steps p.tables e below (T5.setTop (mkF m 24 #[.val .null, .val (.ref bq1), .val (.int (2 : Int32)), .val (.int (0 : Int32)), .val (.ref gP)] [(.ref tP)])) _
    refine XS.aloadN X5.here hx rfl (hb hby dd_24) rfl rfl ?_
    show Steps p.tables e below (T5.setTop (mkF m 25 #[.val .null, .val (.ref bq1), .val (.int (2 : Int32)), .val (.int (0 : Int32)), .val (.ref gP)] [.null, (.ref tP)])) _
    refine st6.trans ?_
    show Steps p.tables e below (T6.setTop (mkF m 28 #[.val .null, .val (.ref bq1), .val (.int (2 : Int32)), .val (.int (0 : Int32)), .val (.ref gP)] [(.int (0 : Int32))])) _
    refine XS.ifYes X6.here hx rfl (pc0 := 28) (pc' := 34) rfl (hb hby dd_28) rfl ((if0 _ _).trans (teq (by decide : (0 : Int32) = (0 : Int32))).1) (by decide) (by decide) ?_
    show Steps p.tables e below (T6.setTop (mkF m 34 #[.val .null, .val (.ref bq1), .val (.int (2 : Int32)), .val (.int (0 : Int32)), .val (.ref gP)] [])) _
    refine XS.iinc X6.here hx rfl (hb hby dd_34) rfl (l' := #[.val .null, .val (.ref bq1), .val (.int (2 : Int32)), .val (.int (1 : Int32)), .val (.ref gP)]) rfl ?_
    show Steps p.tables e below (T6.setTop (mkF m 37 #[.val .null, .val (.ref bq1), .val (.int (2 : Int32)), .val (.int (1 : Int32)), .val (.ref gP)] [])) _
    refine XS.goto X6.here hx rfl (pc0 := 37) (pc' := 9) rfl (hb hby dd_37) (by decide) (by decide) ?_
    show Steps p.tables e below (T6.setTop (mkF m 9 #[.val .null, .val (.ref bq1), .val (.int (2 : Int32)), .val (.int (1 : Int32)), .val (.ref gP)] [])) _
    refine XS.iloadN X6.here hx rfl (hb hby dd_9) rfl ?_
    show Steps p.tables e below (T6.setTop (mkF m 10 #[.val .null, .val (.ref bq1), .val (.int (2 : Int32)), .val (.int (1 : Int32)), .val (.ref gP)] [(.int (1 : Int32))])) _
    refine XS.iloadN X6.here hx rfl (hb hby dd_10) rfl ?_
    show Steps p.tables e below (T6.setTop (mkF m 11 #[.val .null, .val (.ref bq1), .val (.int (2 : Int32)), .val (.int (1 : Int32)), .val (.ref gP)] [(.int (2 : Int32)), (.int (1 : Int32))])) _
    refine XS.icmpNo X6.here hx rfl (hb hby dd_11) rfl (tlt (by decide : (1 : Int32) < (2 : Int32))).2.1 ?_
    show Steps p.tables e below (T6.setTop (mkF m 14 #[.val .null, .val (.ref bq1), .val (.int (2 : Int32)), .val (.int (1 : Int32)), .val (.ref gP)] [])) _
    refine XS.aloadN X6.here hx rfl (hb hby dd_14) rfl rfl ?_
    show Steps p.tables e below (T6.setTop (mkF m 15 #[.val .null, .val (.ref bq1), .val (.int (2 : Int32)), .val (.int (1 : Int32)), .val (.ref gP)] [(.ref bq1)])) _
    refine XS.iloadN X6.here hx rfl (hb hby dd_15) rfl ?_
    show Steps p.tables e below (T6.setTop (mkF m 16 #[.val .null, .val (.ref bq1), .val (.int (2 : Int32)), .val (.int (1 : Int32)), .val (.ref gP)] [(.int (1 : Int32)), (.ref bq1)])) _
    refine X6.aaload hx (j := (1 : Int32)) (v := (.ref gW)) (by (try rw [eq6]); exact Ar7.1) (State.isArrayOf_alike hZ.alike Ar7.2.1) rfl Ar7.2.2 hin7 hat7 (g := (mkF m 16 #[.val .null, .val (.ref bq1), .val (.int (2 : Int32)), .val (.int (1 : Int32)), .val (.ref gP)] [(.int (1 : Int32)), (.ref bq1)])) rfl rfl (hb hby dd_16) _ ?_
    show Steps p.tables e below (T6.setTop (mkF m 17 #[.val .null, .val (.ref bq1), .val (.int (2 : Int32)), .val (.int (1 : Int32)), .val (.ref gP)] [(.ref gW)])) _
    refine XS.astore X6.here hx rfl (hb hby dd_17) rfl rfl (l' := #[.val .null, .val (.ref bq1), .val (.int (2 : Int32)), .val (.int (1 : Int32)), .val (.ref gW)]) rfl ?_
    show Steps p.tables e below (T6.setTop (mkF m 19 #[.val .null, .val (.ref bq1), .val (.int (2 : Int32)), .val (.int (1 : Int32)), .val (.ref gW)] [])) _
    refine XS.aload X6.here hx rfl (hb hby dd_19) rfl rfl ?_
    show Steps p.tables e below (T6.setTop (mkF m 21 #[.val .null, .val (.ref bq1), .val (.int (2 : Int32)), .val (.int (1 : Int32)), .val (.ref gW)] [(.ref gW)])) _
    refine st8 _ ?_
    show Steps p.tables e below (T8.setTop (mkF m 24 #[.val .null, .val (.ref bq1), .val (.int (2 : Int32)), .val (.int (1 : Int32)), .val (.ref gW)] [(.ref tW)])) _
    refine XS.aloadN X8.here hx rfl (hb hby dd_24) rfl rfl ?_
    show Steps p.tables e below (T8.setTop (mkF m 25 #[.val .null, .val (.ref bq1), .val (.int (2 : Int32)), .val (.int (1 : Int32)), .val (.ref gW)] [.null, (.ref tW)])) _
    refine st9.trans ?_
    show Steps p.tables e below (T9.setTop (mkF m 28 #[.val .null, .val (.ref bq1), .val (.int (2 : Int32)), .val (.int (1 : Int32)), .val (.ref gW)] [(.int (0 : Int32))])) _
    refine XS.ifYes X9.here hx rfl (pc0 := 28) (pc' := 34) rfl (hb hby dd_28) rfl ((if0 _ _).trans (teq (by decide : (0 : Int32) = (0 : Int32))).1) (by decide) (by decide) ?_
    show Steps p.tables e below (T9.setTop (mkF m 34 #[.val .null, .val (.ref bq1), .val (.int (2 : Int32)), .val (.int (1 : Int32)), .val (.ref gW)] [])) _
    refine XS.iinc X9.here hx rfl (hb hby dd_34) rfl (l' := #[.val .null, .val (.ref bq1), .val (.int (2 : Int32)), .val (.int (2 : Int32)), .val (.ref gW)]) rfl ?_
    show Steps p.tables e below (T9.setTop (mkF m 37 #[.val .null, .val (.ref bq1), .val (.int (2 : Int32)), .val (.int (2 : Int32)), .val (.ref gW)] [])) _
    refine XS.goto X9.here hx rfl (pc0 := 37) (pc' := 9) rfl (hb hby dd_37) (by decide) (by decide) ?_
    show Steps p.tables e below (T9.setTop (mkF m 9 #[.val .null, .val (.ref bq1), .val (.int (2 : Int32)), .val (.int (2 : Int32)), .val (.ref gW)] [])) _
    refine XS.iloadN X9.here hx rfl (hb hby dd_9) rfl ?_
    show Steps p.tables e below (T9.setTop (mkF m 10 #[.val .null, .val (.ref bq1), .val (.int (2 : Int32)), .val (.int (2 : Int32)), .val (.ref gW)] [(.int (2 : Int32))])) _
    refine XS.iloadN X9.here hx rfl (hb hby dd_10) rfl ?_
    show Steps p.tables e below (T9.setTop (mkF m 11 #[.val .null, .val (.ref bq1), .val (.int (2 : Int32)), .val (.int (2 : Int32)), .val (.ref gW)] [(.int (2 : Int32)), (.int (2 : Int32))])) _
    refine XS.icmpYes X9.here hx rfl (pc0 := 11) (pc' := 40) rfl (hb hby dd_11) rfl (flt (by decide : ¬ ((2 : Int32) < (2 : Int32)))).2.1 (by decide) (by decide) ?_
    show Steps p.tables e below (T9.setTop (mkF m 40 #[.val .null, .val (.ref bq1), .val (.int (2 : Int32)), .val (.int (2 : Int32)), .val (.ref gW)] [])) _
    refine XS.aconstNull X9.here hx rfl (hb hby dd_40) ?_
    show Steps p.tables e below (T9.setTop (mkF m 41 #[.val .null, .val (.ref bq1), .val (.int (2 : Int32)), .val (.int (2 : Int32)), .val (.ref gW)] [.null])) _
    exact retOut X9 hx Bd.returns rfl (Or.inr (Or.inr (Or.inr (Or.inr ⟨rfl, rfl, rfl⟩)))) (hb hby dd_41) lhr
  · skip
    show QPn Z gP gW tP tW vP vW kP kW va kv G1 h0 n0 _ T9.heap _
    rw [eq9]
    exact ⟨rfl, N9, K1⟩
theorem ef_Ps (m : MethodId) (x0 : Addr) : entryFrame m #[(.ref x0)] 5 = mkF m 0 #[.val (.ref x0), .unset, .unset, .unset, .unset] [] := by first | (simp [entryFrame, mkF, argsToLocals, Value.category]; done) | rfl
theorem dd_31 : decode prog_27_method_5_code 31 = .ok (.aload 4, 2) := by decide +kernel
theorem dd_33 : decode prog_27_method_5_code 33 = .ok (.areturn, 1) := by decide +kernel
def QPs (Z : State) (o : Addr) (cs : List Int32) (t : Addr) (kb : ClassId) (gP : Addr) (gW : Addr) (tP : Addr) (tW : Addr) (vP : Addr) (vW : Addr) (kP : ClassId) (kW : ClassId) (va : Addr) (kv : ClassId) (G1 : Int32) (h0 : Heap) (n0 : Nat) (v : Option Value) (h : Heap) (L : List Loc) : Prop := ∃ w : Value, v = some w ∧ Fr n0 L ∧ Keep h0 h [] ∧ ((cs = ([(112 : Int32), (114 : Int32), (111 : Int32), (100 : Int32), (117 : Int32), (99 : Int32), (101 : Int32), (114 : Int32)] : List Int32) ∧ w = .ref gP) ∨ (¬ cs = ([(112 : Int32), (114 : Int32), (111 : Int32), (100 : Int32), (117 : Int32), (99 : Int32), (101 : Int32), (114 : Int32)] : List Int32) ∧ cs = ([(119 : Int32), (111 : Int32), (114 : Int32), (107 : Int32), (101 : Int32), (114 : Int32)] : List Int32) ∧ w = .ref gW) ∨ (¬ cs = ([(112 : Int32), (114 : Int32), (111 : Int32), (100 : Int32), (117 : Int32), (99 : Int32), (101 : Int32), (114 : Int32)] : List Int32) ∧ ¬ cs = ([(119 : Int32), (111 : Int32), (114 : Int32), (107 : Int32), (101 : Int32), (114 : Int32)] : List Int32) ∧ w = .null))
set_option maxRecDepth 65536 in
set_option maxHeartbeats 40000000 in
theorem rmPs (l : Launch) (Z : State) (a0 : Array Value) (hw : ∀ d ∈ tables_1, d.before a0 Z = true) (ws : List Jvm.Cond) (o : Addr) (cs : List Int32) (t : Addr) (kb : ClassId) (gP : Addr) (gW : Addr) (tP : Addr) (tW : Addr) (vP : Addr) (vW : Addr) (kP : ClassId) (kW : ClassId) (va : Addr) (kv : ClassId) (G1 : Int32) (h0 : Heap) (n0 : Nat) (Z0 : n0 ≤ h0.size) (E_o : Exa Z h0 o "java/lang/String") (Fc_o : Fld Z h0 o "java/lang/String" "coder" "B" (.int (0 : Int32))) (Fv_o : Fld Z h0 o "java/lang/String" "value" "[B" (.ref t)) (V_t : Arv Z h0 t kb .byte (Int32.ofNat cs.length) ((cs.map StrChars.lo8).map Value.int) (.int (0 : Int32))) (hbs : ∀ c ∈ cs, ¬ c < 0 ∧ ¬ (255 : Int32) < c) (hls : cs.length ≤ 4000) (S_V : Sta Z Z.heap cn5 "$VALUES" cn3 (.ref va)) (V_V : Arv Z Z.heap va kv (.object cn5) (2 : Int32) [(.ref gP), (.ref gW)] .null) (E_V : Exa Z Z.heap va cn3) (F_gP : Fld Z Z.heap gP cn5 "text" "Ljava/lang/String;" (.ref tP)) (E_tP : Exa Z Z.heap tP "java/lang/String") (Fv_tP : Fld Z Z.heap tP "java/lang/String" "value" "[B" (.ref vP)) (Fc_tP : Fld Z Z.heap tP "java/lang/String" "coder" "B" (.int (0 : Int32))) (V_vP : Arv Z Z.heap vP kP .byte (8 : Int32) [(.int (112 : Int32)), (.int (114 : Int32)), (.int (111 : Int32)), (.int (100 : Int32)), (.int (117 : Int32)), (.int (99 : Int32)), (.int (101 : Int32)), (.int (114 : Int32))] (.int (0 : Int32))) (F_gW : Fld Z Z.heap gW cn5 "text" "Ljava/lang/String;" (.ref tW)) (E_tW : Exa Z Z.heap tW "java/lang/String") (Fv_tW : Fld Z Z.heap tW "java/lang/String" "value" "[B" (.ref vW)) (Fc_tW : Fld Z Z.heap tW "java/lang/String" "coder" "B" (.int (0 : Int32))) (V_vW : Arv Z Z.heap vW kW .byte (6 : Int32) [(.int (119 : Int32)), (.int (111 : Int32)), (.int (114 : Int32)), (.int (107 : Int32)), (.int (101 : Int32)), (.int (114 : Int32))] (.int (0 : Int32))) (O2 : Sta Z Z.heap "java/lang/String" "COMPACT_STRINGS" "Z" (.int G1)) (P5 : ¬ (G1 = (0 : Int32))) (X00 : Old Z n0 h0) :
    MetFree l mn0 (head1 (Jvm.Cond.code mn0 prog_27_method_5_code 5 (some (.object cn5)) :: ws) ({ frames := 2, cells := 1, slots := 2, locals := 30 } : Room)) (fun a U => a = #[(.ref o)] ∧ Z.Warmed39 U.vm ∧ U.heap = h0) (fun _ _ _ _ _ => True) (fun _ U oc_ U' => ∃ v L, oc_ = .returned v ∧ QPs Z o cs t kb gP gW tP tW vP vW kP kW va kv G1 h0 n0 v U'.heap L ∧ FrameEnd U oc_ U' L ({ frames := 2, cells := 1, slots := 2, locals := 30 } : Room).cells ({ frames := 2, cells := 1, slots := 2, locals := 30 } : Room).slots) := by
  refine MetFree.of_bodySF (plainFor_of_name pn_com_example_aloq_aloq_engine_TokenKind) hisR ?_
  intro p e s m args below meth c s₁ Bd hml0 hP hK
  obtain ⟨rfl, hZ, hh⟩ := hP
  have hx := Bd.exec
  have hby := Bd.bytes
  have hml : c.maxLocals = 5 := hml0
  have hown : s.vm.findClass cn5 = some m.cls := findClass_of_methodNamed Bd.named
  have hnm := (name_of_methodNamed Bd.named Bd.method).1
  have X0 : Stand p l e ({ frames := 2, cells := 1, slots := 2, locals := 30 } : Room) s m #[(.ref o)] below meth c s₁ [] 0 0 := Stand.of_body Bd
  have e0 : s₁.heap = h0 := by rw [← hh, Bd.state]; rfl
  have N0 := Fr.nil n0
  have pre0 : ∀ t, Steps p.tables e below (s₁.setTop (mkF m 0 #[.val (.ref o), .unset, .unset, .unset, .unset] [])) t → Steps p.tables e below (s₁.setTop (entryFrame m #[(.ref o)] 5)) t := fun t k => castTop (ef_Ps m o) k
  obtain ⟨_, _, ⟨T1, L1, kc1, ks1⟩, -, X1, ⟨Lc1, hQ1, l1, y1, z1⟩, st1⟩ := Jvm.LawKit.callS X0 hx (y := mn1) hown (mvT hZ (wd38 hw)) (mvT hZ (wd39 hw)) (mvT hZ (wd36 hw)) (mvT hZ (wd40 hw)) (by decide) (backOf (W := 0) (rmVs l Z a0 hw [] va kv gP gW h0 n0 Z0 (S_V.ext X00.2) (V_V.ext X00.2) (E_V.ext X00.2)) hZ (wd40 hw) (wd36 hw) (by decide) (by decide)) (g := (mkF m 0 #[.val (.ref o), .unset, .unset, .unset, .unset] [])) rfl (by rw [hml]; rfl) (argsL := []) (rest := []) (lenOf pd____Lcom_example_aloq_aloq_engine_TokenKind_ rfl) rfl (by show 2 * 0 + _ ≤ _; exact Nat.le_of_eq rfl) (hb hby dd_0) (fun _ _ => ⟨rfl, e0, (by decide : 0 + 1 ≤ _), (by decide : 0 + 2 ≤ _)⟩)
  dsimp only [Pt.U, Pt.locs, Pt.cells, Pt.slots] at X1 l1 y1 z1 st1 hQ1
  subst l1 y1 z1
  obtain ⟨bq1, rfl, Nq1, Kq1, gV1⟩ := hQ1
  have N1 := Fr.app N0 Nq1
  have Z1 : n0 ≤ T1.heap.size := Nat.le_trans Z0 Kq1.1
  have K1 : Keep h0 T1.heap [] := Keep.trans (Keep.refl h0 []) Kq1 all0
  obtain ⟨cl2, Ar2, -, S2, M2, -, -⟩ := id gV1
  obtain ⟨cl3, Ar3, q3, S3, M3, HH3, GG3⟩ := id gV1
  have hin3 : ¬ ((0 : Int32) < 0 ∨ cl3.slots.size ≤ ((0 : Int32)).toNatClampNeg) := inb_of S3 ⟨by decide, by decide⟩
  have hat3 : cl3.slots[((0 : Int32)).toNatClampNeg]? = some (.ref gP) := Has.at HH3 hin3 rfl
  have f4 := (X00.keep Kq1 all0)
  obtain ⟨T5, X5, e5, st5⟩ := getF X1 hx hZ hown (host := "") (Or.inl (wd55 hw)) Via.refl rfl (F_gP.ext f4.2) (g := (mkF m 21 #[.val (.ref o), .val (.ref bq1), .val (.int (2 : Int32)), .val (.int (0 : Int32)), .val (.ref gP)] [(.ref gP)])) rfl rfl (hb hby dd_21)
  have k6 : ∀ t, Steps p.tables e below (T5.setTop (mkF m 25 #[.val (.ref o), .val (.ref bq1), .val (.int (2 : Int32)), .val (.int (0 : Int32)), .val (.ref gP)] [(.ref o), (.ref tP)])) t → Steps p.tables e below (s₁.setTop (entryFrame m #[(.ref o)] 5)) t := by
    intro t kt
    refine pre0 t ?_
    show Steps p.tables e below (s₁.setTop (mkF m 0 #[.val (.ref o), .unset, .unset, .unset, .unset] [])) _
    refine st1 _ ?_
    show Steps p.tables e below (T1.setTop (mkF m 3 #[.val (.ref o), .unset, .unset, .unset, .unset] [(.ref bq1)])) _
    refine XS.astoreN X1.here hx rfl (hb hby dd_3) rfl rfl (l' := #[.val (.ref o), .val (.ref bq1), .unset, .unset, .unset]) rfl ?_
    show Steps p.tables e below (T1.setTop (mkF m 4 #[.val (.ref o), .val (.ref bq1), .unset, .unset, .unset] [])) _
    refine XS.aloadN X1.here hx rfl (hb hby dd_4) rfl rfl ?_
    show Steps p.tables e below (T1.setTop (mkF m 5 #[.val (.ref o), .val (.ref bq1), .unset, .unset, .unset] [(.ref bq1)])) _
    refine X1.arraylength hx (by (try rw [rfl]); exact Ar2.1) (State.isArrayOf_alike hZ.alike Ar2.2.1) (g := (mkF m 5 #[.val (.ref o), .val (.ref bq1), .unset, .unset, .unset] [(.ref bq1)])) rfl rfl (hb hby dd_5) _ ?_
    rw [len_of S2 M2]
    show Steps p.tables e below (T1.setTop (mkF m 6 #[.val (.ref o), .val (.ref bq1), .unset, .unset, .unset] [(.int (2 : Int32))])) _
    refine XS.istoreN X1.here hx rfl (hb hby dd_6) rfl (l' := #[.val (.ref o), .val (.ref bq1), .val (.int (2 : Int32)), .unset, .unset]) rfl ?_
    show Steps p.tables e below (T1.setTop (mkF m 7 #[.val (.ref o), .val (.ref bq1), .val (.int (2 : Int32)), .unset, .unset] [])) _
    refine XS.iconst X1.here hx rfl (hb hby dd_7) ?_
    show Steps p.tables e below (T1.setTop (mkF m 8 #[.val (.ref o), .val (.ref bq1), .val (.int (2 : Int32)), .unset, .unset] [(.int (0 : Int32))])) _
    refine XS.istoreN X1.here hx rfl (hb hby dd_8) rfl (l' := #[.val (.ref o), .val (.ref bq1), .val (.int (2 : Int32)), .val (.int (0 : Int32)), .unset]) rfl ?_
    show Steps p.tables e below (T1.setTop (mkF m 9 #[.val (.ref o), .val (.ref bq1), .val (.int (2 : Int32)), .val (.int (0 : Int32)), .unset] [])) _
    refine XS.iloadN X1.here hx rfl (hb hby dd_9) rfl ?_
    show Steps p.tables e below (T1.setTop (mkF m 10 #[.val (.ref o), .val (.ref bq1), .val (.int (2 : Int32)), .val (.int (0 : Int32)), .unset] [(.int (0 : Int32))])) _
    refine XS.iloadN X1.here hx rfl (hb hby dd_10) rfl ?_
    show Steps p.tables e below (T1.setTop (mkF m 11 #[.val (.ref o), .val (.ref bq1), .val (.int (2 : Int32)), .val (.int (0 : Int32)), .unset] [(.int (2 : Int32)), (.int (0 : Int32))])) _
    refine XS.icmpNo X1.here hx rfl (hb hby dd_11) rfl (tlt (by decide : (0 : Int32) < (2 : Int32))).2.1 ?_
    show Steps p.tables e below (T1.setTop (mkF m 14 #[.val (.ref o), .val (.ref bq1), .val (.int (2 : Int32)), .val (.int (0 : Int32)), .unset] [])) _
    refine XS.aloadN X1.here hx rfl (hb hby dd_14) rfl rfl ?_
    show Steps p.tables e below (T1.setTop (mkF m 15 #[.val (.ref o), .val (.ref bq1), .val (.int (2 : Int32)), .val (.int (0 : Int32)), .unset] [(.ref bq1)])) _
    refine XS.iloadN X1.here hx rfl (hb hby dd_15) rfl ?_
    show Steps p.tables e below (T1.setTop (mkF m 16 #[.val (.ref o), .val (.ref bq1), .val (.int (2 : Int32)), .val (.int (0 : Int32)), .unset] [(.int (0 : Int32)), (.ref bq1)])) _
    refine X1.aaload hx (j := (0 : Int32)) (v := (.ref gP)) (by (try rw [rfl]); exact Ar3.1) (State.isArrayOf_alike hZ.alike Ar3.2.1) rfl Ar3.2.2 hin3 hat3 (g := (mkF m 16 #[.val (.ref o), .val (.ref bq1), .val (.int (2 : Int32)), .val (.int (0 : Int32)), .unset] [(.int (0 : Int32)), (.ref bq1)])) rfl rfl (hb hby dd_16) _ ?_
    show Steps p.tables e below (T1.setTop (mkF m 17 #[.val (.ref o), .val (.ref bq1), .val (.int (2 : Int32)), .val (.int (0 : Int32)), .unset] [(.ref gP)])) _
    refine XS.astore X1.here hx rfl (hb hby dd_17) rfl rfl (l' := #[.val (.ref o), .val (.ref bq1), .val (.int (2 : Int32)), .val (.int (0 : Int32)), .val (.ref gP)]) rfl ?_
    show Steps p.tables e below (T1.setTop (mkF m 19 #[.val (.ref o), .val (.ref bq1), .val (.int (2 : Int32)), .val (.int (0 : Int32)), .val (.ref gP)] [])) _
    refine XS.aload X1.here hx rfl (hb hby dd_19) rfl rfl ?_
    show Steps p.tables e below (T1.setTop (mkF m 21 #[.val (.ref o), .val (.ref bq1), .val (.int (2 : Int32)), .val (.int (0 : Int32)), .val (.ref gP)] [(.ref gP)])) _
    refine st5 _ ?_
    show Steps p.tables e below (T5.setTop (mkF m 24 #[.val (.ref o), .val (.ref bq1), .val (.int (2 : Int32)), .val (.int (0 : Int32)), .val (.ref gP)] [(.ref tP)])) _
    refine XS.aloadN X5.here hx rfl (hb hby dd_24) rfl rfl ?_
    exact kt
  by_cases hP : cs = ([(112 : Int32), (114 : Int32), (111 : Int32), (100 : Int32), (117 : Int32), (99 : Int32), (101 : Int32), (114 : Int32)] : List Int32)
  · skip
    have hp7 : ∀ c ∈ ([(112 : Int32), (114 : Int32), (111 : Int32), (100 : Int32), (117 : Int32), (99 : Int32), (101 : Int32), (114 : Int32)] : List Int32), ¬ c < 0 ∧ ¬ (255 : Int32) < c := by
      intro c hc
      simp only [List.mem_cons, List.not_mem_nil, or_false] at hc
      rcases hc with rfl | rfl | rfl | rfl | rfl | rfl | rfl | rfl
      · exact (by decide)
      · exact (by decide)
      · exact (by decide)
      · exact (by decide)
      · exact (by decide)
      · exact (by decide)
      · exact (by decide)
      · exact (by decide)
    have hcd8 : StrChars.Road.CodA ([(112 : Int32), (114 : Int32), (111 : Int32), (100 : Int32), (117 : Int32), (99 : Int32), (101 : Int32), (114 : Int32)] : List Int32) 0 (8 : Int32) [(.int (112 : Int32)), (.int (114 : Int32)), (.int (111 : Int32)), (.int (100 : Int32)), (.int (117 : Int32)), (.int (99 : Int32)), (.int (101 : Int32)), (.int (114 : Int32))] := StrChars.Road.codOf (cs := ([(112 : Int32), (114 : Int32), (111 : Int32), (100 : Int32), (117 : Int32), (99 : Int32), (101 : Int32), (114 : Int32)] : List Int32)) (n := 8) rfl (fun c hc => (hp7 c hc).2)
    have hbd8 := own_up _ hp7
    have f9 := (E_o.keep Kq1)
    have f10 := (Fv_o.keep Kq1 nin0)
    have f11 := (Fc_o.keep Kq1 nin0)
    have f12 := (V_t.keep Kq1 nin0)
    obtain ⟨cq13, kq13, q13a, q13b, q13c⟩ := isOf hZ e5 (E_tP.ext f4.2)
    obtain ⟨_, _, ⟨T13, L13, kc13, ks13⟩, -, X13, ⟨Lc13, hQ13, l13, y13, z13⟩, st13⟩ := X5.virtualBack hx (y := mn5) (z := mn5) hown (mvT hZ (wd57 hw)) (mvT hZ (wd58 hw)) (notFace_of_selects (args := #[]) (mvT hZ (wd60 hw))) (mvT hZ (wd60 hw)) (mvT hZ (wd59 hw)) (by decide) (StrChars.Road.eqW (W := 0) hZ (own_hwordsEq hw) (kI := 4) (wd6 hw) (E_tP.ext f4.2) (Fv_tP.ext f4.2) (Fc_tP.ext f4.2) (V_vP.ext f4.2) hcd8 hbd8 (Nat.le_of_ble_eq_true rfl) f9 f10 f11 f12 (StrChars.Road.codOf (cs := cs) rfl (fun c hc => (hbs c hc).2)) (own_up _ hbs) hls (O2.ext f4.2) P5 (by decide) (by decide)) q13a q13c (g := (mkF m 25 #[.val (.ref o), .val (.ref bq1), .val (.int (2 : Int32)), .val (.int (0 : Int32)), .val (.ref gP)] [(.ref o), (.ref tP)])) rfl (by rw [hml]; rfl) (Steps.refl _) (argsL := [(.ref o)]) (rest := []) (lenOf pd__Ljava_lang_Object__Z rfl) rfl (by show 2 * 0 + _ ≤ _; exact Nat.le_of_eq rfl) (hb hby dd_25) (fun _ _ => ⟨rfl, e5, (by decide : 1 + 0 ≤ _), (by decide : 2 + 0 ≤ _)⟩)
    dsimp only [Pt.U, Pt.locs, Pt.cells, Pt.slots] at X13 l13 y13 z13 st13 hQ13
    subst l13 y13 z13
    obtain ⟨hcase13, rfl, eq13⟩ := hQ13
    have hv13 : _ = some (Value.int 1) := hcase13.elim (fun q => q.1) (fun q => absurd hP.symm q.2)
    subst hv13
    have Nq13 : Fr n0 ([] : List Loc) := Fr.nil n0
    have N13 := Fr.app N1 Nq13
    obtain ⟨lfs, lhr, lhrun, lhended, lhW, lhsame⟩ := X13.leave (v := some (.ref gP)) (fun h => by rw [Bd.returns] at h; cases h)
    refine ⟨_, _, k6 _ ?_, lhrun, lhended, _, _, rfl, ?_, ⟨_, rfl⟩, lhW, lhsame.mono (by decide) (by decide)⟩
    · skip
      show Steps p.tables e below (T5.setTop (mkF m 25 #[.val (.ref o), .val (.ref bq1), .val (.int (2 : Int32)), .val (.int (0 : Int32)), .val (.ref gP)] [(.ref o), (.ref tP)])) _
      refine st13.trans ?_
      show Steps p.tables e below (T13.setTop (mkF m 28 #[.val (.ref o), .val (.ref bq1), .val (.int (2 : Int32)), .val (.int (0 : Int32)), .val (.ref gP)] [(.int (1 : Int32))])) _
      refine XS.ifNo X13.here hx rfl (hb hby dd_28) rfl ((if0 _ _).trans (feq (by decide : ¬ ((1 : Int32) = (0 : Int32)))).1) ?_
      show Steps p.tables e below (T13.setTop (mkF m 31 #[.val (.ref o), .val (.ref bq1), .val (.int (2 : Int32)), .val (.int (0 : Int32)), .val (.ref gP)] [])) _
      refine XS.aload X13.here hx rfl (hb hby dd_31) rfl rfl ?_
      show Steps p.tables e below (T13.setTop (mkF m 33 #[.val (.ref o), .val (.ref bq1), .val (.int (2 : Int32)), .val (.int (0 : Int32)), .val (.ref gP)] [(.ref gP)])) _
      exact retOut X13 hx Bd.returns rfl (Or.inr (Or.inr (Or.inr (Or.inr ⟨rfl, rfl, rfl⟩)))) (hb hby dd_33) lhr
    · skip
      show QPs Z o cs t kb gP gW tP tW vP vW kP kW va kv G1 h0 n0 _ T13.heap _
      rw [eq13]
      exact ⟨_, rfl, N13, K1, Or.inl ⟨hP, rfl⟩⟩
  · skip
    have hp14 : ∀ c ∈ ([(112 : Int32), (114 : Int32), (111 : Int32), (100 : Int32), (117 : Int32), (99 : Int32), (101 : Int32), (114 : Int32)] : List Int32), ¬ c < 0 ∧ ¬ (255 : Int32) < c := by
      intro c hc
      simp only [List.mem_cons, List.not_mem_nil, or_false] at hc
      rcases hc with rfl | rfl | rfl | rfl | rfl | rfl | rfl | rfl
      · exact (by decide)
      · exact (by decide)
      · exact (by decide)
      · exact (by decide)
      · exact (by decide)
      · exact (by decide)
      · exact (by decide)
      · exact (by decide)
    have hcd15 : StrChars.Road.CodA ([(112 : Int32), (114 : Int32), (111 : Int32), (100 : Int32), (117 : Int32), (99 : Int32), (101 : Int32), (114 : Int32)] : List Int32) 0 (8 : Int32) [(.int (112 : Int32)), (.int (114 : Int32)), (.int (111 : Int32)), (.int (100 : Int32)), (.int (117 : Int32)), (.int (99 : Int32)), (.int (101 : Int32)), (.int (114 : Int32))] := StrChars.Road.codOf (cs := ([(112 : Int32), (114 : Int32), (111 : Int32), (100 : Int32), (117 : Int32), (99 : Int32), (101 : Int32), (114 : Int32)] : List Int32)) (n := 8) rfl (fun c hc => (hp14 c hc).2)
    have hbd15 := own_up _ hp14
    have f16 := (E_o.keep Kq1)
    have f17 := (Fv_o.keep Kq1 nin0)
    have f18 := (Fc_o.keep Kq1 nin0)
    have f19 := (V_t.keep Kq1 nin0)
    obtain ⟨cq20, kq20, q20a, q20b, q20c⟩ := isOf hZ e5 (E_tP.ext f4.2)
    obtain ⟨_, _, ⟨T20, L20, kc20, ks20⟩, -, X20, ⟨Lc20, hQ20, l20, y20, z20⟩, st20⟩ := X5.virtualBack hx (y := mn5) (z := mn5) hown (mvT hZ (wd57 hw)) (mvT hZ (wd58 hw)) (notFace_of_selects (args := #[]) (mvT hZ (wd60 hw))) (mvT hZ (wd60 hw)) (mvT hZ (wd59 hw)) (by decide) (StrChars.Road.eqW (W := 0) hZ (own_hwordsEq hw) (kI := 4) (wd6 hw) (E_tP.ext f4.2) (Fv_tP.ext f4.2) (Fc_tP.ext f4.2) (V_vP.ext f4.2) hcd15 hbd15 (Nat.le_of_ble_eq_true rfl) f16 f17 f18 f19 (StrChars.Road.codOf (cs := cs) rfl (fun c hc => (hbs c hc).2)) (own_up _ hbs) hls (O2.ext f4.2) P5 (by decide) (by decide)) q20a q20c (g := (mkF m 25 #[.val (.ref o), .val (.ref bq1), .val (.int (2 : Int32)), .val (.int (0 : Int32)), .val (.ref gP)] [(.ref o), (.ref tP)])) rfl (by rw [hml]; rfl) (Steps.refl _) (argsL := [(.ref o)]) (rest := []) (lenOf pd__Ljava_lang_Object__Z rfl) rfl (by show 2 * 0 + _ ≤ _; exact Nat.le_of_eq rfl) (hb hby dd_25) (fun _ _ => ⟨rfl, e5, (by decide : 1 + 0 ≤ _), (by decide : 2 + 0 ≤ _)⟩)
    dsimp only [Pt.U, Pt.locs, Pt.cells, Pt.slots] at X20 l20 y20 z20 st20 hQ20
    subst l20 y20 z20
    obtain ⟨hcase20, rfl, eq20⟩ := hQ20
    have hv20 : _ = some (Value.int 0) := hcase20.elim (fun q => absurd q.2.symm hP) (fun q => q.1)
    subst hv20
    have Nq20 : Fr n0 ([] : List Loc) := Fr.nil n0
    have N20 := Fr.app N1 Nq20
    obtain ⟨cl21, Ar21, q21, S21, M21, HH21, GG21⟩ := id gV1
    have hin21 : ¬ ((1 : Int32) < 0 ∨ cl21.slots.size ≤ ((1 : Int32)).toNatClampNeg) := inb_of S21 ⟨by decide, by decide⟩
    have hat21 : cl21.slots[((1 : Int32)).toNatClampNeg]? = some (.ref gW) := Has.at HH21 hin21 rfl
    obtain ⟨T22, X22, e22, st22⟩ := getF X20 hx hZ hown (host := "") (Or.inl (wd55 hw)) Via.refl eq20 (F_gW.ext f4.2) (g := (mkF m 21 #[.val (.ref o), .val (.ref bq1), .val (.int (2 : Int32)), .val (.int (1 : Int32)), .val (.ref gW)] [(.ref gW)])) rfl rfl (hb hby dd_21)
    have k23 : ∀ t, Steps p.tables e below (T22.setTop (mkF m 25 #[.val (.ref o), .val (.ref bq1), .val (.int (2 : Int32)), .val (.int (1 : Int32)), .val (.ref gW)] [(.ref o), (.ref tW)])) t → Steps p.tables e below (s₁.setTop (entryFrame m #[(.ref o)] 5)) t := by
      intro t kt
      refine k6 t ?_
      show Steps p.tables e below (T5.setTop (mkF m 25 #[.val (.ref o), .val (.ref bq1), .val (.int (2 : Int32)), .val (.int (0 : Int32)), .val (.ref gP)] [(.ref o), (.ref tP)])) _
      refine st20.trans ?_
      show Steps p.tables e below (T20.setTop (mkF m 28 #[.val (.ref o), .val (.ref bq1), .val (.int (2 : Int32)), .val (.int (0 : Int32)), .val (.ref gP)] [(.int (0 : Int32))])) _
      refine XS.ifYes X20.here hx rfl (pc0 := 28) (pc' := 34) rfl (hb hby dd_28) rfl ((if0 _ _).trans (teq (by decide : (0 : Int32) = (0 : Int32))).1) (by decide) (by decide) ?_
      show Steps p.tables e below (T20.setTop (mkF m 34 #[.val (.ref o), .val (.ref bq1), .val (.int (2 : Int32)), .val (.int (0 : Int32)), .val (.ref gP)] [])) _
      refine XS.iinc X20.here hx rfl (hb hby dd_34) rfl (l' := #[.val (.ref o), .val (.ref bq1), .val (.int (2 : Int32)), .val (.int (1 : Int32)), .val (.ref gP)]) rfl ?_
      show Steps p.tables e below (T20.setTop (mkF m 37 #[.val (.ref o), .val (.ref bq1), .val (.int (2 : Int32)), .val (.int (1 : Int32)), .val (.ref gP)] [])) _
      refine XS.goto X20.here hx rfl (pc0 := 37) (pc' := 9) rfl (hb hby dd_37) (by decide) (by decide) ?_
      show Steps p.tables e below (T20.setTop (mkF m 9 #[.val (.ref o), .val (.ref bq1), .val (.int (2 : Int32)), .val (.int (1 : Int32)), .val (.ref gP)] [])) _
      refine XS.iloadN X20.here hx rfl (hb hby dd_9) rfl ?_
      show Steps p.tables e below (T20.setTop (mkF m 10 #[.val (.ref o), .val (.ref bq1), .val (.int (2 : Int32)), .val (.int (1 : Int32)), .val (.ref gP)] [(.int (1 : Int32))])) _
      refine XS.iloadN X20.here hx rfl (hb hby dd_10) rfl ?_
      show Steps p.tables e below (T20.setTop (mkF m 11 #[.val (.ref o), .val (.ref bq1), .val (.int (2 : Int32)), .val (.int (1 : Int32)), .val (.ref gP)] [(.int (2 : Int32)), (.int (1 : Int32))])) _
      refine XS.icmpNo X20.here hx rfl (hb hby dd_11) rfl (tlt (by decide : (1 : Int32) < (2 : Int32))).2.1 ?_
      show Steps p.tables e below (T20.setTop (mkF m 14 #[.val (.ref o), .val (.ref bq1), .val (.int (2 : Int32)), .val (.int (1 : Int32)), .val (.ref gP)] [])) _
      refine XS.aloadN X20.here hx rfl (hb hby dd_14) rfl rfl ?_
      show Steps p.tables e below (T20.setTop (mkF m 15 #[.val (.ref o), .val (.ref bq1), .val (.int (2 : Int32)), .val (.int (1 : Int32)), .val (.ref gP)] [(.ref bq1)])) _
      refine XS.iloadN X20.here hx rfl (hb hby dd_15) rfl ?_
      show Steps p.tables e below (T20.setTop (mkF m 16 #[.val (.ref o), .val (.ref bq1), .val (.int (2 : Int32)), .val (.int (1 : Int32)), .val (.ref gP)] [(.int (1 : Int32)), (.ref bq1)])) _
      refine X20.aaload hx (j := (1 : Int32)) (v := (.ref gW)) (by (try rw [eq20]); exact Ar21.1) (State.isArrayOf_alike hZ.alike Ar21.2.1) rfl Ar21.2.2 hin21 hat21 (g := (mkF m 16 #[.val (.ref o), .val (.ref bq1), .val (.int (2 : Int32)), .val (.int (1 : Int32)), .val (.ref gP)] [(.int (1 : Int32)), (.ref bq1)])) rfl rfl (hb hby dd_16) _ ?_
      show Steps p.tables e below (T20.setTop (mkF m 17 #[.val (.ref o), .val (.ref bq1), .val (.int (2 : Int32)), .val (.int (1 : Int32)), .val (.ref gP)] [(.ref gW)])) _
      refine XS.astore X20.here hx rfl (hb hby dd_17) rfl rfl (l' := #[.val (.ref o), .val (.ref bq1), .val (.int (2 : Int32)), .val (.int (1 : Int32)), .val (.ref gW)]) rfl ?_
      show Steps p.tables e below (T20.setTop (mkF m 19 #[.val (.ref o), .val (.ref bq1), .val (.int (2 : Int32)), .val (.int (1 : Int32)), .val (.ref gW)] [])) _
      refine XS.aload X20.here hx rfl (hb hby dd_19) rfl rfl ?_
      show Steps p.tables e below (T20.setTop (mkF m 21 #[.val (.ref o), .val (.ref bq1), .val (.int (2 : Int32)), .val (.int (1 : Int32)), .val (.ref gW)] [(.ref gW)])) _
      refine st22 _ ?_
      show Steps p.tables e below (T22.setTop (mkF m 24 #[.val (.ref o), .val (.ref bq1), .val (.int (2 : Int32)), .val (.int (1 : Int32)), .val (.ref gW)] [(.ref tW)])) _
      refine XS.aloadN X22.here hx rfl (hb hby dd_24) rfl rfl ?_
      exact kt
    by_cases hW : cs = ([(119 : Int32), (111 : Int32), (114 : Int32), (107 : Int32), (101 : Int32), (114 : Int32)] : List Int32)
    · skip
      have hp24 : ∀ c ∈ ([(119 : Int32), (111 : Int32), (114 : Int32), (107 : Int32), (101 : Int32), (114 : Int32)] : List Int32), ¬ c < 0 ∧ ¬ (255 : Int32) < c := by
        intro c hc
        simp only [List.mem_cons, List.not_mem_nil, or_false] at hc
        rcases hc with rfl | rfl | rfl | rfl | rfl | rfl
        · exact (by decide)
        · exact (by decide)
        · exact (by decide)
        · exact (by decide)
        · exact (by decide)
        · exact (by decide)
      have hcd25 : StrChars.Road.CodA ([(119 : Int32), (111 : Int32), (114 : Int32), (107 : Int32), (101 : Int32), (114 : Int32)] : List Int32) 0 (6 : Int32) [(.int (119 : Int32)), (.int (111 : Int32)), (.int (114 : Int32)), (.int (107 : Int32)), (.int (101 : Int32)), (.int (114 : Int32))] := StrChars.Road.codOf (cs := ([(119 : Int32), (111 : Int32), (114 : Int32), (107 : Int32), (101 : Int32), (114 : Int32)] : List Int32)) (n := 6) rfl (fun c hc => (hp24 c hc).2)
      have hbd25 := own_up _ hp24
      obtain ⟨cq26, kq26, q26a, q26b, q26c⟩ := isOf hZ e22 (E_tW.ext f4.2)
      obtain ⟨_, _, ⟨T26, L26, kc26, ks26⟩, -, X26, ⟨Lc26, hQ26, l26, y26, z26⟩, st26⟩ := X22.virtualBack hx (y := mn5) (z := mn5) hown (mvT hZ (wd57 hw)) (mvT hZ (wd58 hw)) (notFace_of_selects (args := #[]) (mvT hZ (wd60 hw))) (mvT hZ (wd60 hw)) (mvT hZ (wd59 hw)) (by decide) (StrChars.Road.eqW (W := 0) hZ (own_hwordsEq hw) (kI := 4) (wd6 hw) (E_tW.ext f4.2) (Fv_tW.ext f4.2) (Fc_tW.ext f4.2) (V_vW.ext f4.2) hcd25 hbd25 (Nat.le_of_ble_eq_true rfl) f16 f17 f18 f19 (StrChars.Road.codOf (cs := cs) rfl (fun c hc => (hbs c hc).2)) (own_up _ hbs) hls (O2.ext f4.2) P5 (by decide) (by decide)) q26a q26c (g := (mkF m 25 #[.val (.ref o), .val (.ref bq1), .val (.int (2 : Int32)), .val (.int (1 : Int32)), .val (.ref gW)] [(.ref o), (.ref tW)])) rfl (by rw [hml]; rfl) (Steps.refl _) (argsL := [(.ref o)]) (rest := []) (lenOf pd__Ljava_lang_Object__Z rfl) rfl (by show 2 * 0 + _ ≤ _; exact Nat.le_of_eq rfl) (hb hby dd_25) (fun _ _ => ⟨rfl, e22, (by decide : 1 + 0 ≤ _), (by decide : 2 + 0 ≤ _)⟩)
      dsimp only [Pt.U, Pt.locs, Pt.cells, Pt.slots] at X26 l26 y26 z26 st26 hQ26
      subst l26 y26 z26
      obtain ⟨hcase26, rfl, eq26⟩ := hQ26
      have hv26 : _ = some (Value.int 1) := hcase26.elim (fun q => q.1) (fun q => absurd hW.symm q.2)
      subst hv26
      have Nq26 : Fr n0 ([] : List Loc) := Fr.nil n0
      have N26 := Fr.app N20 Nq26
      obtain ⟨lfs, lhr, lhrun, lhended, lhW, lhsame⟩ := X26.leave (v := some (.ref gW)) (fun h => by rw [Bd.returns] at h; cases h)
      refine ⟨_, _, k23 _ ?_, lhrun, lhended, _, _, rfl, ?_, ⟨_, rfl⟩, lhW, lhsame.mono (by decide) (by decide)⟩
      · skip
        show Steps p.tables e below (T22.setTop (mkF m 25 #[.val (.ref o), .val (.ref bq1), .val (.int (2 : Int32)), .val (.int (1 : Int32)), .val (.ref gW)] [(.ref o), (.ref tW)])) _
        refine st26.trans ?_
        show Steps p.tables e below (T26.setTop (mkF m 28 #[.val (.ref o), .val (.ref bq1), .val (.int (2 : Int32)), .val (.int (1 : Int32)), .val (.ref gW)] [(.int (1 : Int32))])) _
        refine XS.ifNo X26.here hx rfl (hb hby dd_28) rfl ((if0 _ _).trans (feq (by decide : ¬ ((1 : Int32) = (0 : Int32)))).1) ?_
        show Steps p.tables e below (T26.setTop (mkF m 31 #[.val (.ref o), .val (.ref bq1), .val (.int (2 : Int32)), .val (.int (1 : Int32)), .val (.ref gW)] [])) _
        refine XS.aload X26.here hx rfl (hb hby dd_31) rfl rfl ?_
        show Steps p.tables e below (T26.setTop (mkF m 33 #[.val (.ref o), .val (.ref bq1), .val (.int (2 : Int32)), .val (.int (1 : Int32)), .val (.ref gW)] [(.ref gW)])) _
        exact retOut X26 hx Bd.returns rfl (Or.inr (Or.inr (Or.inr (Or.inr ⟨rfl, rfl, rfl⟩)))) (hb hby dd_33) lhr
      · skip
        show QPs Z o cs t kb gP gW tP tW vP vW kP kW va kv G1 h0 n0 _ T26.heap _
        rw [eq26]
        exact ⟨_, rfl, N26, K1, Or.inr (Or.inl ⟨hP, hW, rfl⟩)⟩
    · skip
      have hp27 : ∀ c ∈ ([(119 : Int32), (111 : Int32), (114 : Int32), (107 : Int32), (101 : Int32), (114 : Int32)] : List Int32), ¬ c < 0 ∧ ¬ (255 : Int32) < c := by
        intro c hc
        simp only [List.mem_cons, List.not_mem_nil, or_false] at hc
        rcases hc with rfl | rfl | rfl | rfl | rfl | rfl
        · exact (by decide)
        · exact (by decide)
        · exact (by decide)
        · exact (by decide)
        · exact (by decide)
        · exact (by decide)
      have hcd28 : StrChars.Road.CodA ([(119 : Int32), (111 : Int32), (114 : Int32), (107 : Int32), (101 : Int32), (114 : Int32)] : List Int32) 0 (6 : Int32) [(.int (119 : Int32)), (.int (111 : Int32)), (.int (114 : Int32)), (.int (107 : Int32)), (.int (101 : Int32)), (.int (114 : Int32))] := StrChars.Road.codOf (cs := ([(119 : Int32), (111 : Int32), (114 : Int32), (107 : Int32), (101 : Int32), (114 : Int32)] : List Int32)) (n := 6) rfl (fun c hc => (hp27 c hc).2)
      have hbd28 := own_up _ hp27
      obtain ⟨cq29, kq29, q29a, q29b, q29c⟩ := isOf hZ e22 (E_tW.ext f4.2)
      obtain ⟨_, _, ⟨T29, L29, kc29, ks29⟩, -, X29, ⟨Lc29, hQ29, l29, y29, z29⟩, st29⟩ := X22.virtualBack hx (y := mn5) (z := mn5) hown (mvT hZ (wd57 hw)) (mvT hZ (wd58 hw)) (notFace_of_selects (args := #[]) (mvT hZ (wd60 hw))) (mvT hZ (wd60 hw)) (mvT hZ (wd59 hw)) (by decide) (StrChars.Road.eqW (W := 0) hZ (own_hwordsEq hw) (kI := 4) (wd6 hw) (E_tW.ext f4.2) (Fv_tW.ext f4.2) (Fc_tW.ext f4.2) (V_vW.ext f4.2) hcd28 hbd28 (Nat.le_of_ble_eq_true rfl) f16 f17 f18 f19 (StrChars.Road.codOf (cs := cs) rfl (fun c hc => (hbs c hc).2)) (own_up _ hbs) hls (O2.ext f4.2) P5 (by decide) (by decide)) q29a q29c (g := (mkF m 25 #[.val (.ref o), .val (.ref bq1), .val (.int (2 : Int32)), .val (.int (1 : Int32)), .val (.ref gW)] [(.ref o), (.ref tW)])) rfl (by rw [hml]; rfl) (Steps.refl _) (argsL := [(.ref o)]) (rest := []) (lenOf pd__Ljava_lang_Object__Z rfl) rfl (by show 2 * 0 + _ ≤ _; exact Nat.le_of_eq rfl) (hb hby dd_25) (fun _ _ => ⟨rfl, e22, (by decide : 1 + 0 ≤ _), (by decide : 2 + 0 ≤ _)⟩)
      dsimp only [Pt.U, Pt.locs, Pt.cells, Pt.slots] at X29 l29 y29 z29 st29 hQ29
      subst l29 y29 z29
      obtain ⟨hcase29, rfl, eq29⟩ := hQ29
      have hv29 : _ = some (Value.int 0) := hcase29.elim (fun q => absurd q.2.symm hW) (fun q => q.1)
      subst hv29
      have Nq29 : Fr n0 ([] : List Loc) := Fr.nil n0
      have N29 := Fr.app N20 Nq29
      obtain ⟨lfs, lhr, lhrun, lhended, lhW, lhsame⟩ := X29.leave (v := some .null) (fun h => by rw [Bd.returns] at h; cases h)
      refine ⟨_, _, k23 _ ?_, lhrun, lhended, _, _, rfl, ?_, ⟨_, rfl⟩, lhW, lhsame.mono (by decide) (by decide)⟩
      · skip
        show Steps p.tables e below (T22.setTop (mkF m 25 #[.val (.ref o), .val (.ref bq1), .val (.int (2 : Int32)), .val (.int (1 : Int32)), .val (.ref gW)] [(.ref o), (.ref tW)])) _
        refine st29.trans ?_
        show Steps p.tables e below (T29.setTop (mkF m 28 #[.val (.ref o), .val (.ref bq1), .val (.int (2 : Int32)), .val (.int (1 : Int32)), .val (.ref gW)] [(.int (0 : Int32))])) _
        refine XS.ifYes X29.here hx rfl (pc0 := 28) (pc' := 34) rfl (hb hby dd_28) rfl ((if0 _ _).trans (teq (by decide : (0 : Int32) = (0 : Int32))).1) (by decide) (by decide) ?_
        show Steps p.tables e below (T29.setTop (mkF m 34 #[.val (.ref o), .val (.ref bq1), .val (.int (2 : Int32)), .val (.int (1 : Int32)), .val (.ref gW)] [])) _
        refine XS.iinc X29.here hx rfl (hb hby dd_34) rfl (l' := #[.val (.ref o), .val (.ref bq1), .val (.int (2 : Int32)), .val (.int (2 : Int32)), .val (.ref gW)]) rfl ?_
        show Steps p.tables e below (T29.setTop (mkF m 37 #[.val (.ref o), .val (.ref bq1), .val (.int (2 : Int32)), .val (.int (2 : Int32)), .val (.ref gW)] [])) _
        refine XS.goto X29.here hx rfl (pc0 := 37) (pc' := 9) rfl (hb hby dd_37) (by decide) (by decide) ?_
        show Steps p.tables e below (T29.setTop (mkF m 9 #[.val (.ref o), .val (.ref bq1), .val (.int (2 : Int32)), .val (.int (2 : Int32)), .val (.ref gW)] [])) _
        refine XS.iloadN X29.here hx rfl (hb hby dd_9) rfl ?_
        show Steps p.tables e below (T29.setTop (mkF m 10 #[.val (.ref o), .val (.ref bq1), .val (.int (2 : Int32)), .val (.int (2 : Int32)), .val (.ref gW)] [(.int (2 : Int32))])) _
        refine XS.iloadN X29.here hx rfl (hb hby dd_10) rfl ?_
        show Steps p.tables e below (T29.setTop (mkF m 11 #[.val (.ref o), .val (.ref bq1), .val (.int (2 : Int32)), .val (.int (2 : Int32)), .val (.ref gW)] [(.int (2 : Int32)), (.int (2 : Int32))])) _
        refine XS.icmpYes X29.here hx rfl (pc0 := 11) (pc' := 40) rfl (hb hby dd_11) rfl (flt (by decide : ¬ ((2 : Int32) < (2 : Int32)))).2.1 (by decide) (by decide) ?_
        show Steps p.tables e below (T29.setTop (mkF m 40 #[.val (.ref o), .val (.ref bq1), .val (.int (2 : Int32)), .val (.int (2 : Int32)), .val (.ref gW)] [])) _
        refine XS.aconstNull X29.here hx rfl (hb hby dd_40) ?_
        show Steps p.tables e below (T29.setTop (mkF m 41 #[.val (.ref o), .val (.ref bq1), .val (.int (2 : Int32)), .val (.int (2 : Int32)), .val (.ref gW)] [.null])) _
        exact retOut X29 hx Bd.returns rfl (Or.inr (Or.inr (Or.inr (Or.inr ⟨rfl, rfl, rfl⟩)))) (hb hby dd_41) lhr
      · skip
        show QPs Z o cs t kb gP gW tP tW vP vW kP kW va kv G1 h0 n0 _ T29.heap _
        rw [eq29]
        exact ⟨_, rfl, N29, K1, Or.inr (Or.inr ⟨hP, hW, rfl⟩)⟩
theorem ef_0 (m : MethodId) (x0 : Int32) (x1 : Int32) (x2 : Int32) (x3 : Int32) : entryFrame m #[(.int x0), (.int x1), (.int x2), (.int x3)] maxLocals = mkF m 0 #[.val (.int x0), .val (.int x1), .val (.int x2), .val (.int x3), .unset, .unset, .unset, .unset, .unset, .unset, .unset, .unset] [] := by first | (simp [entryFrame, mkF, argsToLocals, Value.category, maxLocals]; done) | rfl
def Q0 (Z : State) (x0 : Int32) (x1 : Int32) (x2 : Int32) (x3 : Int32) (gP : Addr) (gW : Addr) (tP : Addr) (tW : Addr) (vP : Addr) (vW : Addr) (kP : ClassId) (kW : ClassId) (va : Addr) (kv : ClassId) (G1 : Int32) (h0 : Heap) (n0 : Nat) (v : Option Value) (h : Heap) (L : List Loc) : Prop := v = some (.int 1) ∧ Fr n0 L
set_option maxRecDepth 65536 in
set_option maxHeartbeats 40000000 in
theorem rm0 (l : Launch) (Z : State) (a0 : Array Value) (hw : ∀ d ∈ tables_1, d.before a0 Z = true) (ws : List Jvm.Cond) (x0 : Int32) (x1 : Int32) (x2 : Int32) (x3 : Int32) (gP : Addr) (gW : Addr) (tP : Addr) (tW : Addr) (vP : Addr) (vW : Addr) (kP : ClassId) (kW : ClassId) (va : Addr) (kv : ClassId) (G1 : Int32) (h0 : Heap) (n0 : Nat) (Z0 : n0 ≤ h0.size) (S_V : Sta Z Z.heap cn5 "$VALUES" cn3 (.ref va)) (V_V : Arv Z Z.heap va kv (.object cn5) (2 : Int32) [(.ref gP), (.ref gW)] .null) (E_V : Exa Z Z.heap va cn3) (F_gP : Fld Z Z.heap gP cn5 "text" "Ljava/lang/String;" (.ref tP)) (E_tP : Exa Z Z.heap tP "java/lang/String") (Fv_tP : Fld Z Z.heap tP "java/lang/String" "value" "[B" (.ref vP)) (Fc_tP : Fld Z Z.heap tP "java/lang/String" "coder" "B" (.int (0 : Int32))) (V_vP : Arv Z Z.heap vP kP .byte (8 : Int32) [(.int (112 : Int32)), (.int (114 : Int32)), (.int (111 : Int32)), (.int (100 : Int32)), (.int (117 : Int32)), (.int (99 : Int32)), (.int (101 : Int32)), (.int (114 : Int32))] (.int (0 : Int32))) (F_gW : Fld Z Z.heap gW cn5 "text" "Ljava/lang/String;" (.ref tW)) (E_tW : Exa Z Z.heap tW "java/lang/String") (Fv_tW : Fld Z Z.heap tW "java/lang/String" "value" "[B" (.ref vW)) (Fc_tW : Fld Z Z.heap tW "java/lang/String" "coder" "B" (.int (0 : Int32))) (V_vW : Arv Z Z.heap vW kW .byte (6 : Int32) [(.int (119 : Int32)), (.int (111 : Int32)), (.int (114 : Int32)), (.int (107 : Int32)), (.int (101 : Int32)), (.int (114 : Int32))] (.int (0 : Int32))) (S_P : Sta Z Z.heap cn5 "PRODUCER" "Lcom/example/aloq/aloq/engine/TokenKind;" (.ref gP)) (S_W : Sta Z Z.heap cn5 "WORKER" "Lcom/example/aloq/aloq/engine/TokenKind;" (.ref gW)) (O2 : Sta Z Z.heap "java/lang/String" "COMPACT_STRINGS" "Z" (.int G1)) (P5 : ¬ (G1 = (0 : Int32))) (X00 : Old Z n0 h0) :
    MetFree l x (head1 (Jvm.Cond.code x code maxLocals ret :: ws) room_1) (fun a U => a = #[(.int x0), (.int x1), (.int x2), (.int x3)] ∧ Z.Warmed39 U.vm ∧ U.heap = h0 ∧ CHv Z own_EL U.vm h0 ∧ ∀ x ∈ ([] : List Addr), Safe Z own_EL U.vm h0 x) (fun _ _ _ _ _ => True) (fun _ U oc_ U' => ∃ v L, oc_ = .returned v ∧ Q0 Z x0 x1 x2 x3 gP gW tP tW vP vW kP kW va kv G1 h0 n0 v U'.heap L ∧ CHr Z own_EL U.vm U.heap U'.vm U'.heap ∧ ReturnedEndW U oc_ U' L 24 3264) := by
  refine MetFree.of_bodySF (plainFor_of_name pn_com_example_aloq_aloq_engine_TokenKindParsePinLaw) hisR ?_
  intro p e s m args below meth c s₁ Bd hml0 hP hK
  obtain ⟨rfl, hZ, hh, hCH, hSS⟩ := hP
  have hx := Bd.exec
  have hby := Bd.bytes
  have hml : c.maxLocals = 12 := hml0
  have hown : s.vm.findClass cn1 = some m.cls := findClass_of_methodNamed Bd.named
  have hnm := (name_of_methodNamed Bd.named Bd.method).1
  have X0 : Stand p l e room_1 s m #[(.int x0), (.int x1), (.int x2), (.int x3)] below meth c s₁ [] 0 0 := Stand.of_body Bd
  have e0 : s₁.heap = h0 := by rw [← hh, Bd.state]; rfl
  have N0 := Fr.nil n0
  have pre0 : ∀ t, Steps p.tables e below (s₁.setTop (mkF m 0 #[.val (.int x0), .val (.int x1), .val (.int x2), .val (.int x3), .unset, .unset, .unset, .unset, .unset, .unset, .unset, .unset] [])) t → Steps p.tables e below (s₁.setTop (entryFrame m #[(.int x0), (.int x1), (.int x2), (.int x3)] maxLocals)) t := fun t k => castTop (ef_0 m x0 x1 x2 x3) k
  have X0 : Stand p l e room_1 (s.setVm s.vm) m #[(.int x0), (.int x1), (.int x2), (.int x3)] below meth c s₁ [] 0 0 := X0
  have hS0 : s.Since s.vm 0 := own_since0 s
  have hk0 : 0 ≤ h0.size := Nat.zero_le _
  have CR0 : CHr Z own_EL s.vm h0 s.vm h0 := CHr.refl hCH
  have hEL := own_EW a0 Z hw
  have wS : ∀ a ∈ Bundle.stringAtoms, a.before a0 Z = true := fun d hd => hw d ((by decide +kernel : ∀ d ∈ Bundle.stringAtoms, d ∈ tables_1) d hd)
  have k1 : ∀ t, Steps p.tables e below (s₁.setTop (mkF m 3 #[.val (.int x0), .val (.int x1), .val (.int x2), .val (.int x3), .unset, .unset, .unset, .unset, .unset, .unset, .unset, .unset] [(.int (x0 &&& (1 : Int32)))])) t → Steps p.tables e below (s₁.setTop (entryFrame m #[(.int x0), (.int x1), (.int x2), (.int x3)] maxLocals)) t := by
    intro t kt
    refine pre0 t ?_
    show Steps p.tables e below (s₁.setTop (mkF m 0 #[.val (.int x0), .val (.int x1), .val (.int x2), .val (.int x3), .unset, .unset, .unset, .unset, .unset, .unset, .unset, .unset] [])) _
    refine XS.iloadN X0.here hx rfl (hb hby at_0) rfl ?_
    show Steps p.tables e below (s₁.setTop (mkF m 1 #[.val (.int x0), .val (.int x1), .val (.int x2), .val (.int x3), .unset, .unset, .unset, .unset, .unset, .unset, .unset, .unset] [(.int x0)])) _
    refine XS.iconst X0.here hx rfl (hb hby at_1) ?_
    show Steps p.tables e below (s₁.setTop (mkF m 2 #[.val (.int x0), .val (.int x1), .val (.int x2), .val (.int x3), .unset, .unset, .unset, .unset, .unset, .unset, .unset, .unset] [(.int (1 : Int32)), (.int x0)])) _
    refine XS.iand X0.here hx rfl (hb hby at_2) rfl ?_
    exact kt
  obtain ⟨wk, hj2, k2⟩ : ∃ (wk : Int32), (True) ∧ ∀ t, Steps p.tables e below (s₁.setTop (mkF m 11 #[.val (.int x0), .val (.int x1), .val (.int x2), .val (.int x3), .unset, .unset, .unset, .unset, .unset, .unset, .unset, .unset] [(.int wk)])) t → Steps p.tables e below (s₁.setTop (entryFrame m #[(.int x0), (.int x1), (.int x2), (.int x3)] maxLocals)) t := by
    by_cases hc3 : (x0 &&& (1 : Int32)) = (0 : Int32)
    · skip
      have k4 : ∀ t, Steps p.tables e below (s₁.setTop (mkF m 11 #[.val (.int x0), .val (.int x1), .val (.int x2), .val (.int x3), .unset, .unset, .unset, .unset, .unset, .unset, .unset, .unset] [(.int (0 : Int32))])) t → Steps p.tables e below (s₁.setTop (entryFrame m #[(.int x0), (.int x1), (.int x2), (.int x3)] maxLocals)) t := by
        intro t kt
        refine k1 t ?_
        show Steps p.tables e below (s₁.setTop (mkF m 3 #[.val (.int x0), .val (.int x1), .val (.int x2), .val (.int x3), .unset, .unset, .unset, .unset, .unset, .unset, .unset, .unset] [(.int (x0 &&& (1 : Int32)))])) _
        refine XS.ifYes X0.here hx rfl (pc0 := 3) (pc' := 10) rfl (hb hby at_3) rfl ((if0 _ _).trans (teq hc3).1) (by decide) (by decide) ?_
        show Steps p.tables e below (s₁.setTop (mkF m 10 #[.val (.int x0), .val (.int x1), .val (.int x2), .val (.int x3), .unset, .unset, .unset, .unset, .unset, .unset, .unset, .unset] [])) _
        refine XS.iconst X0.here hx rfl (hb hby at_10) ?_
        exact kt
      exact ⟨(0 : Int32), trivial, k4⟩
    · skip
      have k5 : ∀ t, Steps p.tables e below (s₁.setTop (mkF m 11 #[.val (.int x0), .val (.int x1), .val (.int x2), .val (.int x3), .unset, .unset, .unset, .unset, .unset, .unset, .unset, .unset] [(.int (1 : Int32))])) t → Steps p.tables e below (s₁.setTop (entryFrame m #[(.int x0), (.int x1), (.int x2), (.int x3)] maxLocals)) t := by
        intro t kt
        refine k1 t ?_
        show Steps p.tables e below (s₁.setTop (mkF m 3 #[.val (.int x0), .val (.int x1), .val (.int x2), .val (.int x3), .unset, .unset, .unset, .unset, .unset, .unset, .unset, .unset] [(.int (x0 &&& (1 : Int32)))])) _
        refine XS.ifNo X0.here hx rfl (hb hby at_3) rfl ((if0 _ _).trans (feq hc3).1) ?_
        show Steps p.tables e below (s₁.setTop (mkF m 6 #[.val (.int x0), .val (.int x1), .val (.int x2), .val (.int x3), .unset, .unset, .unset, .unset, .unset, .unset, .unset, .unset] [])) _
        refine XS.iconst X0.here hx rfl (hb hby at_6) ?_
        show Steps p.tables e below (s₁.setTop (mkF m 7 #[.val (.int x0), .val (.int x1), .val (.int x2), .val (.int x3), .unset, .unset, .unset, .unset, .unset, .unset, .unset, .unset] [(.int (1 : Int32))])) _
        refine XS.goto X0.here hx rfl (pc0 := 7) (pc' := 11) rfl (hb hby at_7) (by decide) (by decide) ?_
        exact kt
      exact ⟨(1 : Int32), trivial, k5⟩
  obtain ⟨T6, h6, kk6, X6, e6, E6, A6, st6⟩ := newP X0 hx hZ (aty := .char) (wd0 hw) e0 (g := (mkF m 26 #[.val (.int x0), .val (.int x1), .val (.int x2), .val (.int x3), .val (.int wk), .val (.int ((((x2.toUInt32 >>> ((8 : Int32) &&& 31).toUInt32).toInt32) &&& (255 : Int32)).toUInt32.toUInt16.toUInt32.toInt32)), .unset, .unset, .unset, .unset, .unset, .unset] [(.int (9 : Int32))])) rfl (hb hby at_26) rfl (by decide) (cap := 9) (by decide) (by decide) (by decide) (by decide)
  obtain ⟨b6, g6⟩ : ∃ z, z = h0.size := ⟨_, rfl⟩
  rw [← g6] at A6 st6
  have ge_b6 : n0 ≤ b6 := Nat.le_trans Z0 (Nat.le_of_eq g6.symm)
  have sz_b6 : h0.size ≤ b6 := Nat.le_trans (Nat.le_refl _) (Nat.le_of_eq g6.symm)
  have CS6 := CHr.ext E6 CR0.1
  have CR6 := CR0.trans CS6
  have hk6 : _ ≤ h6.size := Nat.le_trans hk0 E6.1
  have Z6 : n0 ≤ h6.size := Nat.le_trans Z0 E6.1
  have K6 : Keep h0 h6 [] := ((Keep.refl h0 []).ext E6)
  have V6 : Arv Z h6 b6 kk6 .char (9 : Int32) [(.int (0 : Int32)), (.int (0 : Int32)), (.int (0 : Int32)), (.int (0 : Int32)), (.int (0 : Int32)), (.int (0 : Int32)), (.int (0 : Int32)), (.int (0 : Int32)), (.int (0 : Int32))] (.int (0 : Int32)) := (Arv.new A6 (by decide)).pad (pad_rep [] (.int (0 : Int32)) 9)
  have k7 : ∀ t, Steps p.tables e below (T6.setTop (mkF m 32 #[.val (.int x0), .val (.int x1), .val (.int x2), .val (.int x3), .val (.int wk), .val (.int ((((x2.toUInt32 >>> ((8 : Int32) &&& 31).toUInt32).toInt32) &&& (255 : Int32)).toUInt32.toUInt16.toUInt32.toInt32)), .val (.ref b6), .unset, .unset, .unset, .unset, .unset] [(.int wk)])) t → Steps p.tables e below (s₁.setTop (entryFrame m #[(.int x0), (.int x1), (.int x2), (.int x3)] maxLocals)) t := by
    intro t kt
    refine k2 t ?_
    show Steps p.tables e below (s₁.setTop (mkF m 11 #[.val (.int x0), .val (.int x1), .val (.int x2), .val (.int x3), .unset, .unset, .unset, .unset, .unset, .unset, .unset, .unset] [(.int wk)])) _
    refine XS.istore X0.here hx rfl (hb hby at_11) rfl (l' := #[.val (.int x0), .val (.int x1), .val (.int x2), .val (.int x3), .val (.int wk), .unset, .unset, .unset, .unset, .unset, .unset, .unset]) rfl ?_
    show Steps p.tables e below (s₁.setTop (mkF m 13 #[.val (.int x0), .val (.int x1), .val (.int x2), .val (.int x3), .val (.int wk), .unset, .unset, .unset, .unset, .unset, .unset, .unset] [])) _
    refine XS.iloadN X0.here hx rfl (hb hby at_13) rfl ?_
    show Steps p.tables e below (s₁.setTop (mkF m 14 #[.val (.int x0), .val (.int x1), .val (.int x2), .val (.int x3), .val (.int wk), .unset, .unset, .unset, .unset, .unset, .unset, .unset] [(.int x2)])) _
    refine XS.bipush X0.here hx rfl (hb hby at_14) ?_
    show Steps p.tables e below (s₁.setTop (mkF m 16 #[.val (.int x0), .val (.int x1), .val (.int x2), .val (.int x3), .val (.int wk), .unset, .unset, .unset, .unset, .unset, .unset, .unset] [(.int (8 : Int32)), (.int x2)])) _
    refine XS.iushr X0.here hx rfl (hb hby at_16) rfl ?_
    show Steps p.tables e below (s₁.setTop (mkF m 17 #[.val (.int x0), .val (.int x1), .val (.int x2), .val (.int x3), .val (.int wk), .unset, .unset, .unset, .unset, .unset, .unset, .unset] [(.int ((x2.toUInt32 >>> ((8 : Int32) &&& 31).toUInt32).toInt32))])) _
    refine XS.sipush X0.here hx rfl (hb hby at_17) ?_
    show Steps p.tables e below (s₁.setTop (mkF m 20 #[.val (.int x0), .val (.int x1), .val (.int x2), .val (.int x3), .val (.int wk), .unset, .unset, .unset, .unset, .unset, .unset, .unset] [(.int (255 : Int32)), (.int ((x2.toUInt32 >>> ((8 : Int32) &&& 31).toUInt32).toInt32))])) _
    refine XS.iand X0.here hx rfl (hb hby at_20) rfl ?_
    show Steps p.tables e below (s₁.setTop (mkF m 21 #[.val (.int x0), .val (.int x1), .val (.int x2), .val (.int x3), .val (.int wk), .unset, .unset, .unset, .unset, .unset, .unset, .unset] [(.int (((x2.toUInt32 >>> ((8 : Int32) &&& 31).toUInt32).toInt32) &&& (255 : Int32)))])) _
    refine XS.i2c X0.here hx rfl (hb hby at_21) rfl ?_
    show Steps p.tables e below (s₁.setTop (mkF m 22 #[.val (.int x0), .val (.int x1), .val (.int x2), .val (.int x3), .val (.int wk), .unset, .unset, .unset, .unset, .unset, .unset, .unset] [(.int ((((x2.toUInt32 >>> ((8 : Int32) &&& 31).toUInt32).toInt32) &&& (255 : Int32)).toUInt32.toUInt16.toUInt32.toInt32))])) _
    refine XS.istore X0.here hx rfl (hb hby at_22) rfl (l' := #[.val (.int x0), .val (.int x1), .val (.int x2), .val (.int x3), .val (.int wk), .val (.int ((((x2.toUInt32 >>> ((8 : Int32) &&& 31).toUInt32).toInt32) &&& (255 : Int32)).toUInt32.toUInt16.toUInt32.toInt32)), .unset, .unset, .unset, .unset, .unset, .unset]) rfl ?_
    show Steps p.tables e below (s₁.setTop (mkF m 24 #[.val (.int x0), .val (.int x1), .val (.int x2), .val (.int x3), .val (.int wk), .val (.int ((((x2.toUInt32 >>> ((8 : Int32) &&& 31).toUInt32).toInt32) &&& (255 : Int32)).toUInt32.toUInt16.toUInt32.toInt32)), .unset, .unset, .unset, .unset, .unset, .unset] [])) _
    refine XS.bipush X0.here hx rfl (hb hby at_24) ?_
    show Steps p.tables e below (s₁.setTop (mkF m 26 #[.val (.int x0), .val (.int x1), .val (.int x2), .val (.int x3), .val (.int wk), .val (.int ((((x2.toUInt32 >>> ((8 : Int32) &&& 31).toUInt32).toInt32) &&& (255 : Int32)).toUInt32.toUInt16.toUInt32.toInt32)), .unset, .unset, .unset, .unset, .unset, .unset] [(.int (9 : Int32))])) _
    refine st6 _ ?_
    show Steps p.tables e below (T6.setTop (mkF m 28 #[.val (.int x0), .val (.int x1), .val (.int x2), .val (.int x3), .val (.int wk), .val (.int ((((x2.toUInt32 >>> ((8 : Int32) &&& 31).toUInt32).toInt32) &&& (255 : Int32)).toUInt32.toUInt16.toUInt32.toInt32)), .unset, .unset, .unset, .unset, .unset, .unset] [(.ref b6)])) _
    refine XS.astore X6.here hx rfl (hb hby at_28) rfl rfl (l' := #[.val (.int x0), .val (.int x1), .val (.int x2), .val (.int x3), .val (.int wk), .val (.int ((((x2.toUInt32 >>> ((8 : Int32) &&& 31).toUInt32).toInt32) &&& (255 : Int32)).toUInt32.toUInt16.toUInt32.toInt32)), .val (.ref b6), .unset, .unset, .unset, .unset, .unset]) rfl ?_
    show Steps p.tables e below (T6.setTop (mkF m 30 #[.val (.int x0), .val (.int x1), .val (.int x2), .val (.int x3), .val (.int wk), .val (.int ((((x2.toUInt32 >>> ((8 : Int32) &&& 31).toUInt32).toInt32) &&& (255 : Int32)).toUInt32.toUInt16.toUInt32.toInt32)), .val (.ref b6), .unset, .unset, .unset, .unset, .unset] [])) _
    refine XS.iload X6.here hx rfl (hb hby at_30) rfl ?_
    exact kt
  obtain ⟨T8, h8, Lj8, kj8, q8_0, q8_1, q8_2, q8_3, q8_4, q8_5, q8_6, q8_7, q8_8, bs8, X8, e8, Nq8, Kq8, gj8_0, gj8_1, gj8_2, gj8_3, gj8_4, gj8_5, gj8_6, gj8_7, gj8_8, gj8_9, k8⟩ : ∃ (T' : State) (h' : Heap) (L' : List Loc) (kj8 : ClassId) (q8_0 : Int32) (q8_1 : Int32) (q8_2 : Int32) (q8_3 : Int32) (q8_4 : Int32) (q8_5 : Int32) (q8_6 : Int32) (q8_7 : Int32) (q8_8 : Int32) (bs8 : Int32), Stand p l e room_1 (s.setVm s.vm) m #[(.int x0), (.int x1), (.int x2), (.int x3)] below meth c T' L' 1 9 ∧ T'.heap = h' ∧ Fr n0 L' ∧ Keep h6 h' [b6] ∧ (Arv Z h' b6 kj8 .char (9 : Int32) [(.int q8_0), (.int q8_1), (.int q8_2), (.int q8_3), (.int q8_4), (.int q8_5), (.int q8_6), (.int q8_7), (.int q8_8)] (.int (0 : Int32))) ∧ (¬ q8_0 < 0 ∧ ¬ (255 : Int32) < q8_0) ∧ (¬ q8_1 < 0 ∧ ¬ (255 : Int32) < q8_1) ∧ (¬ q8_2 < 0 ∧ ¬ (255 : Int32) < q8_2) ∧ (¬ q8_3 < 0 ∧ ¬ (255 : Int32) < q8_3) ∧ (¬ q8_4 < 0 ∧ ¬ (255 : Int32) < q8_4) ∧ (¬ q8_5 < 0 ∧ ¬ (255 : Int32) < q8_5) ∧ (¬ q8_6 < 0 ∧ ¬ (255 : Int32) < q8_6) ∧ (¬ q8_7 < 0 ∧ ¬ (255 : Int32) < q8_7) ∧ (¬ q8_8 < 0 ∧ ¬ (255 : Int32) < q8_8) ∧ ∀ t, Steps p.tables e below (T'.setTop (mkF m 160 #[.val (.int x0), .val (.int x1), .val (.int x2), .val (.int x3), .val (.int wk), .val (.int ((((x2.toUInt32 >>> ((8 : Int32) &&& 31).toUInt32).toInt32) &&& (255 : Int32)).toUInt32.toUInt16.toUInt32.toInt32)), .val (.ref b6), .val (.int bs8), .unset, .unset, .unset, .unset] [])) t → Steps p.tables e below (s₁.setTop (entryFrame m #[(.int x0), (.int x1), (.int x2), (.int x3)] maxLocals)) t := by
    by_cases hc9 : wk = (0 : Int32)
    · skip
      obtain ⟨cl10, Ar10, q10, S10, M10, HH10, GG10⟩ := id V6
      have hin10 : ¬ ((0 : Int32) < 0 ∨ cl10.slots.size ≤ ((0 : Int32)).toNatClampNeg) := inb_of S10 ⟨by decide, by decide⟩
      obtain ⟨T11, h11, X11, e11, W11, st11⟩ := stC X6 hx hZ e6 Ar10 (j := (0 : Int32)) hin10 (g := (mkF m 104 #[.val (.int x0), .val (.int x1), .val (.int x2), .val (.int x3), .val (.int wk), .val (.int ((((x2.toUInt32 >>> ((8 : Int32) &&& 31).toUInt32).toInt32) &&& (255 : Int32)).toUInt32.toUInt16.toUInt32.toInt32)), .val (.ref b6), .unset, .unset, .unset, .unset, .unset] [(.int (112 : Int32)), (.int (0 : Int32)), (.ref b6)])) rfl rfl (hb hby at_104)
      have CS11 := CHr.wr W11 (own_safeArv hZ.alike V6 (by decide)) CR6.1
      have CR11 := CR6.trans CS11
      have hk11 : _ ≤ h11.size := Nat.le_trans hk6 (Nat.le_of_eq W11.size.symm)
      have N11 := Fr.snoc X11 N0 ge_b6
      have Z11 : n0 ≤ h11.size := by rw [W11.size]; exact Z6
      have K11 : Keep h0 h11 [] := (K6.wr W11 (Or.inr sz_b6))
      have V11 := Arv.set Ar10 q10 S10 M10 HH10 GG10 (fits_nar_char _) W11 0 rfl (Nat.le_of_ble_eq_true rfl)
      obtain ⟨cl12, Ar12, q12, S12, M12, HH12, GG12⟩ := id V11
      have hin12 : ¬ ((1 : Int32) < 0 ∨ cl12.slots.size ≤ ((1 : Int32)).toNatClampNeg) := inb_of S12 ⟨by decide, by decide⟩
      obtain ⟨T13, h13, X13, e13, W13, st13⟩ := stC X11 hx hZ e11 Ar12 (j := (1 : Int32)) hin12 (g := (mkF m 110 #[.val (.int x0), .val (.int x1), .val (.int x2), .val (.int x3), .val (.int wk), .val (.int ((((x2.toUInt32 >>> ((8 : Int32) &&& 31).toUInt32).toInt32) &&& (255 : Int32)).toUInt32.toUInt16.toUInt32.toInt32)), .val (.ref b6), .unset, .unset, .unset, .unset, .unset] [(.int (114 : Int32)), (.int (1 : Int32)), (.ref b6)])) rfl rfl (hb hby at_110)
      have CS13 := CHr.wr W13 (own_safeArv hZ.alike V11 (by decide)) CR11.1
      have CR13 := CR11.trans CS13
      have hk13 : _ ≤ h13.size := Nat.le_trans hk11 (Nat.le_of_eq W13.size.symm)
      have N13 := Fr.snoc X13 N11 ge_b6
      have Z13 : n0 ≤ h13.size := by rw [W13.size]; exact Z11
      have K13 : Keep h0 h13 [] := (K11.wr W13 (Or.inr sz_b6))
      have V13 := Arv.set Ar12 q12 S12 M12 HH12 GG12 (fits_nar_char _) W13 1 rfl (Nat.le_of_ble_eq_true rfl)
      obtain ⟨cl14, Ar14, q14, S14, M14, HH14, GG14⟩ := id V13
      have hin14 : ¬ ((2 : Int32) < 0 ∨ cl14.slots.size ≤ ((2 : Int32)).toNatClampNeg) := inb_of S14 ⟨by decide, by decide⟩
      obtain ⟨T15, h15, X15, e15, W15, st15⟩ := stC X13 hx hZ e13 Ar14 (j := (2 : Int32)) hin14 (g := (mkF m 116 #[.val (.int x0), .val (.int x1), .val (.int x2), .val (.int x3), .val (.int wk), .val (.int ((((x2.toUInt32 >>> ((8 : Int32) &&& 31).toUInt32).toInt32) &&& (255 : Int32)).toUInt32.toUInt16.toUInt32.toInt32)), .val (.ref b6), .unset, .unset, .unset, .unset, .unset] [(.int (111 : Int32)), (.int (2 : Int32)), (.ref b6)])) rfl rfl (hb hby at_116)
      have CS15 := CHr.wr W15 (own_safeArv hZ.alike V13 (by decide)) CR13.1
      have CR15 := CR13.trans CS15
      have hk15 : _ ≤ h15.size := Nat.le_trans hk13 (Nat.le_of_eq W15.size.symm)
      have N15 := Fr.snoc X15 N13 ge_b6
      have Z15 : n0 ≤ h15.size := by rw [W15.size]; exact Z13
      have K15 : Keep h0 h15 [] := (K13.wr W15 (Or.inr sz_b6))
      have V15 := Arv.set Ar14 q14 S14 M14 HH14 GG14 (fits_nar_char _) W15 2 rfl (Nat.le_of_ble_eq_true rfl)
      obtain ⟨cl16, Ar16, q16, S16, M16, HH16, GG16⟩ := id V15
      have hin16 : ¬ ((3 : Int32) < 0 ∨ cl16.slots.size ≤ ((3 : Int32)).toNatClampNeg) := inb_of S16 ⟨by decide, by decide⟩
      obtain ⟨T17, h17, X17, e17, W17, st17⟩ := stC X15 hx hZ e15 Ar16 (j := (3 : Int32)) hin16 (g := (mkF m 122 #[.val (.int x0), .val (.int x1), .val (.int x2), .val (.int x3), .val (.int wk), .val (.int ((((x2.toUInt32 >>> ((8 : Int32) &&& 31).toUInt32).toInt32) &&& (255 : Int32)).toUInt32.toUInt16.toUInt32.toInt32)), .val (.ref b6), .unset, .unset, .unset, .unset, .unset] [(.int (100 : Int32)), (.int (3 : Int32)), (.ref b6)])) rfl rfl (hb hby at_122)
      have CS17 := CHr.wr W17 (own_safeArv hZ.alike V15 (by decide)) CR15.1
      have CR17 := CR15.trans CS17
      have hk17 : _ ≤ h17.size := Nat.le_trans hk15 (Nat.le_of_eq W17.size.symm)
      have N17 := Fr.snoc X17 N15 ge_b6
      have Z17 : n0 ≤ h17.size := by rw [W17.size]; exact Z15
      have K17 : Keep h0 h17 [] := (K15.wr W17 (Or.inr sz_b6))
      have V17 := Arv.set Ar16 q16 S16 M16 HH16 GG16 (fits_nar_char _) W17 3 rfl (Nat.le_of_ble_eq_true rfl)
      obtain ⟨cl18, Ar18, q18, S18, M18, HH18, GG18⟩ := id V17
      have hin18 : ¬ ((4 : Int32) < 0 ∨ cl18.slots.size ≤ ((4 : Int32)).toNatClampNeg) := inb_of S18 ⟨by decide, by decide⟩
      obtain ⟨T19, h19, X19, e19, W19, st19⟩ := stC X17 hx hZ e17 Ar18 (j := (4 : Int32)) hin18 (g := (mkF m 128 #[.val (.int x0), .val (.int x1), .val (.int x2), .val (.int x3), .val (.int wk), .val (.int ((((x2.toUInt32 >>> ((8 : Int32) &&& 31).toUInt32).toInt32) &&& (255 : Int32)).toUInt32.toUInt16.toUInt32.toInt32)), .val (.ref b6), .unset, .unset, .unset, .unset, .unset] [(.int (117 : Int32)), (.int (4 : Int32)), (.ref b6)])) rfl rfl (hb hby at_128)
      have CS19 := CHr.wr W19 (own_safeArv hZ.alike V17 (by decide)) CR17.1
      have CR19 := CR17.trans CS19
      have hk19 : _ ≤ h19.size := Nat.le_trans hk17 (Nat.le_of_eq W19.size.symm)
      have N19 := Fr.snoc X19 N17 ge_b6
      have Z19 : n0 ≤ h19.size := by rw [W19.size]; exact Z17
      have K19 : Keep h0 h19 [] := (K17.wr W19 (Or.inr sz_b6))
      have V19 := Arv.set Ar18 q18 S18 M18 HH18 GG18 (fits_nar_char _) W19 4 rfl (Nat.le_of_ble_eq_true rfl)
      obtain ⟨cl20, Ar20, q20, S20, M20, HH20, GG20⟩ := id V19
      have hin20 : ¬ ((5 : Int32) < 0 ∨ cl20.slots.size ≤ ((5 : Int32)).toNatClampNeg) := inb_of S20 ⟨by decide, by decide⟩
      obtain ⟨T21, h21, X21, e21, W21, st21⟩ := stC X19 hx hZ e19 Ar20 (j := (5 : Int32)) hin20 (g := (mkF m 134 #[.val (.int x0), .val (.int x1), .val (.int x2), .val (.int x3), .val (.int wk), .val (.int ((((x2.toUInt32 >>> ((8 : Int32) &&& 31).toUInt32).toInt32) &&& (255 : Int32)).toUInt32.toUInt16.toUInt32.toInt32)), .val (.ref b6), .unset, .unset, .unset, .unset, .unset] [(.int (99 : Int32)), (.int (5 : Int32)), (.ref b6)])) rfl rfl (hb hby at_134)
      have CS21 := CHr.wr W21 (own_safeArv hZ.alike V19 (by decide)) CR19.1
      have CR21 := CR19.trans CS21
      have hk21 : _ ≤ h21.size := Nat.le_trans hk19 (Nat.le_of_eq W21.size.symm)
      have N21 := Fr.snoc X21 N19 ge_b6
      have Z21 : n0 ≤ h21.size := by rw [W21.size]; exact Z19
      have K21 : Keep h0 h21 [] := (K19.wr W21 (Or.inr sz_b6))
      have V21 := Arv.set Ar20 q20 S20 M20 HH20 GG20 (fits_nar_char _) W21 5 rfl (Nat.le_of_ble_eq_true rfl)
      obtain ⟨cl22, Ar22, q22, S22, M22, HH22, GG22⟩ := id V21
      have hin22 : ¬ ((6 : Int32) < 0 ∨ cl22.slots.size ≤ ((6 : Int32)).toNatClampNeg) := inb_of S22 ⟨by decide, by decide⟩
      obtain ⟨T23, h23, X23, e23, W23, st23⟩ := stC X21 hx hZ e21 Ar22 (j := (6 : Int32)) hin22 (g := (mkF m 141 #[.val (.int x0), .val (.int x1), .val (.int x2), .val (.int x3), .val (.int wk), .val (.int ((((x2.toUInt32 >>> ((8 : Int32) &&& 31).toUInt32).toInt32) &&& (255 : Int32)).toUInt32.toUInt16.toUInt32.toInt32)), .val (.ref b6), .unset, .unset, .unset, .unset, .unset] [(.int (101 : Int32)), (.int (6 : Int32)), (.ref b6)])) rfl rfl (hb hby at_141)
      have CS23 := CHr.wr W23 (own_safeArv hZ.alike V21 (by decide)) CR21.1
      have CR23 := CR21.trans CS23
      have hk23 : _ ≤ h23.size := Nat.le_trans hk21 (Nat.le_of_eq W23.size.symm)
      have N23 := Fr.snoc X23 N21 ge_b6
      have Z23 : n0 ≤ h23.size := by rw [W23.size]; exact Z21
      have K23 : Keep h0 h23 [] := (K21.wr W23 (Or.inr sz_b6))
      have V23 := Arv.set Ar22 q22 S22 M22 HH22 GG22 (fits_nar_char _) W23 6 rfl (Nat.le_of_ble_eq_true rfl)
      obtain ⟨cl24, Ar24, q24, S24, M24, HH24, GG24⟩ := id V23
      have hin24 : ¬ ((7 : Int32) < 0 ∨ cl24.slots.size ≤ ((7 : Int32)).toNatClampNeg) := inb_of S24 ⟨by decide, by decide⟩
      obtain ⟨T25, h25, X25, e25, W25, st25⟩ := stC X23 hx hZ e23 Ar24 (j := (7 : Int32)) hin24 (g := (mkF m 148 #[.val (.int x0), .val (.int x1), .val (.int x2), .val (.int x3), .val (.int wk), .val (.int ((((x2.toUInt32 >>> ((8 : Int32) &&& 31).toUInt32).toInt32) &&& (255 : Int32)).toUInt32.toUInt16.toUInt32.toInt32)), .val (.ref b6), .unset, .unset, .unset, .unset, .unset] [(.int (114 : Int32)), (.int (7 : Int32)), (.ref b6)])) rfl rfl (hb hby at_148)
      have CS25 := CHr.wr W25 (own_safeArv hZ.alike V23 (by decide)) CR23.1
      have CR25 := CR23.trans CS25
      have hk25 : _ ≤ h25.size := Nat.le_trans hk23 (Nat.le_of_eq W25.size.symm)
      have N25 := Fr.snoc X25 N23 ge_b6
      have Z25 : n0 ≤ h25.size := by rw [W25.size]; exact Z23
      have K25 : Keep h0 h25 [] := (K23.wr W25 (Or.inr sz_b6))
      have V25 := Arv.set Ar24 q24 S24 M24 HH24 GG24 (fits_nar_char _) W25 7 rfl (Nat.le_of_ble_eq_true rfl)
      obtain ⟨cl26, Ar26, q26, S26, M26, HH26, GG26⟩ := id V25
      have hin26 : ¬ ((8 : Int32) < 0 ∨ cl26.slots.size ≤ ((8 : Int32)).toNatClampNeg) := inb_of S26 ⟨by decide, by decide⟩
      obtain ⟨T27, h27, X27, e27, W27, st27⟩ := stC X25 hx hZ e25 Ar26 (j := (8 : Int32)) hin26 (g := (mkF m 155 #[.val (.int x0), .val (.int x1), .val (.int x2), .val (.int x3), .val (.int wk), .val (.int ((((x2.toUInt32 >>> ((8 : Int32) &&& 31).toUInt32).toInt32) &&& (255 : Int32)).toUInt32.toUInt16.toUInt32.toInt32)), .val (.ref b6), .unset, .unset, .unset, .unset, .unset] [(.int ((((x2.toUInt32 >>> ((8 : Int32) &&& 31).toUInt32).toInt32) &&& (255 : Int32)).toUInt32.toUInt16.toUInt32.toInt32)), (.int (8 : Int32)), (.ref b6)])) rfl rfl (hb hby at_155)
      have CS27 := CHr.wr W27 (own_safeArv hZ.alike V25 (by decide)) CR25.1
      have CR27 := CR25.trans CS27
      have hk27 : _ ≤ h27.size := Nat.le_trans hk25 (Nat.le_of_eq W27.size.symm)
      have N27 := Fr.snoc X27 N25 ge_b6
      have Z27 : n0 ≤ h27.size := by rw [W27.size]; exact Z25
      have K27 : Keep h0 h27 [] := (K25.wr W27 (Or.inr sz_b6))
      have V27 := Arv.set Ar26 q26 S26 M26 HH26 GG26 (fits_nar_char _) W27 8 rfl (Nat.le_of_ble_eq_true rfl)
      have k28 : ∀ t, Steps p.tables e below (T27.setTop (mkF m 160 #[.val (.int x0), .val (.int x1), .val (.int x2), .val (.int x3), .val (.int wk), .val (.int ((((x2.toUInt32 >>> ((8 : Int32) &&& 31).toUInt32).toInt32) &&& (255 : Int32)).toUInt32.toUInt16.toUInt32.toInt32)), .val (.ref b6), .val (.int (8 : Int32)), .unset, .unset, .unset, .unset] [])) t → Steps p.tables e below (s₁.setTop (entryFrame m #[(.int x0), (.int x1), (.int x2), (.int x3)] maxLocals)) t := by
        intro t kt
        refine k7 t ?_
        show Steps p.tables e below (T6.setTop (mkF m 32 #[.val (.int x0), .val (.int x1), .val (.int x2), .val (.int x3), .val (.int wk), .val (.int ((((x2.toUInt32 >>> ((8 : Int32) &&& 31).toUInt32).toInt32) &&& (255 : Int32)).toUInt32.toUInt16.toUInt32.toInt32)), .val (.ref b6), .unset, .unset, .unset, .unset, .unset] [(.int wk)])) _
        refine XS.ifYes X6.here hx rfl (pc0 := 32) (pc' := 99) rfl (hb hby at_32) rfl ((if0 _ _).trans (teq hc9).1) (by decide) (by decide) ?_
        show Steps p.tables e below (T6.setTop (mkF m 99 #[.val (.int x0), .val (.int x1), .val (.int x2), .val (.int x3), .val (.int wk), .val (.int ((((x2.toUInt32 >>> ((8 : Int32) &&& 31).toUInt32).toInt32) &&& (255 : Int32)).toUInt32.toUInt16.toUInt32.toInt32)), .val (.ref b6), .unset, .unset, .unset, .unset, .unset] [])) _
        refine XS.aload X6.here hx rfl (hb hby at_99) rfl rfl ?_
        show Steps p.tables e below (T6.setTop (mkF m 101 #[.val (.int x0), .val (.int x1), .val (.int x2), .val (.int x3), .val (.int wk), .val (.int ((((x2.toUInt32 >>> ((8 : Int32) &&& 31).toUInt32).toInt32) &&& (255 : Int32)).toUInt32.toUInt16.toUInt32.toInt32)), .val (.ref b6), .unset, .unset, .unset, .unset, .unset] [(.ref b6)])) _
        refine XS.iconst X6.here hx rfl (hb hby at_101) ?_
        show Steps p.tables e below (T6.setTop (mkF m 102 #[.val (.int x0), .val (.int x1), .val (.int x2), .val (.int x3), .val (.int wk), .val (.int ((((x2.toUInt32 >>> ((8 : Int32) &&& 31).toUInt32).toInt32) &&& (255 : Int32)).toUInt32.toUInt16.toUInt32.toInt32)), .val (.ref b6), .unset, .unset, .unset, .unset, .unset] [(.int (0 : Int32)), (.ref b6)])) _
        refine XS.bipush X6.here hx rfl (hb hby at_102) ?_
        show Steps p.tables e below (T6.setTop (mkF m 104 #[.val (.int x0), .val (.int x1), .val (.int x2), .val (.int x3), .val (.int wk), .val (.int ((((x2.toUInt32 >>> ((8 : Int32) &&& 31).toUInt32).toInt32) &&& (255 : Int32)).toUInt32.toUInt16.toUInt32.toInt32)), .val (.ref b6), .unset, .unset, .unset, .unset, .unset] [(.int (112 : Int32)), (.int (0 : Int32)), (.ref b6)])) _
        refine st11 _ ?_
        show Steps p.tables e below (T11.setTop (mkF m 105 #[.val (.int x0), .val (.int x1), .val (.int x2), .val (.int x3), .val (.int wk), .val (.int ((((x2.toUInt32 >>> ((8 : Int32) &&& 31).toUInt32).toInt32) &&& (255 : Int32)).toUInt32.toUInt16.toUInt32.toInt32)), .val (.ref b6), .unset, .unset, .unset, .unset, .unset] [])) _
        refine XS.aload X11.here hx rfl (hb hby at_105) rfl rfl ?_
        show Steps p.tables e below (T11.setTop (mkF m 107 #[.val (.int x0), .val (.int x1), .val (.int x2), .val (.int x3), .val (.int wk), .val (.int ((((x2.toUInt32 >>> ((8 : Int32) &&& 31).toUInt32).toInt32) &&& (255 : Int32)).toUInt32.toUInt16.toUInt32.toInt32)), .val (.ref b6), .unset, .unset, .unset, .unset, .unset] [(.ref b6)])) _
        refine XS.iconst X11.here hx rfl (hb hby at_107) ?_
        show Steps p.tables e below (T11.setTop (mkF m 108 #[.val (.int x0), .val (.int x1), .val (.int x2), .val (.int x3), .val (.int wk), .val (.int ((((x2.toUInt32 >>> ((8 : Int32) &&& 31).toUInt32).toInt32) &&& (255 : Int32)).toUInt32.toUInt16.toUInt32.toInt32)), .val (.ref b6), .unset, .unset, .unset, .unset, .unset] [(.int (1 : Int32)), (.ref b6)])) _
        refine XS.bipush X11.here hx rfl (hb hby at_108) ?_
        show Steps p.tables e below (T11.setTop (mkF m 110 #[.val (.int x0), .val (.int x1), .val (.int x2), .val (.int x3), .val (.int wk), .val (.int ((((x2.toUInt32 >>> ((8 : Int32) &&& 31).toUInt32).toInt32) &&& (255 : Int32)).toUInt32.toUInt16.toUInt32.toInt32)), .val (.ref b6), .unset, .unset, .unset, .unset, .unset] [(.int (114 : Int32)), (.int (1 : Int32)), (.ref b6)])) _
        refine st13 _ ?_
        show Steps p.tables e below (T13.setTop (mkF m 111 #[.val (.int x0), .val (.int x1), .val (.int x2), .val (.int x3), .val (.int wk), .val (.int ((((x2.toUInt32 >>> ((8 : Int32) &&& 31).toUInt32).toInt32) &&& (255 : Int32)).toUInt32.toUInt16.toUInt32.toInt32)), .val (.ref b6), .unset, .unset, .unset, .unset, .unset] [])) _
        refine XS.aload X13.here hx rfl (hb hby at_111) rfl rfl ?_
        show Steps p.tables e below (T13.setTop (mkF m 113 #[.val (.int x0), .val (.int x1), .val (.int x2), .val (.int x3), .val (.int wk), .val (.int ((((x2.toUInt32 >>> ((8 : Int32) &&& 31).toUInt32).toInt32) &&& (255 : Int32)).toUInt32.toUInt16.toUInt32.toInt32)), .val (.ref b6), .unset, .unset, .unset, .unset, .unset] [(.ref b6)])) _
        refine XS.iconst X13.here hx rfl (hb hby at_113) ?_
        show Steps p.tables e below (T13.setTop (mkF m 114 #[.val (.int x0), .val (.int x1), .val (.int x2), .val (.int x3), .val (.int wk), .val (.int ((((x2.toUInt32 >>> ((8 : Int32) &&& 31).toUInt32).toInt32) &&& (255 : Int32)).toUInt32.toUInt16.toUInt32.toInt32)), .val (.ref b6), .unset, .unset, .unset, .unset, .unset] [(.int (2 : Int32)), (.ref b6)])) _
        refine XS.bipush X13.here hx rfl (hb hby at_114) ?_
        show Steps p.tables e below (T13.setTop (mkF m 116 #[.val (.int x0), .val (.int x1), .val (.int x2), .val (.int x3), .val (.int wk), .val (.int ((((x2.toUInt32 >>> ((8 : Int32) &&& 31).toUInt32).toInt32) &&& (255 : Int32)).toUInt32.toUInt16.toUInt32.toInt32)), .val (.ref b6), .unset, .unset, .unset, .unset, .unset] [(.int (111 : Int32)), (.int (2 : Int32)), (.ref b6)])) _
        refine st15 _ ?_
        show Steps p.tables e below (T15.setTop (mkF m 117 #[.val (.int x0), .val (.int x1), .val (.int x2), .val (.int x3), .val (.int wk), .val (.int ((((x2.toUInt32 >>> ((8 : Int32) &&& 31).toUInt32).toInt32) &&& (255 : Int32)).toUInt32.toUInt16.toUInt32.toInt32)), .val (.ref b6), .unset, .unset, .unset, .unset, .unset] [])) _
        refine XS.aload X15.here hx rfl (hb hby at_117) rfl rfl ?_
        show Steps p.tables e below (T15.setTop (mkF m 119 #[.val (.int x0), .val (.int x1), .val (.int x2), .val (.int x3), .val (.int wk), .val (.int ((((x2.toUInt32 >>> ((8 : Int32) &&& 31).toUInt32).toInt32) &&& (255 : Int32)).toUInt32.toUInt16.toUInt32.toInt32)), .val (.ref b6), .unset, .unset, .unset, .unset, .unset] [(.ref b6)])) _
        refine XS.iconst X15.here hx rfl (hb hby at_119) ?_
        show Steps p.tables e below (T15.setTop (mkF m 120 #[.val (.int x0), .val (.int x1), .val (.int x2), .val (.int x3), .val (.int wk), .val (.int ((((x2.toUInt32 >>> ((8 : Int32) &&& 31).toUInt32).toInt32) &&& (255 : Int32)).toUInt32.toUInt16.toUInt32.toInt32)), .val (.ref b6), .unset, .unset, .unset, .unset, .unset] [(.int (3 : Int32)), (.ref b6)])) _
        refine XS.bipush X15.here hx rfl (hb hby at_120) ?_
        show Steps p.tables e below (T15.setTop (mkF m 122 #[.val (.int x0), .val (.int x1), .val (.int x2), .val (.int x3), .val (.int wk), .val (.int ((((x2.toUInt32 >>> ((8 : Int32) &&& 31).toUInt32).toInt32) &&& (255 : Int32)).toUInt32.toUInt16.toUInt32.toInt32)), .val (.ref b6), .unset, .unset, .unset, .unset, .unset] [(.int (100 : Int32)), (.int (3 : Int32)), (.ref b6)])) _
        refine st17 _ ?_
        show Steps p.tables e below (T17.setTop (mkF m 123 #[.val (.int x0), .val (.int x1), .val (.int x2), .val (.int x3), .val (.int wk), .val (.int ((((x2.toUInt32 >>> ((8 : Int32) &&& 31).toUInt32).toInt32) &&& (255 : Int32)).toUInt32.toUInt16.toUInt32.toInt32)), .val (.ref b6), .unset, .unset, .unset, .unset, .unset] [])) _
        refine XS.aload X17.here hx rfl (hb hby at_123) rfl rfl ?_
        show Steps p.tables e below (T17.setTop (mkF m 125 #[.val (.int x0), .val (.int x1), .val (.int x2), .val (.int x3), .val (.int wk), .val (.int ((((x2.toUInt32 >>> ((8 : Int32) &&& 31).toUInt32).toInt32) &&& (255 : Int32)).toUInt32.toUInt16.toUInt32.toInt32)), .val (.ref b6), .unset, .unset, .unset, .unset, .unset] [(.ref b6)])) _
        refine XS.iconst X17.here hx rfl (hb hby at_125) ?_
        show Steps p.tables e below (T17.setTop (mkF m 126 #[.val (.int x0), .val (.int x1), .val (.int x2), .val (.int x3), .val (.int wk), .val (.int ((((x2.toUInt32 >>> ((8 : Int32) &&& 31).toUInt32).toInt32) &&& (255 : Int32)).toUInt32.toUInt16.toUInt32.toInt32)), .val (.ref b6), .unset, .unset, .unset, .unset, .unset] [(.int (4 : Int32)), (.ref b6)])) _
        refine XS.bipush X17.here hx rfl (hb hby at_126) ?_
        show Steps p.tables e below (T17.setTop (mkF m 128 #[.val (.int x0), .val (.int x1), .val (.int x2), .val (.int x3), .val (.int wk), .val (.int ((((x2.toUInt32 >>> ((8 : Int32) &&& 31).toUInt32).toInt32) &&& (255 : Int32)).toUInt32.toUInt16.toUInt32.toInt32)), .val (.ref b6), .unset, .unset, .unset, .unset, .unset] [(.int (117 : Int32)), (.int (4 : Int32)), (.ref b6)])) _
        refine st19 _ ?_
        show Steps p.tables e below (T19.setTop (mkF m 129 #[.val (.int x0), .val (.int x1), .val (.int x2), .val (.int x3), .val (.int wk), .val (.int ((((x2.toUInt32 >>> ((8 : Int32) &&& 31).toUInt32).toInt32) &&& (255 : Int32)).toUInt32.toUInt16.toUInt32.toInt32)), .val (.ref b6), .unset, .unset, .unset, .unset, .unset] [])) _
        refine XS.aload X19.here hx rfl (hb hby at_129) rfl rfl ?_
        show Steps p.tables e below (T19.setTop (mkF m 131 #[.val (.int x0), .val (.int x1), .val (.int x2), .val (.int x3), .val (.int wk), .val (.int ((((x2.toUInt32 >>> ((8 : Int32) &&& 31).toUInt32).toInt32) &&& (255 : Int32)).toUInt32.toUInt16.toUInt32.toInt32)), .val (.ref b6), .unset, .unset, .unset, .unset, .unset] [(.ref b6)])) _
        refine XS.iconst X19.here hx rfl (hb hby at_131) ?_
        show Steps p.tables e below (T19.setTop (mkF m 132 #[.val (.int x0), .val (.int x1), .val (.int x2), .val (.int x3), .val (.int wk), .val (.int ((((x2.toUInt32 >>> ((8 : Int32) &&& 31).toUInt32).toInt32) &&& (255 : Int32)).toUInt32.toUInt16.toUInt32.toInt32)), .val (.ref b6), .unset, .unset, .unset, .unset, .unset] [(.int (5 : Int32)), (.ref b6)])) _
        refine XS.bipush X19.here hx rfl (hb hby at_132) ?_
        show Steps p.tables e below (T19.setTop (mkF m 134 #[.val (.int x0), .val (.int x1), .val (.int x2), .val (.int x3), .val (.int wk), .val (.int ((((x2.toUInt32 >>> ((8 : Int32) &&& 31).toUInt32).toInt32) &&& (255 : Int32)).toUInt32.toUInt16.toUInt32.toInt32)), .val (.ref b6), .unset, .unset, .unset, .unset, .unset] [(.int (99 : Int32)), (.int (5 : Int32)), (.ref b6)])) _
        refine st21 _ ?_
        show Steps p.tables e below (T21.setTop (mkF m 135 #[.val (.int x0), .val (.int x1), .val (.int x2), .val (.int x3), .val (.int wk), .val (.int ((((x2.toUInt32 >>> ((8 : Int32) &&& 31).toUInt32).toInt32) &&& (255 : Int32)).toUInt32.toUInt16.toUInt32.toInt32)), .val (.ref b6), .unset, .unset, .unset, .unset, .unset] [])) _
        refine XS.aload X21.here hx rfl (hb hby at_135) rfl rfl ?_
        show Steps p.tables e below (T21.setTop (mkF m 137 #[.val (.int x0), .val (.int x1), .val (.int x2), .val (.int x3), .val (.int wk), .val (.int ((((x2.toUInt32 >>> ((8 : Int32) &&& 31).toUInt32).toInt32) &&& (255 : Int32)).toUInt32.toUInt16.toUInt32.toInt32)), .val (.ref b6), .unset, .unset, .unset, .unset, .unset] [(.ref b6)])) _
        refine XS.bipush X21.here hx rfl (hb hby at_137) ?_
        show Steps p.tables e below (T21.setTop (mkF m 139 #[.val (.int x0), .val (.int x1), .val (.int x2), .val (.int x3), .val (.int wk), .val (.int ((((x2.toUInt32 >>> ((8 : Int32) &&& 31).toUInt32).toInt32) &&& (255 : Int32)).toUInt32.toUInt16.toUInt32.toInt32)), .val (.ref b6), .unset, .unset, .unset, .unset, .unset] [(.int (6 : Int32)), (.ref b6)])) _
        refine XS.bipush X21.here hx rfl (hb hby at_139) ?_
        show Steps p.tables e below (T21.setTop (mkF m 141 #[.val (.int x0), .val (.int x1), .val (.int x2), .val (.int x3), .val (.int wk), .val (.int ((((x2.toUInt32 >>> ((8 : Int32) &&& 31).toUInt32).toInt32) &&& (255 : Int32)).toUInt32.toUInt16.toUInt32.toInt32)), .val (.ref b6), .unset, .unset, .unset, .unset, .unset] [(.int (101 : Int32)), (.int (6 : Int32)), (.ref b6)])) _
        refine st23 _ ?_
        show Steps p.tables e below (T23.setTop (mkF m 142 #[.val (.int x0), .val (.int x1), .val (.int x2), .val (.int x3), .val (.int wk), .val (.int ((((x2.toUInt32 >>> ((8 : Int32) &&& 31).toUInt32).toInt32) &&& (255 : Int32)).toUInt32.toUInt16.toUInt32.toInt32)), .val (.ref b6), .unset, .unset, .unset, .unset, .unset] [])) _
        refine XS.aload X23.here hx rfl (hb hby at_142) rfl rfl ?_
        show Steps p.tables e below (T23.setTop (mkF m 144 #[.val (.int x0), .val (.int x1), .val (.int x2), .val (.int x3), .val (.int wk), .val (.int ((((x2.toUInt32 >>> ((8 : Int32) &&& 31).toUInt32).toInt32) &&& (255 : Int32)).toUInt32.toUInt16.toUInt32.toInt32)), .val (.ref b6), .unset, .unset, .unset, .unset, .unset] [(.ref b6)])) _
        refine XS.bipush X23.here hx rfl (hb hby at_144) ?_
        show Steps p.tables e below (T23.setTop (mkF m 146 #[.val (.int x0), .val (.int x1), .val (.int x2), .val (.int x3), .val (.int wk), .val (.int ((((x2.toUInt32 >>> ((8 : Int32) &&& 31).toUInt32).toInt32) &&& (255 : Int32)).toUInt32.toUInt16.toUInt32.toInt32)), .val (.ref b6), .unset, .unset, .unset, .unset, .unset] [(.int (7 : Int32)), (.ref b6)])) _
        refine XS.bipush X23.here hx rfl (hb hby at_146) ?_
        show Steps p.tables e below (T23.setTop (mkF m 148 #[.val (.int x0), .val (.int x1), .val (.int x2), .val (.int x3), .val (.int wk), .val (.int ((((x2.toUInt32 >>> ((8 : Int32) &&& 31).toUInt32).toInt32) &&& (255 : Int32)).toUInt32.toUInt16.toUInt32.toInt32)), .val (.ref b6), .unset, .unset, .unset, .unset, .unset] [(.int (114 : Int32)), (.int (7 : Int32)), (.ref b6)])) _
        refine st25 _ ?_
        show Steps p.tables e below (T25.setTop (mkF m 149 #[.val (.int x0), .val (.int x1), .val (.int x2), .val (.int x3), .val (.int wk), .val (.int ((((x2.toUInt32 >>> ((8 : Int32) &&& 31).toUInt32).toInt32) &&& (255 : Int32)).toUInt32.toUInt16.toUInt32.toInt32)), .val (.ref b6), .unset, .unset, .unset, .unset, .unset] [])) _
        refine XS.aload X25.here hx rfl (hb hby at_149) rfl rfl ?_
        show Steps p.tables e below (T25.setTop (mkF m 151 #[.val (.int x0), .val (.int x1), .val (.int x2), .val (.int x3), .val (.int wk), .val (.int ((((x2.toUInt32 >>> ((8 : Int32) &&& 31).toUInt32).toInt32) &&& (255 : Int32)).toUInt32.toUInt16.toUInt32.toInt32)), .val (.ref b6), .unset, .unset, .unset, .unset, .unset] [(.ref b6)])) _
        refine XS.bipush X25.here hx rfl (hb hby at_151) ?_
        show Steps p.tables e below (T25.setTop (mkF m 153 #[.val (.int x0), .val (.int x1), .val (.int x2), .val (.int x3), .val (.int wk), .val (.int ((((x2.toUInt32 >>> ((8 : Int32) &&& 31).toUInt32).toInt32) &&& (255 : Int32)).toUInt32.toUInt16.toUInt32.toInt32)), .val (.ref b6), .unset, .unset, .unset, .unset, .unset] [(.int (8 : Int32)), (.ref b6)])) _
        refine XS.iload X25.here hx rfl (hb hby at_153) rfl ?_
        show Steps p.tables e below (T25.setTop (mkF m 155 #[.val (.int x0), .val (.int x1), .val (.int x2), .val (.int x3), .val (.int wk), .val (.int ((((x2.toUInt32 >>> ((8 : Int32) &&& 31).toUInt32).toInt32) &&& (255 : Int32)).toUInt32.toUInt16.toUInt32.toInt32)), .val (.ref b6), .unset, .unset, .unset, .unset, .unset] [(.int ((((x2.toUInt32 >>> ((8 : Int32) &&& 31).toUInt32).toInt32) &&& (255 : Int32)).toUInt32.toUInt16.toUInt32.toInt32)), (.int (8 : Int32)), (.ref b6)])) _
        refine st27 _ ?_
        show Steps p.tables e below (T27.setTop (mkF m 156 #[.val (.int x0), .val (.int x1), .val (.int x2), .val (.int x3), .val (.int wk), .val (.int ((((x2.toUInt32 >>> ((8 : Int32) &&& 31).toUInt32).toInt32) &&& (255 : Int32)).toUInt32.toUInt16.toUInt32.toInt32)), .val (.ref b6), .unset, .unset, .unset, .unset, .unset] [])) _
        refine XS.bipush X27.here hx rfl (hb hby at_156) ?_
        show Steps p.tables e below (T27.setTop (mkF m 158 #[.val (.int x0), .val (.int x1), .val (.int x2), .val (.int x3), .val (.int wk), .val (.int ((((x2.toUInt32 >>> ((8 : Int32) &&& 31).toUInt32).toInt32) &&& (255 : Int32)).toUInt32.toUInt16.toUInt32.toInt32)), .val (.ref b6), .unset, .unset, .unset, .unset, .unset] [(.int (8 : Int32))])) _
        refine XS.istore X27.here hx rfl (hb hby at_158) rfl (l' := #[.val (.int x0), .val (.int x1), .val (.int x2), .val (.int x3), .val (.int wk), .val (.int ((((x2.toUInt32 >>> ((8 : Int32) &&& 31).toUInt32).toInt32) &&& (255 : Int32)).toUInt32.toUInt16.toUInt32.toInt32)), .val (.ref b6), .val (.int (8 : Int32)), .unset, .unset, .unset, .unset]) rfl ?_
        exact kt
      exact ⟨_, _, _, _, (nar .char (112 : Int32)), (nar .char (114 : Int32)), (nar .char (111 : Int32)), (nar .char (100 : Int32)), (nar .char (117 : Int32)), (nar .char (99 : Int32)), (nar .char (101 : Int32)), (nar .char (114 : Int32)), (nar .char ((((x2.toUInt32 >>> ((8 : Int32) &&& 31).toUInt32).toInt32) &&& (255 : Int32)).toUInt32.toUInt16.toUInt32.toInt32)), (8 : Int32), X27.mono (by decide) (by decide), e27, N27, ((((((((((Keep.refl _ [b6]).wr W11 (Or.inl (List.mem_of_getElem? (i := 0) rfl))).wr W13 (Or.inl (List.mem_of_getElem? (i := 0) rfl))).wr W15 (Or.inl (List.mem_of_getElem? (i := 0) rfl))).wr W17 (Or.inl (List.mem_of_getElem? (i := 0) rfl))).wr W19 (Or.inl (List.mem_of_getElem? (i := 0) rfl))).wr W21 (Or.inl (List.mem_of_getElem? (i := 0) rfl))).wr W23 (Or.inl (List.mem_of_getElem? (i := 0) rfl))).wr W25 (Or.inl (List.mem_of_getElem? (i := 0) rfl))).wr W27 (Or.inl (List.mem_of_getElem? (i := 0) rfl))), V27, (by decide), (by decide), (by decide), (by decide), (by decide), (by decide), (by decide), (by decide), (own_and255 ((x2.toUInt32 >>> ((8 : Int32) &&& 31).toUInt32).toInt32)), k28⟩
    · skip
      obtain ⟨cl29, Ar29, q29, S29, M29, HH29, GG29⟩ := id V6
      have hin29 : ¬ ((0 : Int32) < 0 ∨ cl29.slots.size ≤ ((0 : Int32)).toNatClampNeg) := inb_of S29 ⟨by decide, by decide⟩
      obtain ⟨T30, h30, X30, e30, W30, st30⟩ := stC X6 hx hZ e6 Ar29 (j := (0 : Int32)) hin29 (g := (mkF m 40 #[.val (.int x0), .val (.int x1), .val (.int x2), .val (.int x3), .val (.int wk), .val (.int ((((x2.toUInt32 >>> ((8 : Int32) &&& 31).toUInt32).toInt32) &&& (255 : Int32)).toUInt32.toUInt16.toUInt32.toInt32)), .val (.ref b6), .unset, .unset, .unset, .unset, .unset] [(.int (119 : Int32)), (.int (0 : Int32)), (.ref b6)])) rfl rfl (hb hby at_40)
      have CS30 := CHr.wr W30 (own_safeArv hZ.alike V6 (by decide)) CR6.1
      have CR30 := CR6.trans CS30
      have hk30 : _ ≤ h30.size := Nat.le_trans hk6 (Nat.le_of_eq W30.size.symm)
      have N30 := Fr.snoc X30 N0 ge_b6
      have Z30 : n0 ≤ h30.size := by rw [W30.size]; exact Z6
      have K30 : Keep h0 h30 [] := (K6.wr W30 (Or.inr sz_b6))
      have V30 := Arv.set Ar29 q29 S29 M29 HH29 GG29 (fits_nar_char _) W30 0 rfl (Nat.le_of_ble_eq_true rfl)
      obtain ⟨cl31, Ar31, q31, S31, M31, HH31, GG31⟩ := id V30
      have hin31 : ¬ ((1 : Int32) < 0 ∨ cl31.slots.size ≤ ((1 : Int32)).toNatClampNeg) := inb_of S31 ⟨by decide, by decide⟩
      obtain ⟨T32, h32, X32, e32, W32, st32⟩ := stC X30 hx hZ e30 Ar31 (j := (1 : Int32)) hin31 (g := (mkF m 46 #[.val (.int x0), .val (.int x1), .val (.int x2), .val (.int x3), .val (.int wk), .val (.int ((((x2.toUInt32 >>> ((8 : Int32) &&& 31).toUInt32).toInt32) &&& (255 : Int32)).toUInt32.toUInt16.toUInt32.toInt32)), .val (.ref b6), .unset, .unset, .unset, .unset, .unset] [(.int (111 : Int32)), (.int (1 : Int32)), (.ref b6)])) rfl rfl (hb hby at_46)
      have CS32 := CHr.wr W32 (own_safeArv hZ.alike V30 (by decide)) CR30.1
      have CR32 := CR30.trans CS32
      have hk32 : _ ≤ h32.size := Nat.le_trans hk30 (Nat.le_of_eq W32.size.symm)
      have N32 := Fr.snoc X32 N30 ge_b6
      have Z32 : n0 ≤ h32.size := by rw [W32.size]; exact Z30
      have K32 : Keep h0 h32 [] := (K30.wr W32 (Or.inr sz_b6))
      have V32 := Arv.set Ar31 q31 S31 M31 HH31 GG31 (fits_nar_char _) W32 1 rfl (Nat.le_of_ble_eq_true rfl)
      obtain ⟨cl33, Ar33, q33, S33, M33, HH33, GG33⟩ := id V32
      have hin33 : ¬ ((2 : Int32) < 0 ∨ cl33.slots.size ≤ ((2 : Int32)).toNatClampNeg) := inb_of S33 ⟨by decide, by decide⟩
      obtain ⟨T34, h34, X34, e34, W34, st34⟩ := stC X32 hx hZ e32 Ar33 (j := (2 : Int32)) hin33 (g := (mkF m 52 #[.val (.int x0), .val (.int x1), .val (.int x2), .val (.int x3), .val (.int wk), .val (.int ((((x2.toUInt32 >>> ((8 : Int32) &&& 31).toUInt32).toInt32) &&& (255 : Int32)).toUInt32.toUInt16.toUInt32.toInt32)), .val (.ref b6), .unset, .unset, .unset, .unset, .unset] [(.int (114 : Int32)), (.int (2 : Int32)), (.ref b6)])) rfl rfl (hb hby at_52)
      have CS34 := CHr.wr W34 (own_safeArv hZ.alike V32 (by decide)) CR32.1
      have CR34 := CR32.trans CS34
      have hk34 : _ ≤ h34.size := Nat.le_trans hk32 (Nat.le_of_eq W34.size.symm)
      have N34 := Fr.snoc X34 N32 ge_b6
      have Z34 : n0 ≤ h34.size := by rw [W34.size]; exact Z32
      have K34 : Keep h0 h34 [] := (K32.wr W34 (Or.inr sz_b6))
      have V34 := Arv.set Ar33 q33 S33 M33 HH33 GG33 (fits_nar_char _) W34 2 rfl (Nat.le_of_ble_eq_true rfl)
      obtain ⟨cl35, Ar35, q35, S35, M35, HH35, GG35⟩ := id V34
      have hin35 : ¬ ((3 : Int32) < 0 ∨ cl35.slots.size ≤ ((3 : Int32)).toNatClampNeg) := inb_of S35 ⟨by decide, by decide⟩
      obtain ⟨T36, h36, X36, e36, W36, st36⟩ := stC X34 hx hZ e34 Ar35 (j := (3 : Int32)) hin35 (g := (mkF m 58 #[.val (.int x0), .val (.int x1), .val (.int x2), .val (.int x3), .val (.int wk), .val (.int ((((x2.toUInt32 >>> ((8 : Int32) &&& 31).toUInt32).toInt32) &&& (255 : Int32)).toUInt32.toUInt16.toUInt32.toInt32)), .val (.ref b6), .unset, .unset, .unset, .unset, .unset] [(.int (107 : Int32)), (.int (3 : Int32)), (.ref b6)])) rfl rfl (hb hby at_58)
      have CS36 := CHr.wr W36 (own_safeArv hZ.alike V34 (by decide)) CR34.1
      have CR36 := CR34.trans CS36
      have hk36 : _ ≤ h36.size := Nat.le_trans hk34 (Nat.le_of_eq W36.size.symm)
      have N36 := Fr.snoc X36 N34 ge_b6
      have Z36 : n0 ≤ h36.size := by rw [W36.size]; exact Z34
      have K36 : Keep h0 h36 [] := (K34.wr W36 (Or.inr sz_b6))
      have V36 := Arv.set Ar35 q35 S35 M35 HH35 GG35 (fits_nar_char _) W36 3 rfl (Nat.le_of_ble_eq_true rfl)
      obtain ⟨cl37, Ar37, q37, S37, M37, HH37, GG37⟩ := id V36
      have hin37 : ¬ ((4 : Int32) < 0 ∨ cl37.slots.size ≤ ((4 : Int32)).toNatClampNeg) := inb_of S37 ⟨by decide, by decide⟩
      obtain ⟨T38, h38, X38, e38, W38, st38⟩ := stC X36 hx hZ e36 Ar37 (j := (4 : Int32)) hin37 (g := (mkF m 64 #[.val (.int x0), .val (.int x1), .val (.int x2), .val (.int x3), .val (.int wk), .val (.int ((((x2.toUInt32 >>> ((8 : Int32) &&& 31).toUInt32).toInt32) &&& (255 : Int32)).toUInt32.toUInt16.toUInt32.toInt32)), .val (.ref b6), .unset, .unset, .unset, .unset, .unset] [(.int (101 : Int32)), (.int (4 : Int32)), (.ref b6)])) rfl rfl (hb hby at_64)
      have CS38 := CHr.wr W38 (own_safeArv hZ.alike V36 (by decide)) CR36.1
      have CR38 := CR36.trans CS38
      have hk38 : _ ≤ h38.size := Nat.le_trans hk36 (Nat.le_of_eq W38.size.symm)
      have N38 := Fr.snoc X38 N36 ge_b6
      have Z38 : n0 ≤ h38.size := by rw [W38.size]; exact Z36
      have K38 : Keep h0 h38 [] := (K36.wr W38 (Or.inr sz_b6))
      have V38 := Arv.set Ar37 q37 S37 M37 HH37 GG37 (fits_nar_char _) W38 4 rfl (Nat.le_of_ble_eq_true rfl)
      obtain ⟨cl39, Ar39, q39, S39, M39, HH39, GG39⟩ := id V38
      have hin39 : ¬ ((5 : Int32) < 0 ∨ cl39.slots.size ≤ ((5 : Int32)).toNatClampNeg) := inb_of S39 ⟨by decide, by decide⟩
      obtain ⟨T40, h40, X40, e40, W40, st40⟩ := stC X38 hx hZ e38 Ar39 (j := (5 : Int32)) hin39 (g := (mkF m 70 #[.val (.int x0), .val (.int x1), .val (.int x2), .val (.int x3), .val (.int wk), .val (.int ((((x2.toUInt32 >>> ((8 : Int32) &&& 31).toUInt32).toInt32) &&& (255 : Int32)).toUInt32.toUInt16.toUInt32.toInt32)), .val (.ref b6), .unset, .unset, .unset, .unset, .unset] [(.int (114 : Int32)), (.int (5 : Int32)), (.ref b6)])) rfl rfl (hb hby at_70)
      have CS40 := CHr.wr W40 (own_safeArv hZ.alike V38 (by decide)) CR38.1
      have CR40 := CR38.trans CS40
      have hk40 : _ ≤ h40.size := Nat.le_trans hk38 (Nat.le_of_eq W40.size.symm)
      have N40 := Fr.snoc X40 N38 ge_b6
      have Z40 : n0 ≤ h40.size := by rw [W40.size]; exact Z38
      have K40 : Keep h0 h40 [] := (K38.wr W40 (Or.inr sz_b6))
      have V40 := Arv.set Ar39 q39 S39 M39 HH39 GG39 (fits_nar_char _) W40 5 rfl (Nat.le_of_ble_eq_true rfl)
      obtain ⟨cl41, Ar41, q41, S41, M41, HH41, GG41⟩ := id V40
      have hin41 : ¬ ((6 : Int32) < 0 ∨ cl41.slots.size ≤ ((6 : Int32)).toNatClampNeg) := inb_of S41 ⟨by decide, by decide⟩
      obtain ⟨T42, h42, X42, e42, W42, st42⟩ := stC X40 hx hZ e40 Ar41 (j := (6 : Int32)) hin41 (g := (mkF m 77 #[.val (.int x0), .val (.int x1), .val (.int x2), .val (.int x3), .val (.int wk), .val (.int ((((x2.toUInt32 >>> ((8 : Int32) &&& 31).toUInt32).toInt32) &&& (255 : Int32)).toUInt32.toUInt16.toUInt32.toInt32)), .val (.ref b6), .unset, .unset, .unset, .unset, .unset] [(.int ((((x2.toUInt32 >>> ((8 : Int32) &&& 31).toUInt32).toInt32) &&& (255 : Int32)).toUInt32.toUInt16.toUInt32.toInt32)), (.int (6 : Int32)), (.ref b6)])) rfl rfl (hb hby at_77)
      have CS42 := CHr.wr W42 (own_safeArv hZ.alike V40 (by decide)) CR40.1
      have CR42 := CR40.trans CS42
      have hk42 : _ ≤ h42.size := Nat.le_trans hk40 (Nat.le_of_eq W42.size.symm)
      have N42 := Fr.snoc X42 N40 ge_b6
      have Z42 : n0 ≤ h42.size := by rw [W42.size]; exact Z40
      have K42 : Keep h0 h42 [] := (K40.wr W42 (Or.inr sz_b6))
      have V42 := Arv.set Ar41 q41 S41 M41 HH41 GG41 (fits_nar_char _) W42 6 rfl (Nat.le_of_ble_eq_true rfl)
      obtain ⟨cl43, Ar43, q43, S43, M43, HH43, GG43⟩ := id V42
      have hin43 : ¬ ((7 : Int32) < 0 ∨ cl43.slots.size ≤ ((7 : Int32)).toNatClampNeg) := inb_of S43 ⟨by decide, by decide⟩
      obtain ⟨T44, h44, X44, e44, W44, st44⟩ := stC X42 hx hZ e42 Ar43 (j := (7 : Int32)) hin43 (g := (mkF m 84 #[.val (.int x0), .val (.int x1), .val (.int x2), .val (.int x3), .val (.int wk), .val (.int ((((x2.toUInt32 >>> ((8 : Int32) &&& 31).toUInt32).toInt32) &&& (255 : Int32)).toUInt32.toUInt16.toUInt32.toInt32)), .val (.ref b6), .unset, .unset, .unset, .unset, .unset] [(.int ((((x2.toUInt32 >>> ((8 : Int32) &&& 31).toUInt32).toInt32) &&& (255 : Int32)).toUInt32.toUInt16.toUInt32.toInt32)), (.int (7 : Int32)), (.ref b6)])) rfl rfl (hb hby at_84)
      have CS44 := CHr.wr W44 (own_safeArv hZ.alike V42 (by decide)) CR42.1
      have CR44 := CR42.trans CS44
      have hk44 : _ ≤ h44.size := Nat.le_trans hk42 (Nat.le_of_eq W44.size.symm)
      have N44 := Fr.snoc X44 N42 ge_b6
      have Z44 : n0 ≤ h44.size := by rw [W44.size]; exact Z42
      have K44 : Keep h0 h44 [] := (K42.wr W44 (Or.inr sz_b6))
      have V44 := Arv.set Ar43 q43 S43 M43 HH43 GG43 (fits_nar_char _) W44 7 rfl (Nat.le_of_ble_eq_true rfl)
      obtain ⟨cl45, Ar45, q45, S45, M45, HH45, GG45⟩ := id V44
      have hin45 : ¬ ((8 : Int32) < 0 ∨ cl45.slots.size ≤ ((8 : Int32)).toNatClampNeg) := inb_of S45 ⟨by decide, by decide⟩
      obtain ⟨T46, h46, X46, e46, W46, st46⟩ := stC X44 hx hZ e44 Ar45 (j := (8 : Int32)) hin45 (g := (mkF m 91 #[.val (.int x0), .val (.int x1), .val (.int x2), .val (.int x3), .val (.int wk), .val (.int ((((x2.toUInt32 >>> ((8 : Int32) &&& 31).toUInt32).toInt32) &&& (255 : Int32)).toUInt32.toUInt16.toUInt32.toInt32)), .val (.ref b6), .unset, .unset, .unset, .unset, .unset] [(.int ((((x2.toUInt32 >>> ((8 : Int32) &&& 31).toUInt32).toInt32) &&& (255 : Int32)).toUInt32.toUInt16.toUInt32.toInt32)), (.int (8 : Int32)), (.ref b6)])) rfl rfl (hb hby at_91)
      have CS46 := CHr.wr W46 (own_safeArv hZ.alike V44 (by decide)) CR44.1
      have CR46 := CR44.trans CS46
      have hk46 : _ ≤ h46.size := Nat.le_trans hk44 (Nat.le_of_eq W46.size.symm)
      have N46 := Fr.snoc X46 N44 ge_b6
      have Z46 : n0 ≤ h46.size := by rw [W46.size]; exact Z44
      have K46 : Keep h0 h46 [] := (K44.wr W46 (Or.inr sz_b6))
      have V46 := Arv.set Ar45 q45 S45 M45 HH45 GG45 (fits_nar_char _) W46 8 rfl (Nat.le_of_ble_eq_true rfl)
      have k47 : ∀ t, Steps p.tables e below (T46.setTop (mkF m 160 #[.val (.int x0), .val (.int x1), .val (.int x2), .val (.int x3), .val (.int wk), .val (.int ((((x2.toUInt32 >>> ((8 : Int32) &&& 31).toUInt32).toInt32) &&& (255 : Int32)).toUInt32.toUInt16.toUInt32.toInt32)), .val (.ref b6), .val (.int (6 : Int32)), .unset, .unset, .unset, .unset] [])) t → Steps p.tables e below (s₁.setTop (entryFrame m #[(.int x0), (.int x1), (.int x2), (.int x3)] maxLocals)) t := by
        intro t kt
        refine k7 t ?_
        show Steps p.tables e below (T6.setTop (mkF m 32 #[.val (.int x0), .val (.int x1), .val (.int x2), .val (.int x3), .val (.int wk), .val (.int ((((x2.toUInt32 >>> ((8 : Int32) &&& 31).toUInt32).toInt32) &&& (255 : Int32)).toUInt32.toUInt16.toUInt32.toInt32)), .val (.ref b6), .unset, .unset, .unset, .unset, .unset] [(.int wk)])) _
        refine XS.ifNo X6.here hx rfl (hb hby at_32) rfl ((if0 _ _).trans (feq hc9).1) ?_
        show Steps p.tables e below (T6.setTop (mkF m 35 #[.val (.int x0), .val (.int x1), .val (.int x2), .val (.int x3), .val (.int wk), .val (.int ((((x2.toUInt32 >>> ((8 : Int32) &&& 31).toUInt32).toInt32) &&& (255 : Int32)).toUInt32.toUInt16.toUInt32.toInt32)), .val (.ref b6), .unset, .unset, .unset, .unset, .unset] [])) _
        refine XS.aload X6.here hx rfl (hb hby at_35) rfl rfl ?_
        show Steps p.tables e below (T6.setTop (mkF m 37 #[.val (.int x0), .val (.int x1), .val (.int x2), .val (.int x3), .val (.int wk), .val (.int ((((x2.toUInt32 >>> ((8 : Int32) &&& 31).toUInt32).toInt32) &&& (255 : Int32)).toUInt32.toUInt16.toUInt32.toInt32)), .val (.ref b6), .unset, .unset, .unset, .unset, .unset] [(.ref b6)])) _
        refine XS.iconst X6.here hx rfl (hb hby at_37) ?_
        show Steps p.tables e below (T6.setTop (mkF m 38 #[.val (.int x0), .val (.int x1), .val (.int x2), .val (.int x3), .val (.int wk), .val (.int ((((x2.toUInt32 >>> ((8 : Int32) &&& 31).toUInt32).toInt32) &&& (255 : Int32)).toUInt32.toUInt16.toUInt32.toInt32)), .val (.ref b6), .unset, .unset, .unset, .unset, .unset] [(.int (0 : Int32)), (.ref b6)])) _
        refine XS.bipush X6.here hx rfl (hb hby at_38) ?_
        show Steps p.tables e below (T6.setTop (mkF m 40 #[.val (.int x0), .val (.int x1), .val (.int x2), .val (.int x3), .val (.int wk), .val (.int ((((x2.toUInt32 >>> ((8 : Int32) &&& 31).toUInt32).toInt32) &&& (255 : Int32)).toUInt32.toUInt16.toUInt32.toInt32)), .val (.ref b6), .unset, .unset, .unset, .unset, .unset] [(.int (119 : Int32)), (.int (0 : Int32)), (.ref b6)])) _
        refine st30 _ ?_
        show Steps p.tables e below (T30.setTop (mkF m 41 #[.val (.int x0), .val (.int x1), .val (.int x2), .val (.int x3), .val (.int wk), .val (.int ((((x2.toUInt32 >>> ((8 : Int32) &&& 31).toUInt32).toInt32) &&& (255 : Int32)).toUInt32.toUInt16.toUInt32.toInt32)), .val (.ref b6), .unset, .unset, .unset, .unset, .unset] [])) _
        refine XS.aload X30.here hx rfl (hb hby at_41) rfl rfl ?_
        show Steps p.tables e below (T30.setTop (mkF m 43 #[.val (.int x0), .val (.int x1), .val (.int x2), .val (.int x3), .val (.int wk), .val (.int ((((x2.toUInt32 >>> ((8 : Int32) &&& 31).toUInt32).toInt32) &&& (255 : Int32)).toUInt32.toUInt16.toUInt32.toInt32)), .val (.ref b6), .unset, .unset, .unset, .unset, .unset] [(.ref b6)])) _
        refine XS.iconst X30.here hx rfl (hb hby at_43) ?_
        show Steps p.tables e below (T30.setTop (mkF m 44 #[.val (.int x0), .val (.int x1), .val (.int x2), .val (.int x3), .val (.int wk), .val (.int ((((x2.toUInt32 >>> ((8 : Int32) &&& 31).toUInt32).toInt32) &&& (255 : Int32)).toUInt32.toUInt16.toUInt32.toInt32)), .val (.ref b6), .unset, .unset, .unset, .unset, .unset] [(.int (1 : Int32)), (.ref b6)])) _
        refine XS.bipush X30.here hx rfl (hb hby at_44) ?_
        show Steps p.tables e below (T30.setTop (mkF m 46 #[.val (.int x0), .val (.int x1), .val (.int x2), .val (.int x3), .val (.int wk), .val (.int ((((x2.toUInt32 >>> ((8 : Int32) &&& 31).toUInt32).toInt32) &&& (255 : Int32)).toUInt32.toUInt16.toUInt32.toInt32)), .val (.ref b6), .unset, .unset, .unset, .unset, .unset] [(.int (111 : Int32)), (.int (1 : Int32)), (.ref b6)])) _
        refine st32 _ ?_
        show Steps p.tables e below (T32.setTop (mkF m 47 #[.val (.int x0), .val (.int x1), .val (.int x2), .val (.int x3), .val (.int wk), .val (.int ((((x2.toUInt32 >>> ((8 : Int32) &&& 31).toUInt32).toInt32) &&& (255 : Int32)).toUInt32.toUInt16.toUInt32.toInt32)), .val (.ref b6), .unset, .unset, .unset, .unset, .unset] [])) _
        refine XS.aload X32.here hx rfl (hb hby at_47) rfl rfl ?_
        show Steps p.tables e below (T32.setTop (mkF m 49 #[.val (.int x0), .val (.int x1), .val (.int x2), .val (.int x3), .val (.int wk), .val (.int ((((x2.toUInt32 >>> ((8 : Int32) &&& 31).toUInt32).toInt32) &&& (255 : Int32)).toUInt32.toUInt16.toUInt32.toInt32)), .val (.ref b6), .unset, .unset, .unset, .unset, .unset] [(.ref b6)])) _
        refine XS.iconst X32.here hx rfl (hb hby at_49) ?_
        show Steps p.tables e below (T32.setTop (mkF m 50 #[.val (.int x0), .val (.int x1), .val (.int x2), .val (.int x3), .val (.int wk), .val (.int ((((x2.toUInt32 >>> ((8 : Int32) &&& 31).toUInt32).toInt32) &&& (255 : Int32)).toUInt32.toUInt16.toUInt32.toInt32)), .val (.ref b6), .unset, .unset, .unset, .unset, .unset] [(.int (2 : Int32)), (.ref b6)])) _
        refine XS.bipush X32.here hx rfl (hb hby at_50) ?_
        show Steps p.tables e below (T32.setTop (mkF m 52 #[.val (.int x0), .val (.int x1), .val (.int x2), .val (.int x3), .val (.int wk), .val (.int ((((x2.toUInt32 >>> ((8 : Int32) &&& 31).toUInt32).toInt32) &&& (255 : Int32)).toUInt32.toUInt16.toUInt32.toInt32)), .val (.ref b6), .unset, .unset, .unset, .unset, .unset] [(.int (114 : Int32)), (.int (2 : Int32)), (.ref b6)])) _
        refine st34 _ ?_
        show Steps p.tables e below (T34.setTop (mkF m 53 #[.val (.int x0), .val (.int x1), .val (.int x2), .val (.int x3), .val (.int wk), .val (.int ((((x2.toUInt32 >>> ((8 : Int32) &&& 31).toUInt32).toInt32) &&& (255 : Int32)).toUInt32.toUInt16.toUInt32.toInt32)), .val (.ref b6), .unset, .unset, .unset, .unset, .unset] [])) _
        refine XS.aload X34.here hx rfl (hb hby at_53) rfl rfl ?_
        show Steps p.tables e below (T34.setTop (mkF m 55 #[.val (.int x0), .val (.int x1), .val (.int x2), .val (.int x3), .val (.int wk), .val (.int ((((x2.toUInt32 >>> ((8 : Int32) &&& 31).toUInt32).toInt32) &&& (255 : Int32)).toUInt32.toUInt16.toUInt32.toInt32)), .val (.ref b6), .unset, .unset, .unset, .unset, .unset] [(.ref b6)])) _
        refine XS.iconst X34.here hx rfl (hb hby at_55) ?_
        show Steps p.tables e below (T34.setTop (mkF m 56 #[.val (.int x0), .val (.int x1), .val (.int x2), .val (.int x3), .val (.int wk), .val (.int ((((x2.toUInt32 >>> ((8 : Int32) &&& 31).toUInt32).toInt32) &&& (255 : Int32)).toUInt32.toUInt16.toUInt32.toInt32)), .val (.ref b6), .unset, .unset, .unset, .unset, .unset] [(.int (3 : Int32)), (.ref b6)])) _
        refine XS.bipush X34.here hx rfl (hb hby at_56) ?_
        show Steps p.tables e below (T34.setTop (mkF m 58 #[.val (.int x0), .val (.int x1), .val (.int x2), .val (.int x3), .val (.int wk), .val (.int ((((x2.toUInt32 >>> ((8 : Int32) &&& 31).toUInt32).toInt32) &&& (255 : Int32)).toUInt32.toUInt16.toUInt32.toInt32)), .val (.ref b6), .unset, .unset, .unset, .unset, .unset] [(.int (107 : Int32)), (.int (3 : Int32)), (.ref b6)])) _
        refine st36 _ ?_
        show Steps p.tables e below (T36.setTop (mkF m 59 #[.val (.int x0), .val (.int x1), .val (.int x2), .val (.int x3), .val (.int wk), .val (.int ((((x2.toUInt32 >>> ((8 : Int32) &&& 31).toUInt32).toInt32) &&& (255 : Int32)).toUInt32.toUInt16.toUInt32.toInt32)), .val (.ref b6), .unset, .unset, .unset, .unset, .unset] [])) _
        refine XS.aload X36.here hx rfl (hb hby at_59) rfl rfl ?_
        show Steps p.tables e below (T36.setTop (mkF m 61 #[.val (.int x0), .val (.int x1), .val (.int x2), .val (.int x3), .val (.int wk), .val (.int ((((x2.toUInt32 >>> ((8 : Int32) &&& 31).toUInt32).toInt32) &&& (255 : Int32)).toUInt32.toUInt16.toUInt32.toInt32)), .val (.ref b6), .unset, .unset, .unset, .unset, .unset] [(.ref b6)])) _
        refine XS.iconst X36.here hx rfl (hb hby at_61) ?_
        show Steps p.tables e below (T36.setTop (mkF m 62 #[.val (.int x0), .val (.int x1), .val (.int x2), .val (.int x3), .val (.int wk), .val (.int ((((x2.toUInt32 >>> ((8 : Int32) &&& 31).toUInt32).toInt32) &&& (255 : Int32)).toUInt32.toUInt16.toUInt32.toInt32)), .val (.ref b6), .unset, .unset, .unset, .unset, .unset] [(.int (4 : Int32)), (.ref b6)])) _
        refine XS.bipush X36.here hx rfl (hb hby at_62) ?_
        show Steps p.tables e below (T36.setTop (mkF m 64 #[.val (.int x0), .val (.int x1), .val (.int x2), .val (.int x3), .val (.int wk), .val (.int ((((x2.toUInt32 >>> ((8 : Int32) &&& 31).toUInt32).toInt32) &&& (255 : Int32)).toUInt32.toUInt16.toUInt32.toInt32)), .val (.ref b6), .unset, .unset, .unset, .unset, .unset] [(.int (101 : Int32)), (.int (4 : Int32)), (.ref b6)])) _
        refine st38 _ ?_
        show Steps p.tables e below (T38.setTop (mkF m 65 #[.val (.int x0), .val (.int x1), .val (.int x2), .val (.int x3), .val (.int wk), .val (.int ((((x2.toUInt32 >>> ((8 : Int32) &&& 31).toUInt32).toInt32) &&& (255 : Int32)).toUInt32.toUInt16.toUInt32.toInt32)), .val (.ref b6), .unset, .unset, .unset, .unset, .unset] [])) _
        refine XS.aload X38.here hx rfl (hb hby at_65) rfl rfl ?_
        show Steps p.tables e below (T38.setTop (mkF m 67 #[.val (.int x0), .val (.int x1), .val (.int x2), .val (.int x3), .val (.int wk), .val (.int ((((x2.toUInt32 >>> ((8 : Int32) &&& 31).toUInt32).toInt32) &&& (255 : Int32)).toUInt32.toUInt16.toUInt32.toInt32)), .val (.ref b6), .unset, .unset, .unset, .unset, .unset] [(.ref b6)])) _
        refine XS.iconst X38.here hx rfl (hb hby at_67) ?_
        show Steps p.tables e below (T38.setTop (mkF m 68 #[.val (.int x0), .val (.int x1), .val (.int x2), .val (.int x3), .val (.int wk), .val (.int ((((x2.toUInt32 >>> ((8 : Int32) &&& 31).toUInt32).toInt32) &&& (255 : Int32)).toUInt32.toUInt16.toUInt32.toInt32)), .val (.ref b6), .unset, .unset, .unset, .unset, .unset] [(.int (5 : Int32)), (.ref b6)])) _
        refine XS.bipush X38.here hx rfl (hb hby at_68) ?_
        show Steps p.tables e below (T38.setTop (mkF m 70 #[.val (.int x0), .val (.int x1), .val (.int x2), .val (.int x3), .val (.int wk), .val (.int ((((x2.toUInt32 >>> ((8 : Int32) &&& 31).toUInt32).toInt32) &&& (255 : Int32)).toUInt32.toUInt16.toUInt32.toInt32)), .val (.ref b6), .unset, .unset, .unset, .unset, .unset] [(.int (114 : Int32)), (.int (5 : Int32)), (.ref b6)])) _
        refine st40 _ ?_
        show Steps p.tables e below (T40.setTop (mkF m 71 #[.val (.int x0), .val (.int x1), .val (.int x2), .val (.int x3), .val (.int wk), .val (.int ((((x2.toUInt32 >>> ((8 : Int32) &&& 31).toUInt32).toInt32) &&& (255 : Int32)).toUInt32.toUInt16.toUInt32.toInt32)), .val (.ref b6), .unset, .unset, .unset, .unset, .unset] [])) _
        refine XS.aload X40.here hx rfl (hb hby at_71) rfl rfl ?_
        show Steps p.tables e below (T40.setTop (mkF m 73 #[.val (.int x0), .val (.int x1), .val (.int x2), .val (.int x3), .val (.int wk), .val (.int ((((x2.toUInt32 >>> ((8 : Int32) &&& 31).toUInt32).toInt32) &&& (255 : Int32)).toUInt32.toUInt16.toUInt32.toInt32)), .val (.ref b6), .unset, .unset, .unset, .unset, .unset] [(.ref b6)])) _
        refine XS.bipush X40.here hx rfl (hb hby at_73) ?_
        show Steps p.tables e below (T40.setTop (mkF m 75 #[.val (.int x0), .val (.int x1), .val (.int x2), .val (.int x3), .val (.int wk), .val (.int ((((x2.toUInt32 >>> ((8 : Int32) &&& 31).toUInt32).toInt32) &&& (255 : Int32)).toUInt32.toUInt16.toUInt32.toInt32)), .val (.ref b6), .unset, .unset, .unset, .unset, .unset] [(.int (6 : Int32)), (.ref b6)])) _
        refine XS.iload X40.here hx rfl (hb hby at_75) rfl ?_
        show Steps p.tables e below (T40.setTop (mkF m 77 #[.val (.int x0), .val (.int x1), .val (.int x2), .val (.int x3), .val (.int wk), .val (.int ((((x2.toUInt32 >>> ((8 : Int32) &&& 31).toUInt32).toInt32) &&& (255 : Int32)).toUInt32.toUInt16.toUInt32.toInt32)), .val (.ref b6), .unset, .unset, .unset, .unset, .unset] [(.int ((((x2.toUInt32 >>> ((8 : Int32) &&& 31).toUInt32).toInt32) &&& (255 : Int32)).toUInt32.toUInt16.toUInt32.toInt32)), (.int (6 : Int32)), (.ref b6)])) _
        refine st42 _ ?_
        show Steps p.tables e below (T42.setTop (mkF m 78 #[.val (.int x0), .val (.int x1), .val (.int x2), .val (.int x3), .val (.int wk), .val (.int ((((x2.toUInt32 >>> ((8 : Int32) &&& 31).toUInt32).toInt32) &&& (255 : Int32)).toUInt32.toUInt16.toUInt32.toInt32)), .val (.ref b6), .unset, .unset, .unset, .unset, .unset] [])) _
        refine XS.aload X42.here hx rfl (hb hby at_78) rfl rfl ?_
        show Steps p.tables e below (T42.setTop (mkF m 80 #[.val (.int x0), .val (.int x1), .val (.int x2), .val (.int x3), .val (.int wk), .val (.int ((((x2.toUInt32 >>> ((8 : Int32) &&& 31).toUInt32).toInt32) &&& (255 : Int32)).toUInt32.toUInt16.toUInt32.toInt32)), .val (.ref b6), .unset, .unset, .unset, .unset, .unset] [(.ref b6)])) _
        refine XS.bipush X42.here hx rfl (hb hby at_80) ?_
        show Steps p.tables e below (T42.setTop (mkF m 82 #[.val (.int x0), .val (.int x1), .val (.int x2), .val (.int x3), .val (.int wk), .val (.int ((((x2.toUInt32 >>> ((8 : Int32) &&& 31).toUInt32).toInt32) &&& (255 : Int32)).toUInt32.toUInt16.toUInt32.toInt32)), .val (.ref b6), .unset, .unset, .unset, .unset, .unset] [(.int (7 : Int32)), (.ref b6)])) _
        refine XS.iload X42.here hx rfl (hb hby at_82) rfl ?_
        show Steps p.tables e below (T42.setTop (mkF m 84 #[.val (.int x0), .val (.int x1), .val (.int x2), .val (.int x3), .val (.int wk), .val (.int ((((x2.toUInt32 >>> ((8 : Int32) &&& 31).toUInt32).toInt32) &&& (255 : Int32)).toUInt32.toUInt16.toUInt32.toInt32)), .val (.ref b6), .unset, .unset, .unset, .unset, .unset] [(.int ((((x2.toUInt32 >>> ((8 : Int32) &&& 31).toUInt32).toInt32) &&& (255 : Int32)).toUInt32.toUInt16.toUInt32.toInt32)), (.int (7 : Int32)), (.ref b6)])) _
        refine st44 _ ?_
        show Steps p.tables e below (T44.setTop (mkF m 85 #[.val (.int x0), .val (.int x1), .val (.int x2), .val (.int x3), .val (.int wk), .val (.int ((((x2.toUInt32 >>> ((8 : Int32) &&& 31).toUInt32).toInt32) &&& (255 : Int32)).toUInt32.toUInt16.toUInt32.toInt32)), .val (.ref b6), .unset, .unset, .unset, .unset, .unset] [])) _
        refine XS.aload X44.here hx rfl (hb hby at_85) rfl rfl ?_
        show Steps p.tables e below (T44.setTop (mkF m 87 #[.val (.int x0), .val (.int x1), .val (.int x2), .val (.int x3), .val (.int wk), .val (.int ((((x2.toUInt32 >>> ((8 : Int32) &&& 31).toUInt32).toInt32) &&& (255 : Int32)).toUInt32.toUInt16.toUInt32.toInt32)), .val (.ref b6), .unset, .unset, .unset, .unset, .unset] [(.ref b6)])) _
        refine XS.bipush X44.here hx rfl (hb hby at_87) ?_
        show Steps p.tables e below (T44.setTop (mkF m 89 #[.val (.int x0), .val (.int x1), .val (.int x2), .val (.int x3), .val (.int wk), .val (.int ((((x2.toUInt32 >>> ((8 : Int32) &&& 31).toUInt32).toInt32) &&& (255 : Int32)).toUInt32.toUInt16.toUInt32.toInt32)), .val (.ref b6), .unset, .unset, .unset, .unset, .unset] [(.int (8 : Int32)), (.ref b6)])) _
        refine XS.iload X44.here hx rfl (hb hby at_89) rfl ?_
        show Steps p.tables e below (T44.setTop (mkF m 91 #[.val (.int x0), .val (.int x1), .val (.int x2), .val (.int x3), .val (.int wk), .val (.int ((((x2.toUInt32 >>> ((8 : Int32) &&& 31).toUInt32).toInt32) &&& (255 : Int32)).toUInt32.toUInt16.toUInt32.toInt32)), .val (.ref b6), .unset, .unset, .unset, .unset, .unset] [(.int ((((x2.toUInt32 >>> ((8 : Int32) &&& 31).toUInt32).toInt32) &&& (255 : Int32)).toUInt32.toUInt16.toUInt32.toInt32)), (.int (8 : Int32)), (.ref b6)])) _
        refine st46 _ ?_
        show Steps p.tables e below (T46.setTop (mkF m 92 #[.val (.int x0), .val (.int x1), .val (.int x2), .val (.int x3), .val (.int wk), .val (.int ((((x2.toUInt32 >>> ((8 : Int32) &&& 31).toUInt32).toInt32) &&& (255 : Int32)).toUInt32.toUInt16.toUInt32.toInt32)), .val (.ref b6), .unset, .unset, .unset, .unset, .unset] [])) _
        refine XS.bipush X46.here hx rfl (hb hby at_92) ?_
        show Steps p.tables e below (T46.setTop (mkF m 94 #[.val (.int x0), .val (.int x1), .val (.int x2), .val (.int x3), .val (.int wk), .val (.int ((((x2.toUInt32 >>> ((8 : Int32) &&& 31).toUInt32).toInt32) &&& (255 : Int32)).toUInt32.toUInt16.toUInt32.toInt32)), .val (.ref b6), .unset, .unset, .unset, .unset, .unset] [(.int (6 : Int32))])) _
        refine XS.istore X46.here hx rfl (hb hby at_94) rfl (l' := #[.val (.int x0), .val (.int x1), .val (.int x2), .val (.int x3), .val (.int wk), .val (.int ((((x2.toUInt32 >>> ((8 : Int32) &&& 31).toUInt32).toInt32) &&& (255 : Int32)).toUInt32.toUInt16.toUInt32.toInt32)), .val (.ref b6), .val (.int (6 : Int32)), .unset, .unset, .unset, .unset]) rfl ?_
        show Steps p.tables e below (T46.setTop (mkF m 96 #[.val (.int x0), .val (.int x1), .val (.int x2), .val (.int x3), .val (.int wk), .val (.int ((((x2.toUInt32 >>> ((8 : Int32) &&& 31).toUInt32).toInt32) &&& (255 : Int32)).toUInt32.toUInt16.toUInt32.toInt32)), .val (.ref b6), .val (.int (6 : Int32)), .unset, .unset, .unset, .unset] [])) _
        refine XS.goto X46.here hx rfl (pc0 := 96) (pc' := 160) rfl (hb hby at_96) (by decide) (by decide) ?_
        exact kt
      exact ⟨_, _, _, _, (nar .char (119 : Int32)), (nar .char (111 : Int32)), (nar .char (114 : Int32)), (nar .char (107 : Int32)), (nar .char (101 : Int32)), (nar .char (114 : Int32)), (nar .char ((((x2.toUInt32 >>> ((8 : Int32) &&& 31).toUInt32).toInt32) &&& (255 : Int32)).toUInt32.toUInt16.toUInt32.toInt32)), (nar .char ((((x2.toUInt32 >>> ((8 : Int32) &&& 31).toUInt32).toInt32) &&& (255 : Int32)).toUInt32.toUInt16.toUInt32.toInt32)), (nar .char ((((x2.toUInt32 >>> ((8 : Int32) &&& 31).toUInt32).toInt32) &&& (255 : Int32)).toUInt32.toUInt16.toUInt32.toInt32)), (6 : Int32), X46.mono (by decide) (by decide), e46, N46, ((((((((((Keep.refl _ [b6]).wr W30 (Or.inl (List.mem_of_getElem? (i := 0) rfl))).wr W32 (Or.inl (List.mem_of_getElem? (i := 0) rfl))).wr W34 (Or.inl (List.mem_of_getElem? (i := 0) rfl))).wr W36 (Or.inl (List.mem_of_getElem? (i := 0) rfl))).wr W38 (Or.inl (List.mem_of_getElem? (i := 0) rfl))).wr W40 (Or.inl (List.mem_of_getElem? (i := 0) rfl))).wr W42 (Or.inl (List.mem_of_getElem? (i := 0) rfl))).wr W44 (Or.inl (List.mem_of_getElem? (i := 0) rfl))).wr W46 (Or.inl (List.mem_of_getElem? (i := 0) rfl))), V46, (by decide), (by decide), (by decide), (by decide), (by decide), (by decide), (own_and255 ((x2.toUInt32 >>> ((8 : Int32) &&& 31).toUInt32).toInt32)), (own_and255 ((x2.toUInt32 >>> ((8 : Int32) &&& 31).toUInt32).toInt32)), (own_and255 ((x2.toUInt32 >>> ((8 : Int32) &&& 31).toUInt32).toInt32)), k47⟩
  have CS8 := CHr.keep Kq8 (allS (own_safeArv hZ.alike V6 (by decide)) all0) CR6.1
  have CR8 := CR6.trans CS8
  have hk8 : _ ≤ h8.size := Nat.le_trans hk6 Kq8.1
  have Z8 : n0 ≤ h8.size := Nat.le_trans Z6 Kq8.1
  have K8 : Keep h0 h8 [] := Keep.trans K6 Kq8 (allS (Or.inr sz_b6) all0)
  have k48 : ∀ t, Steps p.tables e below (T8.setTop (mkF m 163 #[.val (.int x0), .val (.int x1), .val (.int x2), .val (.int x3), .val (.int wk), .val (.int ((((x2.toUInt32 >>> ((8 : Int32) &&& 31).toUInt32).toInt32) &&& (255 : Int32)).toUInt32.toUInt16.toUInt32.toInt32)), .val (.ref b6), .val (.int bs8), .unset, .unset, .unset, .unset] [(.int (x0 &&& (2 : Int32)))])) t → Steps p.tables e below (s₁.setTop (entryFrame m #[(.int x0), (.int x1), (.int x2), (.int x3)] maxLocals)) t := by
    intro t kt
    refine k8 t ?_
    show Steps p.tables e below (T8.setTop (mkF m 160 #[.val (.int x0), .val (.int x1), .val (.int x2), .val (.int x3), .val (.int wk), .val (.int ((((x2.toUInt32 >>> ((8 : Int32) &&& 31).toUInt32).toInt32) &&& (255 : Int32)).toUInt32.toUInt16.toUInt32.toInt32)), .val (.ref b6), .val (.int bs8), .unset, .unset, .unset, .unset] [])) _
    refine XS.iloadN X8.here hx rfl (hb hby at_160) rfl ?_
    show Steps p.tables e below (T8.setTop (mkF m 161 #[.val (.int x0), .val (.int x1), .val (.int x2), .val (.int x3), .val (.int wk), .val (.int ((((x2.toUInt32 >>> ((8 : Int32) &&& 31).toUInt32).toInt32) &&& (255 : Int32)).toUInt32.toUInt16.toUInt32.toInt32)), .val (.ref b6), .val (.int bs8), .unset, .unset, .unset, .unset] [(.int x0)])) _
    refine XS.iconst X8.here hx rfl (hb hby at_161) ?_
    show Steps p.tables e below (T8.setTop (mkF m 162 #[.val (.int x0), .val (.int x1), .val (.int x2), .val (.int x3), .val (.int wk), .val (.int ((((x2.toUInt32 >>> ((8 : Int32) &&& 31).toUInt32).toInt32) &&& (255 : Int32)).toUInt32.toUInt16.toUInt32.toInt32)), .val (.ref b6), .val (.int bs8), .unset, .unset, .unset, .unset] [(.int (2 : Int32)), (.int x0)])) _
    refine XS.iand X8.here hx rfl (hb hby at_162) rfl ?_
    exact kt
  obtain ⟨T49, h49, Lj49, kj49, q49_0, q49_1, q49_2, q49_3, q49_4, q49_5, q49_6, q49_7, q49_8, X49, e49, Nq49, Kq49, gj49_0, gj49_1, gj49_2, gj49_3, gj49_4, gj49_5, gj49_6, gj49_7, gj49_8, gj49_9, k49⟩ : ∃ (T' : State) (h' : Heap) (L' : List Loc) (kj49 : ClassId) (q49_0 : Int32) (q49_1 : Int32) (q49_2 : Int32) (q49_3 : Int32) (q49_4 : Int32) (q49_5 : Int32) (q49_6 : Int32) (q49_7 : Int32) (q49_8 : Int32), Stand p l e room_1 (s.setVm s.vm) m #[(.int x0), (.int x1), (.int x2), (.int x3)] below meth c T' L' 1 9 ∧ T'.heap = h' ∧ Fr n0 L' ∧ Keep h8 h' [b6] ∧ (Arv Z h' b6 kj49 .char (9 : Int32) [(.int q49_0), (.int q49_1), (.int q49_2), (.int q49_3), (.int q49_4), (.int q49_5), (.int q49_6), (.int q49_7), (.int q49_8)] (.int (0 : Int32))) ∧ (¬ q49_0 < 0 ∧ ¬ (255 : Int32) < q49_0) ∧ (¬ q49_1 < 0 ∧ ¬ (255 : Int32) < q49_1) ∧ (¬ q49_2 < 0 ∧ ¬ (255 : Int32) < q49_2) ∧ (¬ q49_3 < 0 ∧ ¬ (255 : Int32) < q49_3) ∧ (¬ q49_4 < 0 ∧ ¬ (255 : Int32) < q49_4) ∧ (¬ q49_5 < 0 ∧ ¬ (255 : Int32) < q49_5) ∧ (¬ q49_6 < 0 ∧ ¬ (255 : Int32) < q49_6) ∧ (¬ q49_7 < 0 ∧ ¬ (255 : Int32) < q49_7) ∧ (¬ q49_8 < 0 ∧ ¬ (255 : Int32) < q49_8) ∧ ∀ t, Steps p.tables e below (T'.setTop (mkF m 182 #[.val (.int x0), .val (.int x1), .val (.int x2), .val (.int x3), .val (.int wk), .val (.int ((((x2.toUInt32 >>> ((8 : Int32) &&& 31).toUInt32).toInt32) &&& (255 : Int32)).toUInt32.toUInt16.toUInt32.toInt32)), .val (.ref b6), .val (.int bs8), .unset, .unset, .unset, .unset] [])) t → Steps p.tables e below (s₁.setTop (entryFrame m #[(.int x0), (.int x1), (.int x2), (.int x3)] maxLocals)) t := by
    by_cases hc50 : (x0 &&& (2 : Int32)) = (0 : Int32)
    · skip
      have k51 : ∀ t, Steps p.tables e below (T8.setTop (mkF m 182 #[.val (.int x0), .val (.int x1), .val (.int x2), .val (.int x3), .val (.int wk), .val (.int ((((x2.toUInt32 >>> ((8 : Int32) &&& 31).toUInt32).toInt32) &&& (255 : Int32)).toUInt32.toUInt16.toUInt32.toInt32)), .val (.ref b6), .val (.int bs8), .unset, .unset, .unset, .unset] [])) t → Steps p.tables e below (s₁.setTop (entryFrame m #[(.int x0), (.int x1), (.int x2), (.int x3)] maxLocals)) t := by
        intro t kt
        refine k48 t ?_
        show Steps p.tables e below (T8.setTop (mkF m 163 #[.val (.int x0), .val (.int x1), .val (.int x2), .val (.int x3), .val (.int wk), .val (.int ((((x2.toUInt32 >>> ((8 : Int32) &&& 31).toUInt32).toInt32) &&& (255 : Int32)).toUInt32.toUInt16.toUInt32.toInt32)), .val (.ref b6), .val (.int bs8), .unset, .unset, .unset, .unset] [(.int (x0 &&& (2 : Int32)))])) _
        refine XS.ifYes X8.here hx rfl (pc0 := 163) (pc' := 182) rfl (hb hby at_163) rfl ((if0 _ _).trans (teq hc50).1) (by decide) (by decide) ?_
        exact kt
      exact ⟨_, _, _, _, q8_0, q8_1, q8_2, q8_3, q8_4, q8_5, q8_6, q8_7, q8_8, X8.mono (by decide) (by decide), e8, Nq8, (Keep.refl _ [b6]), gj8_0, gj8_1, gj8_2, gj8_3, gj8_4, gj8_5, gj8_6, gj8_7, gj8_8, gj8_9, k51⟩
    · skip
      have k52 : ∀ t, Steps p.tables e below (T8.setTop (mkF m 181 #[.val (.int x0), .val (.int x1), .val (.int x2), .val (.int x3), .val (.int wk), .val (.int ((((x2.toUInt32 >>> ((8 : Int32) &&& 31).toUInt32).toInt32) &&& (255 : Int32)).toUInt32.toUInt16.toUInt32.toInt32)), .val (.ref b6), .val (.int bs8), .unset, .unset, .unset, .unset] [(.int ((x2 &&& (255 : Int32)).toUInt32.toUInt16.toUInt32.toInt32)), (.int ((x1 &&& (2147483647 : Int32)) % (9 : Int32))), (.ref b6)])) t → Steps p.tables e below (s₁.setTop (entryFrame m #[(.int x0), (.int x1), (.int x2), (.int x3)] maxLocals)) t := by
        intro t kt
        refine k48 t ?_
        show Steps p.tables e below (T8.setTop (mkF m 163 #[.val (.int x0), .val (.int x1), .val (.int x2), .val (.int x3), .val (.int wk), .val (.int ((((x2.toUInt32 >>> ((8 : Int32) &&& 31).toUInt32).toInt32) &&& (255 : Int32)).toUInt32.toUInt16.toUInt32.toInt32)), .val (.ref b6), .val (.int bs8), .unset, .unset, .unset, .unset] [(.int (x0 &&& (2 : Int32)))])) _
        refine XS.ifNo X8.here hx rfl (hb hby at_163) rfl ((if0 _ _).trans (feq hc50).1) ?_
        show Steps p.tables e below (T8.setTop (mkF m 166 #[.val (.int x0), .val (.int x1), .val (.int x2), .val (.int x3), .val (.int wk), .val (.int ((((x2.toUInt32 >>> ((8 : Int32) &&& 31).toUInt32).toInt32) &&& (255 : Int32)).toUInt32.toUInt16.toUInt32.toInt32)), .val (.ref b6), .val (.int bs8), .unset, .unset, .unset, .unset] [])) _
        refine XS.aload X8.here hx rfl (hb hby at_166) rfl rfl ?_
        show Steps p.tables e below (T8.setTop (mkF m 168 #[.val (.int x0), .val (.int x1), .val (.int x2), .val (.int x3), .val (.int wk), .val (.int ((((x2.toUInt32 >>> ((8 : Int32) &&& 31).toUInt32).toInt32) &&& (255 : Int32)).toUInt32.toUInt16.toUInt32.toInt32)), .val (.ref b6), .val (.int bs8), .unset, .unset, .unset, .unset] [(.ref b6)])) _
        refine XS.iloadN X8.here hx rfl (hb hby at_168) rfl ?_
        show Steps p.tables e below (T8.setTop (mkF m 169 #[.val (.int x0), .val (.int x1), .val (.int x2), .val (.int x3), .val (.int wk), .val (.int ((((x2.toUInt32 >>> ((8 : Int32) &&& 31).toUInt32).toInt32) &&& (255 : Int32)).toUInt32.toUInt16.toUInt32.toInt32)), .val (.ref b6), .val (.int bs8), .unset, .unset, .unset, .unset] [(.int x1), (.ref b6)])) _
        refine X8.ldcInt hx hown (mvT hZ (wd72 hw)) (g := (mkF m 169 #[.val (.int x0), .val (.int x1), .val (.int x2), .val (.int x3), .val (.int wk), .val (.int ((((x2.toUInt32 >>> ((8 : Int32) &&& 31).toUInt32).toInt32) &&& (255 : Int32)).toUInt32.toUInt16.toUInt32.toInt32)), .val (.ref b6), .val (.int bs8), .unset, .unset, .unset, .unset] [(.int x1), (.ref b6)])) rfl (hb hby at_169) _ ?_
        show Steps p.tables e below (T8.setTop (mkF m 171 #[.val (.int x0), .val (.int x1), .val (.int x2), .val (.int x3), .val (.int wk), .val (.int ((((x2.toUInt32 >>> ((8 : Int32) &&& 31).toUInt32).toInt32) &&& (255 : Int32)).toUInt32.toUInt16.toUInt32.toInt32)), .val (.ref b6), .val (.int bs8), .unset, .unset, .unset, .unset] [(.int (2147483647 : Int32)), (.int x1), (.ref b6)])) _
        refine XS.iand X8.here hx rfl (hb hby at_171) rfl ?_
        show Steps p.tables e below (T8.setTop (mkF m 172 #[.val (.int x0), .val (.int x1), .val (.int x2), .val (.int x3), .val (.int wk), .val (.int ((((x2.toUInt32 >>> ((8 : Int32) &&& 31).toUInt32).toInt32) &&& (255 : Int32)).toUInt32.toUInt16.toUInt32.toInt32)), .val (.ref b6), .val (.int bs8), .unset, .unset, .unset, .unset] [(.int (x1 &&& (2147483647 : Int32))), (.ref b6)])) _
        refine XS.bipush X8.here hx rfl (hb hby at_172) ?_
        show Steps p.tables e below (T8.setTop (mkF m 174 #[.val (.int x0), .val (.int x1), .val (.int x2), .val (.int x3), .val (.int wk), .val (.int ((((x2.toUInt32 >>> ((8 : Int32) &&& 31).toUInt32).toInt32) &&& (255 : Int32)).toUInt32.toUInt16.toUInt32.toInt32)), .val (.ref b6), .val (.int bs8), .unset, .unset, .unset, .unset] [(.int (9 : Int32)), (.int (x1 &&& (2147483647 : Int32))), (.ref b6)])) _
        refine iremM X8 hx rfl (hb hby at_174) rfl (by decide) ?_
        show Steps p.tables e below (T8.setTop (mkF m 175 #[.val (.int x0), .val (.int x1), .val (.int x2), .val (.int x3), .val (.int wk), .val (.int ((((x2.toUInt32 >>> ((8 : Int32) &&& 31).toUInt32).toInt32) &&& (255 : Int32)).toUInt32.toUInt16.toUInt32.toInt32)), .val (.ref b6), .val (.int bs8), .unset, .unset, .unset, .unset] [(.int ((x1 &&& (2147483647 : Int32)) % (9 : Int32))), (.ref b6)])) _
        refine XS.iloadN X8.here hx rfl (hb hby at_175) rfl ?_
        show Steps p.tables e below (T8.setTop (mkF m 176 #[.val (.int x0), .val (.int x1), .val (.int x2), .val (.int x3), .val (.int wk), .val (.int ((((x2.toUInt32 >>> ((8 : Int32) &&& 31).toUInt32).toInt32) &&& (255 : Int32)).toUInt32.toUInt16.toUInt32.toInt32)), .val (.ref b6), .val (.int bs8), .unset, .unset, .unset, .unset] [(.int x2), (.int ((x1 &&& (2147483647 : Int32)) % (9 : Int32))), (.ref b6)])) _
        refine XS.sipush X8.here hx rfl (hb hby at_176) ?_
        show Steps p.tables e below (T8.setTop (mkF m 179 #[.val (.int x0), .val (.int x1), .val (.int x2), .val (.int x3), .val (.int wk), .val (.int ((((x2.toUInt32 >>> ((8 : Int32) &&& 31).toUInt32).toInt32) &&& (255 : Int32)).toUInt32.toUInt16.toUInt32.toInt32)), .val (.ref b6), .val (.int bs8), .unset, .unset, .unset, .unset] [(.int (255 : Int32)), (.int x2), (.int ((x1 &&& (2147483647 : Int32)) % (9 : Int32))), (.ref b6)])) _
        refine XS.iand X8.here hx rfl (hb hby at_179) rfl ?_
        show Steps p.tables e below (T8.setTop (mkF m 180 #[.val (.int x0), .val (.int x1), .val (.int x2), .val (.int x3), .val (.int wk), .val (.int ((((x2.toUInt32 >>> ((8 : Int32) &&& 31).toUInt32).toInt32) &&& (255 : Int32)).toUInt32.toUInt16.toUInt32.toInt32)), .val (.ref b6), .val (.int bs8), .unset, .unset, .unset, .unset] [(.int (x2 &&& (255 : Int32))), (.int ((x1 &&& (2147483647 : Int32)) % (9 : Int32))), (.ref b6)])) _
        refine XS.i2c X8.here hx rfl (hb hby at_180) rfl ?_
        exact kt
      rcases own_r9 x1 with hr | hr | hr | hr | hr | hr | hr | hr | hr
      · skip
        rw [(hr : ((x1 &&& (2147483647 : Int32)) % (9 : Int32)) = (0 : Int32))] at k52
        obtain ⟨cl53, Ar53, q53, S53, M53, HH53, GG53⟩ := id gj8_0
        have hin53 : ¬ ((0 : Int32) < 0 ∨ cl53.slots.size ≤ ((0 : Int32)).toNatClampNeg) := inb_of S53 ⟨by decide, by decide⟩
        obtain ⟨T54, h54, X54, e54, W54, st54⟩ := stC X8 hx hZ e8 Ar53 (j := (0 : Int32)) hin53 (g := (mkF m 181 #[.val (.int x0), .val (.int x1), .val (.int x2), .val (.int x3), .val (.int wk), .val (.int ((((x2.toUInt32 >>> ((8 : Int32) &&& 31).toUInt32).toInt32) &&& (255 : Int32)).toUInt32.toUInt16.toUInt32.toInt32)), .val (.ref b6), .val (.int bs8), .unset, .unset, .unset, .unset] [(.int ((x2 &&& (255 : Int32)).toUInt32.toUInt16.toUInt32.toInt32)), (.int (0 : Int32)), (.ref b6)])) rfl rfl (hb hby at_181)
        have CS54 := CHr.wr W54 (own_safeArv hZ.alike gj8_0 (by decide)) CR8.1
        have CR54 := CR8.trans CS54
        have hk54 : _ ≤ h54.size := Nat.le_trans hk8 (Nat.le_of_eq W54.size.symm)
        have N54 := Fr.snoc X54 Nq8 ge_b6
        have Z54 : n0 ≤ h54.size := by rw [W54.size]; exact Z8
        have K54 : Keep h0 h54 [] := (K8.wr W54 (Or.inr sz_b6))
        have V54 := Arv.set Ar53 q53 S53 M53 HH53 GG53 (fits_nar_char _) W54 0 rfl (Nat.le_of_ble_eq_true rfl)
        have k55 : ∀ t, Steps p.tables e below (T54.setTop (mkF m 182 #[.val (.int x0), .val (.int x1), .val (.int x2), .val (.int x3), .val (.int wk), .val (.int ((((x2.toUInt32 >>> ((8 : Int32) &&& 31).toUInt32).toInt32) &&& (255 : Int32)).toUInt32.toUInt16.toUInt32.toInt32)), .val (.ref b6), .val (.int bs8), .unset, .unset, .unset, .unset] [])) t → Steps p.tables e below (s₁.setTop (entryFrame m #[(.int x0), (.int x1), (.int x2), (.int x3)] maxLocals)) t := by
          intro t kt
          refine k52 t ?_
          show Steps p.tables e below (T8.setTop (mkF m 181 #[.val (.int x0), .val (.int x1), .val (.int x2), .val (.int x3), .val (.int wk), .val (.int ((((x2.toUInt32 >>> ((8 : Int32) &&& 31).toUInt32).toInt32) &&& (255 : Int32)).toUInt32.toUInt16.toUInt32.toInt32)), .val (.ref b6), .val (.int bs8), .unset, .unset, .unset, .unset] [(.int ((x2 &&& (255 : Int32)).toUInt32.toUInt16.toUInt32.toInt32)), (.int (0 : Int32)), (.ref b6)])) _
          refine st54 _ ?_
          exact kt
        exact ⟨_, _, _, _, (nar .char ((x2 &&& (255 : Int32)).toUInt32.toUInt16.toUInt32.toInt32)), q8_1, q8_2, q8_3, q8_4, q8_5, q8_6, q8_7, q8_8, X54.mono (by decide) (by decide), e54, N54, ((Keep.refl _ [b6]).wr W54 (Or.inl (List.mem_of_getElem? (i := 0) rfl))), V54, (own_and255 x2), gj8_2, gj8_3, gj8_4, gj8_5, gj8_6, gj8_7, gj8_8, gj8_9, k55⟩
      · skip
        rw [(hr : ((x1 &&& (2147483647 : Int32)) % (9 : Int32)) = (1 : Int32))] at k52
        obtain ⟨cl56, Ar56, q56, S56, M56, HH56, GG56⟩ := id gj8_0
        have hin56 : ¬ ((1 : Int32) < 0 ∨ cl56.slots.size ≤ ((1 : Int32)).toNatClampNeg) := inb_of S56 ⟨by decide, by decide⟩
        obtain ⟨T57, h57, X57, e57, W57, st57⟩ := stC X8 hx hZ e8 Ar56 (j := (1 : Int32)) hin56 (g := (mkF m 181 #[.val (.int x0), .val (.int x1), .val (.int x2), .val (.int x3), .val (.int wk), .val (.int ((((x2.toUInt32 >>> ((8 : Int32) &&& 31).toUInt32).toInt32) &&& (255 : Int32)).toUInt32.toUInt16.toUInt32.toInt32)), .val (.ref b6), .val (.int bs8), .unset, .unset, .unset, .unset] [(.int ((x2 &&& (255 : Int32)).toUInt32.toUInt16.toUInt32.toInt32)), (.int (1 : Int32)), (.ref b6)])) rfl rfl (hb hby at_181)
        have CS57 := CHr.wr W57 (own_safeArv hZ.alike gj8_0 (by decide)) CR8.1
        have CR57 := CR8.trans CS57
        have hk57 : _ ≤ h57.size := Nat.le_trans hk8 (Nat.le_of_eq W57.size.symm)
        have N57 := Fr.snoc X57 Nq8 ge_b6
        have Z57 : n0 ≤ h57.size := by rw [W57.size]; exact Z8
        have K57 : Keep h0 h57 [] := (K8.wr W57 (Or.inr sz_b6))
        have V57 := Arv.set Ar56 q56 S56 M56 HH56 GG56 (fits_nar_char _) W57 1 rfl (Nat.le_of_ble_eq_true rfl)
        have k58 : ∀ t, Steps p.tables e below (T57.setTop (mkF m 182 #[.val (.int x0), .val (.int x1), .val (.int x2), .val (.int x3), .val (.int wk), .val (.int ((((x2.toUInt32 >>> ((8 : Int32) &&& 31).toUInt32).toInt32) &&& (255 : Int32)).toUInt32.toUInt16.toUInt32.toInt32)), .val (.ref b6), .val (.int bs8), .unset, .unset, .unset, .unset] [])) t → Steps p.tables e below (s₁.setTop (entryFrame m #[(.int x0), (.int x1), (.int x2), (.int x3)] maxLocals)) t := by
          intro t kt
          refine k52 t ?_
          show Steps p.tables e below (T8.setTop (mkF m 181 #[.val (.int x0), .val (.int x1), .val (.int x2), .val (.int x3), .val (.int wk), .val (.int ((((x2.toUInt32 >>> ((8 : Int32) &&& 31).toUInt32).toInt32) &&& (255 : Int32)).toUInt32.toUInt16.toUInt32.toInt32)), .val (.ref b6), .val (.int bs8), .unset, .unset, .unset, .unset] [(.int ((x2 &&& (255 : Int32)).toUInt32.toUInt16.toUInt32.toInt32)), (.int (1 : Int32)), (.ref b6)])) _
          refine st57 _ ?_
          exact kt
        exact ⟨_, _, _, _, q8_0, (nar .char ((x2 &&& (255 : Int32)).toUInt32.toUInt16.toUInt32.toInt32)), q8_2, q8_3, q8_4, q8_5, q8_6, q8_7, q8_8, X57.mono (by decide) (by decide), e57, N57, ((Keep.refl _ [b6]).wr W57 (Or.inl (List.mem_of_getElem? (i := 0) rfl))), V57, gj8_1, (own_and255 x2), gj8_3, gj8_4, gj8_5, gj8_6, gj8_7, gj8_8, gj8_9, k58⟩
      · skip
        rw [(hr : ((x1 &&& (2147483647 : Int32)) % (9 : Int32)) = (2 : Int32))] at k52
        obtain ⟨cl59, Ar59, q59, S59, M59, HH59, GG59⟩ := id gj8_0
        have hin59 : ¬ ((2 : Int32) < 0 ∨ cl59.slots.size ≤ ((2 : Int32)).toNatClampNeg) := inb_of S59 ⟨by decide, by decide⟩
        obtain ⟨T60, h60, X60, e60, W60, st60⟩ := stC X8 hx hZ e8 Ar59 (j := (2 : Int32)) hin59 (g := (mkF m 181 #[.val (.int x0), .val (.int x1), .val (.int x2), .val (.int x3), .val (.int wk), .val (.int ((((x2.toUInt32 >>> ((8 : Int32) &&& 31).toUInt32).toInt32) &&& (255 : Int32)).toUInt32.toUInt16.toUInt32.toInt32)), .val (.ref b6), .val (.int bs8), .unset, .unset, .unset, .unset] [(.int ((x2 &&& (255 : Int32)).toUInt32.toUInt16.toUInt32.toInt32)), (.int (2 : Int32)), (.ref b6)])) rfl rfl (hb hby at_181)
        have CS60 := CHr.wr W60 (own_safeArv hZ.alike gj8_0 (by decide)) CR8.1
        have CR60 := CR8.trans CS60
        have hk60 : _ ≤ h60.size := Nat.le_trans hk8 (Nat.le_of_eq W60.size.symm)
        have N60 := Fr.snoc X60 Nq8 ge_b6
        have Z60 : n0 ≤ h60.size := by rw [W60.size]; exact Z8
        have K60 : Keep h0 h60 [] := (K8.wr W60 (Or.inr sz_b6))
        have V60 := Arv.set Ar59 q59 S59 M59 HH59 GG59 (fits_nar_char _) W60 2 rfl (Nat.le_of_ble_eq_true rfl)
        have k61 : ∀ t, Steps p.tables e below (T60.setTop (mkF m 182 #[.val (.int x0), .val (.int x1), .val (.int x2), .val (.int x3), .val (.int wk), .val (.int ((((x2.toUInt32 >>> ((8 : Int32) &&& 31).toUInt32).toInt32) &&& (255 : Int32)).toUInt32.toUInt16.toUInt32.toInt32)), .val (.ref b6), .val (.int bs8), .unset, .unset, .unset, .unset] [])) t → Steps p.tables e below (s₁.setTop (entryFrame m #[(.int x0), (.int x1), (.int x2), (.int x3)] maxLocals)) t := by
          intro t kt
          refine k52 t ?_
          show Steps p.tables e below (T8.setTop (mkF m 181 #[.val (.int x0), .val (.int x1), .val (.int x2), .val (.int x3), .val (.int wk), .val (.int ((((x2.toUInt32 >>> ((8 : Int32) &&& 31).toUInt32).toInt32) &&& (255 : Int32)).toUInt32.toUInt16.toUInt32.toInt32)), .val (.ref b6), .val (.int bs8), .unset, .unset, .unset, .unset] [(.int ((x2 &&& (255 : Int32)).toUInt32.toUInt16.toUInt32.toInt32)), (.int (2 : Int32)), (.ref b6)])) _
          refine st60 _ ?_
          exact kt
        exact ⟨_, _, _, _, q8_0, q8_1, (nar .char ((x2 &&& (255 : Int32)).toUInt32.toUInt16.toUInt32.toInt32)), q8_3, q8_4, q8_5, q8_6, q8_7, q8_8, X60.mono (by decide) (by decide), e60, N60, ((Keep.refl _ [b6]).wr W60 (Or.inl (List.mem_of_getElem? (i := 0) rfl))), V60, gj8_1, gj8_2, (own_and255 x2), gj8_4, gj8_5, gj8_6, gj8_7, gj8_8, gj8_9, k61⟩
      · skip
        rw [(hr : ((x1 &&& (2147483647 : Int32)) % (9 : Int32)) = (3 : Int32))] at k52
        obtain ⟨cl62, Ar62, q62, S62, M62, HH62, GG62⟩ := id gj8_0
        have hin62 : ¬ ((3 : Int32) < 0 ∨ cl62.slots.size ≤ ((3 : Int32)).toNatClampNeg) := inb_of S62 ⟨by decide, by decide⟩
        obtain ⟨T63, h63, X63, e63, W63, st63⟩ := stC X8 hx hZ e8 Ar62 (j := (3 : Int32)) hin62 (g := (mkF m 181 #[.val (.int x0), .val (.int x1), .val (.int x2), .val (.int x3), .val (.int wk), .val (.int ((((x2.toUInt32 >>> ((8 : Int32) &&& 31).toUInt32).toInt32) &&& (255 : Int32)).toUInt32.toUInt16.toUInt32.toInt32)), .val (.ref b6), .val (.int bs8), .unset, .unset, .unset, .unset] [(.int ((x2 &&& (255 : Int32)).toUInt32.toUInt16.toUInt32.toInt32)), (.int (3 : Int32)), (.ref b6)])) rfl rfl (hb hby at_181)
        have CS63 := CHr.wr W63 (own_safeArv hZ.alike gj8_0 (by decide)) CR8.1
        have CR63 := CR8.trans CS63
        have hk63 : _ ≤ h63.size := Nat.le_trans hk8 (Nat.le_of_eq W63.size.symm)
        have N63 := Fr.snoc X63 Nq8 ge_b6
        have Z63 : n0 ≤ h63.size := by rw [W63.size]; exact Z8
        have K63 : Keep h0 h63 [] := (K8.wr W63 (Or.inr sz_b6))
        have V63 := Arv.set Ar62 q62 S62 M62 HH62 GG62 (fits_nar_char _) W63 3 rfl (Nat.le_of_ble_eq_true rfl)
        have k64 : ∀ t, Steps p.tables e below (T63.setTop (mkF m 182 #[.val (.int x0), .val (.int x1), .val (.int x2), .val (.int x3), .val (.int wk), .val (.int ((((x2.toUInt32 >>> ((8 : Int32) &&& 31).toUInt32).toInt32) &&& (255 : Int32)).toUInt32.toUInt16.toUInt32.toInt32)), .val (.ref b6), .val (.int bs8), .unset, .unset, .unset, .unset] [])) t → Steps p.tables e below (s₁.setTop (entryFrame m #[(.int x0), (.int x1), (.int x2), (.int x3)] maxLocals)) t := by
          intro t kt
          refine k52 t ?_
          show Steps p.tables e below (T8.setTop (mkF m 181 #[.val (.int x0), .val (.int x1), .val (.int x2), .val (.int x3), .val (.int wk), .val (.int ((((x2.toUInt32 >>> ((8 : Int32) &&& 31).toUInt32).toInt32) &&& (255 : Int32)).toUInt32.toUInt16.toUInt32.toInt32)), .val (.ref b6), .val (.int bs8), .unset, .unset, .unset, .unset] [(.int ((x2 &&& (255 : Int32)).toUInt32.toUInt16.toUInt32.toInt32)), (.int (3 : Int32)), (.ref b6)])) _
          refine st63 _ ?_
          exact kt
        exact ⟨_, _, _, _, q8_0, q8_1, q8_2, (nar .char ((x2 &&& (255 : Int32)).toUInt32.toUInt16.toUInt32.toInt32)), q8_4, q8_5, q8_6, q8_7, q8_8, X63.mono (by decide) (by decide), e63, N63, ((Keep.refl _ [b6]).wr W63 (Or.inl (List.mem_of_getElem? (i := 0) rfl))), V63, gj8_1, gj8_2, gj8_3, (own_and255 x2), gj8_5, gj8_6, gj8_7, gj8_8, gj8_9, k64⟩
      · skip
        rw [(hr : ((x1 &&& (2147483647 : Int32)) % (9 : Int32)) = (4 : Int32))] at k52
        obtain ⟨cl65, Ar65, q65, S65, M65, HH65, GG65⟩ := id gj8_0
        have hin65 : ¬ ((4 : Int32) < 0 ∨ cl65.slots.size ≤ ((4 : Int32)).toNatClampNeg) := inb_of S65 ⟨by decide, by decide⟩
        obtain ⟨T66, h66, X66, e66, W66, st66⟩ := stC X8 hx hZ e8 Ar65 (j := (4 : Int32)) hin65 (g := (mkF m 181 #[.val (.int x0), .val (.int x1), .val (.int x2), .val (.int x3), .val (.int wk), .val (.int ((((x2.toUInt32 >>> ((8 : Int32) &&& 31).toUInt32).toInt32) &&& (255 : Int32)).toUInt32.toUInt16.toUInt32.toInt32)), .val (.ref b6), .val (.int bs8), .unset, .unset, .unset, .unset] [(.int ((x2 &&& (255 : Int32)).toUInt32.toUInt16.toUInt32.toInt32)), (.int (4 : Int32)), (.ref b6)])) rfl rfl (hb hby at_181)
        have CS66 := CHr.wr W66 (own_safeArv hZ.alike gj8_0 (by decide)) CR8.1
        have CR66 := CR8.trans CS66
        have hk66 : _ ≤ h66.size := Nat.le_trans hk8 (Nat.le_of_eq W66.size.symm)
        have N66 := Fr.snoc X66 Nq8 ge_b6
        have Z66 : n0 ≤ h66.size := by rw [W66.size]; exact Z8
        have K66 : Keep h0 h66 [] := (K8.wr W66 (Or.inr sz_b6))
        have V66 := Arv.set Ar65 q65 S65 M65 HH65 GG65 (fits_nar_char _) W66 4 rfl (Nat.le_of_ble_eq_true rfl)
        have k67 : ∀ t, Steps p.tables e below (T66.setTop (mkF m 182 #[.val (.int x0), .val (.int x1), .val (.int x2), .val (.int x3), .val (.int wk), .val (.int ((((x2.toUInt32 >>> ((8 : Int32) &&& 31).toUInt32).toInt32) &&& (255 : Int32)).toUInt32.toUInt16.toUInt32.toInt32)), .val (.ref b6), .val (.int bs8), .unset, .unset, .unset, .unset] [])) t → Steps p.tables e below (s₁.setTop (entryFrame m #[(.int x0), (.int x1), (.int x2), (.int x3)] maxLocals)) t := by
          intro t kt
          refine k52 t ?_
          show Steps p.tables e below (T8.setTop (mkF m 181 #[.val (.int x0), .val (.int x1), .val (.int x2), .val (.int x3), .val (.int wk), .val (.int ((((x2.toUInt32 >>> ((8 : Int32) &&& 31).toUInt32).toInt32) &&& (255 : Int32)).toUInt32.toUInt16.toUInt32.toInt32)), .val (.ref b6), .val (.int bs8), .unset, .unset, .unset, .unset] [(.int ((x2 &&& (255 : Int32)).toUInt32.toUInt16.toUInt32.toInt32)), (.int (4 : Int32)), (.ref b6)])) _
          refine st66 _ ?_
          exact kt
        exact ⟨_, _, _, _, q8_0, q8_1, q8_2, q8_3, (nar .char ((x2 &&& (255 : Int32)).toUInt32.toUInt16.toUInt32.toInt32)), q8_5, q8_6, q8_7, q8_8, X66.mono (by decide) (by decide), e66, N66, ((Keep.refl _ [b6]).wr W66 (Or.inl (List.mem_of_getElem? (i := 0) rfl))), V66, gj8_1, gj8_2, gj8_3, gj8_4, (own_and255 x2), gj8_6, gj8_7, gj8_8, gj8_9, k67⟩
      · skip
        rw [(hr : ((x1 &&& (2147483647 : Int32)) % (9 : Int32)) = (5 : Int32))] at k52
        obtain ⟨cl68, Ar68, q68, S68, M68, HH68, GG68⟩ := id gj8_0
        have hin68 : ¬ ((5 : Int32) < 0 ∨ cl68.slots.size ≤ ((5 : Int32)).toNatClampNeg) := inb_of S68 ⟨by decide, by decide⟩
        obtain ⟨T69, h69, X69, e69, W69, st69⟩ := stC X8 hx hZ e8 Ar68 (j := (5 : Int32)) hin68 (g := (mkF m 181 #[.val (.int x0), .val (.int x1), .val (.int x2), .val (.int x3), .val (.int wk), .val (.int ((((x2.toUInt32 >>> ((8 : Int32) &&& 31).toUInt32).toInt32) &&& (255 : Int32)).toUInt32.toUInt16.toUInt32.toInt32)), .val (.ref b6), .val (.int bs8), .unset, .unset, .unset, .unset] [(.int ((x2 &&& (255 : Int32)).toUInt32.toUInt16.toUInt32.toInt32)), (.int (5 : Int32)), (.ref b6)])) rfl rfl (hb hby at_181)
        have CS69 := CHr.wr W69 (own_safeArv hZ.alike gj8_0 (by decide)) CR8.1
        have CR69 := CR8.trans CS69
        have hk69 : _ ≤ h69.size := Nat.le_trans hk8 (Nat.le_of_eq W69.size.symm)
        have N69 := Fr.snoc X69 Nq8 ge_b6
        have Z69 : n0 ≤ h69.size := by rw [W69.size]; exact Z8
        have K69 : Keep h0 h69 [] := (K8.wr W69 (Or.inr sz_b6))
        have V69 := Arv.set Ar68 q68 S68 M68 HH68 GG68 (fits_nar_char _) W69 5 rfl (Nat.le_of_ble_eq_true rfl)
        have k70 : ∀ t, Steps p.tables e below (T69.setTop (mkF m 182 #[.val (.int x0), .val (.int x1), .val (.int x2), .val (.int x3), .val (.int wk), .val (.int ((((x2.toUInt32 >>> ((8 : Int32) &&& 31).toUInt32).toInt32) &&& (255 : Int32)).toUInt32.toUInt16.toUInt32.toInt32)), .val (.ref b6), .val (.int bs8), .unset, .unset, .unset, .unset] [])) t → Steps p.tables e below (s₁.setTop (entryFrame m #[(.int x0), (.int x1), (.int x2), (.int x3)] maxLocals)) t := by
          intro t kt
          refine k52 t ?_
          show Steps p.tables e below (T8.setTop (mkF m 181 #[.val (.int x0), .val (.int x1), .val (.int x2), .val (.int x3), .val (.int wk), .val (.int ((((x2.toUInt32 >>> ((8 : Int32) &&& 31).toUInt32).toInt32) &&& (255 : Int32)).toUInt32.toUInt16.toUInt32.toInt32)), .val (.ref b6), .val (.int bs8), .unset, .unset, .unset, .unset] [(.int ((x2 &&& (255 : Int32)).toUInt32.toUInt16.toUInt32.toInt32)), (.int (5 : Int32)), (.ref b6)])) _
          refine st69 _ ?_
          exact kt
        exact ⟨_, _, _, _, q8_0, q8_1, q8_2, q8_3, q8_4, (nar .char ((x2 &&& (255 : Int32)).toUInt32.toUInt16.toUInt32.toInt32)), q8_6, q8_7, q8_8, X69.mono (by decide) (by decide), e69, N69, ((Keep.refl _ [b6]).wr W69 (Or.inl (List.mem_of_getElem? (i := 0) rfl))), V69, gj8_1, gj8_2, gj8_3, gj8_4, gj8_5, (own_and255 x2), gj8_7, gj8_8, gj8_9, k70⟩
      · skip
        rw [(hr : ((x1 &&& (2147483647 : Int32)) % (9 : Int32)) = (6 : Int32))] at k52
        obtain ⟨cl71, Ar71, q71, S71, M71, HH71, GG71⟩ := id gj8_0
        have hin71 : ¬ ((6 : Int32) < 0 ∨ cl71.slots.size ≤ ((6 : Int32)).toNatClampNeg) := inb_of S71 ⟨by decide, by decide⟩
        obtain ⟨T72, h72, X72, e72, W72, st72⟩ := stC X8 hx hZ e8 Ar71 (j := (6 : Int32)) hin71 (g := (mkF m 181 #[.val (.int x0), .val (.int x1), .val (.int x2), .val (.int x3), .val (.int wk), .val (.int ((((x2.toUInt32 >>> ((8 : Int32) &&& 31).toUInt32).toInt32) &&& (255 : Int32)).toUInt32.toUInt16.toUInt32.toInt32)), .val (.ref b6), .val (.int bs8), .unset, .unset, .unset, .unset] [(.int ((x2 &&& (255 : Int32)).toUInt32.toUInt16.toUInt32.toInt32)), (.int (6 : Int32)), (.ref b6)])) rfl rfl (hb hby at_181)
        have CS72 := CHr.wr W72 (own_safeArv hZ.alike gj8_0 (by decide)) CR8.1
        have CR72 := CR8.trans CS72
        have hk72 : _ ≤ h72.size := Nat.le_trans hk8 (Nat.le_of_eq W72.size.symm)
        have N72 := Fr.snoc X72 Nq8 ge_b6
        have Z72 : n0 ≤ h72.size := by rw [W72.size]; exact Z8
        have K72 : Keep h0 h72 [] := (K8.wr W72 (Or.inr sz_b6))
        have V72 := Arv.set Ar71 q71 S71 M71 HH71 GG71 (fits_nar_char _) W72 6 rfl (Nat.le_of_ble_eq_true rfl)
        have k73 : ∀ t, Steps p.tables e below (T72.setTop (mkF m 182 #[.val (.int x0), .val (.int x1), .val (.int x2), .val (.int x3), .val (.int wk), .val (.int ((((x2.toUInt32 >>> ((8 : Int32) &&& 31).toUInt32).toInt32) &&& (255 : Int32)).toUInt32.toUInt16.toUInt32.toInt32)), .val (.ref b6), .val (.int bs8), .unset, .unset, .unset, .unset] [])) t → Steps p.tables e below (s₁.setTop (entryFrame m #[(.int x0), (.int x1), (.int x2), (.int x3)] maxLocals)) t := by
          intro t kt
          refine k52 t ?_
          show Steps p.tables e below (T8.setTop (mkF m 181 #[.val (.int x0), .val (.int x1), .val (.int x2), .val (.int x3), .val (.int wk), .val (.int ((((x2.toUInt32 >>> ((8 : Int32) &&& 31).toUInt32).toInt32) &&& (255 : Int32)).toUInt32.toUInt16.toUInt32.toInt32)), .val (.ref b6), .val (.int bs8), .unset, .unset, .unset, .unset] [(.int ((x2 &&& (255 : Int32)).toUInt32.toUInt16.toUInt32.toInt32)), (.int (6 : Int32)), (.ref b6)])) _
          refine st72 _ ?_
          exact kt
        exact ⟨_, _, _, _, q8_0, q8_1, q8_2, q8_3, q8_4, q8_5, (nar .char ((x2 &&& (255 : Int32)).toUInt32.toUInt16.toUInt32.toInt32)), q8_7, q8_8, X72.mono (by decide) (by decide), e72, N72, ((Keep.refl _ [b6]).wr W72 (Or.inl (List.mem_of_getElem? (i := 0) rfl))), V72, gj8_1, gj8_2, gj8_3, gj8_4, gj8_5, gj8_6, (own_and255 x2), gj8_8, gj8_9, k73⟩
      · skip
        rw [(hr : ((x1 &&& (2147483647 : Int32)) % (9 : Int32)) = (7 : Int32))] at k52
        obtain ⟨cl74, Ar74, q74, S74, M74, HH74, GG74⟩ := id gj8_0
        have hin74 : ¬ ((7 : Int32) < 0 ∨ cl74.slots.size ≤ ((7 : Int32)).toNatClampNeg) := inb_of S74 ⟨by decide, by decide⟩
        obtain ⟨T75, h75, X75, e75, W75, st75⟩ := stC X8 hx hZ e8 Ar74 (j := (7 : Int32)) hin74 (g := (mkF m 181 #[.val (.int x0), .val (.int x1), .val (.int x2), .val (.int x3), .val (.int wk), .val (.int ((((x2.toUInt32 >>> ((8 : Int32) &&& 31).toUInt32).toInt32) &&& (255 : Int32)).toUInt32.toUInt16.toUInt32.toInt32)), .val (.ref b6), .val (.int bs8), .unset, .unset, .unset, .unset] [(.int ((x2 &&& (255 : Int32)).toUInt32.toUInt16.toUInt32.toInt32)), (.int (7 : Int32)), (.ref b6)])) rfl rfl (hb hby at_181)
        have CS75 := CHr.wr W75 (own_safeArv hZ.alike gj8_0 (by decide)) CR8.1
        have CR75 := CR8.trans CS75
        have hk75 : _ ≤ h75.size := Nat.le_trans hk8 (Nat.le_of_eq W75.size.symm)
        have N75 := Fr.snoc X75 Nq8 ge_b6
        have Z75 : n0 ≤ h75.size := by rw [W75.size]; exact Z8
        have K75 : Keep h0 h75 [] := (K8.wr W75 (Or.inr sz_b6))
        have V75 := Arv.set Ar74 q74 S74 M74 HH74 GG74 (fits_nar_char _) W75 7 rfl (Nat.le_of_ble_eq_true rfl)
        have k76 : ∀ t, Steps p.tables e below (T75.setTop (mkF m 182 #[.val (.int x0), .val (.int x1), .val (.int x2), .val (.int x3), .val (.int wk), .val (.int ((((x2.toUInt32 >>> ((8 : Int32) &&& 31).toUInt32).toInt32) &&& (255 : Int32)).toUInt32.toUInt16.toUInt32.toInt32)), .val (.ref b6), .val (.int bs8), .unset, .unset, .unset, .unset] [])) t → Steps p.tables e below (s₁.setTop (entryFrame m #[(.int x0), (.int x1), (.int x2), (.int x3)] maxLocals)) t := by
          intro t kt
          refine k52 t ?_
          show Steps p.tables e below (T8.setTop (mkF m 181 #[.val (.int x0), .val (.int x1), .val (.int x2), .val (.int x3), .val (.int wk), .val (.int ((((x2.toUInt32 >>> ((8 : Int32) &&& 31).toUInt32).toInt32) &&& (255 : Int32)).toUInt32.toUInt16.toUInt32.toInt32)), .val (.ref b6), .val (.int bs8), .unset, .unset, .unset, .unset] [(.int ((x2 &&& (255 : Int32)).toUInt32.toUInt16.toUInt32.toInt32)), (.int (7 : Int32)), (.ref b6)])) _
          refine st75 _ ?_
          exact kt
        exact ⟨_, _, _, _, q8_0, q8_1, q8_2, q8_3, q8_4, q8_5, q8_6, (nar .char ((x2 &&& (255 : Int32)).toUInt32.toUInt16.toUInt32.toInt32)), q8_8, X75.mono (by decide) (by decide), e75, N75, ((Keep.refl _ [b6]).wr W75 (Or.inl (List.mem_of_getElem? (i := 0) rfl))), V75, gj8_1, gj8_2, gj8_3, gj8_4, gj8_5, gj8_6, gj8_7, (own_and255 x2), gj8_9, k76⟩
      · skip
        rw [(hr : ((x1 &&& (2147483647 : Int32)) % (9 : Int32)) = (8 : Int32))] at k52
        obtain ⟨cl77, Ar77, q77, S77, M77, HH77, GG77⟩ := id gj8_0
        have hin77 : ¬ ((8 : Int32) < 0 ∨ cl77.slots.size ≤ ((8 : Int32)).toNatClampNeg) := inb_of S77 ⟨by decide, by decide⟩
        obtain ⟨T78, h78, X78, e78, W78, st78⟩ := stC X8 hx hZ e8 Ar77 (j := (8 : Int32)) hin77 (g := (mkF m 181 #[.val (.int x0), .val (.int x1), .val (.int x2), .val (.int x3), .val (.int wk), .val (.int ((((x2.toUInt32 >>> ((8 : Int32) &&& 31).toUInt32).toInt32) &&& (255 : Int32)).toUInt32.toUInt16.toUInt32.toInt32)), .val (.ref b6), .val (.int bs8), .unset, .unset, .unset, .unset] [(.int ((x2 &&& (255 : Int32)).toUInt32.toUInt16.toUInt32.toInt32)), (.int (8 : Int32)), (.ref b6)])) rfl rfl (hb hby at_181)
        have CS78 := CHr.wr W78 (own_safeArv hZ.alike gj8_0 (by decide)) CR8.1
        have CR78 := CR8.trans CS78
        have hk78 : _ ≤ h78.size := Nat.le_trans hk8 (Nat.le_of_eq W78.size.symm)
        have N78 := Fr.snoc X78 Nq8 ge_b6
        have Z78 : n0 ≤ h78.size := by rw [W78.size]; exact Z8
        have K78 : Keep h0 h78 [] := (K8.wr W78 (Or.inr sz_b6))
        have V78 := Arv.set Ar77 q77 S77 M77 HH77 GG77 (fits_nar_char _) W78 8 rfl (Nat.le_of_ble_eq_true rfl)
        have k79 : ∀ t, Steps p.tables e below (T78.setTop (mkF m 182 #[.val (.int x0), .val (.int x1), .val (.int x2), .val (.int x3), .val (.int wk), .val (.int ((((x2.toUInt32 >>> ((8 : Int32) &&& 31).toUInt32).toInt32) &&& (255 : Int32)).toUInt32.toUInt16.toUInt32.toInt32)), .val (.ref b6), .val (.int bs8), .unset, .unset, .unset, .unset] [])) t → Steps p.tables e below (s₁.setTop (entryFrame m #[(.int x0), (.int x1), (.int x2), (.int x3)] maxLocals)) t := by
          intro t kt
          refine k52 t ?_
          show Steps p.tables e below (T8.setTop (mkF m 181 #[.val (.int x0), .val (.int x1), .val (.int x2), .val (.int x3), .val (.int wk), .val (.int ((((x2.toUInt32 >>> ((8 : Int32) &&& 31).toUInt32).toInt32) &&& (255 : Int32)).toUInt32.toUInt16.toUInt32.toInt32)), .val (.ref b6), .val (.int bs8), .unset, .unset, .unset, .unset] [(.int ((x2 &&& (255 : Int32)).toUInt32.toUInt16.toUInt32.toInt32)), (.int (8 : Int32)), (.ref b6)])) _
          refine st78 _ ?_
          exact kt
        exact ⟨_, _, _, _, q8_0, q8_1, q8_2, q8_3, q8_4, q8_5, q8_6, q8_7, (nar .char ((x2 &&& (255 : Int32)).toUInt32.toUInt16.toUInt32.toInt32)), X78.mono (by decide) (by decide), e78, N78, ((Keep.refl _ [b6]).wr W78 (Or.inl (List.mem_of_getElem? (i := 0) rfl))), V78, gj8_1, gj8_2, gj8_3, gj8_4, gj8_5, gj8_6, gj8_7, gj8_8, (own_and255 x2), k79⟩
  have CS49 := CHr.keep Kq49 (allS (own_safeArv hZ.alike gj8_0 (by decide)) all0) CR8.1
  have CR49 := CR8.trans CS49
  have hk49 : _ ≤ h49.size := Nat.le_trans hk8 Kq49.1
  have Z49 : n0 ≤ h49.size := Nat.le_trans Z8 Kq49.1
  have K49 : Keep h0 h49 [] := Keep.trans K8 Kq49 (allS (Or.inr sz_b6) all0)
  have k80 : ∀ t, Steps p.tables e below (T49.setTop (mkF m 189 #[.val (.int x0), .val (.int x1), .val (.int x2), .val (.int x3), .val (.int wk), .val (.int ((((x2.toUInt32 >>> ((8 : Int32) &&& 31).toUInt32).toInt32) &&& (255 : Int32)).toUInt32.toUInt16.toUInt32.toInt32)), .val (.ref b6), .val (.int bs8), .val (.int bs8), .unset, .unset, .unset] [(.int (x0 &&& (4 : Int32)))])) t → Steps p.tables e below (s₁.setTop (entryFrame m #[(.int x0), (.int x1), (.int x2), (.int x3)] maxLocals)) t := by
    intro t kt
    refine k49 t ?_
    show Steps p.tables e below (T49.setTop (mkF m 182 #[.val (.int x0), .val (.int x1), .val (.int x2), .val (.int x3), .val (.int wk), .val (.int ((((x2.toUInt32 >>> ((8 : Int32) &&& 31).toUInt32).toInt32) &&& (255 : Int32)).toUInt32.toUInt16.toUInt32.toInt32)), .val (.ref b6), .val (.int bs8), .unset, .unset, .unset, .unset] [])) _
    refine XS.iload X49.here hx rfl (hb hby at_182) rfl ?_
    show Steps p.tables e below (T49.setTop (mkF m 184 #[.val (.int x0), .val (.int x1), .val (.int x2), .val (.int x3), .val (.int wk), .val (.int ((((x2.toUInt32 >>> ((8 : Int32) &&& 31).toUInt32).toInt32) &&& (255 : Int32)).toUInt32.toUInt16.toUInt32.toInt32)), .val (.ref b6), .val (.int bs8), .unset, .unset, .unset, .unset] [(.int bs8)])) _
    refine XS.istore X49.here hx rfl (hb hby at_184) rfl (l' := #[.val (.int x0), .val (.int x1), .val (.int x2), .val (.int x3), .val (.int wk), .val (.int ((((x2.toUInt32 >>> ((8 : Int32) &&& 31).toUInt32).toInt32) &&& (255 : Int32)).toUInt32.toUInt16.toUInt32.toInt32)), .val (.ref b6), .val (.int bs8), .val (.int bs8), .unset, .unset, .unset]) rfl ?_
    show Steps p.tables e below (T49.setTop (mkF m 186 #[.val (.int x0), .val (.int x1), .val (.int x2), .val (.int x3), .val (.int wk), .val (.int ((((x2.toUInt32 >>> ((8 : Int32) &&& 31).toUInt32).toInt32) &&& (255 : Int32)).toUInt32.toUInt16.toUInt32.toInt32)), .val (.ref b6), .val (.int bs8), .val (.int bs8), .unset, .unset, .unset] [])) _
    refine XS.iloadN X49.here hx rfl (hb hby at_186) rfl ?_
    show Steps p.tables e below (T49.setTop (mkF m 187 #[.val (.int x0), .val (.int x1), .val (.int x2), .val (.int x3), .val (.int wk), .val (.int ((((x2.toUInt32 >>> ((8 : Int32) &&& 31).toUInt32).toInt32) &&& (255 : Int32)).toUInt32.toUInt16.toUInt32.toInt32)), .val (.ref b6), .val (.int bs8), .val (.int bs8), .unset, .unset, .unset] [(.int x0)])) _
    refine XS.iconst X49.here hx rfl (hb hby at_187) ?_
    show Steps p.tables e below (T49.setTop (mkF m 188 #[.val (.int x0), .val (.int x1), .val (.int x2), .val (.int x3), .val (.int wk), .val (.int ((((x2.toUInt32 >>> ((8 : Int32) &&& 31).toUInt32).toInt32) &&& (255 : Int32)).toUInt32.toUInt16.toUInt32.toInt32)), .val (.ref b6), .val (.int bs8), .val (.int bs8), .unset, .unset, .unset] [(.int (4 : Int32)), (.int x0)])) _
    refine XS.iand X49.here hx rfl (hb hby at_188) rfl ?_
    exact kt
  obtain ⟨nj, hj81, k81⟩ : ∃ (nj : Int32), (True) ∧ ∀ t, Steps p.tables e below (T49.setTop (mkF m 201 #[.val (.int x0), .val (.int x1), .val (.int x2), .val (.int x3), .val (.int wk), .val (.int ((((x2.toUInt32 >>> ((8 : Int32) &&& 31).toUInt32).toInt32) &&& (255 : Int32)).toUInt32.toUInt16.toUInt32.toInt32)), .val (.ref b6), .val (.int bs8), .val (.int nj), .unset, .unset, .unset] [])) t → Steps p.tables e below (s₁.setTop (entryFrame m #[(.int x0), (.int x1), (.int x2), (.int x3)] maxLocals)) t := by
    by_cases hc82 : (x0 &&& (4 : Int32)) = (0 : Int32)
    · skip
      have k83 : ∀ t, Steps p.tables e below (T49.setTop (mkF m 201 #[.val (.int x0), .val (.int x1), .val (.int x2), .val (.int x3), .val (.int wk), .val (.int ((((x2.toUInt32 >>> ((8 : Int32) &&& 31).toUInt32).toInt32) &&& (255 : Int32)).toUInt32.toUInt16.toUInt32.toInt32)), .val (.ref b6), .val (.int bs8), .val (.int bs8), .unset, .unset, .unset] [])) t → Steps p.tables e below (s₁.setTop (entryFrame m #[(.int x0), (.int x1), (.int x2), (.int x3)] maxLocals)) t := by
        intro t kt
        refine k80 t ?_
        show Steps p.tables e below (T49.setTop (mkF m 189 #[.val (.int x0), .val (.int x1), .val (.int x2), .val (.int x3), .val (.int wk), .val (.int ((((x2.toUInt32 >>> ((8 : Int32) &&& 31).toUInt32).toInt32) &&& (255 : Int32)).toUInt32.toUInt16.toUInt32.toInt32)), .val (.ref b6), .val (.int bs8), .val (.int bs8), .unset, .unset, .unset] [(.int (x0 &&& (4 : Int32)))])) _
        refine XS.ifYes X49.here hx rfl (pc0 := 189) (pc' := 201) rfl (hb hby at_189) rfl ((if0 _ _).trans (teq hc82).1) (by decide) (by decide) ?_
        exact kt
      exact ⟨bs8, trivial, k83⟩
    · skip
      have k84 : ∀ t, Steps p.tables e below (T49.setTop (mkF m 201 #[.val (.int x0), .val (.int x1), .val (.int x2), .val (.int x3), .val (.int wk), .val (.int ((((x2.toUInt32 >>> ((8 : Int32) &&& 31).toUInt32).toInt32) &&& (255 : Int32)).toUInt32.toUInt16.toUInt32.toInt32)), .val (.ref b6), .val (.int bs8), .val (.int ((x3 &&& (2147483647 : Int32)) % (10 : Int32))), .unset, .unset, .unset] [])) t → Steps p.tables e below (s₁.setTop (entryFrame m #[(.int x0), (.int x1), (.int x2), (.int x3)] maxLocals)) t := by
        intro t kt
        refine k80 t ?_
        show Steps p.tables e below (T49.setTop (mkF m 189 #[.val (.int x0), .val (.int x1), .val (.int x2), .val (.int x3), .val (.int wk), .val (.int ((((x2.toUInt32 >>> ((8 : Int32) &&& 31).toUInt32).toInt32) &&& (255 : Int32)).toUInt32.toUInt16.toUInt32.toInt32)), .val (.ref b6), .val (.int bs8), .val (.int bs8), .unset, .unset, .unset] [(.int (x0 &&& (4 : Int32)))])) _
        refine XS.ifNo X49.here hx rfl (hb hby at_189) rfl ((if0 _ _).trans (feq hc82).1) ?_
        show Steps p.tables e below (T49.setTop (mkF m 192 #[.val (.int x0), .val (.int x1), .val (.int x2), .val (.int x3), .val (.int wk), .val (.int ((((x2.toUInt32 >>> ((8 : Int32) &&& 31).toUInt32).toInt32) &&& (255 : Int32)).toUInt32.toUInt16.toUInt32.toInt32)), .val (.ref b6), .val (.int bs8), .val (.int bs8), .unset, .unset, .unset] [])) _
        refine XS.iloadN X49.here hx rfl (hb hby at_192) rfl ?_
        show Steps p.tables e below (T49.setTop (mkF m 193 #[.val (.int x0), .val (.int x1), .val (.int x2), .val (.int x3), .val (.int wk), .val (.int ((((x2.toUInt32 >>> ((8 : Int32) &&& 31).toUInt32).toInt32) &&& (255 : Int32)).toUInt32.toUInt16.toUInt32.toInt32)), .val (.ref b6), .val (.int bs8), .val (.int bs8), .unset, .unset, .unset] [(.int x3)])) _
        refine X49.ldcInt hx hown (mvT hZ (wd72 hw)) (g := (mkF m 193 #[.val (.int x0), .val (.int x1), .val (.int x2), .val (.int x3), .val (.int wk), .val (.int ((((x2.toUInt32 >>> ((8 : Int32) &&& 31).toUInt32).toInt32) &&& (255 : Int32)).toUInt32.toUInt16.toUInt32.toInt32)), .val (.ref b6), .val (.int bs8), .val (.int bs8), .unset, .unset, .unset] [(.int x3)])) rfl (hb hby at_193) _ ?_
        show Steps p.tables e below (T49.setTop (mkF m 195 #[.val (.int x0), .val (.int x1), .val (.int x2), .val (.int x3), .val (.int wk), .val (.int ((((x2.toUInt32 >>> ((8 : Int32) &&& 31).toUInt32).toInt32) &&& (255 : Int32)).toUInt32.toUInt16.toUInt32.toInt32)), .val (.ref b6), .val (.int bs8), .val (.int bs8), .unset, .unset, .unset] [(.int (2147483647 : Int32)), (.int x3)])) _
        refine XS.iand X49.here hx rfl (hb hby at_195) rfl ?_
        show Steps p.tables e below (T49.setTop (mkF m 196 #[.val (.int x0), .val (.int x1), .val (.int x2), .val (.int x3), .val (.int wk), .val (.int ((((x2.toUInt32 >>> ((8 : Int32) &&& 31).toUInt32).toInt32) &&& (255 : Int32)).toUInt32.toUInt16.toUInt32.toInt32)), .val (.ref b6), .val (.int bs8), .val (.int bs8), .unset, .unset, .unset] [(.int (x3 &&& (2147483647 : Int32)))])) _
        refine XS.bipush X49.here hx rfl (hb hby at_196) ?_
        show Steps p.tables e below (T49.setTop (mkF m 198 #[.val (.int x0), .val (.int x1), .val (.int x2), .val (.int x3), .val (.int wk), .val (.int ((((x2.toUInt32 >>> ((8 : Int32) &&& 31).toUInt32).toInt32) &&& (255 : Int32)).toUInt32.toUInt16.toUInt32.toInt32)), .val (.ref b6), .val (.int bs8), .val (.int bs8), .unset, .unset, .unset] [(.int (10 : Int32)), (.int (x3 &&& (2147483647 : Int32)))])) _
        refine iremM X49 hx rfl (hb hby at_198) rfl (by decide) ?_
        show Steps p.tables e below (T49.setTop (mkF m 199 #[.val (.int x0), .val (.int x1), .val (.int x2), .val (.int x3), .val (.int wk), .val (.int ((((x2.toUInt32 >>> ((8 : Int32) &&& 31).toUInt32).toInt32) &&& (255 : Int32)).toUInt32.toUInt16.toUInt32.toInt32)), .val (.ref b6), .val (.int bs8), .val (.int bs8), .unset, .unset, .unset] [(.int ((x3 &&& (2147483647 : Int32)) % (10 : Int32)))])) _
        refine XS.istore X49.here hx rfl (hb hby at_199) rfl (l' := #[.val (.int x0), .val (.int x1), .val (.int x2), .val (.int x3), .val (.int wk), .val (.int ((((x2.toUInt32 >>> ((8 : Int32) &&& 31).toUInt32).toInt32) &&& (255 : Int32)).toUInt32.toUInt16.toUInt32.toInt32)), .val (.ref b6), .val (.int bs8), .val (.int ((x3 &&& (2147483647 : Int32)) % (10 : Int32))), .unset, .unset, .unset]) rfl ?_
        exact kt
      exact ⟨((x3 &&& (2147483647 : Int32)) % (10 : Int32)), trivial, k84⟩
  have f85 := (((X00.ext E6).keep Kq8 (allS ge_b6 all0)).keep Kq49 (allS ge_b6 all0))
  obtain ⟨_, _, ⟨T86, L86, kc86, ks86⟩, -, X86, hSq86, hgr86, ⟨Lc86, hQ86, l86, y86, z86, CS86⟩, st86⟩ := Jvm.RoadKit.callSS X49 hx (y := mn2) hown (mvT hZ (wd1 hw)) (mvT hZ (wd2 hw)) (mvT hZ (wd3 hw)) (mvT hZ (wd4 hw)) (by decide) (own_backSafe (s := s) (vm0 := s.vm) (EL := own_EL) (ss := []) (W := 0) (rmTk l Z a0 hw [] b6 nj kj49 q49_0 q49_1 q49_2 q49_3 q49_4 q49_5 q49_6 q49_7 q49_8 G1 h49 n0 Z49 gj49_0 gj49_1 gj49_2 gj49_3 gj49_4 gj49_5 gj49_6 gj49_7 gj49_8 gj49_9 O2 P5 f85) hZ (wd4 hw) (wd3 hw) (by decide) (by decide) hEL CR49.1 all0) (g := (mkF m 205 #[.val (.int x0), .val (.int x1), .val (.int x2), .val (.int x3), .val (.int wk), .val (.int ((((x2.toUInt32 >>> ((8 : Int32) &&& 31).toUInt32).toInt32) &&& (255 : Int32)).toUInt32.toUInt16.toUInt32.toInt32)), .val (.ref b6), .val (.int bs8), .val (.int nj), .unset, .unset, .unset] [(.int nj), (.ref b6)])) rfl (by rw [hml]; rfl) (argsL := [(.ref b6), (.int nj)]) (rest := []) (lenOf pd___CI_Ljava_lang_String_ rfl) rfl (by show 2 * 0 + _ ≤ _; exact Nat.le_of_eq rfl) (hb hby at_205) (fun _ _ => ⟨rfl, e49, (by decide : 1 + 6 ≤ _), (by decide : 9 + 24 ≤ _)⟩)
  dsimp only [Pt.U, Pt.locs, Pt.cells, Pt.slots] at X86 l86 y86 z86 st86 hQ86 hSq86 hgr86 CS86
  subst l86 y86 z86
  obtain ⟨X86, hS86, hZ86, hown86⟩ := rebS hS0 hk49 X86 hSq86 (by rw [e49] at hgr86; exact hgr86) hZ hown
  obtain ⟨o86, cs86, t86, kb86, rfl, Nq86, Kq86, gE86, gC86, gV86, gK86, hb86, hl86⟩ := hQ86
  have N86 := Fr.app Nq49 Nq86
  have CR86 := CR49.trans CS86
  have Z86 : n0 ≤ T86.heap.size := Nat.le_trans Z49 Kq86.1
  have K86 : Keep h0 T86.heap [] := Keep.trans K49 Kq86 all0
  have k87 : ∀ t, Steps p.tables e below (T86.setTop (mkF m 216 #[.val (.int x0), .val (.int x1), .val (.int x2), .val (.int x3), .val (.int wk), .val (.int ((((x2.toUInt32 >>> ((8 : Int32) &&& 31).toUInt32).toInt32) &&& (255 : Int32)).toUInt32.toUInt16.toUInt32.toInt32)), .val (.ref b6), .val (.int bs8), .val (.int nj), .val (.ref o86), .unset, .unset] [(.int (24 : Int32)), (.int (x0 &&& (24 : Int32)))])) t → Steps p.tables e below (s₁.setTop (entryFrame m #[(.int x0), (.int x1), (.int x2), (.int x3)] maxLocals)) t := by
    intro t kt
    refine k81 t ?_
    show Steps p.tables e below (T49.setTop (mkF m 201 #[.val (.int x0), .val (.int x1), .val (.int x2), .val (.int x3), .val (.int wk), .val (.int ((((x2.toUInt32 >>> ((8 : Int32) &&& 31).toUInt32).toInt32) &&& (255 : Int32)).toUInt32.toUInt16.toUInt32.toInt32)), .val (.ref b6), .val (.int bs8), .val (.int nj), .unset, .unset, .unset] [])) _
    refine XS.aload X49.here hx rfl (hb hby at_201) rfl rfl ?_
    show Steps p.tables e below (T49.setTop (mkF m 203 #[.val (.int x0), .val (.int x1), .val (.int x2), .val (.int x3), .val (.int wk), .val (.int ((((x2.toUInt32 >>> ((8 : Int32) &&& 31).toUInt32).toInt32) &&& (255 : Int32)).toUInt32.toUInt16.toUInt32.toInt32)), .val (.ref b6), .val (.int bs8), .val (.int nj), .unset, .unset, .unset] [(.ref b6)])) _
    refine XS.iload X49.here hx rfl (hb hby at_203) rfl ?_
    show Steps p.tables e below (T49.setTop (mkF m 205 #[.val (.int x0), .val (.int x1), .val (.int x2), .val (.int x3), .val (.int wk), .val (.int ((((x2.toUInt32 >>> ((8 : Int32) &&& 31).toUInt32).toInt32) &&& (255 : Int32)).toUInt32.toUInt16.toUInt32.toInt32)), .val (.ref b6), .val (.int bs8), .val (.int nj), .unset, .unset, .unset] [(.int nj), (.ref b6)])) _
    refine st86.trans ?_
    show Steps p.tables e below (T86.setTop (mkF m 208 #[.val (.int x0), .val (.int x1), .val (.int x2), .val (.int x3), .val (.int wk), .val (.int ((((x2.toUInt32 >>> ((8 : Int32) &&& 31).toUInt32).toInt32) &&& (255 : Int32)).toUInt32.toUInt16.toUInt32.toInt32)), .val (.ref b6), .val (.int bs8), .val (.int nj), .unset, .unset, .unset] [(.ref o86)])) _
    refine XS.astore X86.here hx rfl (hb hby at_208) rfl rfl (l' := #[.val (.int x0), .val (.int x1), .val (.int x2), .val (.int x3), .val (.int wk), .val (.int ((((x2.toUInt32 >>> ((8 : Int32) &&& 31).toUInt32).toInt32) &&& (255 : Int32)).toUInt32.toUInt16.toUInt32.toInt32)), .val (.ref b6), .val (.int bs8), .val (.int nj), .val (.ref o86), .unset, .unset]) rfl ?_
    show Steps p.tables e below (T86.setTop (mkF m 210 #[.val (.int x0), .val (.int x1), .val (.int x2), .val (.int x3), .val (.int wk), .val (.int ((((x2.toUInt32 >>> ((8 : Int32) &&& 31).toUInt32).toInt32) &&& (255 : Int32)).toUInt32.toUInt16.toUInt32.toInt32)), .val (.ref b6), .val (.int bs8), .val (.int nj), .val (.ref o86), .unset, .unset] [])) _
    refine XS.iloadN X86.here hx rfl (hb hby at_210) rfl ?_
    show Steps p.tables e below (T86.setTop (mkF m 211 #[.val (.int x0), .val (.int x1), .val (.int x2), .val (.int x3), .val (.int wk), .val (.int ((((x2.toUInt32 >>> ((8 : Int32) &&& 31).toUInt32).toInt32) &&& (255 : Int32)).toUInt32.toUInt16.toUInt32.toInt32)), .val (.ref b6), .val (.int bs8), .val (.int nj), .val (.ref o86), .unset, .unset] [(.int x0)])) _
    refine XS.bipush X86.here hx rfl (hb hby at_211) ?_
    show Steps p.tables e below (T86.setTop (mkF m 213 #[.val (.int x0), .val (.int x1), .val (.int x2), .val (.int x3), .val (.int wk), .val (.int ((((x2.toUInt32 >>> ((8 : Int32) &&& 31).toUInt32).toInt32) &&& (255 : Int32)).toUInt32.toUInt16.toUInt32.toInt32)), .val (.ref b6), .val (.int bs8), .val (.int nj), .val (.ref o86), .unset, .unset] [(.int (24 : Int32)), (.int x0)])) _
    refine XS.iand X86.here hx rfl (hb hby at_213) rfl ?_
    show Steps p.tables e below (T86.setTop (mkF m 214 #[.val (.int x0), .val (.int x1), .val (.int x2), .val (.int x3), .val (.int wk), .val (.int ((((x2.toUInt32 >>> ((8 : Int32) &&& 31).toUInt32).toInt32) &&& (255 : Int32)).toUInt32.toUInt16.toUInt32.toInt32)), .val (.ref b6), .val (.int bs8), .val (.int nj), .val (.ref o86), .unset, .unset] [(.int (x0 &&& (24 : Int32)))])) _
    refine XS.bipush X86.here hx rfl (hb hby at_214) ?_
    exact kt
  by_cases hc88 : (x0 &&& (24 : Int32)) = (24 : Int32)
  · skip
    have f89 := (f85.keep Kq86 all0)
    obtain ⟨_, _, ⟨T90, L90, kc90, ks90⟩, -, X90, ⟨Lc90, hQ90, l90, y90, z90⟩, st90⟩ := Jvm.LawKit.callS X86 hx (y := mn0) hown86 (mvT hZ86 (wd34 hw)) (mvT hZ86 (wd35 hw)) (mvT hZ86 (wd36 hw)) (mvT hZ86 (wd37 hw)) (by decide) (backOf (W := 0) (rmPn l Z a0 hw [] gP gW tP tW vP vW kP kW va kv G1 T86.heap n0 Z86 S_V V_V E_V F_gP E_tP Fv_tP Fc_tP V_vP F_gW E_tW Fv_tW Fc_tW V_vW O2 P5 f89) hZ86 (wd37 hw) (wd36 hw) (by decide) (by decide)) (g := (mkF m 224 #[.val (.int x0), .val (.int x1), .val (.int x2), .val (.int x3), .val (.int wk), .val (.int ((((x2.toUInt32 >>> ((8 : Int32) &&& 31).toUInt32).toInt32) &&& (255 : Int32)).toUInt32.toUInt16.toUInt32.toInt32)), .val (.ref b6), .val (.int bs8), .val (.int nj), .val .null, .unset, .unset] [.null])) rfl (by rw [hml]; rfl) (argsL := [.null]) (rest := []) (lenOf pd__Ljava_lang_String__Lcom_example_aloq_aloq_engine_TokenKind_ rfl) rfl (by show 2 * 0 + _ ≤ _; exact Nat.le_of_eq rfl) (hb hby at_224) (fun _ _ => ⟨rfl, rfl, (by decide : 7 + 1 ≤ _), (by decide : 33 + 2 ≤ _)⟩)
    dsimp only [Pt.U, Pt.locs, Pt.cells, Pt.slots] at X90 l90 y90 z90 st90 hQ90
    subst l90 y90 z90
    obtain ⟨rfl, Nq90, Kq90⟩ := hQ90
    have N90 := Fr.app N86 Nq90
    have CS90 := CHr.keep Kq90 all0 CR86.1
    have CR90 := CR86.trans CS90
    have hk90 : _ ≤ T90.heap.size := Nat.le_trans (Nat.le_refl T86.heap.size) Kq90.1
    have Z90 : n0 ≤ T90.heap.size := Nat.le_trans Z86 Kq90.1
    have K90 : Keep h0 T90.heap [] := Keep.trans K86 Kq90 all0
    have f91 := ((gj49_0.keep Kq86 nin0).keep Kq90 nin0)
    obtain ⟨a92, T92, h92, kk92, t92, kb92, X92, e92, E92, hS92, hk92, hZ92, hown92, gE92, gC92, gV92, gK92, la92, lt92, CS92, LL92, sne92, st92⟩ := ldcCH (s := s) (vm0 := T86.vm) (EL := own_EL) X90 hx hZ86 hown86 (wd67 hw) wS rfl hS86 hk90 hEL (by decide) CR90.1 (vs := [(.int (112 : Int32)), (.int (114 : Int32)), (.int (111 : Int32)), (.int (100 : Int32)), (.int (117 : Int32)), (.int (99 : Int32)), (.int (101 : Int32)), (.int (114 : Int32))]) (z := (8 : Int32)) ⟨by decide +kernel, by first | rfl | decide +kernel⟩ (by decide) (by decide) (g := (mkF m 229 #[.val (.int x0), .val (.int x1), .val (.int x2), .val (.int x3), .val (.int wk), .val (.int ((((x2.toUInt32 >>> ((8 : Int32) &&& 31).toUInt32).toInt32) &&& (255 : Int32)).toUInt32.toUInt16.toUInt32.toInt32)), .val (.ref b6), .val (.int bs8), .val (.int nj), .val .null, .val .null, .unset] [])) rfl (hb hby at_229) (n := 32) (by decide +kernel) (by decide) (by decide) (by decide)
    have CR92 := CR90.trans CS92
    have Z92 : n0 ≤ h92.size := Nat.le_trans Z90 E92.1
    have K92 : Keep h0 h92 [] := (K90.ext E92)
    have f93 := (f91.ext E92)
    have nn_b6_92 := sne92 b6 (own_safeArv hZ92.alike f93 (by decide))
    obtain ⟨cq94, kq94, q94a, q94b, q94c⟩ := isOf hZ92 e92 gE92
    obtain ⟨_, _, ⟨T94, L94, kc94, ks94⟩, -, X94, ⟨Lc94, hQ94, l94, y94, z94⟩, st94⟩ := X92.virtualBack hx (y := mn5) (z := mn5) hown92 (mvT hZ92 (wd70 hw)) (mvT hZ92 (wd58 hw)) (notFace_of_selects (args := #[]) (mvT hZ92 (wd60 hw))) (mvT hZ92 (wd60 hw)) (mvT hZ92 (wd59 hw)) (by decide) (backOf (W := 0) (rmEn l Z a0 hw [] a92 h92 n0 Z92) hZ92 (wd61 hw) (wd7 hw) (by decide) (by decide)) q94a q94c (g := (mkF m 233 #[.val (.int x0), .val (.int x1), .val (.int x2), .val (.int x3), .val (.int wk), .val (.int ((((x2.toUInt32 >>> ((8 : Int32) &&& 31).toUInt32).toInt32) &&& (255 : Int32)).toUInt32.toUInt16.toUInt32.toInt32)), .val (.ref b6), .val (.int bs8), .val (.int nj), .val .null, .val .null, .unset] [.null, (.ref a92)])) rfl (by rw [hml]; rfl) (Steps.refl _) (argsL := [.null]) (rest := []) (lenOf pd__Ljava_lang_Object__Z rfl) rfl (by show 2 * 0 + _ ≤ _; exact Nat.le_of_eq rfl) (hb hby at_233) (fun _ _ => ⟨rfl, e92, (by decide : 10 + 0 ≤ _), (by decide : 71 + 0 ≤ _)⟩)
    dsimp only [Pt.U, Pt.locs, Pt.cells, Pt.slots] at X94 l94 y94 z94 st94 hQ94
    subst l94 y94 z94
    obtain ⟨rfl, Nq94, eq94⟩ := hQ94
    have N94 := Fr.app N90 Nq94
    obtain ⟨a95, T95, h95, kk95, t95, kb95, X95, e95, E95, hS95, hk95, hZ95, hown95, gE95, gC95, gV95, gK95, la95, lt95, CS95, LL95, sne95, st95⟩ := ldcCH (s := s) (vm0 := T92.vm) (EL := own_EL) X94 hx hZ92 hown92 (wd74 hw) wS eq94 hS92 hk92 hEL (by decide) CR92.1 (vs := [(.int (119 : Int32)), (.int (111 : Int32)), (.int (114 : Int32)), (.int (107 : Int32)), (.int (101 : Int32)), (.int (114 : Int32))]) (z := (6 : Int32)) ⟨by decide +kernel, by first | rfl | decide +kernel⟩ (by decide) (by decide) (g := (mkF m 247 #[.val (.int x0), .val (.int x1), .val (.int x2), .val (.int x3), .val (.int wk), .val (.int ((((x2.toUInt32 >>> ((8 : Int32) &&& 31).toUInt32).toInt32) &&& (255 : Int32)).toUInt32.toUInt16.toUInt32.toInt32)), .val (.ref b6), .val (.int bs8), .val (.int nj), .val .null, .val .null, .unset] [])) rfl (hb hby at_247) (n := 24) (by decide +kernel) (by decide) (by decide) (by decide)
    have CR95 := CR92.trans CS95
    have Z95 : n0 ≤ h95.size := Nat.le_trans Z92 E95.1
    have K95 : Keep h0 h95 [] := (K92.ext E95)
    have f96 := (f93.ext E95)
    have nn_b6_95 := sne95 b6 (own_safeArv hZ95.alike f96 (by decide))
    obtain ⟨cq97, kq97, q97a, q97b, q97c⟩ := isOf hZ95 e95 gE95
    obtain ⟨_, _, ⟨T97, L97, kc97, ks97⟩, -, X97, ⟨Lc97, hQ97, l97, y97, z97⟩, st97⟩ := X95.virtualBack hx (y := mn5) (z := mn5) hown95 (mvT hZ95 (wd70 hw)) (mvT hZ95 (wd58 hw)) (notFace_of_selects (args := #[]) (mvT hZ95 (wd60 hw))) (mvT hZ95 (wd60 hw)) (mvT hZ95 (wd59 hw)) (by decide) (backOf (W := 0) (rmEn l Z a0 hw [] a95 h95 n0 Z95) hZ95 (wd61 hw) (wd7 hw) (by decide) (by decide)) q97a q97c (g := (mkF m 251 #[.val (.int x0), .val (.int x1), .val (.int x2), .val (.int x3), .val (.int wk), .val (.int ((((x2.toUInt32 >>> ((8 : Int32) &&& 31).toUInt32).toInt32) &&& (255 : Int32)).toUInt32.toUInt16.toUInt32.toInt32)), .val (.ref b6), .val (.int bs8), .val (.int nj), .val .null, .val .null, .unset] [.null, (.ref a95)])) rfl (by rw [hml]; rfl) (Steps.refl _) (argsL := [.null]) (rest := []) (lenOf pd__Ljava_lang_Object__Z rfl) rfl (by show 2 * 0 + _ ≤ _; exact Nat.le_of_eq rfl) (hb hby at_251) (fun _ _ => ⟨rfl, e95, (by decide : 12 + 0 ≤ _), (by decide : 99 + 0 ≤ _)⟩)
    dsimp only [Pt.U, Pt.locs, Pt.cells, Pt.slots] at X97 l97 y97 z97 st97 hQ97
    subst l97 y97 z97
    obtain ⟨rfl, Nq97, eq97⟩ := hQ97
    have N97 := Fr.app N94 Nq97
    obtain ⟨lfs, lhr, lhrun, lhended, lhE⟩ := X97.leaveW hS95 (by rw [eq97]; exact hk95) (v := some (.int (1 : Int32))) (fun h => by rw [Bd.returns] at h; cases h)
    refine ⟨_, _, k87 _ ?_, lhrun, lhended, _, _, rfl, ?_, ?_, lhE.1, lhE.2.1, lhE.2.2.1, lhE.2.2.2.mono (by decide) (by decide)⟩
    · skip
      show Steps p.tables e below (T86.setTop (mkF m 216 #[.val (.int x0), .val (.int x1), .val (.int x2), .val (.int x3), .val (.int wk), .val (.int ((((x2.toUInt32 >>> ((8 : Int32) &&& 31).toUInt32).toInt32) &&& (255 : Int32)).toUInt32.toUInt16.toUInt32.toInt32)), .val (.ref b6), .val (.int bs8), .val (.int nj), .val (.ref o86), .unset, .unset] [(.int (24 : Int32)), (.int (x0 &&& (24 : Int32)))])) _
      refine XS.icmpNo X86.here hx rfl (hb hby at_216) rfl (teq hc88).2 ?_
      show Steps p.tables e below (T86.setTop (mkF m 219 #[.val (.int x0), .val (.int x1), .val (.int x2), .val (.int x3), .val (.int wk), .val (.int ((((x2.toUInt32 >>> ((8 : Int32) &&& 31).toUInt32).toInt32) &&& (255 : Int32)).toUInt32.toUInt16.toUInt32.toInt32)), .val (.ref b6), .val (.int bs8), .val (.int nj), .val (.ref o86), .unset, .unset] [])) _
      refine XS.aconstNull X86.here hx rfl (hb hby at_219) ?_
      show Steps p.tables e below (T86.setTop (mkF m 220 #[.val (.int x0), .val (.int x1), .val (.int x2), .val (.int x3), .val (.int wk), .val (.int ((((x2.toUInt32 >>> ((8 : Int32) &&& 31).toUInt32).toInt32) &&& (255 : Int32)).toUInt32.toUInt16.toUInt32.toInt32)), .val (.ref b6), .val (.int bs8), .val (.int nj), .val (.ref o86), .unset, .unset] [.null])) _
      refine XS.astore X86.here hx rfl (hb hby at_220) rfl rfl (l' := #[.val (.int x0), .val (.int x1), .val (.int x2), .val (.int x3), .val (.int wk), .val (.int ((((x2.toUInt32 >>> ((8 : Int32) &&& 31).toUInt32).toInt32) &&& (255 : Int32)).toUInt32.toUInt16.toUInt32.toInt32)), .val (.ref b6), .val (.int bs8), .val (.int nj), .val .null, .unset, .unset]) rfl ?_
      show Steps p.tables e below (T86.setTop (mkF m 222 #[.val (.int x0), .val (.int x1), .val (.int x2), .val (.int x3), .val (.int wk), .val (.int ((((x2.toUInt32 >>> ((8 : Int32) &&& 31).toUInt32).toInt32) &&& (255 : Int32)).toUInt32.toUInt16.toUInt32.toInt32)), .val (.ref b6), .val (.int bs8), .val (.int nj), .val .null, .unset, .unset] [])) _
      refine XS.aload X86.here hx rfl (hb hby at_222) rfl rfl ?_
      show Steps p.tables e below (T86.setTop (mkF m 224 #[.val (.int x0), .val (.int x1), .val (.int x2), .val (.int x3), .val (.int wk), .val (.int ((((x2.toUInt32 >>> ((8 : Int32) &&& 31).toUInt32).toInt32) &&& (255 : Int32)).toUInt32.toUInt16.toUInt32.toInt32)), .val (.ref b6), .val (.int bs8), .val (.int nj), .val .null, .unset, .unset] [.null])) _
      refine st90 _ ?_
      show Steps p.tables e below (T90.setTop (mkF m 227 #[.val (.int x0), .val (.int x1), .val (.int x2), .val (.int x3), .val (.int wk), .val (.int ((((x2.toUInt32 >>> ((8 : Int32) &&& 31).toUInt32).toInt32) &&& (255 : Int32)).toUInt32.toUInt16.toUInt32.toInt32)), .val (.ref b6), .val (.int bs8), .val (.int nj), .val .null, .unset, .unset] [.null])) _
      refine XS.astore X90.here hx rfl (hb hby at_227) rfl rfl (l' := #[.val (.int x0), .val (.int x1), .val (.int x2), .val (.int x3), .val (.int wk), .val (.int ((((x2.toUInt32 >>> ((8 : Int32) &&& 31).toUInt32).toInt32) &&& (255 : Int32)).toUInt32.toUInt16.toUInt32.toInt32)), .val (.ref b6), .val (.int bs8), .val (.int nj), .val .null, .val .null, .unset]) rfl ?_
      show Steps p.tables e below (T90.setTop (mkF m 229 #[.val (.int x0), .val (.int x1), .val (.int x2), .val (.int x3), .val (.int wk), .val (.int ((((x2.toUInt32 >>> ((8 : Int32) &&& 31).toUInt32).toInt32) &&& (255 : Int32)).toUInt32.toUInt16.toUInt32.toInt32)), .val (.ref b6), .val (.int bs8), .val (.int nj), .val .null, .val .null, .unset] [])) _
      refine st92 _ ?_
      show Steps p.tables e below (T92.setTop (mkF m 231 #[.val (.int x0), .val (.int x1), .val (.int x2), .val (.int x3), .val (.int wk), .val (.int ((((x2.toUInt32 >>> ((8 : Int32) &&& 31).toUInt32).toInt32) &&& (255 : Int32)).toUInt32.toUInt16.toUInt32.toInt32)), .val (.ref b6), .val (.int bs8), .val (.int nj), .val .null, .val .null, .unset] [(.ref a92)])) _
      refine XS.aload X92.here hx rfl (hb hby at_231) rfl rfl ?_
      show Steps p.tables e below (T92.setTop (mkF m 233 #[.val (.int x0), .val (.int x1), .val (.int x2), .val (.int x3), .val (.int wk), .val (.int ((((x2.toUInt32 >>> ((8 : Int32) &&& 31).toUInt32).toInt32) &&& (255 : Int32)).toUInt32.toUInt16.toUInt32.toInt32)), .val (.ref b6), .val (.int bs8), .val (.int nj), .val .null, .val .null, .unset] [.null, (.ref a92)])) _
      refine st94.trans ?_
      show Steps p.tables e below (T94.setTop (mkF m 236 #[.val (.int x0), .val (.int x1), .val (.int x2), .val (.int x3), .val (.int wk), .val (.int ((((x2.toUInt32 >>> ((8 : Int32) &&& 31).toUInt32).toInt32) &&& (255 : Int32)).toUInt32.toUInt16.toUInt32.toInt32)), .val (.ref b6), .val (.int bs8), .val (.int nj), .val .null, .val .null, .unset] [(.int (0 : Int32))])) _
      refine XS.ifYes X94.here hx rfl (pc0 := 236) (pc' := 247) rfl (hb hby at_236) rfl ((if0 _ _).trans (teq (by decide : (0 : Int32) = (0 : Int32))).1) (by decide) (by decide) ?_
      show Steps p.tables e below (T94.setTop (mkF m 247 #[.val (.int x0), .val (.int x1), .val (.int x2), .val (.int x3), .val (.int wk), .val (.int ((((x2.toUInt32 >>> ((8 : Int32) &&& 31).toUInt32).toInt32) &&& (255 : Int32)).toUInt32.toUInt16.toUInt32.toInt32)), .val (.ref b6), .val (.int bs8), .val (.int nj), .val .null, .val .null, .unset] [])) _
      refine st95 _ ?_
      show Steps p.tables e below (T95.setTop (mkF m 249 #[.val (.int x0), .val (.int x1), .val (.int x2), .val (.int x3), .val (.int wk), .val (.int ((((x2.toUInt32 >>> ((8 : Int32) &&& 31).toUInt32).toInt32) &&& (255 : Int32)).toUInt32.toUInt16.toUInt32.toInt32)), .val (.ref b6), .val (.int bs8), .val (.int nj), .val .null, .val .null, .unset] [(.ref a95)])) _
      refine XS.aload X95.here hx rfl (hb hby at_249) rfl rfl ?_
      show Steps p.tables e below (T95.setTop (mkF m 251 #[.val (.int x0), .val (.int x1), .val (.int x2), .val (.int x3), .val (.int wk), .val (.int ((((x2.toUInt32 >>> ((8 : Int32) &&& 31).toUInt32).toInt32) &&& (255 : Int32)).toUInt32.toUInt16.toUInt32.toInt32)), .val (.ref b6), .val (.int bs8), .val (.int nj), .val .null, .val .null, .unset] [.null, (.ref a95)])) _
      refine st97.trans ?_
      show Steps p.tables e below (T97.setTop (mkF m 254 #[.val (.int x0), .val (.int x1), .val (.int x2), .val (.int x3), .val (.int wk), .val (.int ((((x2.toUInt32 >>> ((8 : Int32) &&& 31).toUInt32).toInt32) &&& (255 : Int32)).toUInt32.toUInt16.toUInt32.toInt32)), .val (.ref b6), .val (.int bs8), .val (.int nj), .val .null, .val .null, .unset] [(.int (0 : Int32))])) _
      refine XS.ifYes X97.here hx rfl (pc0 := 254) (pc' := 265) rfl (hb hby at_254) rfl ((if0 _ _).trans (teq (by decide : (0 : Int32) = (0 : Int32))).1) (by decide) (by decide) ?_
      show Steps p.tables e below (T97.setTop (mkF m 265 #[.val (.int x0), .val (.int x1), .val (.int x2), .val (.int x3), .val (.int wk), .val (.int ((((x2.toUInt32 >>> ((8 : Int32) &&& 31).toUInt32).toInt32) &&& (255 : Int32)).toUInt32.toUInt16.toUInt32.toInt32)), .val (.ref b6), .val (.int bs8), .val (.int nj), .val .null, .val .null, .unset] [])) _
      refine XS.aconstNull X97.here hx rfl (hb hby at_265) ?_
      show Steps p.tables e below (T97.setTop (mkF m 266 #[.val (.int x0), .val (.int x1), .val (.int x2), .val (.int x3), .val (.int wk), .val (.int ((((x2.toUInt32 >>> ((8 : Int32) &&& 31).toUInt32).toInt32) &&& (255 : Int32)).toUInt32.toUInt16.toUInt32.toInt32)), .val (.ref b6), .val (.int bs8), .val (.int nj), .val .null, .val .null, .unset] [.null])) _
      refine XS.astore X97.here hx rfl (hb hby at_266) rfl rfl (l' := #[.val (.int x0), .val (.int x1), .val (.int x2), .val (.int x3), .val (.int wk), .val (.int ((((x2.toUInt32 >>> ((8 : Int32) &&& 31).toUInt32).toInt32) &&& (255 : Int32)).toUInt32.toUInt16.toUInt32.toInt32)), .val (.ref b6), .val (.int bs8), .val (.int nj), .val .null, .val .null, .val .null]) rfl ?_
      show Steps p.tables e below (T97.setTop (mkF m 268 #[.val (.int x0), .val (.int x1), .val (.int x2), .val (.int x3), .val (.int wk), .val (.int ((((x2.toUInt32 >>> ((8 : Int32) &&& 31).toUInt32).toInt32) &&& (255 : Int32)).toUInt32.toUInt16.toUInt32.toInt32)), .val (.ref b6), .val (.int bs8), .val (.int nj), .val .null, .val .null, .val .null] [])) _
      refine XS.aload X97.here hx rfl (hb hby at_268) rfl rfl ?_
      show Steps p.tables e below (T97.setTop (mkF m 270 #[.val (.int x0), .val (.int x1), .val (.int x2), .val (.int x3), .val (.int wk), .val (.int ((((x2.toUInt32 >>> ((8 : Int32) &&& 31).toUInt32).toInt32) &&& (255 : Int32)).toUInt32.toUInt16.toUInt32.toInt32)), .val (.ref b6), .val (.int bs8), .val (.int nj), .val .null, .val .null, .val .null] [.null])) _
      refine XS.aload X97.here hx rfl (hb hby at_270) rfl rfl ?_
      show Steps p.tables e below (T97.setTop (mkF m 272 #[.val (.int x0), .val (.int x1), .val (.int x2), .val (.int x3), .val (.int wk), .val (.int ((((x2.toUInt32 >>> ((8 : Int32) &&& 31).toUInt32).toInt32) &&& (255 : Int32)).toUInt32.toUInt16.toUInt32.toInt32)), .val (.ref b6), .val (.int bs8), .val (.int nj), .val .null, .val .null, .val .null] [.null, .null])) _
      refine Jvm.RoadKit.acmp (g := (mkF m 272 #[.val (.int x0), .val (.int x1), .val (.int x2), .val (.int x3), .val (.int wk), .val (.int ((((x2.toUInt32 >>> ((8 : Int32) &&& 31).toUInt32).toInt32) &&& (255 : Int32)).toUInt32.toUInt16.toUInt32.toInt32)), .val (.ref b6), .val (.int bs8), .val (.int nj), .val .null, .val .null, .val .null] [.null, .null])) X97 hx rfl rfl rfl (pc0 := 272) (pc' := 275) (same := true) rfl (hb hby at_272) rfl (decide_eq_true rfl) (by decide) (by decide) ?_
      show Steps p.tables e below (T97.setTop (mkF m 275 #[.val (.int x0), .val (.int x1), .val (.int x2), .val (.int x3), .val (.int wk), .val (.int ((((x2.toUInt32 >>> ((8 : Int32) &&& 31).toUInt32).toInt32) &&& (255 : Int32)).toUInt32.toUInt16.toUInt32.toInt32)), .val (.ref b6), .val (.int bs8), .val (.int nj), .val .null, .val .null, .val .null] [])) _
      refine XS.iconst X97.here hx rfl (hb hby at_275) ?_
      show Steps p.tables e below (T97.setTop (mkF m 276 #[.val (.int x0), .val (.int x1), .val (.int x2), .val (.int x3), .val (.int wk), .val (.int ((((x2.toUInt32 >>> ((8 : Int32) &&& 31).toUInt32).toInt32) &&& (255 : Int32)).toUInt32.toUInt16.toUInt32.toInt32)), .val (.ref b6), .val (.int bs8), .val (.int nj), .val .null, .val .null, .val .null] [(.int (1 : Int32))])) _
      refine XS.goto X97.here hx rfl (pc0 := 276) (pc' := 280) rfl (hb hby at_276) (by decide) (by decide) ?_
      show Steps p.tables e below (T97.setTop (mkF m 280 #[.val (.int x0), .val (.int x1), .val (.int x2), .val (.int x3), .val (.int wk), .val (.int ((((x2.toUInt32 >>> ((8 : Int32) &&& 31).toUInt32).toInt32) &&& (255 : Int32)).toUInt32.toUInt16.toUInt32.toInt32)), .val (.ref b6), .val (.int bs8), .val (.int nj), .val .null, .val .null, .val .null] [(.int (1 : Int32))])) _
      exact retN X97 hx (t := .boolean) Bd.returns (by simp) (hb hby at_280) lhr
    · skip
      show Q0 Z x0 x1 x2 x3 gP gW tP tW vP vW kP kW va kv G1 h0 n0 _ T97.heap _
      rw [eq97]
      exact ⟨rfl, N97⟩
    · skip
      show CHr Z own_EL s.vm s.heap T97.vm T97.heap
      rw [hh]
      rw [eq97]
      exact CR95.trans (CHv.at X97 hZ95 hEL CR95.1)
  · skip
    have k98 : ∀ t, Steps p.tables e below (T86.setTop (mkF m 224 #[.val (.int x0), .val (.int x1), .val (.int x2), .val (.int x3), .val (.int wk), .val (.int ((((x2.toUInt32 >>> ((8 : Int32) &&& 31).toUInt32).toInt32) &&& (255 : Int32)).toUInt32.toUInt16.toUInt32.toInt32)), .val (.ref b6), .val (.int bs8), .val (.int nj), .val (.ref o86), .unset, .unset] [(.ref o86)])) t → Steps p.tables e below (s₁.setTop (entryFrame m #[(.int x0), (.int x1), (.int x2), (.int x3)] maxLocals)) t := by
      intro t kt
      refine k87 t ?_
      show Steps p.tables e below (T86.setTop (mkF m 216 #[.val (.int x0), .val (.int x1), .val (.int x2), .val (.int x3), .val (.int wk), .val (.int ((((x2.toUInt32 >>> ((8 : Int32) &&& 31).toUInt32).toInt32) &&& (255 : Int32)).toUInt32.toUInt16.toUInt32.toInt32)), .val (.ref b6), .val (.int bs8), .val (.int nj), .val (.ref o86), .unset, .unset] [(.int (24 : Int32)), (.int (x0 &&& (24 : Int32)))])) _
      refine XS.icmpYes X86.here hx rfl (pc0 := 216) (pc' := 222) rfl (hb hby at_216) rfl (feq hc88).2 (by decide) (by decide) ?_
      show Steps p.tables e below (T86.setTop (mkF m 222 #[.val (.int x0), .val (.int x1), .val (.int x2), .val (.int x3), .val (.int wk), .val (.int ((((x2.toUInt32 >>> ((8 : Int32) &&& 31).toUInt32).toInt32) &&& (255 : Int32)).toUInt32.toUInt16.toUInt32.toInt32)), .val (.ref b6), .val (.int bs8), .val (.int nj), .val (.ref o86), .unset, .unset] [])) _
      refine XS.aload X86.here hx rfl (hb hby at_222) rfl rfl ?_
      exact kt
    rcases own_tri cs86 ([(112 : Int32), (114 : Int32), (111 : Int32), (100 : Int32), (117 : Int32), (99 : Int32), (101 : Int32), (114 : Int32)] : List Int32) ([(119 : Int32), (111 : Int32), (114 : Int32), (107 : Int32), (101 : Int32), (114 : Int32)] : List Int32) with hP | ⟨hP, hW⟩ | ⟨hP, hW⟩
    · skip
      have f99 := (f85.keep Kq86 all0)
      obtain ⟨_, _, ⟨T100, L100, kc100, ks100⟩, -, X100, ⟨Lc100, hQ100, l100, y100, z100⟩, st100⟩ := Jvm.LawKit.callS X86 hx (y := mn0) hown86 (mvT hZ86 (wd34 hw)) (mvT hZ86 (wd35 hw)) (mvT hZ86 (wd36 hw)) (mvT hZ86 (wd37 hw)) (by decide) (backOf (W := 0) (rmPs l Z a0 hw [] o86 cs86 t86 kb86 gP gW tP tW vP vW kP kW va kv G1 T86.heap n0 Z86 gE86 gC86 gV86 gK86 hb86 hl86 S_V V_V E_V F_gP E_tP Fv_tP Fc_tP V_vP F_gW E_tW Fv_tW Fc_tW V_vW O2 P5 f99) hZ86 (wd37 hw) (wd36 hw) (by decide) (by decide)) (g := (mkF m 224 #[.val (.int x0), .val (.int x1), .val (.int x2), .val (.int x3), .val (.int wk), .val (.int ((((x2.toUInt32 >>> ((8 : Int32) &&& 31).toUInt32).toInt32) &&& (255 : Int32)).toUInt32.toUInt16.toUInt32.toInt32)), .val (.ref b6), .val (.int bs8), .val (.int nj), .val (.ref o86), .unset, .unset] [(.ref o86)])) rfl (by rw [hml]; rfl) (argsL := [(.ref o86)]) (rest := []) (lenOf pd__Ljava_lang_String__Lcom_example_aloq_aloq_engine_TokenKind_ rfl) rfl (by show 2 * 0 + _ ≤ _; exact Nat.le_of_eq rfl) (hb hby at_224) (fun _ _ => ⟨rfl, rfl, (by decide : 7 + 1 ≤ _), (by decide : 33 + 2 ≤ _)⟩)
      dsimp only [Pt.U, Pt.locs, Pt.cells, Pt.slots] at X100 l100 y100 z100 st100 hQ100
      subst l100 y100 z100
      obtain ⟨w100, rfl, Nq100, Kq100, hcase100⟩ := hQ100
      have hv100 : w100 = (.ref gP) := hcase100.elim (fun q => q.2) (fun r => r.elim (fun q => absurd hP q.1) (fun q => absurd hP q.1))
      subst hv100
      have N100 := Fr.app N86 Nq100
      have CS100 := CHr.keep Kq100 all0 CR86.1
      have CR100 := CR86.trans CS100
      have hk100 : _ ≤ T100.heap.size := Nat.le_trans (Nat.le_refl T86.heap.size) Kq100.1
      have Z100 : n0 ≤ T100.heap.size := Nat.le_trans Z86 Kq100.1
      have K100 : Keep h0 T100.heap [] := Keep.trans K86 Kq100 all0
      have f101 := ((gj49_0.keep Kq86 nin0).keep Kq100 nin0)
      obtain ⟨a102, T102, h102, kk102, t102, kb102, X102, e102, E102, hS102, hk102, hZ102, hown102, gE102, gC102, gV102, gK102, la102, lt102, CS102, LL102, sne102, st102⟩ := ldcCH (s := s) (vm0 := T86.vm) (EL := own_EL) X100 hx hZ86 hown86 (wd67 hw) wS rfl hS86 hk100 hEL (by decide) CR100.1 (vs := [(.int (112 : Int32)), (.int (114 : Int32)), (.int (111 : Int32)), (.int (100 : Int32)), (.int (117 : Int32)), (.int (99 : Int32)), (.int (101 : Int32)), (.int (114 : Int32))]) (z := (8 : Int32)) ⟨by decide +kernel, by first | rfl | decide +kernel⟩ (by decide) (by decide) (g := (mkF m 229 #[.val (.int x0), .val (.int x1), .val (.int x2), .val (.int x3), .val (.int wk), .val (.int ((((x2.toUInt32 >>> ((8 : Int32) &&& 31).toUInt32).toInt32) &&& (255 : Int32)).toUInt32.toUInt16.toUInt32.toInt32)), .val (.ref b6), .val (.int bs8), .val (.int nj), .val (.ref o86), .val (.ref gP), .unset] [])) rfl (hb hby at_229) (n := 32) (by decide +kernel) (by decide) (by decide) (by decide)
      have CR102 := CR100.trans CS102
      have Z102 : n0 ≤ h102.size := Nat.le_trans Z100 E102.1
      have K102 : Keep h0 h102 [] := (K100.ext E102)
      have f103 := (f101.ext E102)
      have nn_b6_102 := sne102 b6 (own_safeArv hZ102.alike f103 (by decide))
      have hp104 : ∀ c ∈ ([(112 : Int32), (114 : Int32), (111 : Int32), (100 : Int32), (117 : Int32), (99 : Int32), (101 : Int32), (114 : Int32)] : List Int32), ¬ c < 0 ∧ ¬ (255 : Int32) < c := by
        intro c hc
        simp only [List.mem_cons, List.not_mem_nil, or_false] at hc
        rcases hc with rfl | rfl | rfl | rfl | rfl | rfl | rfl | rfl
        · exact (by decide)
        · exact (by decide)
        · exact (by decide)
        · exact (by decide)
        · exact (by decide)
        · exact (by decide)
        · exact (by decide)
        · exact (by decide)
      have hcd105 : StrChars.Road.CodA ([(112 : Int32), (114 : Int32), (111 : Int32), (100 : Int32), (117 : Int32), (99 : Int32), (101 : Int32), (114 : Int32)] : List Int32) 0 (8 : Int32) [(.int (112 : Int32)), (.int (114 : Int32)), (.int (111 : Int32)), (.int (100 : Int32)), (.int (117 : Int32)), (.int (99 : Int32)), (.int (101 : Int32)), (.int (114 : Int32))] := StrChars.Road.codOf (cs := ([(112 : Int32), (114 : Int32), (111 : Int32), (100 : Int32), (117 : Int32), (99 : Int32), (101 : Int32), (114 : Int32)] : List Int32)) (n := 8) rfl (fun c hc => (hp104 c hc).2)
      have hbd105 := own_up _ hp104
      have f106 := ((gE86.keep Kq100).ext E102)
      have f107 := ((gV86.keep Kq100 nin0).ext E102)
      have f108 := ((gC86.keep Kq100 nin0).ext E102)
      have f109 := ((gK86.keep Kq100 nin0).ext E102)
      have f110 := ((f99.keep Kq100 all0).ext E102)
      obtain ⟨cq111, kq111, q111a, q111b, q111c⟩ := isOf hZ102 e102 gE102
      obtain ⟨_, _, ⟨T111, L111, kc111, ks111⟩, -, X111, ⟨Lc111, hQ111, l111, y111, z111⟩, st111⟩ := X102.virtualBack hx (y := mn5) (z := mn5) hown102 (mvT hZ102 (wd70 hw)) (mvT hZ102 (wd58 hw)) (notFace_of_selects (args := #[]) (mvT hZ102 (wd60 hw))) (mvT hZ102 (wd60 hw)) (mvT hZ102 (wd59 hw)) (by decide) (StrChars.Road.eqW (W := 0) hZ102 (own_hwordsEq hw) (kI := 4) (wd6 hw) gE102 gV102 gC102 gK102 hcd105 hbd105 (Nat.le_of_ble_eq_true rfl) f106 f107 f108 f109 (StrChars.Road.codOf (cs := cs86) rfl (fun c hc => (hb86 c hc).2)) (own_up _ hb86) hl86 (O2.ext f110.2) P5 (by decide) (by decide)) q111a q111c (g := (mkF m 233 #[.val (.int x0), .val (.int x1), .val (.int x2), .val (.int x3), .val (.int wk), .val (.int ((((x2.toUInt32 >>> ((8 : Int32) &&& 31).toUInt32).toInt32) &&& (255 : Int32)).toUInt32.toUInt16.toUInt32.toInt32)), .val (.ref b6), .val (.int bs8), .val (.int nj), .val (.ref o86), .val (.ref gP), .unset] [(.ref o86), (.ref a102)])) rfl (by rw [hml]; rfl) (Steps.refl _) (argsL := [(.ref o86)]) (rest := []) (lenOf pd__Ljava_lang_Object__Z rfl) rfl (by show 2 * 0 + _ ≤ _; exact Nat.le_of_eq rfl) (hb hby at_233) (fun _ _ => ⟨rfl, e102, (by decide : 10 + 0 ≤ _), (by decide : 71 + 0 ≤ _)⟩)
      dsimp only [Pt.U, Pt.locs, Pt.cells, Pt.slots] at X111 l111 y111 z111 st111 hQ111
      subst l111 y111 z111
      obtain ⟨hcase111, rfl, eq111⟩ := hQ111
      have hv111 : _ = some (Value.int 1) := hcase111.elim (fun q => q.1) (fun q => absurd hP.symm q.2)
      subst hv111
      have Nq111 : Fr n0 ([] : List Loc) := Fr.nil n0
      have N111 := Fr.app N100 Nq111
      obtain ⟨T112, X112, e112, st112⟩ := getS2 X111 hx hZ102 hown102 (host := "") (Or.inl (wd71 hw)) Via.refl eq111 (S_P.ext f110.2) (g := (mkF m 239 #[.val (.int x0), .val (.int x1), .val (.int x2), .val (.int x3), .val (.int wk), .val (.int ((((x2.toUInt32 >>> ((8 : Int32) &&& 31).toUInt32).toInt32) &&& (255 : Int32)).toUInt32.toUInt16.toUInt32.toInt32)), .val (.ref b6), .val (.int bs8), .val (.int nj), .val (.ref o86), .val (.ref gP), .unset] [])) rfl (hb hby at_239)
      obtain ⟨lfs, lhr, lhrun, lhended, lhE⟩ := X112.leaveW hS102 (by rw [e112]; exact hk102) (v := some (.int (1 : Int32))) (fun h => by rw [Bd.returns] at h; cases h)
      refine ⟨_, _, k98 _ ?_, lhrun, lhended, _, _, rfl, ?_, ?_, lhE.1, lhE.2.1, lhE.2.2.1, lhE.2.2.2.mono (by decide) (by decide)⟩
      · skip
        show Steps p.tables e below (T86.setTop (mkF m 224 #[.val (.int x0), .val (.int x1), .val (.int x2), .val (.int x3), .val (.int wk), .val (.int ((((x2.toUInt32 >>> ((8 : Int32) &&& 31).toUInt32).toInt32) &&& (255 : Int32)).toUInt32.toUInt16.toUInt32.toInt32)), .val (.ref b6), .val (.int bs8), .val (.int nj), .val (.ref o86), .unset, .unset] [(.ref o86)])) _
        refine st100 _ ?_
        show Steps p.tables e below (T100.setTop (mkF m 227 #[.val (.int x0), .val (.int x1), .val (.int x2), .val (.int x3), .val (.int wk), .val (.int ((((x2.toUInt32 >>> ((8 : Int32) &&& 31).toUInt32).toInt32) &&& (255 : Int32)).toUInt32.toUInt16.toUInt32.toInt32)), .val (.ref b6), .val (.int bs8), .val (.int nj), .val (.ref o86), .unset, .unset] [(.ref gP)])) _
        refine XS.astore X100.here hx rfl (hb hby at_227) rfl rfl (l' := #[.val (.int x0), .val (.int x1), .val (.int x2), .val (.int x3), .val (.int wk), .val (.int ((((x2.toUInt32 >>> ((8 : Int32) &&& 31).toUInt32).toInt32) &&& (255 : Int32)).toUInt32.toUInt16.toUInt32.toInt32)), .val (.ref b6), .val (.int bs8), .val (.int nj), .val (.ref o86), .val (.ref gP), .unset]) rfl ?_
        show Steps p.tables e below (T100.setTop (mkF m 229 #[.val (.int x0), .val (.int x1), .val (.int x2), .val (.int x3), .val (.int wk), .val (.int ((((x2.toUInt32 >>> ((8 : Int32) &&& 31).toUInt32).toInt32) &&& (255 : Int32)).toUInt32.toUInt16.toUInt32.toInt32)), .val (.ref b6), .val (.int bs8), .val (.int nj), .val (.ref o86), .val (.ref gP), .unset] [])) _
        refine st102 _ ?_
        show Steps p.tables e below (T102.setTop (mkF m 231 #[.val (.int x0), .val (.int x1), .val (.int x2), .val (.int x3), .val (.int wk), .val (.int ((((x2.toUInt32 >>> ((8 : Int32) &&& 31).toUInt32).toInt32) &&& (255 : Int32)).toUInt32.toUInt16.toUInt32.toInt32)), .val (.ref b6), .val (.int bs8), .val (.int nj), .val (.ref o86), .val (.ref gP), .unset] [(.ref a102)])) _
        refine XS.aload X102.here hx rfl (hb hby at_231) rfl rfl ?_
        show Steps p.tables e below (T102.setTop (mkF m 233 #[.val (.int x0), .val (.int x1), .val (.int x2), .val (.int x3), .val (.int wk), .val (.int ((((x2.toUInt32 >>> ((8 : Int32) &&& 31).toUInt32).toInt32) &&& (255 : Int32)).toUInt32.toUInt16.toUInt32.toInt32)), .val (.ref b6), .val (.int bs8), .val (.int nj), .val (.ref o86), .val (.ref gP), .unset] [(.ref o86), (.ref a102)])) _
        refine st111.trans ?_
        show Steps p.tables e below (T111.setTop (mkF m 236 #[.val (.int x0), .val (.int x1), .val (.int x2), .val (.int x3), .val (.int wk), .val (.int ((((x2.toUInt32 >>> ((8 : Int32) &&& 31).toUInt32).toInt32) &&& (255 : Int32)).toUInt32.toUInt16.toUInt32.toInt32)), .val (.ref b6), .val (.int bs8), .val (.int nj), .val (.ref o86), .val (.ref gP), .unset] [(.int (1 : Int32))])) _
        refine XS.ifNo X111.here hx rfl (hb hby at_236) rfl ((if0 _ _).trans (feq (by decide : ¬ ((1 : Int32) = (0 : Int32)))).1) ?_
        show Steps p.tables e below (T111.setTop (mkF m 239 #[.val (.int x0), .val (.int x1), .val (.int x2), .val (.int x3), .val (.int wk), .val (.int ((((x2.toUInt32 >>> ((8 : Int32) &&& 31).toUInt32).toInt32) &&& (255 : Int32)).toUInt32.toUInt16.toUInt32.toInt32)), .val (.ref b6), .val (.int bs8), .val (.int nj), .val (.ref o86), .val (.ref gP), .unset] [])) _
        refine st112 _ ?_
        show Steps p.tables e below (T112.setTop (mkF m 242 #[.val (.int x0), .val (.int x1), .val (.int x2), .val (.int x3), .val (.int wk), .val (.int ((((x2.toUInt32 >>> ((8 : Int32) &&& 31).toUInt32).toInt32) &&& (255 : Int32)).toUInt32.toUInt16.toUInt32.toInt32)), .val (.ref b6), .val (.int bs8), .val (.int nj), .val (.ref o86), .val (.ref gP), .unset] [(.ref gP)])) _
        refine XS.astore X112.here hx rfl (hb hby at_242) rfl rfl (l' := #[.val (.int x0), .val (.int x1), .val (.int x2), .val (.int x3), .val (.int wk), .val (.int ((((x2.toUInt32 >>> ((8 : Int32) &&& 31).toUInt32).toInt32) &&& (255 : Int32)).toUInt32.toUInt16.toUInt32.toInt32)), .val (.ref b6), .val (.int bs8), .val (.int nj), .val (.ref o86), .val (.ref gP), .val (.ref gP)]) rfl ?_
        show Steps p.tables e below (T112.setTop (mkF m 244 #[.val (.int x0), .val (.int x1), .val (.int x2), .val (.int x3), .val (.int wk), .val (.int ((((x2.toUInt32 >>> ((8 : Int32) &&& 31).toUInt32).toInt32) &&& (255 : Int32)).toUInt32.toUInt16.toUInt32.toInt32)), .val (.ref b6), .val (.int bs8), .val (.int nj), .val (.ref o86), .val (.ref gP), .val (.ref gP)] [])) _
        refine XS.goto X112.here hx rfl (pc0 := 244) (pc' := 268) rfl (hb hby at_244) (by decide) (by decide) ?_
        show Steps p.tables e below (T112.setTop (mkF m 268 #[.val (.int x0), .val (.int x1), .val (.int x2), .val (.int x3), .val (.int wk), .val (.int ((((x2.toUInt32 >>> ((8 : Int32) &&& 31).toUInt32).toInt32) &&& (255 : Int32)).toUInt32.toUInt16.toUInt32.toInt32)), .val (.ref b6), .val (.int bs8), .val (.int nj), .val (.ref o86), .val (.ref gP), .val (.ref gP)] [])) _
        refine XS.aload X112.here hx rfl (hb hby at_268) rfl rfl ?_
        show Steps p.tables e below (T112.setTop (mkF m 270 #[.val (.int x0), .val (.int x1), .val (.int x2), .val (.int x3), .val (.int wk), .val (.int ((((x2.toUInt32 >>> ((8 : Int32) &&& 31).toUInt32).toInt32) &&& (255 : Int32)).toUInt32.toUInt16.toUInt32.toInt32)), .val (.ref b6), .val (.int bs8), .val (.int nj), .val (.ref o86), .val (.ref gP), .val (.ref gP)] [(.ref gP)])) _
        refine XS.aload X112.here hx rfl (hb hby at_270) rfl rfl ?_
        show Steps p.tables e below (T112.setTop (mkF m 272 #[.val (.int x0), .val (.int x1), .val (.int x2), .val (.int x3), .val (.int wk), .val (.int ((((x2.toUInt32 >>> ((8 : Int32) &&& 31).toUInt32).toInt32) &&& (255 : Int32)).toUInt32.toUInt16.toUInt32.toInt32)), .val (.ref b6), .val (.int bs8), .val (.int nj), .val (.ref o86), .val (.ref gP), .val (.ref gP)] [(.ref gP), (.ref gP)])) _
        refine Jvm.RoadKit.acmp (g := (mkF m 272 #[.val (.int x0), .val (.int x1), .val (.int x2), .val (.int x3), .val (.int wk), .val (.int ((((x2.toUInt32 >>> ((8 : Int32) &&& 31).toUInt32).toInt32) &&& (255 : Int32)).toUInt32.toUInt16.toUInt32.toInt32)), .val (.ref b6), .val (.int bs8), .val (.int nj), .val (.ref o86), .val (.ref gP), .val (.ref gP)] [(.ref gP), (.ref gP)])) X112 hx rfl rfl rfl (pc0 := 272) (pc' := 275) (same := true) rfl (hb hby at_272) rfl (decide_eq_true rfl) (by decide) (by decide) ?_
        show Steps p.tables e below (T112.setTop (mkF m 275 #[.val (.int x0), .val (.int x1), .val (.int x2), .val (.int x3), .val (.int wk), .val (.int ((((x2.toUInt32 >>> ((8 : Int32) &&& 31).toUInt32).toInt32) &&& (255 : Int32)).toUInt32.toUInt16.toUInt32.toInt32)), .val (.ref b6), .val (.int bs8), .val (.int nj), .val (.ref o86), .val (.ref gP), .val (.ref gP)] [])) _
        refine XS.iconst X112.here hx rfl (hb hby at_275) ?_
        show Steps p.tables e below (T112.setTop (mkF m 276 #[.val (.int x0), .val (.int x1), .val (.int x2), .val (.int x3), .val (.int wk), .val (.int ((((x2.toUInt32 >>> ((8 : Int32) &&& 31).toUInt32).toInt32) &&& (255 : Int32)).toUInt32.toUInt16.toUInt32.toInt32)), .val (.ref b6), .val (.int bs8), .val (.int nj), .val (.ref o86), .val (.ref gP), .val (.ref gP)] [(.int (1 : Int32))])) _
        refine XS.goto X112.here hx rfl (pc0 := 276) (pc' := 280) rfl (hb hby at_276) (by decide) (by decide) ?_
        show Steps p.tables e below (T112.setTop (mkF m 280 #[.val (.int x0), .val (.int x1), .val (.int x2), .val (.int x3), .val (.int wk), .val (.int ((((x2.toUInt32 >>> ((8 : Int32) &&& 31).toUInt32).toInt32) &&& (255 : Int32)).toUInt32.toUInt16.toUInt32.toInt32)), .val (.ref b6), .val (.int bs8), .val (.int nj), .val (.ref o86), .val (.ref gP), .val (.ref gP)] [(.int (1 : Int32))])) _
        exact retN X112 hx (t := .boolean) Bd.returns (by simp) (hb hby at_280) lhr
      · skip
        show Q0 Z x0 x1 x2 x3 gP gW tP tW vP vW kP kW va kv G1 h0 n0 _ T112.heap _
        rw [e112]
        exact ⟨rfl, N111⟩
      · skip
        show CHr Z own_EL s.vm s.heap T112.vm T112.heap
        rw [hh]
        rw [e112]
        exact CR102.trans (CHv.at X112 hZ102 hEL CR102.1)
    · skip
      have f113 := (f85.keep Kq86 all0)
      obtain ⟨_, _, ⟨T114, L114, kc114, ks114⟩, -, X114, ⟨Lc114, hQ114, l114, y114, z114⟩, st114⟩ := Jvm.LawKit.callS X86 hx (y := mn0) hown86 (mvT hZ86 (wd34 hw)) (mvT hZ86 (wd35 hw)) (mvT hZ86 (wd36 hw)) (mvT hZ86 (wd37 hw)) (by decide) (backOf (W := 0) (rmPs l Z a0 hw [] o86 cs86 t86 kb86 gP gW tP tW vP vW kP kW va kv G1 T86.heap n0 Z86 gE86 gC86 gV86 gK86 hb86 hl86 S_V V_V E_V F_gP E_tP Fv_tP Fc_tP V_vP F_gW E_tW Fv_tW Fc_tW V_vW O2 P5 f113) hZ86 (wd37 hw) (wd36 hw) (by decide) (by decide)) (g := (mkF m 224 #[.val (.int x0), .val (.int x1), .val (.int x2), .val (.int x3), .val (.int wk), .val (.int ((((x2.toUInt32 >>> ((8 : Int32) &&& 31).toUInt32).toInt32) &&& (255 : Int32)).toUInt32.toUInt16.toUInt32.toInt32)), .val (.ref b6), .val (.int bs8), .val (.int nj), .val (.ref o86), .unset, .unset] [(.ref o86)])) rfl (by rw [hml]; rfl) (argsL := [(.ref o86)]) (rest := []) (lenOf pd__Ljava_lang_String__Lcom_example_aloq_aloq_engine_TokenKind_ rfl) rfl (by show 2 * 0 + _ ≤ _; exact Nat.le_of_eq rfl) (hb hby at_224) (fun _ _ => ⟨rfl, rfl, (by decide : 7 + 1 ≤ _), (by decide : 33 + 2 ≤ _)⟩)
      dsimp only [Pt.U, Pt.locs, Pt.cells, Pt.slots] at X114 l114 y114 z114 st114 hQ114
      subst l114 y114 z114
      obtain ⟨w114, rfl, Nq114, Kq114, hcase114⟩ := hQ114
      have hv114 : w114 = (.ref gW) := hcase114.elim (fun q => absurd q.1 hP) (fun r => r.elim (fun q => q.2.2) (fun q => absurd hW q.2.1))
      subst hv114
      have N114 := Fr.app N86 Nq114
      have CS114 := CHr.keep Kq114 all0 CR86.1
      have CR114 := CR86.trans CS114
      have hk114 : _ ≤ T114.heap.size := Nat.le_trans (Nat.le_refl T86.heap.size) Kq114.1
      have Z114 : n0 ≤ T114.heap.size := Nat.le_trans Z86 Kq114.1
      have K114 : Keep h0 T114.heap [] := Keep.trans K86 Kq114 all0
      have f115 := ((gj49_0.keep Kq86 nin0).keep Kq114 nin0)
      obtain ⟨a116, T116, h116, kk116, t116, kb116, X116, e116, E116, hS116, hk116, hZ116, hown116, gE116, gC116, gV116, gK116, la116, lt116, CS116, LL116, sne116, st116⟩ := ldcCH (s := s) (vm0 := T86.vm) (EL := own_EL) X114 hx hZ86 hown86 (wd67 hw) wS rfl hS86 hk114 hEL (by decide) CR114.1 (vs := [(.int (112 : Int32)), (.int (114 : Int32)), (.int (111 : Int32)), (.int (100 : Int32)), (.int (117 : Int32)), (.int (99 : Int32)), (.int (101 : Int32)), (.int (114 : Int32))]) (z := (8 : Int32)) ⟨by decide +kernel, by first | rfl | decide +kernel⟩ (by decide) (by decide) (g := (mkF m 229 #[.val (.int x0), .val (.int x1), .val (.int x2), .val (.int x3), .val (.int wk), .val (.int ((((x2.toUInt32 >>> ((8 : Int32) &&& 31).toUInt32).toInt32) &&& (255 : Int32)).toUInt32.toUInt16.toUInt32.toInt32)), .val (.ref b6), .val (.int bs8), .val (.int nj), .val (.ref o86), .val (.ref gW), .unset] [])) rfl (hb hby at_229) (n := 32) (by decide +kernel) (by decide) (by decide) (by decide)
      have CR116 := CR114.trans CS116
      have Z116 : n0 ≤ h116.size := Nat.le_trans Z114 E116.1
      have K116 : Keep h0 h116 [] := (K114.ext E116)
      have f117 := (f115.ext E116)
      have nn_b6_116 := sne116 b6 (own_safeArv hZ116.alike f117 (by decide))
      have hp118 : ∀ c ∈ ([(112 : Int32), (114 : Int32), (111 : Int32), (100 : Int32), (117 : Int32), (99 : Int32), (101 : Int32), (114 : Int32)] : List Int32), ¬ c < 0 ∧ ¬ (255 : Int32) < c := by
        intro c hc
        simp only [List.mem_cons, List.not_mem_nil, or_false] at hc
        rcases hc with rfl | rfl | rfl | rfl | rfl | rfl | rfl | rfl
        · exact (by decide)
        · exact (by decide)
        · exact (by decide)
        · exact (by decide)
        · exact (by decide)
        · exact (by decide)
        · exact (by decide)
        · exact (by decide)
      have hcd119 : StrChars.Road.CodA ([(112 : Int32), (114 : Int32), (111 : Int32), (100 : Int32), (117 : Int32), (99 : Int32), (101 : Int32), (114 : Int32)] : List Int32) 0 (8 : Int32) [(.int (112 : Int32)), (.int (114 : Int32)), (.int (111 : Int32)), (.int (100 : Int32)), (.int (117 : Int32)), (.int (99 : Int32)), (.int (101 : Int32)), (.int (114 : Int32))] := StrChars.Road.codOf (cs := ([(112 : Int32), (114 : Int32), (111 : Int32), (100 : Int32), (117 : Int32), (99 : Int32), (101 : Int32), (114 : Int32)] : List Int32)) (n := 8) rfl (fun c hc => (hp118 c hc).2)
      have hbd119 := own_up _ hp118
      have f120 := ((gE86.keep Kq114).ext E116)
      have f121 := ((gV86.keep Kq114 nin0).ext E116)
      have f122 := ((gC86.keep Kq114 nin0).ext E116)
      have f123 := ((gK86.keep Kq114 nin0).ext E116)
      have f124 := ((f113.keep Kq114 all0).ext E116)
      obtain ⟨cq125, kq125, q125a, q125b, q125c⟩ := isOf hZ116 e116 gE116
      obtain ⟨_, _, ⟨T125, L125, kc125, ks125⟩, -, X125, ⟨Lc125, hQ125, l125, y125, z125⟩, st125⟩ := X116.virtualBack hx (y := mn5) (z := mn5) hown116 (mvT hZ116 (wd70 hw)) (mvT hZ116 (wd58 hw)) (notFace_of_selects (args := #[]) (mvT hZ116 (wd60 hw))) (mvT hZ116 (wd60 hw)) (mvT hZ116 (wd59 hw)) (by decide) (StrChars.Road.eqW (W := 0) hZ116 (own_hwordsEq hw) (kI := 4) (wd6 hw) gE116 gV116 gC116 gK116 hcd119 hbd119 (Nat.le_of_ble_eq_true rfl) f120 f121 f122 f123 (StrChars.Road.codOf (cs := cs86) rfl (fun c hc => (hb86 c hc).2)) (own_up _ hb86) hl86 (O2.ext f124.2) P5 (by decide) (by decide)) q125a q125c (g := (mkF m 233 #[.val (.int x0), .val (.int x1), .val (.int x2), .val (.int x3), .val (.int wk), .val (.int ((((x2.toUInt32 >>> ((8 : Int32) &&& 31).toUInt32).toInt32) &&& (255 : Int32)).toUInt32.toUInt16.toUInt32.toInt32)), .val (.ref b6), .val (.int bs8), .val (.int nj), .val (.ref o86), .val (.ref gW), .unset] [(.ref o86), (.ref a116)])) rfl (by rw [hml]; rfl) (Steps.refl _) (argsL := [(.ref o86)]) (rest := []) (lenOf pd__Ljava_lang_Object__Z rfl) rfl (by show 2 * 0 + _ ≤ _; exact Nat.le_of_eq rfl) (hb hby at_233) (fun _ _ => ⟨rfl, e116, (by decide : 10 + 0 ≤ _), (by decide : 71 + 0 ≤ _)⟩)
      dsimp only [Pt.U, Pt.locs, Pt.cells, Pt.slots] at X125 l125 y125 z125 st125 hQ125
      subst l125 y125 z125
      obtain ⟨hcase125, rfl, eq125⟩ := hQ125
      have hv125 : _ = some (Value.int 0) := hcase125.elim (fun q => absurd q.2.symm hP) (fun q => q.1)
      subst hv125
      have Nq125 : Fr n0 ([] : List Loc) := Fr.nil n0
      have N125 := Fr.app N114 Nq125
      obtain ⟨a126, T126, h126, kk126, t126, kb126, X126, e126, E126, hS126, hk126, hZ126, hown126, gE126, gC126, gV126, gK126, la126, lt126, CS126, LL126, sne126, st126⟩ := ldcCH (s := s) (vm0 := T116.vm) (EL := own_EL) X125 hx hZ116 hown116 (wd74 hw) wS eq125 hS116 hk116 hEL (by decide) CR116.1 (vs := [(.int (119 : Int32)), (.int (111 : Int32)), (.int (114 : Int32)), (.int (107 : Int32)), (.int (101 : Int32)), (.int (114 : Int32))]) (z := (6 : Int32)) ⟨by decide +kernel, by first | rfl | decide +kernel⟩ (by decide) (by decide) (g := (mkF m 247 #[.val (.int x0), .val (.int x1), .val (.int x2), .val (.int x3), .val (.int wk), .val (.int ((((x2.toUInt32 >>> ((8 : Int32) &&& 31).toUInt32).toInt32) &&& (255 : Int32)).toUInt32.toUInt16.toUInt32.toInt32)), .val (.ref b6), .val (.int bs8), .val (.int nj), .val (.ref o86), .val (.ref gW), .unset] [])) rfl (hb hby at_247) (n := 24) (by decide +kernel) (by decide) (by decide) (by decide)
      have CR126 := CR116.trans CS126
      have Z126 : n0 ≤ h126.size := Nat.le_trans Z116 E126.1
      have K126 : Keep h0 h126 [] := (K116.ext E126)
      have f127 := (f117.ext E126)
      have nn_b6_126 := sne126 b6 (own_safeArv hZ126.alike f127 (by decide))
      have hp128 : ∀ c ∈ ([(119 : Int32), (111 : Int32), (114 : Int32), (107 : Int32), (101 : Int32), (114 : Int32)] : List Int32), ¬ c < 0 ∧ ¬ (255 : Int32) < c := by
        intro c hc
        simp only [List.mem_cons, List.not_mem_nil, or_false] at hc
        rcases hc with rfl | rfl | rfl | rfl | rfl | rfl
        · exact (by decide)
        · exact (by decide)
        · exact (by decide)
        · exact (by decide)
        · exact (by decide)
        · exact (by decide)
      have hcd129 : StrChars.Road.CodA ([(119 : Int32), (111 : Int32), (114 : Int32), (107 : Int32), (101 : Int32), (114 : Int32)] : List Int32) 0 (6 : Int32) [(.int (119 : Int32)), (.int (111 : Int32)), (.int (114 : Int32)), (.int (107 : Int32)), (.int (101 : Int32)), (.int (114 : Int32))] := StrChars.Road.codOf (cs := ([(119 : Int32), (111 : Int32), (114 : Int32), (107 : Int32), (101 : Int32), (114 : Int32)] : List Int32)) (n := 6) rfl (fun c hc => (hp128 c hc).2)
      have hbd129 := own_up _ hp128
      have f130 := (f120.ext E126)
      have f131 := (f121.ext E126)
      have f132 := (f122.ext E126)
      have f133 := (f123.ext E126)
      have f134 := (f124.ext E126)
      obtain ⟨cq135, kq135, q135a, q135b, q135c⟩ := isOf hZ126 e126 gE126
      obtain ⟨_, _, ⟨T135, L135, kc135, ks135⟩, -, X135, ⟨Lc135, hQ135, l135, y135, z135⟩, st135⟩ := X126.virtualBack hx (y := mn5) (z := mn5) hown126 (mvT hZ126 (wd70 hw)) (mvT hZ126 (wd58 hw)) (notFace_of_selects (args := #[]) (mvT hZ126 (wd60 hw))) (mvT hZ126 (wd60 hw)) (mvT hZ126 (wd59 hw)) (by decide) (StrChars.Road.eqW (W := 0) hZ126 (own_hwordsEq hw) (kI := 4) (wd6 hw) gE126 gV126 gC126 gK126 hcd129 hbd129 (Nat.le_of_ble_eq_true rfl) f130 f131 f132 f133 (StrChars.Road.codOf (cs := cs86) rfl (fun c hc => (hb86 c hc).2)) (own_up _ hb86) hl86 (O2.ext f134.2) P5 (by decide) (by decide)) q135a q135c (g := (mkF m 251 #[.val (.int x0), .val (.int x1), .val (.int x2), .val (.int x3), .val (.int wk), .val (.int ((((x2.toUInt32 >>> ((8 : Int32) &&& 31).toUInt32).toInt32) &&& (255 : Int32)).toUInt32.toUInt16.toUInt32.toInt32)), .val (.ref b6), .val (.int bs8), .val (.int nj), .val (.ref o86), .val (.ref gW), .unset] [(.ref o86), (.ref a126)])) rfl (by rw [hml]; rfl) (Steps.refl _) (argsL := [(.ref o86)]) (rest := []) (lenOf pd__Ljava_lang_Object__Z rfl) rfl (by show 2 * 0 + _ ≤ _; exact Nat.le_of_eq rfl) (hb hby at_251) (fun _ _ => ⟨rfl, e126, (by decide : 12 + 0 ≤ _), (by decide : 99 + 0 ≤ _)⟩)
      dsimp only [Pt.U, Pt.locs, Pt.cells, Pt.slots] at X135 l135 y135 z135 st135 hQ135
      subst l135 y135 z135
      obtain ⟨hcase135, rfl, eq135⟩ := hQ135
      have hv135 : _ = some (Value.int 1) := hcase135.elim (fun q => q.1) (fun q => absurd hW.symm q.2)
      subst hv135
      have Nq135 : Fr n0 ([] : List Loc) := Fr.nil n0
      have N135 := Fr.app N125 Nq135
      obtain ⟨T136, X136, e136, st136⟩ := getS2 X135 hx hZ126 hown126 (host := "") (Or.inl (wd75 hw)) Via.refl eq135 (S_W.ext f134.2) (g := (mkF m 257 #[.val (.int x0), .val (.int x1), .val (.int x2), .val (.int x3), .val (.int wk), .val (.int ((((x2.toUInt32 >>> ((8 : Int32) &&& 31).toUInt32).toInt32) &&& (255 : Int32)).toUInt32.toUInt16.toUInt32.toInt32)), .val (.ref b6), .val (.int bs8), .val (.int nj), .val (.ref o86), .val (.ref gW), .unset] [])) rfl (hb hby at_257)
      obtain ⟨lfs, lhr, lhrun, lhended, lhE⟩ := X136.leaveW hS126 (by rw [e136]; exact hk126) (v := some (.int (1 : Int32))) (fun h => by rw [Bd.returns] at h; cases h)
      refine ⟨_, _, k98 _ ?_, lhrun, lhended, _, _, rfl, ?_, ?_, lhE.1, lhE.2.1, lhE.2.2.1, lhE.2.2.2.mono (by decide) (by decide)⟩
      · skip
        show Steps p.tables e below (T86.setTop (mkF m 224 #[.val (.int x0), .val (.int x1), .val (.int x2), .val (.int x3), .val (.int wk), .val (.int ((((x2.toUInt32 >>> ((8 : Int32) &&& 31).toUInt32).toInt32) &&& (255 : Int32)).toUInt32.toUInt16.toUInt32.toInt32)), .val (.ref b6), .val (.int bs8), .val (.int nj), .val (.ref o86), .unset, .unset] [(.ref o86)])) _
        refine st114 _ ?_
        show Steps p.tables e below (T114.setTop (mkF m 227 #[.val (.int x0), .val (.int x1), .val (.int x2), .val (.int x3), .val (.int wk), .val (.int ((((x2.toUInt32 >>> ((8 : Int32) &&& 31).toUInt32).toInt32) &&& (255 : Int32)).toUInt32.toUInt16.toUInt32.toInt32)), .val (.ref b6), .val (.int bs8), .val (.int nj), .val (.ref o86), .unset, .unset] [(.ref gW)])) _
        refine XS.astore X114.here hx rfl (hb hby at_227) rfl rfl (l' := #[.val (.int x0), .val (.int x1), .val (.int x2), .val (.int x3), .val (.int wk), .val (.int ((((x2.toUInt32 >>> ((8 : Int32) &&& 31).toUInt32).toInt32) &&& (255 : Int32)).toUInt32.toUInt16.toUInt32.toInt32)), .val (.ref b6), .val (.int bs8), .val (.int nj), .val (.ref o86), .val (.ref gW), .unset]) rfl ?_
        show Steps p.tables e below (T114.setTop (mkF m 229 #[.val (.int x0), .val (.int x1), .val (.int x2), .val (.int x3), .val (.int wk), .val (.int ((((x2.toUInt32 >>> ((8 : Int32) &&& 31).toUInt32).toInt32) &&& (255 : Int32)).toUInt32.toUInt16.toUInt32.toInt32)), .val (.ref b6), .val (.int bs8), .val (.int nj), .val (.ref o86), .val (.ref gW), .unset] [])) _
        refine st116 _ ?_
        show Steps p.tables e below (T116.setTop (mkF m 231 #[.val (.int x0), .val (.int x1), .val (.int x2), .val (.int x3), .val (.int wk), .val (.int ((((x2.toUInt32 >>> ((8 : Int32) &&& 31).toUInt32).toInt32) &&& (255 : Int32)).toUInt32.toUInt16.toUInt32.toInt32)), .val (.ref b6), .val (.int bs8), .val (.int nj), .val (.ref o86), .val (.ref gW), .unset] [(.ref a116)])) _
        refine XS.aload X116.here hx rfl (hb hby at_231) rfl rfl ?_
        show Steps p.tables e below (T116.setTop (mkF m 233 #[.val (.int x0), .val (.int x1), .val (.int x2), .val (.int x3), .val (.int wk), .val (.int ((((x2.toUInt32 >>> ((8 : Int32) &&& 31).toUInt32).toInt32) &&& (255 : Int32)).toUInt32.toUInt16.toUInt32.toInt32)), .val (.ref b6), .val (.int bs8), .val (.int nj), .val (.ref o86), .val (.ref gW), .unset] [(.ref o86), (.ref a116)])) _
        refine st125.trans ?_
        show Steps p.tables e below (T125.setTop (mkF m 236 #[.val (.int x0), .val (.int x1), .val (.int x2), .val (.int x3), .val (.int wk), .val (.int ((((x2.toUInt32 >>> ((8 : Int32) &&& 31).toUInt32).toInt32) &&& (255 : Int32)).toUInt32.toUInt16.toUInt32.toInt32)), .val (.ref b6), .val (.int bs8), .val (.int nj), .val (.ref o86), .val (.ref gW), .unset] [(.int (0 : Int32))])) _
        refine XS.ifYes X125.here hx rfl (pc0 := 236) (pc' := 247) rfl (hb hby at_236) rfl ((if0 _ _).trans (teq (by decide : (0 : Int32) = (0 : Int32))).1) (by decide) (by decide) ?_
        show Steps p.tables e below (T125.setTop (mkF m 247 #[.val (.int x0), .val (.int x1), .val (.int x2), .val (.int x3), .val (.int wk), .val (.int ((((x2.toUInt32 >>> ((8 : Int32) &&& 31).toUInt32).toInt32) &&& (255 : Int32)).toUInt32.toUInt16.toUInt32.toInt32)), .val (.ref b6), .val (.int bs8), .val (.int nj), .val (.ref o86), .val (.ref gW), .unset] [])) _
        refine st126 _ ?_
        show Steps p.tables e below (T126.setTop (mkF m 249 #[.val (.int x0), .val (.int x1), .val (.int x2), .val (.int x3), .val (.int wk), .val (.int ((((x2.toUInt32 >>> ((8 : Int32) &&& 31).toUInt32).toInt32) &&& (255 : Int32)).toUInt32.toUInt16.toUInt32.toInt32)), .val (.ref b6), .val (.int bs8), .val (.int nj), .val (.ref o86), .val (.ref gW), .unset] [(.ref a126)])) _
        refine XS.aload X126.here hx rfl (hb hby at_249) rfl rfl ?_
        show Steps p.tables e below (T126.setTop (mkF m 251 #[.val (.int x0), .val (.int x1), .val (.int x2), .val (.int x3), .val (.int wk), .val (.int ((((x2.toUInt32 >>> ((8 : Int32) &&& 31).toUInt32).toInt32) &&& (255 : Int32)).toUInt32.toUInt16.toUInt32.toInt32)), .val (.ref b6), .val (.int bs8), .val (.int nj), .val (.ref o86), .val (.ref gW), .unset] [(.ref o86), (.ref a126)])) _
        refine st135.trans ?_
        show Steps p.tables e below (T135.setTop (mkF m 254 #[.val (.int x0), .val (.int x1), .val (.int x2), .val (.int x3), .val (.int wk), .val (.int ((((x2.toUInt32 >>> ((8 : Int32) &&& 31).toUInt32).toInt32) &&& (255 : Int32)).toUInt32.toUInt16.toUInt32.toInt32)), .val (.ref b6), .val (.int bs8), .val (.int nj), .val (.ref o86), .val (.ref gW), .unset] [(.int (1 : Int32))])) _
        refine XS.ifNo X135.here hx rfl (hb hby at_254) rfl ((if0 _ _).trans (feq (by decide : ¬ ((1 : Int32) = (0 : Int32)))).1) ?_
        show Steps p.tables e below (T135.setTop (mkF m 257 #[.val (.int x0), .val (.int x1), .val (.int x2), .val (.int x3), .val (.int wk), .val (.int ((((x2.toUInt32 >>> ((8 : Int32) &&& 31).toUInt32).toInt32) &&& (255 : Int32)).toUInt32.toUInt16.toUInt32.toInt32)), .val (.ref b6), .val (.int bs8), .val (.int nj), .val (.ref o86), .val (.ref gW), .unset] [])) _
        refine st136 _ ?_
        show Steps p.tables e below (T136.setTop (mkF m 260 #[.val (.int x0), .val (.int x1), .val (.int x2), .val (.int x3), .val (.int wk), .val (.int ((((x2.toUInt32 >>> ((8 : Int32) &&& 31).toUInt32).toInt32) &&& (255 : Int32)).toUInt32.toUInt16.toUInt32.toInt32)), .val (.ref b6), .val (.int bs8), .val (.int nj), .val (.ref o86), .val (.ref gW), .unset] [(.ref gW)])) _
        refine XS.astore X136.here hx rfl (hb hby at_260) rfl rfl (l' := #[.val (.int x0), .val (.int x1), .val (.int x2), .val (.int x3), .val (.int wk), .val (.int ((((x2.toUInt32 >>> ((8 : Int32) &&& 31).toUInt32).toInt32) &&& (255 : Int32)).toUInt32.toUInt16.toUInt32.toInt32)), .val (.ref b6), .val (.int bs8), .val (.int nj), .val (.ref o86), .val (.ref gW), .val (.ref gW)]) rfl ?_
        show Steps p.tables e below (T136.setTop (mkF m 262 #[.val (.int x0), .val (.int x1), .val (.int x2), .val (.int x3), .val (.int wk), .val (.int ((((x2.toUInt32 >>> ((8 : Int32) &&& 31).toUInt32).toInt32) &&& (255 : Int32)).toUInt32.toUInt16.toUInt32.toInt32)), .val (.ref b6), .val (.int bs8), .val (.int nj), .val (.ref o86), .val (.ref gW), .val (.ref gW)] [])) _
        refine XS.goto X136.here hx rfl (pc0 := 262) (pc' := 268) rfl (hb hby at_262) (by decide) (by decide) ?_
        show Steps p.tables e below (T136.setTop (mkF m 268 #[.val (.int x0), .val (.int x1), .val (.int x2), .val (.int x3), .val (.int wk), .val (.int ((((x2.toUInt32 >>> ((8 : Int32) &&& 31).toUInt32).toInt32) &&& (255 : Int32)).toUInt32.toUInt16.toUInt32.toInt32)), .val (.ref b6), .val (.int bs8), .val (.int nj), .val (.ref o86), .val (.ref gW), .val (.ref gW)] [])) _
        refine XS.aload X136.here hx rfl (hb hby at_268) rfl rfl ?_
        show Steps p.tables e below (T136.setTop (mkF m 270 #[.val (.int x0), .val (.int x1), .val (.int x2), .val (.int x3), .val (.int wk), .val (.int ((((x2.toUInt32 >>> ((8 : Int32) &&& 31).toUInt32).toInt32) &&& (255 : Int32)).toUInt32.toUInt16.toUInt32.toInt32)), .val (.ref b6), .val (.int bs8), .val (.int nj), .val (.ref o86), .val (.ref gW), .val (.ref gW)] [(.ref gW)])) _
        refine XS.aload X136.here hx rfl (hb hby at_270) rfl rfl ?_
        show Steps p.tables e below (T136.setTop (mkF m 272 #[.val (.int x0), .val (.int x1), .val (.int x2), .val (.int x3), .val (.int wk), .val (.int ((((x2.toUInt32 >>> ((8 : Int32) &&& 31).toUInt32).toInt32) &&& (255 : Int32)).toUInt32.toUInt16.toUInt32.toInt32)), .val (.ref b6), .val (.int bs8), .val (.int nj), .val (.ref o86), .val (.ref gW), .val (.ref gW)] [(.ref gW), (.ref gW)])) _
        refine Jvm.RoadKit.acmp (g := (mkF m 272 #[.val (.int x0), .val (.int x1), .val (.int x2), .val (.int x3), .val (.int wk), .val (.int ((((x2.toUInt32 >>> ((8 : Int32) &&& 31).toUInt32).toInt32) &&& (255 : Int32)).toUInt32.toUInt16.toUInt32.toInt32)), .val (.ref b6), .val (.int bs8), .val (.int nj), .val (.ref o86), .val (.ref gW), .val (.ref gW)] [(.ref gW), (.ref gW)])) X136 hx rfl rfl rfl (pc0 := 272) (pc' := 275) (same := true) rfl (hb hby at_272) rfl (decide_eq_true rfl) (by decide) (by decide) ?_
        show Steps p.tables e below (T136.setTop (mkF m 275 #[.val (.int x0), .val (.int x1), .val (.int x2), .val (.int x3), .val (.int wk), .val (.int ((((x2.toUInt32 >>> ((8 : Int32) &&& 31).toUInt32).toInt32) &&& (255 : Int32)).toUInt32.toUInt16.toUInt32.toInt32)), .val (.ref b6), .val (.int bs8), .val (.int nj), .val (.ref o86), .val (.ref gW), .val (.ref gW)] [])) _
        refine XS.iconst X136.here hx rfl (hb hby at_275) ?_
        show Steps p.tables e below (T136.setTop (mkF m 276 #[.val (.int x0), .val (.int x1), .val (.int x2), .val (.int x3), .val (.int wk), .val (.int ((((x2.toUInt32 >>> ((8 : Int32) &&& 31).toUInt32).toInt32) &&& (255 : Int32)).toUInt32.toUInt16.toUInt32.toInt32)), .val (.ref b6), .val (.int bs8), .val (.int nj), .val (.ref o86), .val (.ref gW), .val (.ref gW)] [(.int (1 : Int32))])) _
        refine XS.goto X136.here hx rfl (pc0 := 276) (pc' := 280) rfl (hb hby at_276) (by decide) (by decide) ?_
        show Steps p.tables e below (T136.setTop (mkF m 280 #[.val (.int x0), .val (.int x1), .val (.int x2), .val (.int x3), .val (.int wk), .val (.int ((((x2.toUInt32 >>> ((8 : Int32) &&& 31).toUInt32).toInt32) &&& (255 : Int32)).toUInt32.toUInt16.toUInt32.toInt32)), .val (.ref b6), .val (.int bs8), .val (.int nj), .val (.ref o86), .val (.ref gW), .val (.ref gW)] [(.int (1 : Int32))])) _
        exact retN X136 hx (t := .boolean) Bd.returns (by simp) (hb hby at_280) lhr
      · skip
        show Q0 Z x0 x1 x2 x3 gP gW tP tW vP vW kP kW va kv G1 h0 n0 _ T136.heap _
        rw [e136]
        exact ⟨rfl, N135⟩
      · skip
        show CHr Z own_EL s.vm s.heap T136.vm T136.heap
        rw [hh]
        rw [e136]
        exact CR126.trans (CHv.at X136 hZ126 hEL CR126.1)
    · skip
      have f137 := (f85.keep Kq86 all0)
      obtain ⟨_, _, ⟨T138, L138, kc138, ks138⟩, -, X138, ⟨Lc138, hQ138, l138, y138, z138⟩, st138⟩ := Jvm.LawKit.callS X86 hx (y := mn0) hown86 (mvT hZ86 (wd34 hw)) (mvT hZ86 (wd35 hw)) (mvT hZ86 (wd36 hw)) (mvT hZ86 (wd37 hw)) (by decide) (backOf (W := 0) (rmPs l Z a0 hw [] o86 cs86 t86 kb86 gP gW tP tW vP vW kP kW va kv G1 T86.heap n0 Z86 gE86 gC86 gV86 gK86 hb86 hl86 S_V V_V E_V F_gP E_tP Fv_tP Fc_tP V_vP F_gW E_tW Fv_tW Fc_tW V_vW O2 P5 f137) hZ86 (wd37 hw) (wd36 hw) (by decide) (by decide)) (g := (mkF m 224 #[.val (.int x0), .val (.int x1), .val (.int x2), .val (.int x3), .val (.int wk), .val (.int ((((x2.toUInt32 >>> ((8 : Int32) &&& 31).toUInt32).toInt32) &&& (255 : Int32)).toUInt32.toUInt16.toUInt32.toInt32)), .val (.ref b6), .val (.int bs8), .val (.int nj), .val (.ref o86), .unset, .unset] [(.ref o86)])) rfl (by rw [hml]; rfl) (argsL := [(.ref o86)]) (rest := []) (lenOf pd__Ljava_lang_String__Lcom_example_aloq_aloq_engine_TokenKind_ rfl) rfl (by show 2 * 0 + _ ≤ _; exact Nat.le_of_eq rfl) (hb hby at_224) (fun _ _ => ⟨rfl, rfl, (by decide : 7 + 1 ≤ _), (by decide : 33 + 2 ≤ _)⟩)
      dsimp only [Pt.U, Pt.locs, Pt.cells, Pt.slots] at X138 l138 y138 z138 st138 hQ138
      subst l138 y138 z138
      obtain ⟨w138, rfl, Nq138, Kq138, hcase138⟩ := hQ138
      have hv138 : w138 = .null := hcase138.elim (fun q => absurd q.1 hP) (fun r => r.elim (fun q => absurd q.2.1 hW) (fun q => q.2.2))
      subst hv138
      have N138 := Fr.app N86 Nq138
      have CS138 := CHr.keep Kq138 all0 CR86.1
      have CR138 := CR86.trans CS138
      have hk138 : _ ≤ T138.heap.size := Nat.le_trans (Nat.le_refl T86.heap.size) Kq138.1
      have Z138 : n0 ≤ T138.heap.size := Nat.le_trans Z86 Kq138.1
      have K138 : Keep h0 T138.heap [] := Keep.trans K86 Kq138 all0
      have f139 := ((gj49_0.keep Kq86 nin0).keep Kq138 nin0)
      obtain ⟨a140, T140, h140, kk140, t140, kb140, X140, e140, E140, hS140, hk140, hZ140, hown140, gE140, gC140, gV140, gK140, la140, lt140, CS140, LL140, sne140, st140⟩ := ldcCH (s := s) (vm0 := T86.vm) (EL := own_EL) X138 hx hZ86 hown86 (wd67 hw) wS rfl hS86 hk138 hEL (by decide) CR138.1 (vs := [(.int (112 : Int32)), (.int (114 : Int32)), (.int (111 : Int32)), (.int (100 : Int32)), (.int (117 : Int32)), (.int (99 : Int32)), (.int (101 : Int32)), (.int (114 : Int32))]) (z := (8 : Int32)) ⟨by decide +kernel, by first | rfl | decide +kernel⟩ (by decide) (by decide) (g := (mkF m 229 #[.val (.int x0), .val (.int x1), .val (.int x2), .val (.int x3), .val (.int wk), .val (.int ((((x2.toUInt32 >>> ((8 : Int32) &&& 31).toUInt32).toInt32) &&& (255 : Int32)).toUInt32.toUInt16.toUInt32.toInt32)), .val (.ref b6), .val (.int bs8), .val (.int nj), .val (.ref o86), .val .null, .unset] [])) rfl (hb hby at_229) (n := 32) (by decide +kernel) (by decide) (by decide) (by decide)
      have CR140 := CR138.trans CS140
      have Z140 : n0 ≤ h140.size := Nat.le_trans Z138 E140.1
      have K140 : Keep h0 h140 [] := (K138.ext E140)
      have f141 := (f139.ext E140)
      have nn_b6_140 := sne140 b6 (own_safeArv hZ140.alike f141 (by decide))
      have hp142 : ∀ c ∈ ([(112 : Int32), (114 : Int32), (111 : Int32), (100 : Int32), (117 : Int32), (99 : Int32), (101 : Int32), (114 : Int32)] : List Int32), ¬ c < 0 ∧ ¬ (255 : Int32) < c := by
        intro c hc
        simp only [List.mem_cons, List.not_mem_nil, or_false] at hc
        rcases hc with rfl | rfl | rfl | rfl | rfl | rfl | rfl | rfl
        · exact (by decide)
        · exact (by decide)
        · exact (by decide)
        · exact (by decide)
        · exact (by decide)
        · exact (by decide)
        · exact (by decide)
        · exact (by decide)
      have hcd143 : StrChars.Road.CodA ([(112 : Int32), (114 : Int32), (111 : Int32), (100 : Int32), (117 : Int32), (99 : Int32), (101 : Int32), (114 : Int32)] : List Int32) 0 (8 : Int32) [(.int (112 : Int32)), (.int (114 : Int32)), (.int (111 : Int32)), (.int (100 : Int32)), (.int (117 : Int32)), (.int (99 : Int32)), (.int (101 : Int32)), (.int (114 : Int32))] := StrChars.Road.codOf (cs := ([(112 : Int32), (114 : Int32), (111 : Int32), (100 : Int32), (117 : Int32), (99 : Int32), (101 : Int32), (114 : Int32)] : List Int32)) (n := 8) rfl (fun c hc => (hp142 c hc).2)
      have hbd143 := own_up _ hp142
      have f144 := ((gE86.keep Kq138).ext E140)
      have f145 := ((gV86.keep Kq138 nin0).ext E140)
      have f146 := ((gC86.keep Kq138 nin0).ext E140)
      have f147 := ((gK86.keep Kq138 nin0).ext E140)
      have f148 := ((f137.keep Kq138 all0).ext E140)
      obtain ⟨cq149, kq149, q149a, q149b, q149c⟩ := isOf hZ140 e140 gE140
      obtain ⟨_, _, ⟨T149, L149, kc149, ks149⟩, -, X149, ⟨Lc149, hQ149, l149, y149, z149⟩, st149⟩ := X140.virtualBack hx (y := mn5) (z := mn5) hown140 (mvT hZ140 (wd70 hw)) (mvT hZ140 (wd58 hw)) (notFace_of_selects (args := #[]) (mvT hZ140 (wd60 hw))) (mvT hZ140 (wd60 hw)) (mvT hZ140 (wd59 hw)) (by decide) (StrChars.Road.eqW (W := 0) hZ140 (own_hwordsEq hw) (kI := 4) (wd6 hw) gE140 gV140 gC140 gK140 hcd143 hbd143 (Nat.le_of_ble_eq_true rfl) f144 f145 f146 f147 (StrChars.Road.codOf (cs := cs86) rfl (fun c hc => (hb86 c hc).2)) (own_up _ hb86) hl86 (O2.ext f148.2) P5 (by decide) (by decide)) q149a q149c (g := (mkF m 233 #[.val (.int x0), .val (.int x1), .val (.int x2), .val (.int x3), .val (.int wk), .val (.int ((((x2.toUInt32 >>> ((8 : Int32) &&& 31).toUInt32).toInt32) &&& (255 : Int32)).toUInt32.toUInt16.toUInt32.toInt32)), .val (.ref b6), .val (.int bs8), .val (.int nj), .val (.ref o86), .val .null, .unset] [(.ref o86), (.ref a140)])) rfl (by rw [hml]; rfl) (Steps.refl _) (argsL := [(.ref o86)]) (rest := []) (lenOf pd__Ljava_lang_Object__Z rfl) rfl (by show 2 * 0 + _ ≤ _; exact Nat.le_of_eq rfl) (hb hby at_233) (fun _ _ => ⟨rfl, e140, (by decide : 10 + 0 ≤ _), (by decide : 71 + 0 ≤ _)⟩)
      dsimp only [Pt.U, Pt.locs, Pt.cells, Pt.slots] at X149 l149 y149 z149 st149 hQ149
      subst l149 y149 z149
      obtain ⟨hcase149, rfl, eq149⟩ := hQ149
      have hv149 : _ = some (Value.int 0) := hcase149.elim (fun q => absurd q.2.symm hP) (fun q => q.1)
      subst hv149
      have Nq149 : Fr n0 ([] : List Loc) := Fr.nil n0
      have N149 := Fr.app N138 Nq149
      obtain ⟨a150, T150, h150, kk150, t150, kb150, X150, e150, E150, hS150, hk150, hZ150, hown150, gE150, gC150, gV150, gK150, la150, lt150, CS150, LL150, sne150, st150⟩ := ldcCH (s := s) (vm0 := T140.vm) (EL := own_EL) X149 hx hZ140 hown140 (wd74 hw) wS eq149 hS140 hk140 hEL (by decide) CR140.1 (vs := [(.int (119 : Int32)), (.int (111 : Int32)), (.int (114 : Int32)), (.int (107 : Int32)), (.int (101 : Int32)), (.int (114 : Int32))]) (z := (6 : Int32)) ⟨by decide +kernel, by first | rfl | decide +kernel⟩ (by decide) (by decide) (g := (mkF m 247 #[.val (.int x0), .val (.int x1), .val (.int x2), .val (.int x3), .val (.int wk), .val (.int ((((x2.toUInt32 >>> ((8 : Int32) &&& 31).toUInt32).toInt32) &&& (255 : Int32)).toUInt32.toUInt16.toUInt32.toInt32)), .val (.ref b6), .val (.int bs8), .val (.int nj), .val (.ref o86), .val .null, .unset] [])) rfl (hb hby at_247) (n := 24) (by decide +kernel) (by decide) (by decide) (by decide)
      have CR150 := CR140.trans CS150
      have Z150 : n0 ≤ h150.size := Nat.le_trans Z140 E150.1
      have K150 : Keep h0 h150 [] := (K140.ext E150)
      have f151 := (f141.ext E150)
      have nn_b6_150 := sne150 b6 (own_safeArv hZ150.alike f151 (by decide))
      have hp152 : ∀ c ∈ ([(119 : Int32), (111 : Int32), (114 : Int32), (107 : Int32), (101 : Int32), (114 : Int32)] : List Int32), ¬ c < 0 ∧ ¬ (255 : Int32) < c := by
        intro c hc
        simp only [List.mem_cons, List.not_mem_nil, or_false] at hc
        rcases hc with rfl | rfl | rfl | rfl | rfl | rfl
        · exact (by decide)
        · exact (by decide)
        · exact (by decide)
        · exact (by decide)
        · exact (by decide)
        · exact (by decide)
      have hcd153 : StrChars.Road.CodA ([(119 : Int32), (111 : Int32), (114 : Int32), (107 : Int32), (101 : Int32), (114 : Int32)] : List Int32) 0 (6 : Int32) [(.int (119 : Int32)), (.int (111 : Int32)), (.int (114 : Int32)), (.int (107 : Int32)), (.int (101 : Int32)), (.int (114 : Int32))] := StrChars.Road.codOf (cs := ([(119 : Int32), (111 : Int32), (114 : Int32), (107 : Int32), (101 : Int32), (114 : Int32)] : List Int32)) (n := 6) rfl (fun c hc => (hp152 c hc).2)
      have hbd153 := own_up _ hp152
      have f154 := (f144.ext E150)
      have f155 := (f145.ext E150)
      have f156 := (f146.ext E150)
      have f157 := (f147.ext E150)
      have f158 := (f148.ext E150)
      obtain ⟨cq159, kq159, q159a, q159b, q159c⟩ := isOf hZ150 e150 gE150
      obtain ⟨_, _, ⟨T159, L159, kc159, ks159⟩, -, X159, ⟨Lc159, hQ159, l159, y159, z159⟩, st159⟩ := X150.virtualBack hx (y := mn5) (z := mn5) hown150 (mvT hZ150 (wd70 hw)) (mvT hZ150 (wd58 hw)) (notFace_of_selects (args := #[]) (mvT hZ150 (wd60 hw))) (mvT hZ150 (wd60 hw)) (mvT hZ150 (wd59 hw)) (by decide) (StrChars.Road.eqW (W := 0) hZ150 (own_hwordsEq hw) (kI := 4) (wd6 hw) gE150 gV150 gC150 gK150 hcd153 hbd153 (Nat.le_of_ble_eq_true rfl) f154 f155 f156 f157 (StrChars.Road.codOf (cs := cs86) rfl (fun c hc => (hb86 c hc).2)) (own_up _ hb86) hl86 (O2.ext f158.2) P5 (by decide) (by decide)) q159a q159c (g := (mkF m 251 #[.val (.int x0), .val (.int x1), .val (.int x2), .val (.int x3), .val (.int wk), .val (.int ((((x2.toUInt32 >>> ((8 : Int32) &&& 31).toUInt32).toInt32) &&& (255 : Int32)).toUInt32.toUInt16.toUInt32.toInt32)), .val (.ref b6), .val (.int bs8), .val (.int nj), .val (.ref o86), .val .null, .unset] [(.ref o86), (.ref a150)])) rfl (by rw [hml]; rfl) (Steps.refl _) (argsL := [(.ref o86)]) (rest := []) (lenOf pd__Ljava_lang_Object__Z rfl) rfl (by show 2 * 0 + _ ≤ _; exact Nat.le_of_eq rfl) (hb hby at_251) (fun _ _ => ⟨rfl, e150, (by decide : 12 + 0 ≤ _), (by decide : 99 + 0 ≤ _)⟩)
      dsimp only [Pt.U, Pt.locs, Pt.cells, Pt.slots] at X159 l159 y159 z159 st159 hQ159
      subst l159 y159 z159
      obtain ⟨hcase159, rfl, eq159⟩ := hQ159
      have hv159 : _ = some (Value.int 0) := hcase159.elim (fun q => absurd q.2.symm hW) (fun q => q.1)
      subst hv159
      have Nq159 : Fr n0 ([] : List Loc) := Fr.nil n0
      have N159 := Fr.app N149 Nq159
      obtain ⟨lfs, lhr, lhrun, lhended, lhE⟩ := X159.leaveW hS150 (by rw [eq159]; exact hk150) (v := some (.int (1 : Int32))) (fun h => by rw [Bd.returns] at h; cases h)
      refine ⟨_, _, k98 _ ?_, lhrun, lhended, _, _, rfl, ?_, ?_, lhE.1, lhE.2.1, lhE.2.2.1, lhE.2.2.2.mono (by decide) (by decide)⟩
      · skip
        show Steps p.tables e below (T86.setTop (mkF m 224 #[.val (.int x0), .val (.int x1), .val (.int x2), .val (.int x3), .val (.int wk), .val (.int ((((x2.toUInt32 >>> ((8 : Int32) &&& 31).toUInt32).toInt32) &&& (255 : Int32)).toUInt32.toUInt16.toUInt32.toInt32)), .val (.ref b6), .val (.int bs8), .val (.int nj), .val (.ref o86), .unset, .unset] [(.ref o86)])) _
        refine st138 _ ?_
        show Steps p.tables e below (T138.setTop (mkF m 227 #[.val (.int x0), .val (.int x1), .val (.int x2), .val (.int x3), .val (.int wk), .val (.int ((((x2.toUInt32 >>> ((8 : Int32) &&& 31).toUInt32).toInt32) &&& (255 : Int32)).toUInt32.toUInt16.toUInt32.toInt32)), .val (.ref b6), .val (.int bs8), .val (.int nj), .val (.ref o86), .unset, .unset] [.null])) _
        refine XS.astore X138.here hx rfl (hb hby at_227) rfl rfl (l' := #[.val (.int x0), .val (.int x1), .val (.int x2), .val (.int x3), .val (.int wk), .val (.int ((((x2.toUInt32 >>> ((8 : Int32) &&& 31).toUInt32).toInt32) &&& (255 : Int32)).toUInt32.toUInt16.toUInt32.toInt32)), .val (.ref b6), .val (.int bs8), .val (.int nj), .val (.ref o86), .val .null, .unset]) rfl ?_
        show Steps p.tables e below (T138.setTop (mkF m 229 #[.val (.int x0), .val (.int x1), .val (.int x2), .val (.int x3), .val (.int wk), .val (.int ((((x2.toUInt32 >>> ((8 : Int32) &&& 31).toUInt32).toInt32) &&& (255 : Int32)).toUInt32.toUInt16.toUInt32.toInt32)), .val (.ref b6), .val (.int bs8), .val (.int nj), .val (.ref o86), .val .null, .unset] [])) _
        refine st140 _ ?_
        show Steps p.tables e below (T140.setTop (mkF m 231 #[.val (.int x0), .val (.int x1), .val (.int x2), .val (.int x3), .val (.int wk), .val (.int ((((x2.toUInt32 >>> ((8 : Int32) &&& 31).toUInt32).toInt32) &&& (255 : Int32)).toUInt32.toUInt16.toUInt32.toInt32)), .val (.ref b6), .val (.int bs8), .val (.int nj), .val (.ref o86), .val .null, .unset] [(.ref a140)])) _
        refine XS.aload X140.here hx rfl (hb hby at_231) rfl rfl ?_
        show Steps p.tables e below (T140.setTop (mkF m 233 #[.val (.int x0), .val (.int x1), .val (.int x2), .val (.int x3), .val (.int wk), .val (.int ((((x2.toUInt32 >>> ((8 : Int32) &&& 31).toUInt32).toInt32) &&& (255 : Int32)).toUInt32.toUInt16.toUInt32.toInt32)), .val (.ref b6), .val (.int bs8), .val (.int nj), .val (.ref o86), .val .null, .unset] [(.ref o86), (.ref a140)])) _
        refine st149.trans ?_
        show Steps p.tables e below (T149.setTop (mkF m 236 #[.val (.int x0), .val (.int x1), .val (.int x2), .val (.int x3), .val (.int wk), .val (.int ((((x2.toUInt32 >>> ((8 : Int32) &&& 31).toUInt32).toInt32) &&& (255 : Int32)).toUInt32.toUInt16.toUInt32.toInt32)), .val (.ref b6), .val (.int bs8), .val (.int nj), .val (.ref o86), .val .null, .unset] [(.int (0 : Int32))])) _
        refine XS.ifYes X149.here hx rfl (pc0 := 236) (pc' := 247) rfl (hb hby at_236) rfl ((if0 _ _).trans (teq (by decide : (0 : Int32) = (0 : Int32))).1) (by decide) (by decide) ?_
        show Steps p.tables e below (T149.setTop (mkF m 247 #[.val (.int x0), .val (.int x1), .val (.int x2), .val (.int x3), .val (.int wk), .val (.int ((((x2.toUInt32 >>> ((8 : Int32) &&& 31).toUInt32).toInt32) &&& (255 : Int32)).toUInt32.toUInt16.toUInt32.toInt32)), .val (.ref b6), .val (.int bs8), .val (.int nj), .val (.ref o86), .val .null, .unset] [])) _
        refine st150 _ ?_
        show Steps p.tables e below (T150.setTop (mkF m 249 #[.val (.int x0), .val (.int x1), .val (.int x2), .val (.int x3), .val (.int wk), .val (.int ((((x2.toUInt32 >>> ((8 : Int32) &&& 31).toUInt32).toInt32) &&& (255 : Int32)).toUInt32.toUInt16.toUInt32.toInt32)), .val (.ref b6), .val (.int bs8), .val (.int nj), .val (.ref o86), .val .null, .unset] [(.ref a150)])) _
        refine XS.aload X150.here hx rfl (hb hby at_249) rfl rfl ?_
        show Steps p.tables e below (T150.setTop (mkF m 251 #[.val (.int x0), .val (.int x1), .val (.int x2), .val (.int x3), .val (.int wk), .val (.int ((((x2.toUInt32 >>> ((8 : Int32) &&& 31).toUInt32).toInt32) &&& (255 : Int32)).toUInt32.toUInt16.toUInt32.toInt32)), .val (.ref b6), .val (.int bs8), .val (.int nj), .val (.ref o86), .val .null, .unset] [(.ref o86), (.ref a150)])) _
        refine st159.trans ?_
        show Steps p.tables e below (T159.setTop (mkF m 254 #[.val (.int x0), .val (.int x1), .val (.int x2), .val (.int x3), .val (.int wk), .val (.int ((((x2.toUInt32 >>> ((8 : Int32) &&& 31).toUInt32).toInt32) &&& (255 : Int32)).toUInt32.toUInt16.toUInt32.toInt32)), .val (.ref b6), .val (.int bs8), .val (.int nj), .val (.ref o86), .val .null, .unset] [(.int (0 : Int32))])) _
        refine XS.ifYes X159.here hx rfl (pc0 := 254) (pc' := 265) rfl (hb hby at_254) rfl ((if0 _ _).trans (teq (by decide : (0 : Int32) = (0 : Int32))).1) (by decide) (by decide) ?_
        show Steps p.tables e below (T159.setTop (mkF m 265 #[.val (.int x0), .val (.int x1), .val (.int x2), .val (.int x3), .val (.int wk), .val (.int ((((x2.toUInt32 >>> ((8 : Int32) &&& 31).toUInt32).toInt32) &&& (255 : Int32)).toUInt32.toUInt16.toUInt32.toInt32)), .val (.ref b6), .val (.int bs8), .val (.int nj), .val (.ref o86), .val .null, .unset] [])) _
        refine XS.aconstNull X159.here hx rfl (hb hby at_265) ?_
        show Steps p.tables e below (T159.setTop (mkF m 266 #[.val (.int x0), .val (.int x1), .val (.int x2), .val (.int x3), .val (.int wk), .val (.int ((((x2.toUInt32 >>> ((8 : Int32) &&& 31).toUInt32).toInt32) &&& (255 : Int32)).toUInt32.toUInt16.toUInt32.toInt32)), .val (.ref b6), .val (.int bs8), .val (.int nj), .val (.ref o86), .val .null, .unset] [.null])) _
        refine XS.astore X159.here hx rfl (hb hby at_266) rfl rfl (l' := #[.val (.int x0), .val (.int x1), .val (.int x2), .val (.int x3), .val (.int wk), .val (.int ((((x2.toUInt32 >>> ((8 : Int32) &&& 31).toUInt32).toInt32) &&& (255 : Int32)).toUInt32.toUInt16.toUInt32.toInt32)), .val (.ref b6), .val (.int bs8), .val (.int nj), .val (.ref o86), .val .null, .val .null]) rfl ?_
        show Steps p.tables e below (T159.setTop (mkF m 268 #[.val (.int x0), .val (.int x1), .val (.int x2), .val (.int x3), .val (.int wk), .val (.int ((((x2.toUInt32 >>> ((8 : Int32) &&& 31).toUInt32).toInt32) &&& (255 : Int32)).toUInt32.toUInt16.toUInt32.toInt32)), .val (.ref b6), .val (.int bs8), .val (.int nj), .val (.ref o86), .val .null, .val .null] [])) _
        refine XS.aload X159.here hx rfl (hb hby at_268) rfl rfl ?_
        show Steps p.tables e below (T159.setTop (mkF m 270 #[.val (.int x0), .val (.int x1), .val (.int x2), .val (.int x3), .val (.int wk), .val (.int ((((x2.toUInt32 >>> ((8 : Int32) &&& 31).toUInt32).toInt32) &&& (255 : Int32)).toUInt32.toUInt16.toUInt32.toInt32)), .val (.ref b6), .val (.int bs8), .val (.int nj), .val (.ref o86), .val .null, .val .null] [.null])) _
        refine XS.aload X159.here hx rfl (hb hby at_270) rfl rfl ?_
        show Steps p.tables e below (T159.setTop (mkF m 272 #[.val (.int x0), .val (.int x1), .val (.int x2), .val (.int x3), .val (.int wk), .val (.int ((((x2.toUInt32 >>> ((8 : Int32) &&& 31).toUInt32).toInt32) &&& (255 : Int32)).toUInt32.toUInt16.toUInt32.toInt32)), .val (.ref b6), .val (.int bs8), .val (.int nj), .val (.ref o86), .val .null, .val .null] [.null, .null])) _
        refine Jvm.RoadKit.acmp (g := (mkF m 272 #[.val (.int x0), .val (.int x1), .val (.int x2), .val (.int x3), .val (.int wk), .val (.int ((((x2.toUInt32 >>> ((8 : Int32) &&& 31).toUInt32).toInt32) &&& (255 : Int32)).toUInt32.toUInt16.toUInt32.toInt32)), .val (.ref b6), .val (.int bs8), .val (.int nj), .val (.ref o86), .val .null, .val .null] [.null, .null])) X159 hx rfl rfl rfl (pc0 := 272) (pc' := 275) (same := true) rfl (hb hby at_272) rfl (decide_eq_true rfl) (by decide) (by decide) ?_
        show Steps p.tables e below (T159.setTop (mkF m 275 #[.val (.int x0), .val (.int x1), .val (.int x2), .val (.int x3), .val (.int wk), .val (.int ((((x2.toUInt32 >>> ((8 : Int32) &&& 31).toUInt32).toInt32) &&& (255 : Int32)).toUInt32.toUInt16.toUInt32.toInt32)), .val (.ref b6), .val (.int bs8), .val (.int nj), .val (.ref o86), .val .null, .val .null] [])) _
        refine XS.iconst X159.here hx rfl (hb hby at_275) ?_
        show Steps p.tables e below (T159.setTop (mkF m 276 #[.val (.int x0), .val (.int x1), .val (.int x2), .val (.int x3), .val (.int wk), .val (.int ((((x2.toUInt32 >>> ((8 : Int32) &&& 31).toUInt32).toInt32) &&& (255 : Int32)).toUInt32.toUInt16.toUInt32.toInt32)), .val (.ref b6), .val (.int bs8), .val (.int nj), .val (.ref o86), .val .null, .val .null] [(.int (1 : Int32))])) _
        refine XS.goto X159.here hx rfl (pc0 := 276) (pc' := 280) rfl (hb hby at_276) (by decide) (by decide) ?_
        show Steps p.tables e below (T159.setTop (mkF m 280 #[.val (.int x0), .val (.int x1), .val (.int x2), .val (.int x3), .val (.int wk), .val (.int ((((x2.toUInt32 >>> ((8 : Int32) &&& 31).toUInt32).toInt32) &&& (255 : Int32)).toUInt32.toUInt16.toUInt32.toInt32)), .val (.ref b6), .val (.int bs8), .val (.int nj), .val (.ref o86), .val .null, .val .null] [(.int (1 : Int32))])) _
        exact retN X159 hx (t := .boolean) Bd.returns (by simp) (hb hby at_280) lhr
      · skip
        show Q0 Z x0 x1 x2 x3 gP gW tP tW vP vW kP kW va kv G1 h0 n0 _ T159.heap _
        rw [eq159]
        exact ⟨rfl, N159⟩
      · skip
        show CHr Z own_EL s.vm s.heap T159.vm T159.heap
        rw [hh]
        rw [eq159]
        exact CR150.trans (CHv.at X159 hZ150 hEL CR150.1)
set_option maxRecDepth 65536 in
set_option maxHeartbeats 40000000 in
theorem comes_1 {Post : Tables → Env → Array Value → State → Outcome → State → Prop} (hpost : ∀ tb e args s v u, (limb_1_1.after args s (.returned v) u = true ∧ limb_1_2.after args s (.returned v) u = true ∧ True) → FramedW s (.returned v) u (Jvm.fieldLocs frame_1_writes args s ++ Jvm.arrayLocs frame_1_arrays args s ++ Jvm.staticLocs frame_1_statics s) 24 3264 → Post tb e args s (.returned v) u) :
    ArmFor flags0 classFile x code maxLocals ret World_1 tables_1 room_1 Calls_1 rest_1 Pre_1 Post := by
  intro l hfl _ _ p e ha hc hk s m args below hf hA hF happ hP
  obtain ⟨hcalls, hrest, hpre⟩ := hP
  obtain ⟨-, -, -, hnamed, -, -, -, hat⟩ := (Spec.applies_iff hf).mp happ
  obtain ⟨hg, hn⟩ := and_e (Cond.before_iff.mp (show (Jvm.Cond.and given_1 narrow_1).before args s = true from hpre))
  obtain ⟨g1a, g1b⟩ := and_e hg
  obtain ⟨g2a, g2b⟩ := and_e g1b
  obtain ⟨g3a, g3b⟩ := and_e g2b
  obtain ⟨g4a, g4b⟩ := and_e g3b
  obtain ⟨u5a, u5b⟩ := and_e hn
  obtain ⟨u6a, u6b⟩ := and_e u5b
  obtain ⟨u7a, u7b⟩ := and_e u6b
  obtain ⟨u8a, u8b⟩ := and_e u7b
  obtain ⟨u9a, u9b⟩ := and_e u8b
  obtain ⟨u10a, u10b⟩ := and_e u9b
  obtain ⟨u11a, u11b⟩ := and_e u10b
  obtain ⟨u12a, u12b⟩ := and_e u11b
  obtain ⟨u13a, u13b⟩ := and_e u12b
  obtain ⟨u14a, u14b⟩ := and_e u13b
  obtain ⟨u15a, u15b⟩ := and_e u14b
  obtain ⟨u16a, u16b⟩ := and_e u15b
  obtain ⟨u17a, u17b⟩ := and_e u16b
  obtain ⟨u18a, u18b⟩ := and_e u17b
  obtain ⟨u19a, u19b⟩ := and_e u18b
  obtain ⟨u20a, u20b⟩ := and_e u19b
  obtain ⟨u21a, u21b⟩ := and_e u20b
  obtain ⟨u22a, u22b⟩ := and_e u21b
  obtain ⟨u23a, u23b⟩ := and_e u22b
  obtain ⟨u24a, u24b⟩ := and_e u23b
  obtain ⟨u25a, u25b⟩ := and_e u24b
  obtain ⟨u26a, u26b⟩ := and_e u25b
  obtain ⟨u27a, u27b⟩ := and_e u26b
  obtain ⟨u28a, u28b⟩ := and_e u27b
  obtain ⟨u29a, u29b⟩ := and_e u28b
  obtain ⟨u30a, u30b⟩ := and_e u29b
  obtain ⟨u31a, u31b⟩ := and_e u30b
  obtain ⟨u32a, u32b⟩ := and_e u31b
  obtain ⟨w0, w1, w2, w3, rfl⟩ : ∃ w0 w1 w2 w3 : Value, args = #[w0, w1, w2, w3] := by
    have hs : args.size = 4 := by simpa [Cond.value, given_1] using g1a
    obtain ⟨L⟩ := args
    match L, hs with
    | [w0, w1, w2, w3], _ => exact ⟨w0, w1, w2, w3, rfl⟩
  have hw := fun d (hd : d ∈ tables_1) => atoms_spec (ws := Jvm.Cond.code x code maxLocals ret :: tables_1) hat d (List.mem_cons_of_mem _ hd)
  have hfit : Fit s := fun {y c} hc i hi => by
    obtain ⟨ha, rfl⟩ := Array.getElem?_eq_some_iff.mp hc
    have q := List.all_eq_true.mp ((Array.all_eq_true_iff_forall_mem.mp hF) _ (Array.getElem_mem ha)) i (List.mem_range.mpr hi)
    simpa [Array.getElem?_eq_getElem hi] using q
  obtain ⟨hsets, hown0⟩ := atoms_of _ (rest_1_c_eq ▸ (show rest_1_c.before _ s = true from hrest))
  have hr0 := Cond.before_iff.mp hown0
  obtain ⟨i0, ei0⟩ := is_v g2a
  obtain rfl : w0 = (.int i0) := Option.some.inj ei0
  obtain ⟨i1, ei1⟩ := is_v g3a
  obtain rfl : w1 = (.int i1) := Option.some.inj ei1
  obtain ⟨i2, ei2⟩ := is_v g4a
  obtain rfl : w2 = (.int i2) := Option.some.inj ei2
  obtain ⟨i3, ei3⟩ := is_v g4b
  obtain rfl : w3 = (.int i3) := Option.some.inj ei3
  obtain ⟨G1, eG1⟩ := is_v (Cond.before_iff.mp (hsets _ (List.mem_of_getElem? (i := 1) rfl)))
  have O2 := Sta.start eG1 (Or.inl (hsets _ (List.mem_of_getElem? (i := 0) rfl)))
  have P5 : ¬ (G1 = (0 : Int32)) := gotF (Cond.eq_ints eG1 (Term.int_eval (0))) (not_v (Cond.before_iff.mp (hsets _ (List.mem_of_getElem? (i := 2) rfl))))
  have hCH : CHv s own_EL s.vm s.heap := CHv.start (own_EW _ s hw) (fun p hp => hcalls.1 p hp) (hsets _ (List.mem_of_getElem? (i := 2) rfl)) (wd23 hw) (wd6 hw)
  obtain ⟨va, ev_va⟩ := arr_v u5a
  have S_V := Sta.start ev_va (Or.inr ⟨(wd36 hw), (wd42 hw)⟩)
  obtain ⟨cva, A_va⟩ := Arr.start ev_va u5a
  have E_V := Exa.start ev_va u6a
  obtain ⟨gP, ev_gP⟩ := exa_v u8a
  have S_P := Sta.start ev_gP (Or.inr ⟨(wd36 hw), (wd50 hw)⟩)
  have ee0 := elem_in (own_evRef ev_gP u9a) ev_va (Term.int_eval (0)) A_va.1
  obtain ⟨tP, ev_tP⟩ := exa_v u12a
  have F_gP := own_fldRef ev_gP ev_tP
  have E_tP := Exa.start ev_tP u12a
  have Fc_tP := own_fldInt ev_tP u13a
  obtain ⟨vP, ev_vP⟩ := arr_v u14a
  have Fv_tP := own_fldRef ev_tP ev_vP
  obtain ⟨cvP, A_vP⟩ := Arr.start ev_vP u14a
  have evP0 := elem_in (own_evInt u20a) ev_vP (Term.int_eval (0)) A_vP.1
  have evP1 := elem_in (own_evInt u21a) ev_vP (Term.int_eval (1)) A_vP.1
  have evP2 := elem_in (own_evInt u22a) ev_vP (Term.int_eval (2)) A_vP.1
  have evP3 := elem_in (own_evInt u23a) ev_vP (Term.int_eval (3)) A_vP.1
  have evP4 := elem_in (own_evInt u24a) ev_vP (Term.int_eval (4)) A_vP.1
  have evP5 := elem_in (own_evInt u25a) ev_vP (Term.int_eval (5)) A_vP.1
  have evP6 := elem_in (own_evInt u26a) ev_vP (Term.int_eval (6)) A_vP.1
  have evP7 := elem_in (own_evInt u27a) ev_vP (Term.int_eval (7)) A_vP.1
  have V_vP := own_arvL (dv := .int (0 : Int32)) (z := (8 : Int32)) (vs := [.int (112 : Int32), .int (114 : Int32), .int (111 : Int32), .int (100 : Int32), .int (117 : Int32), .int (99 : Int32), .int (101 : Int32), .int (114 : Int32)]) hfit ev_vP A_vP (own_evInt u15a) (by decide) rfl ⟨evP0.2, evP1.2, evP2.2, evP3.2, evP4.2, evP5.2, evP6.2, evP7.2, trivial⟩
  obtain ⟨gW, ev_gW⟩ := exa_v u10a
  have S_W := Sta.start ev_gW (Or.inr ⟨(wd36 hw), (wd51 hw)⟩)
  have ee1 := elem_in (own_evRef ev_gW u11a) ev_va (Term.int_eval (1)) A_va.1
  obtain ⟨tW, ev_tW⟩ := exa_v u16a
  have F_gW := own_fldRef ev_gW ev_tW
  have E_tW := Exa.start ev_tW u16a
  have Fc_tW := own_fldInt ev_tW u17a
  obtain ⟨vW, ev_vW⟩ := arr_v u18a
  have Fv_tW := own_fldRef ev_tW ev_vW
  obtain ⟨cvW, A_vW⟩ := Arr.start ev_vW u18a
  have evW0 := elem_in (own_evInt u28a) ev_vW (Term.int_eval (0)) A_vW.1
  have evW1 := elem_in (own_evInt u29a) ev_vW (Term.int_eval (1)) A_vW.1
  have evW2 := elem_in (own_evInt u30a) ev_vW (Term.int_eval (2)) A_vW.1
  have evW3 := elem_in (own_evInt u31a) ev_vW (Term.int_eval (3)) A_vW.1
  have evW4 := elem_in (own_evInt u32a) ev_vW (Term.int_eval (4)) A_vW.1
  have evW5 := elem_in (own_evInt u32b) ev_vW (Term.int_eval (5)) A_vW.1
  have V_vW := own_arvL (dv := .int (0 : Int32)) (z := (6 : Int32)) (vs := [.int (119 : Int32), .int (111 : Int32), .int (114 : Int32), .int (107 : Int32), .int (101 : Int32), .int (114 : Int32)]) hfit ev_vW A_vW (own_evInt u19a) (by decide) rfl ⟨evW0.2, evW1.2, evW2.2, evW3.2, evW4.2, evW5.2, trivial⟩
  have V_V := own_arvL (dv := .null) (z := (2 : Int32)) (vs := [.ref gP, .ref gW]) hfit ev_va A_va (own_evInt u7a) (by decide) rfl ⟨ee0.2, ee1.2, trivial⟩
  obtain ⟨n, o, h1, h2, h3, _, L, rfl, ⟨rfl, N⟩, -, hq⟩ := rm0 l s _ hw tables_1 i0 i1 i2 i3 gP gW tP tW vP vW _ _ va _ G1 s.heap s.heap.size (Nat.le_refl _) S_V V_V E_V F_gP E_tP Fv_tP Fc_tP V_vP F_gW E_tW Fv_tW Fc_tW V_vW S_P S_W O2 P5 (Old.start s) p e ha hc hk s m _ below hf ((Spec.applies_iff_loose hf).mp happ).1 ⟨rfl, State.Warmed39.refl s, rfl, hCH, fun x hx => by cases hx⟩ trivial
  refine ⟨n, _, h1, h2, h3, hpost _ _ _ _ _ _ ⟨Cond.after_iff.mpr rfl, Cond.after_iff.mpr (eq_i res_at (Term.int_eval (1)) rfl), trivial⟩ ⟨hq.1, hq.2.1, hq.2.2.1, (hq.2.2.2.sift fun y hy => Or.inr (N y hy)).mono (by decide) (by decide)⟩⟩
theorem main_1_1 : Claimed_1_1 := comes_1 fun _ _ _ _ _ _ h hF => ⟨h.1, hF⟩
theorem main_1_2 : Claimed_1_2 := comes_1 fun _ _ _ _ _ _ h hF => ⟨h.2.1, hF⟩
end Jvm.Pilot.@@N@@
namespace Jvm.Pilot.@@N@@
open Jvm Jvm.ClassFile Sem Op Lib Jvm.Free Jvm.Stand Jvm.Pilot.@@N@@.Jvm.D
/-! MADE BY PROGRAM (witnessworld.py) out of the Statement's table words and the real class files: 22 classes; the members and pool entries that the words name. The judged class is class 1, her method 1. -/
namespace start1
open Jvm.ClassFile
def u (s : String) : CpInfo := .utf8 (stringToUtf16 s)
/-- a pool by its gaps: so many unusable entries, then the entry; so many at the end -/
def gap : Nat → List CpInfo → List CpInfo
  | 0, r => r
  | n + 1, r => .unusable :: gap n r
def poolList (es : List (Nat × CpInfo)) (last : Nat) : List CpInfo := es.foldr (fun e r => gap e.1 (e.2 :: r)) (gap last [])
def pool (es : List (Nat × CpInfo)) (last : Nat) : Array CpInfo := ⟨poolList es last⟩
def fileOf (pool : Array CpInfo) (this : Nat) (attrs : Array Attribute := #[]) (ms : Array MethodInfo := #[]) (fl : Nat := 33) (sup : Nat := 0) (ifs : Array Nat := #[]) (fds : Array FieldInfo := #[]) : ClassFile where
  minorVersion := 0
  majorVersion := 65
  constantPool := pool
  accessFlags := fl
  thisClass := this
  superClass := sup
  interfaces := ifs
  fields := fds
  methods := ms
  attributes := attrs
def plain (name : String) (sup : Option ClassId) : Class where
  name := name
  kind := .ordinary
  loader := none
  accessFlags := 33
  super := sup
  interfaces := #[]
  cf := none
  fields := #[]
  methods := #[]
  instanceTypes := #[]
  staticTypes := #[]
  resolved := #[]
  callSites := []
  init := .initialized
  statics := none
  mirror := none

def pool0 : Array CpInfo := pool [(5, u "<init>"), (0, u "()V"), (1, .class_ 10), (1, u "java/lang/Object"), (85, u "clone"), (0, u "()Ljava/lang/Object;")] 26

def k0c0 : Code := { maxStack := 0, maxLocals := 1, code := object_method_1_code, exceptionTable := #[], attributes := #[] }
def k0m0 : Method := { name := "<init>", desc := "()V", sig := { parameters := [], returnType := none }, accessFlags := 1, code := some k0c0 }
def k0m1 : Method := { name := "clone", desc := "()Ljava/lang/Object;", sig := { parameters := [], returnType := some (.object "java/lang/Object") }, accessFlags := 260, code := none }
/-- java/lang/Object -/
def k0 : Class := { plain "java/lang/Object" none with
  accessFlags := 33
  interfaces := #[]
  cf := some (fileOf pool0 8 #[] #[{ accessFlags := 1, nameIndex := 5, descriptorIndex := 6, attributes := #[] }, { accessFlags := 260, nameIndex := 96, descriptorIndex := 97, attributes := #[] }] 33 0 #[] #[])
  fields := #[]
  methods := #[k0m0, k0m1]
  instanceTypes := #[]
  staticTypes := #[]
  resolved := Array.replicate 124 none
  statics := none }

def pool1 : Array CpInfo := pool [(2, .class_ 4), (1, u "java/lang/Object"), (0, u "<init>"), (0, u "()V"), (0, .integer 2147483647), (0, .methodref 9 10), (0, .class_ 11), (0, .nameAndType 12 13), (0, u "com/example/aloq/aloq/engine/TokenKindParsePinLaw"), (0, u "take"), (0, u "([CI)Ljava/lang/String;"), (0, .methodref 15 16), (0, .class_ 17), (0, .nameAndType 18 19), (0, u "com/example/aloq/aloq/engine/TokenKind"), (0, u "parse"), (0, u "(Ljava/lang/String;)Lcom/example/aloq/aloq/engine/TokenKind;"), (0, .string 21), (0, u "producer"), (0, .methodref 23 24), (0, .class_ 25), (0, .nameAndType 26 27), (0, u "java/lang/String"), (0, u "equals"), (0, u "(Ljava/lang/Object;)Z"), (0, .fieldref 15 29), (0, .nameAndType 30 31), (0, u "PRODUCER"), (0, u "Lcom/example/aloq/aloq/engine/TokenKind;"), (0, .string 33), (0, u "worker"), (0, .fieldref 15 35), (0, .nameAndType 36 31), (0, u "WORKER"), (0, .methodref 23 38), (0, .nameAndType 5 39), (0, u "([C)V"), (2, u "law"), (0, u "(IIII)Z")] 5

def k1m0 : Method := { name := "<init>", desc := "()V", sig := { parameters := [], returnType := none }, accessFlags := 1, code := none }
def k1c1 : Code := { maxStack := 4, maxLocals := 12, code := code, exceptionTable := #[], attributes := #[] }
def k1m1 : Method := { name := "law", desc := "(IIII)Z", sig := { parameters := [.int, .int, .int, .int], returnType := some .boolean }, accessFlags := 9, code := some k1c1 }
def k1c2 : Code := { maxStack := 7, maxLocals := 2, code := method_3_code, exceptionTable := #[], attributes := #[] }
def k1m2 : Method := { name := "take", desc := "([CI)Ljava/lang/String;", sig := { parameters := [(.array .char), .int], returnType := some (.object "java/lang/String") }, accessFlags := 10, code := some k1c2 }
/-- com/example/aloq/aloq/engine/TokenKindParsePinLaw -/
def k1 : Class := { plain "com/example/aloq/aloq/engine/TokenKindParsePinLaw" (some 0) with
  accessFlags := 49
  interfaces := #[]
  cf := some (fileOf pool1 9 #[] #[{ accessFlags := 1, nameIndex := 5, descriptorIndex := 6, attributes := #[] }, { accessFlags := 9, nameIndex := 42, descriptorIndex := 43, attributes := #[] }, { accessFlags := 10, nameIndex := 12, descriptorIndex := 13, attributes := #[] }] 49 2 #[] #[])
  fields := #[]
  methods := #[k1m0, k1m1, k1m2]
  instanceTypes := #[]
  staticTypes := #[]
  resolved := Array.replicate 49 none
  statics := none }

def pool2 : Array CpInfo := pool [(1, .class_ 2), (0, u "java/io/Serializable"), (0, .class_ 4), (0, u "java/lang/Object")] 2

/-- java/io/Serializable -/
def k2 : Class := { plain "java/io/Serializable" (some 0) with
  accessFlags := 1537
  interfaces := #[]
  cf := some (fileOf pool2 1 #[] #[] 1537 3 #[] #[])
  fields := #[]
  methods := #[]
  instanceTypes := #[]
  staticTypes := #[]
  resolved := Array.replicate 7 none
  statics := none }

def pool3 : Array CpInfo := pool [(1, .class_ 2), (0, u "java/lang/Comparable"), (0, .class_ 4), (0, u "java/lang/Object")] 7

/-- java/lang/Comparable -/
def k3 : Class := { plain "java/lang/Comparable" (some 0) with
  accessFlags := 1537
  interfaces := #[]
  cf := some (fileOf pool3 1 #[] #[] 1537 3 #[] #[])
  fields := #[]
  methods := #[]
  instanceTypes := #[]
  staticTypes := #[]
  resolved := Array.replicate 12 none
  statics := none }

def pool4 : Array CpInfo := pool [(2, .class_ 4), (1, u "java/lang/CharSequence"), (42, .class_ 48), (0, u "java/lang/CharSequence$1CodePointIterator"), (10, .class_ 60), (0, u "java/lang/CharSequence$1CharIterator"), (5, .class_ 67), (0, u "java/lang/Object")] 63

/-- java/lang/CharSequence -/
def k4 : Class := { plain "java/lang/CharSequence" (some 0) with
  accessFlags := 1537
  interfaces := #[]
  cf := some (fileOf pool4 2 #[.nestMembers #[47, 59]] #[] 1537 66 #[] #[])
  fields := #[]
  methods := #[]
  instanceTypes := #[]
  staticTypes := #[]
  resolved := Array.replicate 131 none
  statics := none }

def pool5 : Array CpInfo := pool [(1, .class_ 2), (0, u "java/lang/constant/Constable"), (0, .class_ 4), (0, u "java/lang/Object")] 6

/-- java/lang/constant/Constable -/
def k5 : Class := { plain "java/lang/constant/Constable" (some 0) with
  accessFlags := 1537
  interfaces := #[]
  cf := some (fileOf pool5 1 #[] #[] 1537 3 #[] #[])
  fields := #[]
  methods := #[]
  instanceTypes := #[]
  staticTypes := #[]
  resolved := Array.replicate 11 none
  statics := none }

def pool6 : Array CpInfo := pool [(1, .class_ 2), (0, u "java/lang/constant/ConstantDesc"), (0, .class_ 4), (0, u "java/lang/Object")] 32

/-- java/lang/constant/ConstantDesc -/
def k6 : Class := { plain "java/lang/constant/ConstantDesc" (some 0) with
  accessFlags := 1537
  interfaces := #[]
  cf := some (fileOf pool6 1 #[] #[] 1537 3 #[] #[])
  fields := #[]
  methods := #[]
  instanceTypes := #[]
  staticTypes := #[]
  resolved := Array.replicate 37 none
  statics := none }

def pool7 : Array CpInfo := pool [(1, .methodref 2 3), (0, .class_ 4), (0, .nameAndType 5 6), (0, u "java/lang/Object"), (0, u "<init>"), (0, u "()V"), (0, .string 8), (0, u ""), (0, .fieldref 10 11), (0, .class_ 12), (0, .nameAndType 13 14), (0, u "java/lang/String"), (0, u "value"), (0, u "[B"), (0, .fieldref 10 16), (0, .nameAndType 17 18), (0, u "coder"), (0, u "B"), (2, u "hash"), (0, u "I"), (2, u "hashIsZero"), (0, u "Z"), (0, .methodref 10 28), (0, .nameAndType 5 29), (0, u "([CIILjava/lang/Void;)V"), (8, .fieldref 10 39), (0, .nameAndType 40 26), (0, u "COMPACT_STRINGS"), (1, .class_ 44), (1, u "java/lang/StringUTF16"), (0, u "compress"), (1, .methodref 42 48), (0, .nameAndType 49 50), (0, u "coderFromArrayLen"), (0, u "([BI)B"), (56, .class_ 109), (1, u "java/lang/StringLatin1"), (67, .methodref 42 178), (0, .nameAndType 45 179), (0, u "([CII)[B"), (361, .methodref 107 542), (0, .nameAndType 543 544), (0, u "equals"), (0, u "([B[B)Z"), (28, u "(Ljava/lang/Object;)Z"), (1, .class_ 576), (0, u "java/lang/CharSequence"), (22, u "CASE_INSENSITIVE_ORDER"), (0, u "Ljava/util/Comparator;"), (409, u "([C)V"), (90, u "serialPersistentFields"), (0, u "[Ljava/io/ObjectStreamField;"), (0, .class_ 1104), (0, u "java/lang/String$CaseInsensitiveComparator"), (1, .class_ 1107), (0, u "java/io/Serializable"), (0, .class_ 1109), (0, u "java/lang/Comparable"), (0, .class_ 1111), (0, u "java/lang/constant/Constable"), (0, .class_ 1113), (0, u "java/lang/constant/ConstantDesc"), (2, u "serialVersionUID"), (0, u "J"), (3, u "REPL"), (0, u "C"), (2, u "LATIN1"), (1, u "UTF16")] 323

def k7m0 : Method := { name := "<init>", desc := "()V", sig := { parameters := [], returnType := none }, accessFlags := 1, code := none }
def k7c1 : Code := { maxStack := 5, maxLocals := 2, code := jdk_42_method_3_code, exceptionTable := #[], attributes := #[] }
def k7m1 : Method := { name := "<init>", desc := "([C)V", sig := { parameters := [(.array .char)], returnType := none }, accessFlags := 1, code := some k7c1 }
def k7c2 : Code := { maxStack := 2, maxLocals := 3, code := jdk_42_method_66_code, exceptionTable := #[], attributes := #[] }
def k7m2 : Method := { name := "equals", desc := "(Ljava/lang/Object;)Z", sig := { parameters := [(.object "java/lang/Object")], returnType := some .boolean }, accessFlags := 1, code := some k7c2 }
def k7c3 : Code := { maxStack := 4, maxLocals := 6, code := jdk_42_method_149_code, exceptionTable := #[], attributes := #[] }
def k7m3 : Method := { name := "<init>", desc := "([CIILjava/lang/Void;)V", sig := { parameters := [(.array .char), .int, .int, (.object "java/lang/Void")], returnType := none }, accessFlags := 2, code := some k7c3 }
/-- java/lang/String -/
def k7 : Class := { plain "java/lang/String" (some 0) with
  accessFlags := 49
  interfaces := #[2, 3, 4, 5, 6]
  cf := some (fileOf pool7 10 #[.nestMembers #[1103]] #[{ accessFlags := 1, nameIndex := 5, descriptorIndex := 6, attributes := #[] }, { accessFlags := 1, nameIndex := 5, descriptorIndex := 1010, attributes := #[] }, { accessFlags := 1, nameIndex := 543, descriptorIndex := 573, attributes := #[] }, { accessFlags := 2, nameIndex := 5, descriptorIndex := 29, attributes := #[] }] 49 2 #[1106, 1108, 575, 1110, 1112] #[{ accessFlags := 18, nameIndex := 13, descriptorIndex := 14, attributes := #[] }, { accessFlags := 18, nameIndex := 17, descriptorIndex := 18, attributes := #[] }, { accessFlags := 2, nameIndex := 21, descriptorIndex := 22, attributes := #[] }, { accessFlags := 2, nameIndex := 25, descriptorIndex := 26, attributes := #[] }, { accessFlags := 26, nameIndex := 1116, descriptorIndex := 1117, attributes := #[] }, { accessFlags := 24, nameIndex := 40, descriptorIndex := 26, attributes := #[] }, { accessFlags := 26, nameIndex := 1101, descriptorIndex := 1102, attributes := #[] }, { accessFlags := 26, nameIndex := 1121, descriptorIndex := 1122, attributes := #[] }, { accessFlags := 25, nameIndex := 599, descriptorIndex := 600, attributes := #[] }, { accessFlags := 24, nameIndex := 1125, descriptorIndex := 18, attributes := #[] }, { accessFlags := 24, nameIndex := 1127, descriptorIndex := 18, attributes := #[] }])
  fields := #[{ name := "value", type := (.array .byte), accessFlags := 18, slot := 0, constantValue := 0 }, { name := "coder", type := .byte, accessFlags := 18, slot := 1, constantValue := 0 }, { name := "hash", type := .int, accessFlags := 2, slot := 2, constantValue := 0 }, { name := "hashIsZero", type := .boolean, accessFlags := 2, slot := 3, constantValue := 0 }, { name := "serialVersionUID", type := .long, accessFlags := 26, slot := 0, constantValue := 0 }, { name := "COMPACT_STRINGS", type := .boolean, accessFlags := 24, slot := 1, constantValue := 0 }, { name := "serialPersistentFields", type := (.array (.object "java/io/ObjectStreamField")), accessFlags := 26, slot := 2, constantValue := 0 }, { name := "REPL", type := .char, accessFlags := 26, slot := 3, constantValue := 0 }, { name := "CASE_INSENSITIVE_ORDER", type := (.object "java/util/Comparator"), accessFlags := 25, slot := 4, constantValue := 0 }, { name := "LATIN1", type := .byte, accessFlags := 24, slot := 5, constantValue := 0 }, { name := "UTF16", type := .byte, accessFlags := 24, slot := 6, constantValue := 0 }]
  methods := #[k7m0, k7m1, k7m2, k7m3]
  instanceTypes := #[(.array .byte), .byte, .int, .boolean]
  staticTypes := #[.long, .boolean, (.array (.object "java/io/ObjectStreamField")), .char, (.object "java/util/Comparator"), .byte, .byte]
  resolved := Array.replicate 1451 none
  statics := some 0 }

def pool8 : Array CpInfo := pool [(6, .class_ 8), (1, u "java/lang/Object"), (0, u "<init>"), (0, u "()V"), (1, .class_ 14), (1, u "java/lang/StringUTF16"), (31, u "$assertionsDisabled"), (0, u "Z"), (13, u "HI_BYTE_SHIFT"), (0, u "I"), (2, u "LO_BYTE_SHIFT"), (49, .methodref 12 116), (0, .nameAndType 117 118), (0, u "compress"), (0, u "([CI[BII)I"), (3, u "([CII)[B"), (138, u "coderFromArrayLen"), (0, u "([BI)B"), (106, .class_ 371), (1, u "java/lang/StringUTF16$LinesSpliterator"), (58, u "MAX_LENGTH"), (196, .class_ 628), (0, u "java/lang/StringUTF16$CodePointsSpliterator"), (0, .class_ 630), (0, u "java/lang/StringUTF16$CharsSpliterator")] 4

def k8m0 : Method := { name := "<init>", desc := "()V", sig := { parameters := [], returnType := none }, accessFlags := 0, code := none }
def k8c1 : Code := { maxStack := 2, maxLocals := 2, code := jdk_52_method_15_code, exceptionTable := #[], attributes := #[] }
def k8m1 : Method := { name := "coderFromArrayLen", desc := "([BI)B", sig := { parameters := [(.array .byte), .int], returnType := some .byte }, accessFlags := 8, code := some k8c1 }
def k8c2 : Code := { maxStack := 5, maxLocals := 6, code := jdk_52_method_16_code, exceptionTable := #[], attributes := #[] }
def k8m2 : Method := { name := "compress", desc := "([CII)[B", sig := { parameters := [(.array .char), .int, .int], returnType := some (.array .byte) }, accessFlags := 9, code := some k8c2 }
def k8c3 : Code := { maxStack := 3, maxLocals := 7, code := jdk_52_method_21_code, exceptionTable := #[], attributes := #[] }
def k8m3 : Method := { name := "compress", desc := "([CI[BII)I", sig := { parameters := [(.array .char), .int, (.array .byte), .int, .int], returnType := some .int }, accessFlags := 9, code := some k8c3 }
/-- java/lang/StringUTF16 -/
def k8 : Class := { plain "java/lang/StringUTF16" (some 0) with
  accessFlags := 48
  interfaces := #[]
  cf := some (fileOf pool8 12 #[.nestMembers #[627, 629, 369]] #[{ accessFlags := 0, nameIndex := 9, descriptorIndex := 10, attributes := #[] }, { accessFlags := 8, nameIndex := 261, descriptorIndex := 262, attributes := #[] }, { accessFlags := 9, nameIndex := 117, descriptorIndex := 122, attributes := #[] }, { accessFlags := 9, nameIndex := 117, descriptorIndex := 118, attributes := #[] }] 48 6 #[] #[{ accessFlags := 26, nameIndex := 61, descriptorIndex := 62, attributes := #[] }, { accessFlags := 26, nameIndex := 65, descriptorIndex := 62, attributes := #[] }, { accessFlags := 24, nameIndex := 430, descriptorIndex := 62, attributes := #[] }, { accessFlags := 4120, nameIndex := 46, descriptorIndex := 47, attributes := #[] }])
  fields := #[{ name := "HI_BYTE_SHIFT", type := .int, accessFlags := 26, slot := 0, constantValue := 0 }, { name := "LO_BYTE_SHIFT", type := .int, accessFlags := 26, slot := 1, constantValue := 0 }, { name := "MAX_LENGTH", type := .int, accessFlags := 24, slot := 2, constantValue := 0 }, { name := "$assertionsDisabled", type := .boolean, accessFlags := 4120, slot := 3, constantValue := 0 }]
  methods := #[k8m0, k8m1, k8m2, k8m3]
  instanceTypes := #[]
  staticTypes := #[.int, .int, .int, .boolean]
  resolved := Array.replicate 635 none
  statics := none }

def pool9 : Array CpInfo := pool [(2, .class_ 4), (1, u "java/lang/Enum"), (0, u "name"), (0, u "Ljava/lang/String;"), (2, u "ordinal"), (0, u "I"), (1, .class_ 14), (1, u "java/lang/Object"), (4, u "hash"), (86, .class_ 108), (1, u "java/lang/Enum$EnumDesc"), (2, .class_ 112), (0, u "java/lang/constant/Constable"), (0, .class_ 114), (0, u "java/lang/Comparable"), (0, .class_ 116), (0, u "java/io/Serializable")] 87

/-- java/lang/Enum -/
def k9 : Class := { plain "java/lang/Enum" (some 0) with
  accessFlags := 1057
  interfaces := #[5, 3, 2]
  cf := some (fileOf pool9 2 #[.nestMembers #[106]] #[] 1057 12 #[111, 113, 115] #[{ accessFlags := 18, nameIndex := 5, descriptorIndex := 6, attributes := #[] }, { accessFlags := 18, nameIndex := 9, descriptorIndex := 10, attributes := #[] }, { accessFlags := 2, nameIndex := 19, descriptorIndex := 10, attributes := #[] }])
  fields := #[{ name := "name", type := (.object "java/lang/String"), accessFlags := 18, slot := 0, constantValue := 0 }, { name := "ordinal", type := .int, accessFlags := 18, slot := 1, constantValue := 0 }, { name := "hash", type := .int, accessFlags := 2, slot := 2, constantValue := 0 }]
  methods := #[]
  instanceTypes := #[(.object "java/lang/String"), .int, .int]
  staticTypes := #[]
  resolved := Array.replicate 204 none
  statics := none }

def pool10 : Array CpInfo := pool [(1, .class_ 2), (0, u "com/example/aloq/aloq/engine/TokenKind"), (2, u "PRODUCER"), (0, u "Lcom/example/aloq/aloq/engine/TokenKind;"), (2, u "WORKER"), (0, .fieldref 1 11), (0, .nameAndType 12 13), (0, u "$VALUES"), (0, u "[Lcom/example/aloq/aloq/engine/TokenKind;"), (0, .methodref 15 16), (0, .class_ 13), (0, .nameAndType 17 18), (0, u "clone"), (0, u "()Ljava/lang/Object;"), (1, .class_ 22), (1, u "java/lang/Enum"), (6, .fieldref 1 30), (0, .nameAndType 31 32), (0, u "text"), (0, u "Ljava/lang/String;"), (0, .methodref 1 34), (0, .nameAndType 35 36), (0, u "values"), (0, u "()[Lcom/example/aloq/aloq/engine/TokenKind;"), (0, .methodref 38 39), (0, .class_ 40), (0, .nameAndType 41 42), (0, u "java/lang/String"), (0, u "equals"), (0, u "(Ljava/lang/Object;)Z"), (14, u "(Ljava/lang/String;)Lcom/example/aloq/aloq/engine/TokenKind;"), (4, u "parse")] 6

def k10c0 : Code := { maxStack := 1, maxLocals := 0, code := prog_27_method_1_code, exceptionTable := #[], attributes := #[] }
def k10m0 : Method := { name := "values", desc := "()[Lcom/example/aloq/aloq/engine/TokenKind;", sig := { parameters := [], returnType := some (.array (.object "com/example/aloq/aloq/engine/TokenKind")) }, accessFlags := 9, code := some k10c0 }
def k10c1 : Code := { maxStack := 2, maxLocals := 5, code := prog_27_method_5_code, exceptionTable := #[], attributes := #[] }
def k10m1 : Method := { name := "parse", desc := "(Ljava/lang/String;)Lcom/example/aloq/aloq/engine/TokenKind;", sig := { parameters := [(.object "java/lang/String")], returnType := some (.object "com/example/aloq/aloq/engine/TokenKind") }, accessFlags := 9, code := some k10c1 }
/-- com/example/aloq/aloq/engine/TokenKind -/
def k10 : Class := { plain "com/example/aloq/aloq/engine/TokenKind" (some 9) with
  accessFlags := 16433
  interfaces := #[]
  cf := some (fileOf pool10 1 #[] #[{ accessFlags := 9, nameIndex := 35, descriptorIndex := 36, attributes := #[] }, { accessFlags := 9, nameIndex := 62, descriptorIndex := 57, attributes := #[] }] 16433 20 #[] #[{ accessFlags := 16409, nameIndex := 5, descriptorIndex := 6, attributes := #[] }, { accessFlags := 16409, nameIndex := 9, descriptorIndex := 6, attributes := #[] }, { accessFlags := 18, nameIndex := 31, descriptorIndex := 32, attributes := #[] }, { accessFlags := 4122, nameIndex := 12, descriptorIndex := 13, attributes := #[] }])
  fields := #[{ name := "PRODUCER", type := (.object "com/example/aloq/aloq/engine/TokenKind"), accessFlags := 16409, slot := 0, constantValue := 0 }, { name := "WORKER", type := (.object "com/example/aloq/aloq/engine/TokenKind"), accessFlags := 16409, slot := 1, constantValue := 0 }, { name := "text", type := (.object "java/lang/String"), accessFlags := 18, slot := 3, constantValue := 0 }, { name := "$VALUES", type := (.array (.object "com/example/aloq/aloq/engine/TokenKind")), accessFlags := 4122, slot := 2, constantValue := 0 }]
  methods := #[k10m0, k10m1]
  instanceTypes := #[(.object "java/lang/String"), .int, .int, (.object "java/lang/String")]
  staticTypes := #[(.object "com/example/aloq/aloq/engine/TokenKind"), (.object "com/example/aloq/aloq/engine/TokenKind"), (.array (.object "com/example/aloq/aloq/engine/TokenKind"))]
  resolved := Array.replicate 69 none
  statics := some 1 }

def pool11 : Array CpInfo := pool [(1, .class_ 2), (0, u "java/lang/Cloneable"), (0, .class_ 4), (0, u "java/lang/Object")] 2

/-- java/lang/Cloneable -/
def k11 : Class := { plain "java/lang/Cloneable" (some 0) with
  accessFlags := 1537
  interfaces := #[]
  cf := some (fileOf pool11 1 #[] #[] 1537 3 #[] #[])
  fields := #[]
  methods := #[]
  instanceTypes := #[]
  staticTypes := #[]
  resolved := Array.replicate 7 none
  statics := none }

def pool12 : Array CpInfo := pool [(4, .class_ 6), (1, u "java/lang/Object"), (0, u "<init>"), (0, u "()V"), (5, .class_ 16), (1, u "java/lang/StringLatin1"), (104, u "$assertionsDisabled"), (0, u "Z"), (98, .class_ 223), (1, u "java/lang/StringLatin1$LinesSpliterator"), (57, u "equals"), (0, u "([B[B)Z"), (107, .class_ 391), (0, u "java/lang/StringLatin1$CharsSpliterator")] 3

def k12m0 : Method := { name := "<init>", desc := "()V", sig := { parameters := [], returnType := none }, accessFlags := 0, code := none }
def k12c1 : Code := { maxStack := 3, maxLocals := 3, code := jdk_43_method_13_code, exceptionTable := #[], attributes := #[] }
def k12m1 : Method := { name := "equals", desc := "([B[B)Z", sig := { parameters := [(.array .byte), (.array .byte)], returnType := some .boolean }, accessFlags := 9, code := some k12c1 }
/-- java/lang/StringLatin1 -/
def k12 : Class := { plain "java/lang/StringLatin1" (some 0) with
  accessFlags := 48
  interfaces := #[]
  cf := some (fileOf pool12 14 #[.nestMembers #[390, 221]] #[{ accessFlags := 0, nameIndex := 7, descriptorIndex := 8, attributes := #[] }, { accessFlags := 9, nameIndex := 281, descriptorIndex := 282, attributes := #[] }] 48 4 #[] #[{ accessFlags := 4120, nameIndex := 121, descriptorIndex := 122, attributes := #[] }])
  fields := #[{ name := "$assertionsDisabled", type := .boolean, accessFlags := 4120, slot := 0, constantValue := 0 }]
  methods := #[k12m0, k12m1]
  instanceTypes := #[]
  staticTypes := #[.boolean]
  resolved := Array.replicate 395 none
  statics := none }

def pool13 : Array CpInfo := pool [(2, .class_ 4), (1, u "java/lang/Object"), (0, u "<init>"), (0, u "()V"), (17, .class_ 26), (1, u "jdk/internal/util/Preconditions"), (28, .class_ 56), (0, u "jdk/internal/util/Preconditions$4"), (57, .class_ 115), (0, u "jdk/internal/util/Preconditions$1"), (7, u "SIOOBE_FORMATTER"), (0, u "Ljava/util/function/BiFunction;"), (0, .class_ 126), (0, u "jdk/internal/util/Preconditions$2"), (3, u "AIOOBE_FORMATTER"), (0, .class_ 132), (0, u "jdk/internal/util/Preconditions$3"), (3, u "IOOBE_FORMATTER")] 57

def k13m0 : Method := { name := "<init>", desc := "()V", sig := { parameters := [], returnType := none }, accessFlags := 1, code := none }
/-- jdk/internal/util/Preconditions -/
def k13 : Class := { plain "jdk/internal/util/Preconditions" (some 0) with
  accessFlags := 33
  interfaces := #[]
  cf := some (fileOf pool13 24 #[.nestMembers #[55, 131, 125, 114]] #[{ accessFlags := 1, nameIndex := 5, descriptorIndex := 6, attributes := #[] }] 33 2 #[] #[{ accessFlags := 25, nameIndex := 123, descriptorIndex := 124, attributes := #[] }, { accessFlags := 25, nameIndex := 130, descriptorIndex := 124, attributes := #[] }, { accessFlags := 25, nameIndex := 136, descriptorIndex := 124, attributes := #[] }])
  fields := #[{ name := "SIOOBE_FORMATTER", type := (.object "java/util/function/BiFunction"), accessFlags := 25, slot := 0, constantValue := 0 }, { name := "AIOOBE_FORMATTER", type := (.object "java/util/function/BiFunction"), accessFlags := 25, slot := 1, constantValue := 0 }, { name := "IOOBE_FORMATTER", type := (.object "java/util/function/BiFunction"), accessFlags := 25, slot := 2, constantValue := 0 }]
  methods := #[k13m0]
  instanceTypes := #[]
  staticTypes := #[(.object "java/util/function/BiFunction"), (.object "java/util/function/BiFunction"), (.object "java/util/function/BiFunction")]
  resolved := Array.replicate 194 none
  statics := some 2 }

def pool14 : Array CpInfo := pool [(9, u "<init>"), (6, .class_ 18), (1, u "java/lang/Object"), (0, u "()V"), (1, .class_ 23), (1, u "jdk/internal/util/ArraysSupport"), (0, u "LOG2_ARRAY_LONG_INDEX_SCALE"), (0, u "I"), (2, u "U"), (0, u "Ljdk/internal/misc/Unsafe;"), (8, u "BIG_ENDIAN"), (0, u "Z"), (8, u "LOG2_BYTE_BIT_SIZE"), (4, u "LOG2_ARRAY_INT_INDEX_SCALE"), (54, u "JLA"), (0, u "Ljdk/internal/access/JavaLangAccess;"), (11, u "LOG2_ARRAY_BOOLEAN_INDEX_SCALE"), (9, u "LOG2_ARRAY_BYTE_INDEX_SCALE"), (5, u "LOG2_ARRAY_CHAR_INDEX_SCALE"), (5, u "LOG2_ARRAY_SHORT_INDEX_SCALE"), (18, u "LOG2_ARRAY_FLOAT_INDEX_SCALE"), (24, u "LOG2_ARRAY_DOUBLE_INDEX_SCALE"), (89, u "T_BOOLEAN"), (2, u "T_CHAR"), (1, u "T_FLOAT"), (1, u "T_DOUBLE"), (1, u "T_BYTE"), (1, u "T_SHORT"), (1, u "T_INT"), (1, u "T_LONG"), (1, u "SOFT_MAX_ARRAY_LENGTH")] 83

def k14m0 : Method := { name := "<init>", desc := "()V", sig := { parameters := [], returnType := none }, accessFlags := 2, code := none }
/-- jdk/internal/util/ArraysSupport -/
def k14 : Class := { plain "jdk/internal/util/ArraysSupport" (some 0) with
  accessFlags := 33
  interfaces := #[]
  cf := some (fileOf pool14 21 #[] #[{ accessFlags := 2, nameIndex := 9, descriptorIndex := 19, attributes := #[] }] 33 16 #[] #[{ accessFlags := 24, nameIndex := 28, descriptorIndex := 29, attributes := #[] }, { accessFlags := 26, nameIndex := 38, descriptorIndex := 39, attributes := #[] }, { accessFlags := 25, nameIndex := 121, descriptorIndex := 25, attributes := #[] }, { accessFlags := 25, nameIndex := 131, descriptorIndex := 25, attributes := #[] }, { accessFlags := 25, nameIndex := 137, descriptorIndex := 25, attributes := #[] }, { accessFlags := 25, nameIndex := 143, descriptorIndex := 25, attributes := #[] }, { accessFlags := 25, nameIndex := 53, descriptorIndex := 25, attributes := #[] }, { accessFlags := 25, nameIndex := 24, descriptorIndex := 25, attributes := #[] }, { accessFlags := 25, nameIndex := 162, descriptorIndex := 25, attributes := #[] }, { accessFlags := 25, nameIndex := 187, descriptorIndex := 25, attributes := #[] }, { accessFlags := 26, nameIndex := 48, descriptorIndex := 25, attributes := #[] }, { accessFlags := 25, nameIndex := 277, descriptorIndex := 25, attributes := #[] }, { accessFlags := 25, nameIndex := 280, descriptorIndex := 25, attributes := #[] }, { accessFlags := 25, nameIndex := 282, descriptorIndex := 25, attributes := #[] }, { accessFlags := 25, nameIndex := 284, descriptorIndex := 25, attributes := #[] }, { accessFlags := 25, nameIndex := 286, descriptorIndex := 25, attributes := #[] }, { accessFlags := 25, nameIndex := 288, descriptorIndex := 25, attributes := #[] }, { accessFlags := 25, nameIndex := 290, descriptorIndex := 25, attributes := #[] }, { accessFlags := 25, nameIndex := 292, descriptorIndex := 25, attributes := #[] }, { accessFlags := 26, nameIndex := 108, descriptorIndex := 109, attributes := #[] }, { accessFlags := 25, nameIndex := 294, descriptorIndex := 25, attributes := #[] }])
  fields := #[{ name := "U", type := (.object "jdk/internal/misc/Unsafe"), accessFlags := 24, slot := 0, constantValue := 0 }, { name := "BIG_ENDIAN", type := .boolean, accessFlags := 26, slot := 1, constantValue := 0 }, { name := "LOG2_ARRAY_BOOLEAN_INDEX_SCALE", type := .int, accessFlags := 25, slot := 2, constantValue := 0 }, { name := "LOG2_ARRAY_BYTE_INDEX_SCALE", type := .int, accessFlags := 25, slot := 3, constantValue := 0 }, { name := "LOG2_ARRAY_CHAR_INDEX_SCALE", type := .int, accessFlags := 25, slot := 4, constantValue := 0 }, { name := "LOG2_ARRAY_SHORT_INDEX_SCALE", type := .int, accessFlags := 25, slot := 5, constantValue := 0 }, { name := "LOG2_ARRAY_INT_INDEX_SCALE", type := .int, accessFlags := 25, slot := 6, constantValue := 0 }, { name := "LOG2_ARRAY_LONG_INDEX_SCALE", type := .int, accessFlags := 25, slot := 7, constantValue := 0 }, { name := "LOG2_ARRAY_FLOAT_INDEX_SCALE", type := .int, accessFlags := 25, slot := 8, constantValue := 0 }, { name := "LOG2_ARRAY_DOUBLE_INDEX_SCALE", type := .int, accessFlags := 25, slot := 9, constantValue := 0 }, { name := "LOG2_BYTE_BIT_SIZE", type := .int, accessFlags := 26, slot := 10, constantValue := 0 }, { name := "T_BOOLEAN", type := .int, accessFlags := 25, slot := 11, constantValue := 0 }, { name := "T_CHAR", type := .int, accessFlags := 25, slot := 12, constantValue := 0 }, { name := "T_FLOAT", type := .int, accessFlags := 25, slot := 13, constantValue := 0 }, { name := "T_DOUBLE", type := .int, accessFlags := 25, slot := 14, constantValue := 0 }, { name := "T_BYTE", type := .int, accessFlags := 25, slot := 15, constantValue := 0 }, { name := "T_SHORT", type := .int, accessFlags := 25, slot := 16, constantValue := 0 }, { name := "T_INT", type := .int, accessFlags := 25, slot := 17, constantValue := 0 }, { name := "T_LONG", type := .int, accessFlags := 25, slot := 18, constantValue := 0 }, { name := "JLA", type := (.object "jdk/internal/access/JavaLangAccess"), accessFlags := 26, slot := 19, constantValue := 0 }, { name := "SOFT_MAX_ARRAY_LENGTH", type := .int, accessFlags := 25, slot := 20, constantValue := 0 }]
  methods := #[k14m0]
  instanceTypes := #[]
  staticTypes := #[(.object "jdk/internal/misc/Unsafe"), .boolean, .int, .int, .int, .int, .int, .int, .int, .int, .int, .int, .int, .int, .int, .int, .int, .int, .int, (.object "jdk/internal/access/JavaLangAccess"), .int]
  resolved := Array.replicate 378 none
  statics := none }

/-- the primitive byte -/
def k15 : Class := { plain "byte" none with kind := .primitive 'B', accessFlags := 0x411 }
/-- [B -/
def k16 : Class := { plain "[B" (some 0) with kind := .array 15 .byte, interfaces := #[11, 2], accessFlags := 1041 }

/-- the primitive char -/
def k17 : Class := { plain "char" none with kind := .primitive 'C', accessFlags := 0x411 }
/-- [C -/
def k18 : Class := { plain "[C" (some 0) with kind := .array 17 .char, interfaces := #[11, 2], accessFlags := 1041 }

/-- the primitive int -/
def k19 : Class := { plain "int" none with kind := .primitive 'I', accessFlags := 0x411 }
/-- [I -/
def k20 : Class := { plain "[I" (some 0) with kind := .array 19 .int, interfaces := #[11, 2], accessFlags := 1041 }

/-- [Lcom/example/aloq/aloq/engine/TokenKind; -/
def k21 : Class := { plain "[Lcom/example/aloq/aloq/engine/TokenKind;" (some 0) with kind := .array 10 (.object "com/example/aloq/aloq/engine/TokenKind"), interfaces := #[11, 2], accessFlags := 1041 }

def heap : Heap := #[{ cls := 7, slots := #[.long 0, .int 1, .null, .int 0, .null, .int 0, .int 0], vm := .statics 7 },
  { cls := 10, slots := #[.ref 4, .ref 5, .ref 3], vm := .statics 10 },
  { cls := 13, slots := #[.null, .null, .null], vm := .statics 13 },
  { cls := 21, slots := #[.ref 4, .ref 5], vm := .none },
  { cls := 10, slots := #[.null, .int 0, .int 0, .ref 6], vm := .none },
  { cls := 10, slots := #[.null, .int 1, .int 0, .ref 7], vm := .none },
  { cls := 7, slots := #[.ref 8, .int 0, .int 0, .int 0], vm := .none },
  { cls := 7, slots := #[.ref 9, .int 0, .int 0, .int 0], vm := .none },
  { cls := 16, slots := #[.int 112, .int 114, .int 111, .int 100, .int 117, .int 99, .int 101, .int 114], vm := .none },
  { cls := 16, slots := #[.int 119, .int 111, .int 114, .int 107, .int 101, .int 114], vm := .none }]
def classes : Array Class := #[k0, k1, k2, k3, k4, k5, k6, k7, k8, k9, k10, k11, k12, k13, k14, k15, k16, k17, k18, k19, k20, k21]
def interned : List (Array UInt16 × Addr) := []
def slotsUsed : Nat := 45
def theMethod : MethodId := ⟨1, 1⟩
def args0 : Array Value := #[.int 5, .int 7, .int 9, .int 3]
def aboutOver (below : List Frame) : State where
  vm := { classes := classes, interned := interned.toArray }
  heap := heap
  slotsUsed := slotsUsed
  threads := #[{ frames := .invoking theMethod args0 :: below }]
def below0 : List Frame := [.native { method := ⟨0, 0⟩, args := #[] }]
def about1 : State := aboutOver below0
def p0 : Program := .bare "" "" ""
def e0 : Env := launch0.env 0 0 0
theorem w_frames : about1.frames = Frame.invoking theMethod args0 :: below0 := rfl
set_option maxRecDepth 65536 in
theorem w_args : argsFit about1.vm theMethod args0 = true := by decide +kernel
set_option maxRecDepth 65536 in
theorem w_heap : heapFits about1 = true := by decide +kernel
set_option maxRecDepth 65536 in
theorem w_runnable : about1.curStatus? = some .runnable := by decide +kernel
set_option maxRecDepth 65536 in
theorem w_alone : about1.alone = true := by decide +kernel
set_option maxRecDepth 65536 in
theorem w_named : about1.methodNamed? x = some theMethod := by decide +kernel
set_option maxRecDepth 65536 in
theorem w_hears : about1.hears theMethod below0 = true := by decide +kernel
set_option maxRecDepth 65536 in
theorem w_ripe : about1.ripe theMethod args0 below0 = true := by decide +kernel
theorem w_running : about1.status = .running := rfl
set_option maxRecDepth 65536 in
theorem w_room : about1.hasRoom e0.platform room_1 = true :=
  launch0.hasRoom_least _ room_1 (by decide +kernel) (by decide +kernel) (by decide +kernel) (by decide +kernel) (by decide +kernel) (by decide +kernel)
theorem allAtoms_all (ts : List Jvm.Cond) (a : Array Jvm.Value) (st : Jvm.State) : (allAtoms ts).before a st = ts.all (fun c => c.before a st) := by
  induction ts with
  | nil => rfl
  | cons c t ih =>
    show (Jvm.Cond.and c (allAtoms t)).before a st = _
    rw [Jvm.Cond.before_and, ih, List.all_cons]
def words1 : List Jvm.Cond := Jvm.Cond.code x code maxLocals ret :: tables_1
/-- a 'code' word, met by the world's own term for the bytes: nothing is compared byte by byte -/
theorem code_word {y : MethodName} {bytes : ByteArray} {mx : Nat} {rt : Option FieldType} {a : Array Value} {s : State} {m : MethodId} {meth : Method} {c : Code} (h1 : s.methodNamed? y = some m) (h2 : s.vm.method? m = some meth) (h3 : meth.code = some c) (h4 : c.code = bytes)
    (h5 : (c.maxLocals == mx && c.exceptionTable.isEmpty && decide (c.maxStack ≤ mostOperands) && decide (meth.sig.returnType = rt) && !meth.locks && decide (parseMethodDescriptor y.desc = some meth.sig)) = true) : (Jvm.Cond.code y bytes mx rt).before a s = true := by
  simp only [Bool.and_eq_true, beq_iff_eq, Bool.not_eq_true', decide_eq_true_eq] at h5
  obtain ⟨⟨⟨⟨⟨g1, g2⟩, g3⟩, g4⟩, g5⟩, g6⟩ := h5
  simp [Cond.before, Cond.holds, Cond.value, h1, h2, h3, h4, g1, g2, g3, g4, g5, g6]
def isCode : Jvm.Cond → Bool
  | .code _ _ _ _ => true
  | _ => false
theorem all_split {L : List Jvm.Cond} {P : Jvm.Cond → Bool} (h1 : L.all (fun c => isCode c || P c) = true) (h2 : ∀ c ∈ L.filter isCode, P c = true) : L.all P = true := by
  refine List.all_eq_true.mpr fun c hc => ?_
  have h := List.all_eq_true.mp h1 c hc
  rcases Bool.eq_false_or_eq_true (isCode c) with hi | hi
  · exact h2 c (List.mem_filter.mpr ⟨hc, hi⟩)
  · simpa [hi] using h
set_option maxRecDepth 65536 in
theorem w_c0 : (Jvm.Cond.code x code maxLocals ret).before args0 about1 = true := code_word (m := ⟨1, 1⟩) (meth := k1m1) (c := k1c1) (by decide +kernel) rfl rfl rfl (by decide +kernel)
set_option maxRecDepth 65536 in
theorem w_c1 : (Jvm.Cond.code ({ cls := "com/example/aloq/aloq/engine/TokenKindParsePinLaw", name := "take", desc := "([CI)Ljava/lang/String;" } : Jvm.MethodName) method_3_code (2 : Nat) (Option.some (Jvm.ClassFile.FieldType.object "java/lang/String"))).before args0 about1 = true := code_word (m := ⟨1, 2⟩) (meth := k1m2) (c := k1c2) (by decide +kernel) rfl rfl rfl (by decide +kernel)
set_option maxRecDepth 65536 in
theorem w_c2 : (Jvm.Cond.code ({ cls := "java/lang/String", name := "<init>", desc := "([C)V" } : Jvm.MethodName) jdk_42_method_3_code (2 : Nat) (Option.none : Option Jvm.ClassFile.FieldType)).before args0 about1 = true := code_word (m := ⟨7, 1⟩) (meth := k7m1) (c := k7c1) (by decide +kernel) rfl rfl rfl (by decide +kernel)
set_option maxRecDepth 65536 in
theorem w_c3 : (Jvm.Cond.code ({ cls := "java/lang/String", name := "<init>", desc := "([CIILjava/lang/Void;)V" } : Jvm.MethodName) jdk_42_method_149_code (6 : Nat) (Option.none : Option Jvm.ClassFile.FieldType)).before args0 about1 = true := code_word (m := ⟨7, 3⟩) (meth := k7m3) (c := k7c3) (by decide +kernel) rfl rfl rfl (by decide +kernel)
set_option maxRecDepth 65536 in
theorem w_c4 : (Jvm.Cond.code ({ cls := "java/lang/Object", name := "<init>", desc := "()V" } : Jvm.MethodName) object_method_1_code (1 : Nat) (Option.none : Option Jvm.ClassFile.FieldType)).before args0 about1 = true := code_word (m := ⟨0, 0⟩) (meth := k0m0) (c := k0c0) (by decide +kernel) rfl rfl rfl (by decide +kernel)
set_option maxRecDepth 65536 in
theorem w_c5 : (Jvm.Cond.code ({ cls := "java/lang/StringUTF16", name := "compress", desc := "([CII)[B" } : Jvm.MethodName) jdk_52_method_16_code (6 : Nat) (Option.some (Jvm.ClassFile.FieldType.array Jvm.ClassFile.FieldType.byte))).before args0 about1 = true := code_word (m := ⟨8, 2⟩) (meth := k8m2) (c := k8c2) (by decide +kernel) rfl rfl rfl (by decide +kernel)
set_option maxRecDepth 65536 in
theorem w_c6 : (Jvm.Cond.code ({ cls := "java/lang/StringUTF16", name := "compress", desc := "([CI[BII)I" } : Jvm.MethodName) jdk_52_method_21_code (7 : Nat) (Option.some Jvm.ClassFile.FieldType.int)).before args0 about1 = true := code_word (m := ⟨8, 3⟩) (meth := k8m3) (c := k8c3) (by decide +kernel) rfl rfl rfl (by decide +kernel)
set_option maxRecDepth 65536 in
theorem w_c7 : (Jvm.Cond.code ({ cls := "java/lang/StringUTF16", name := "coderFromArrayLen", desc := "([BI)B" } : Jvm.MethodName) jdk_52_method_15_code (2 : Nat) (Option.some Jvm.ClassFile.FieldType.byte)).before args0 about1 = true := code_word (m := ⟨8, 1⟩) (meth := k8m1) (c := k8c1) (by decide +kernel) rfl rfl rfl (by decide +kernel)
set_option maxRecDepth 65536 in
theorem w_c8 : (Jvm.Cond.code ({ cls := "com/example/aloq/aloq/engine/TokenKind", name := "parse", desc := "(Ljava/lang/String;)Lcom/example/aloq/aloq/engine/TokenKind;" } : Jvm.MethodName) prog_27_method_5_code (5 : Nat) (Option.some (Jvm.ClassFile.FieldType.object "com/example/aloq/aloq/engine/TokenKind"))).before args0 about1 = true := code_word (m := ⟨10, 1⟩) (meth := k10m1) (c := k10c1) (by decide +kernel) rfl rfl rfl (by decide +kernel)
set_option maxRecDepth 65536 in
theorem w_c9 : (Jvm.Cond.code ({ cls := "com/example/aloq/aloq/engine/TokenKind", name := "values", desc := "()[Lcom/example/aloq/aloq/engine/TokenKind;" } : Jvm.MethodName) prog_27_method_1_code (0 : Nat) (Option.some (Jvm.ClassFile.FieldType.array (Jvm.ClassFile.FieldType.object "com/example/aloq/aloq/engine/TokenKind")))).before args0 about1 = true := code_word (m := ⟨10, 0⟩) (meth := k10m0) (c := k10c0) (by decide +kernel) rfl rfl rfl (by decide +kernel)
set_option maxRecDepth 65536 in
theorem w_c10 : (Jvm.Cond.code ({ cls := "java/lang/String", name := "equals", desc := "(Ljava/lang/Object;)Z" } : Jvm.MethodName) jdk_42_method_66_code (3 : Nat) (Option.some Jvm.ClassFile.FieldType.boolean)).before args0 about1 = true := code_word (m := ⟨7, 2⟩) (meth := k7m2) (c := k7c2) (by decide +kernel) rfl rfl rfl (by decide +kernel)
set_option maxRecDepth 65536 in
theorem w_c11 : (Jvm.Cond.code ({ cls := "java/lang/StringLatin1", name := "equals", desc := "([B[B)Z" } : Jvm.MethodName) jdk_43_method_13_code (3 : Nat) (Option.some Jvm.ClassFile.FieldType.boolean)).before args0 about1 = true := code_word (m := ⟨12, 1⟩) (meth := k12m1) (c := k12c1) (by decide +kernel) rfl rfl rfl (by decide +kernel)
def codes1 : List Jvm.Cond := [Jvm.Cond.code x code maxLocals ret, Jvm.Cond.code ({ cls := "com/example/aloq/aloq/engine/TokenKindParsePinLaw", name := "take", desc := "([CI)Ljava/lang/String;" } : Jvm.MethodName) method_3_code (2 : Nat) (Option.some (Jvm.ClassFile.FieldType.object "java/lang/String")), Jvm.Cond.code ({ cls := "java/lang/String", name := "<init>", desc := "([C)V" } : Jvm.MethodName) jdk_42_method_3_code (2 : Nat) (Option.none : Option Jvm.ClassFile.FieldType), Jvm.Cond.code ({ cls := "java/lang/String", name := "<init>", desc := "([CIILjava/lang/Void;)V" } : Jvm.MethodName) jdk_42_method_149_code (6 : Nat) (Option.none : Option Jvm.ClassFile.FieldType), Jvm.Cond.code ({ cls := "java/lang/Object", name := "<init>", desc := "()V" } : Jvm.MethodName) object_method_1_code (1 : Nat) (Option.none : Option Jvm.ClassFile.FieldType), Jvm.Cond.code ({ cls := "java/lang/StringUTF16", name := "compress", desc := "([CII)[B" } : Jvm.MethodName) jdk_52_method_16_code (6 : Nat) (Option.some (Jvm.ClassFile.FieldType.array Jvm.ClassFile.FieldType.byte)), Jvm.Cond.code ({ cls := "java/lang/StringUTF16", name := "compress", desc := "([CI[BII)I" } : Jvm.MethodName) jdk_52_method_21_code (7 : Nat) (Option.some Jvm.ClassFile.FieldType.int), Jvm.Cond.code ({ cls := "java/lang/StringUTF16", name := "coderFromArrayLen", desc := "([BI)B" } : Jvm.MethodName) jdk_52_method_15_code (2 : Nat) (Option.some Jvm.ClassFile.FieldType.byte), Jvm.Cond.code ({ cls := "com/example/aloq/aloq/engine/TokenKind", name := "parse", desc := "(Ljava/lang/String;)Lcom/example/aloq/aloq/engine/TokenKind;" } : Jvm.MethodName) prog_27_method_5_code (5 : Nat) (Option.some (Jvm.ClassFile.FieldType.object "com/example/aloq/aloq/engine/TokenKind")), Jvm.Cond.code ({ cls := "com/example/aloq/aloq/engine/TokenKind", name := "values", desc := "()[Lcom/example/aloq/aloq/engine/TokenKind;" } : Jvm.MethodName) prog_27_method_1_code (0 : Nat) (Option.some (Jvm.ClassFile.FieldType.array (Jvm.ClassFile.FieldType.object "com/example/aloq/aloq/engine/TokenKind"))), Jvm.Cond.code ({ cls := "java/lang/String", name := "equals", desc := "(Ljava/lang/Object;)Z" } : Jvm.MethodName) jdk_42_method_66_code (3 : Nat) (Option.some Jvm.ClassFile.FieldType.boolean), Jvm.Cond.code ({ cls := "java/lang/StringLatin1", name := "equals", desc := "([B[B)Z" } : Jvm.MethodName) jdk_43_method_13_code (3 : Nat) (Option.some Jvm.ClassFile.FieldType.boolean)]
set_option maxRecDepth 65536 in
theorem codes_eq : words1.filter isCode = codes1 := rfl
theorem w_codes : ∀ c ∈ words1.filter isCode, c.before args0 about1 = true := by
  rw [codes_eq]
  intro c hc
  simp only [codes1, List.mem_cons, List.not_mem_nil, or_false] at hc
  rcases hc with rfl | rfl | rfl | rfl | rfl | rfl | rfl | rfl | rfl | rfl | rfl | rfl
  · exact w_c0
  · exact w_c1
  · exact w_c2
  · exact w_c3
  · exact w_c4
  · exact w_c5
  · exact w_c6
  · exact w_c7
  · exact w_c8
  · exact w_c9
  · exact w_c10
  · exact w_c11
set_option maxRecDepth 65536 in
theorem w_t1 : (words1.take 24).all (fun c => isCode c || c.before args0 about1) = true := by decide +kernel
set_option maxRecDepth 65536 in
theorem w_t2 : ((words1.drop 24).take 24).all (fun c => isCode c || c.before args0 about1) = true := by decide +kernel
set_option maxRecDepth 65536 in
theorem w_t3 : (((words1.drop 24).drop 24).take 24).all (fun c => isCode c || c.before args0 about1) = true := by decide +kernel
set_option maxRecDepth 65536 in
theorem w_t4 : (((words1.drop 24).drop 24).drop 24).all (fun c => isCode c || c.before args0 about1) = true := by decide +kernel
theorem w_tables : (allAtoms (Jvm.Cond.code x code maxLocals ret :: tables_1)).before args0 about1 = true := by
  rw [allAtoms_all]
  show words1.all (fun c => c.before args0 about1) = true
  refine all_split ?_ w_codes
  rw [← List.take_append_drop 24 words1, List.all_append, w_t1, ← List.take_append_drop 24 (words1.drop 24), List.all_append, w_t2, ← List.take_append_drop 24 ((words1.drop 24).drop 24), List.all_append, w_t3, w_t4]
  rfl
set_option maxRecDepth 65536 in
theorem w_rest : rest_1_c.before args0 about1 = true := by decide +kernel
set_option maxRecDepth 65536 in
theorem w_case : (Jvm.Cond.and given_1 narrow_1).before args0 about1 = true := by decide +kernel
set_option maxRecDepth 65536 in
theorem w_consts : constsHeld consts_1 about1 := Jvm.Lit.constsHeldB_iff.mp (by decide +kernel)
theorem w_applies : (headSpec (Jvm.Cond.code x code maxLocals ret :: tables_1) room_1).applies x e0.platform about1 = true :=
  (Spec.applies_iff w_frames).mpr ⟨w_running, w_runnable, w_alone, w_named, w_hears, w_ripe, w_room, w_tables⟩
theorem atStart : AtStart classFile x code maxLocals ret World_1 tables_1 room_1 Calls_1 rest_1 Pre_1 launch0 p0 e0 about1 theMethod args0 below0 :=
  ⟨lists_1, trivial, launch0.admits_env _ _ _, launch0.least_env, fairChoices_fair.cas, fairChoices_fair.clock, w_frames, w_args, w_heap, w_applies, ⟨w_consts, trivial⟩, w_rest, w_case⟩
end start1
theorem witness_1 : WitnessClaimed_1 := ⟨start1.p0, start1.e0, start1.about1, start1.theMethod, start1.args0, start1.below0, start1.atStart⟩
end Jvm.Pilot.@@N@@
