import JvmDerived
import JvmDerived.Pilot.@@N@@Statement
import JvmDerived.Pilot.@@N@@Code
set_option linter.unusedVariables false
set_option linter.unusedSimpArgs false
namespace Jvm.RoadKit
open Sem ClassFile Op Lib Jvm.Stand Jvm.Free Jvm.LawKit
section New
variable {p : Program} {l : Launch} {e : Env} {R : Room} {s : State} {m : MethodId} {args : Array Value} {below : List Frame} {meth : Method} {c : Code} {T : State} {locs : List Loc} {cells slots : Nat}
theorem retI (X : Stand p l e R s m args below meth c T locs cells slots) (hx : p.tables.exec = Jvm.exec) {pc : Nat} {Ls : Array Slot} {z : Int32} {rest : List Value} (hret : meth.sig.returnType = some .int) (hd : decode c.code pc = .ok (.ireturn, 1)) {fs : List Frame}
    (hl : ∀ (f : JFrame) (acts : List Action), f.method = m → f.locked = none → f.entered = [] → (doReturn e (T.setTop f) acts (some (.int z))).1 = T.setFrames fs) : Steps p.tables e below (T.setTop (mkF m pc Ls (.int z :: rest))) (T.setFrames fs) :=
  retOut X hx hret rfl (Or.inl ⟨rfl, Or.inl rfl, z, rfl⟩) hd hl
theorem own_lremM {g : JFrame} {target : State} (X : Stand p l e R s m args below meth c T locs cells slots) (hx : p.tables.exec = Jvm.exec) (hg : g.method = m) {x y : Int64} {rest : List Value} (hd : decode c.code g.pc = .ok (.lrem, 1)) (hs : g.stack = .long y :: .long x :: rest) (hy : y ≠ 0)
    (hr : Steps p.tables e below (T.setTop { g with pc := g.pc + 1, stack := .long (x % y) :: rest }) target) : Steps p.tables e below (T.setTop g) target := by
  have q : x - x / y * y = x % y := lrem_mod x y
  exact XS.lrem X.here hx hg hd hs hy (by rw [q]; exact hr)
theorem own_evInt {Z : State} {args : Array Value} {t : Term} {k : Int32} (h : (Jvm.Cond.eq t (.int k)).value args Z none Z [] = some true) : t.eval args Z none [] Z = some (.int k) := by
  obtain ⟨x, y, h1, h2, -, -⟩ := cmp_v (Or.inl h)
  have hy : y = .int k := Option.some.inj (h2.symm.trans (Term.int_eval k))
  subst hy
  have hx : x = .int k := by
    cases x <;> simp [Cond.value, h1, h2] at h ⊢
    exact h
  rw [h1, hx]
theorem own_selPriv {y : MethodName} {kI : Nat} (hI : (Jvm.Cond.instantiable y.cls kI).before args s = true) (hpriv : s.PrivateAt y) (hinst : (Jvm.Cond.instanceMethod y).before args s = true) (hy : y.cls ≠ "java/lang/invoke/MethodHandle" ∧ y.cls ≠ "java/lang/invoke/VarHandle") : (Jvm.Cond.selects y.cls y y).before args s = true := by
  obtain ⟨c, k, h1, h2, -, h4, -⟩ := Cond.instantiable_spec hI
  exact selects_self_of_private h1 h2 (Bool.or_eq_false_iff.mp h4).1 hpriv hinst hy
theorem own_since0 (s : State) : s.Since s.vm 0 := (State.WarmedH.refl s).since _
theorem own_irr32 (x : Int32) : ¬ (x < x) := Int32.lt_irrefl
theorem own_irr64 (x : Int64) : ¬ (x < x) := Int64.lt_irrefl
theorem own_fldInt {Z : State} {args : Array Value} {t : Term} {a : Addr} {C n d : String} {k : Int32} (ev : t.eval args Z none [] Z = some (.ref a)) (h : (Jvm.Cond.eq (.field t C n d) (.int k)).value args Z none Z [] = some true) : Fld Z Z.heap a C n d (.int k) := by
  obtain ⟨x, y, h1, h2, -, -⟩ := cmp_v (Or.inl h)
  have hy : y = .int k := Option.some.inj (h2.symm.trans (Term.int_eval k))
  subst hy
  have hx : x = .int k := by
    cases x <;> simp [Cond.value, h1, h2] at h ⊢
    exact h
  rw [fld_at ev] at h1
  exact Fld.start (hx ▸ h1)
end New
end Jvm.RoadKit
namespace Jvm.RoadKit
open Sem ClassFile Op Lib Bundle Jvm.Stand Jvm.Free Jvm.LawKit Jvm.Free.SB Jvm.Free.SBG
theorem own_safeArv {Z : State} {EL : List (String × Nat)} {vm : Vm} {h : Heap} {x : Addr} {k : ClassId} {ty : FieldType} {z : Int32} {vs : List Value} {d : Value} (hal : Z.vm.Alike vm) (V : Arv Z h x k ty z vs d) (ht : ty ≠ .byte) : Safe Z EL vm h x := by
  obtain ⟨c, A, -⟩ := V; exact Safe.arr hal A ht
theorem own_backSafe {p : Program} {l : Launch} {e : Env} {R : Room} {s : State} {args : Array Value} {below : List Frame} {Z : State} {a0 : Array Value} {EL : List (String × Nat)} {h : Heap} {vm0 : Vm} {ss : List Addr} {y : MethodName} {bytes : ByteArray} {maxL : Nat} {ret : Option FieldType} {rm : Room} {len W : Nat} {as' : Array Value} {Q : Option Value → Heap → List Loc → Prop}
    (hM : MetFree l y (head1 [Cond.code y bytes maxL ret] rm) (fun a U => a = as' ∧ Z.Warmed39 U.vm ∧ U.heap = h ∧ CHv Z EL U.vm h ∧ ∀ x ∈ ss, Safe Z EL U.vm h x) (fun _ _ _ _ _ => True) (fun _ U o U' => ∃ v L, o = .returned v ∧ Q v U'.heap L ∧ CHr Z EL U.vm U.heap U'.vm U'.heap ∧ ReturnedEndW U o U' L rm.cells rm.slots))
    (hZ : Z.Warmed39 vm0) (wc : (Cond.code y bytes maxL ret).before a0 Z = true) (wz : (Cond.initialized y.cls).before a0 Z = true) (hf : rm.frames + 1 ≤ R.frames) (hl : W + (maxL + 11) + rm.locals ≤ R.locals) (hEL : EW Z a0 EL) (H : CHv Z EL vm0 h) (hs : ∀ x ∈ ss, x < h.size ∧ Safe Z EL vm0 h x) :
    BackS l R p e below (s.setVm vm0) args y len W (fun A a => a = as' ∧ A.U.heap = h ∧ A.cells + rm.cells ≤ R.cells ∧ A.slots + rm.slots ≤ R.slots)
      (fun A _ v B => ∃ L, Q v B.U.heap L ∧ B.locs = A.locs ++ L ∧ B.cells = A.cells + rm.cells ∧ B.slots = A.slots + rm.slots ∧ CHr Z EL vm0 h B.U.vm B.U.heap) := by
  refine BackS.of_freeW (bytes := bytes) (maxL := maxL) (ret := ret) (E := fun _ first o t L k n => k = rm.cells ∧ n = rm.slots ∧ (∃ v, o = .returned v ∧ Q v t.heap L) ∧ CHr Z EL first.vm first.heap t.vm t.heap) hM hf hl ?_ ?_ (fun _ _ _ _ _ _ _ _ _ => trivial) ?_ ?_
  · intro m meth c A a Y hp
    have hU : Z.Warmed39 A.U.vm := wtrans (s := s.setVm vm0) hZ Y.warmed
    exact ⟨by show (Cond.and _ .tt).before a A.U = true; rw [Cond.before_and, mv hU wc]; rfl, mv hU wc, mv hU wz, hp.2.2.1, hp.2.2.2⟩
  · intro m meth c A a g mk Y hp
    have q := CHv.at Y hZ hEL H
    exact ⟨hp.1, wtrans (s := s.setVm vm0) hZ Y.warmed, hp.2.1, q.1, fun x hx => q.safe (hs x hx).1 (hs x hx).2⟩
  · intro a first o t hq
    obtain ⟨v, L, h1, h2, h3, h4⟩ := hq
    exact ⟨L, _, _, h4, rfl, rfl, ⟨v, h1, h2⟩, h3⟩
  · intro m meth c A a g mk v t L k n Y hp _ _ hE
    obtain ⟨e1, e2, ⟨v', e3, e4⟩, e5⟩ := hE
    cases e3; subst e1 e2
    refine ⟨L, e4, rfl, rfl, rfl, (CHv.at Y hZ hEL H).trans ?_⟩
    rw [← hp.2.1]; exact e5
end Jvm.RoadKit
/- laws to paste: Road.backV (cut by pick.py; bodies as the Statement names them) -/
namespace Jvm.Pilot.@@N@@
namespace StrChars
open Jvm Sem ClassFile Op Lib Jvm.Stand Jvm.Free.XT Jvm.Free.ALB Jvm.Free.JM Jvm.Free
open Jvm.Lib.Cold (StaticIs)
/-- a char array whose places are chars -/
def Ch (a : Addr) (A : Cell) (U : State) : Prop := Arr .char a A U ∧ Typed .char A
theorem Ch.mv {a : Addr} {A : Cell} {U U' : State} (h : Ch a A U) (hal : U.vm.Alike U'.vm) (hh : U'.heap = U.heap) : Ch a A U' := ⟨h.1.mv hal hh, h.2⟩
theorem Ch.keep {a : Addr} {A : Cell} {U U' : State} (h : Ch a A U) (hal : U.vm.Alike U'.vm) (hk : U'.heap[a]? = some A) : Ch a A U' := ⟨h.1.keep hal hk, h.2⟩
/-- what place i of a char[]'s cell holds -/
def cv (A : Cell) (i : Nat) : Int32 := match A.slots[i]? with | some (.int x) => x | _ => 0
theorem Ch.get {a : Addr} {A : Cell} {U : State} (h : Ch a A U) {i : Nat} (hi : i < A.slots.size) : A.slots[i]? = some (.int (cv A i)) := by
  have e := Array.getElem?_eq_getElem hi
  have f := h.2 i _ e
  unfold cv; rw [e]
  generalize A.slots[i] = v at f
  cases v <;> simp [fits] at f ⊢
/-- the byte that i2b leaves of a char -/
def lo8 (x : Int32) : Int32 := x.toInt8.toInt32
theorem fits_lo8 (y : Int32) : fits .byte (.int (lo8 y)) = true := by
  have h1 := y.toInt8.le_toInt
  have h2 := y.toInt8.toInt_lt
  simp only [lo8, fits, Bool.and_eq_true, decide_eq_true_eq, Int32.le_iff_toInt_le, Int8.toInt_toInt32, show (-128 : Int32).toInt = -128 from by decide, show (127 : Int32).toInt = 127 from by decide]
  omega
/-- A' is A but that each place j of lo .. hi - 1 holds f j -/
def Laid (A A' : Cell) (lo hi : Nat) (f : Nat → Value) : Prop := A'.cls = A.cls ∧ A'.vm = A.vm ∧ A'.slots.size = A.slots.size ∧ ∀ i, A'.slots[i]? = if lo ≤ i ∧ i < hi then some (f i) else A.slots[i]?
theorem Laid.zero (A : Cell) (lo : Nat) (f : Nat → Value) : Laid A A lo (lo + 0) f := ⟨rfl, rfl, rfl, fun i => by rw [if_neg (by omega)]⟩
theorem Laid.step {A Ak : Cell} {lo k : Nat} {f : Nat → Value} {v : Value} (h : Laid A Ak lo k f) (hlo : lo ≤ k) (hk : k < Ak.slots.size) (hv : v = f k) : Laid A (Ak.setSlot k v) lo (k + 1) f := by
  refine ⟨h.1, h.2.1, by simpa [Cell.setSlot] using h.2.2.1, fun i => ?_⟩
  by_cases e : k = i
  · subst e; rw [Cell.slots_setSlot_self v hk, if_pos (by omega), hv]
  · rw [Cell.slots_setSlot_ne v e, h.2.2.2 i]
    by_cases q : lo ≤ i ∧ i < k
    · rw [if_pos q, if_pos (by omega)]
    · rw [if_neg q, if_neg (by omega)]
def U16 : String := "java/lang/StringUTF16"
namespace Cmp5
def yN : MethodName := ⟨"java/lang/StringUTF16", "compress", "([CI[BII)I"⟩
abbrev yB : ByteArray := jdk_52_method_21_code
theorem d0 : decode yB 0 = .ok (.iconst 0, 1) := by decide +kernel
theorem d1 : decode yB 1 = .ok (.istore 5, 2) := by decide +kernel
theorem d3 : decode yB 3 = .ok (.iload 5, 2) := by decide +kernel
theorem d5 : decode yB 5 = .ok (.iload 4, 2) := by decide +kernel
theorem d7 : decode yB 7 = .ok (.if_icmp (.ge) 37, 3) := by decide +kernel
theorem d10 : decode yB 10 = .ok (.aload_n 0, 1) := by decide +kernel
theorem d11 : decode yB 11 = .ok (.iload_n 1, 1) := by decide +kernel
theorem d12 : decode yB 12 = .ok (.caload, 1) := by decide +kernel
theorem d13 : decode yB 13 = .ok (.istore 6, 2) := by decide +kernel
theorem d15 : decode yB 15 = .ok (.iload 6, 2) := by decide +kernel
theorem d17 : decode yB 17 = .ok (.sipush 255, 3) := by decide +kernel
theorem d20 : decode yB 20 = .ok (.if_icmp (.le) 6, 3) := by decide +kernel
theorem d26 : decode yB 26 = .ok (.aload_n 2, 1) := by decide +kernel
theorem d27 : decode yB 27 = .ok (.iload_n 3, 1) := by decide +kernel
theorem d28 : decode yB 28 = .ok (.iload 6, 2) := by decide +kernel
theorem d30 : decode yB 30 = .ok (.i2b, 1) := by decide +kernel
theorem d31 : decode yB 31 = .ok (.bastore, 1) := by decide +kernel
theorem d32 : decode yB 32 = .ok (.iinc 1 1, 3) := by decide +kernel
theorem d35 : decode yB 35 = .ok (.iinc 3 1, 3) := by decide +kernel
theorem d38 : decode yB 38 = .ok (.iinc 5 1, 3) := by decide +kernel
theorem d41 : decode yB 41 = .ok (.goto (-38), 3) := by decide +kernel
theorem d44 : decode yB 44 = .ok (.iload 4, 2) := by decide +kernel
theorem d46 : decode yB 46 = .ok (.ireturn, 1) := by decide +kernel
def site : List Cond := []
def tab : Cond := tabOf yN yB 7 (some .int) site
def P (b : Addr) (A : Cell) (d : Addr) (B : Cell) (o q len : Nat) (args : Array Value) (s : State) : Prop := args = #[.ref b, .int (Int32.ofNat o), .ref d, .int (Int32.ofNat q), .int (Int32.ofNat len)] ∧ Ch b A s ∧ Arr .byte d B s ∧ b ≠ d ∧ o + len ≤ A.slots.size ∧ q + len ≤ B.slots.size ∧ ∀ i, i < len → ¬ 255 < cv A (o + i)
def E (b : Addr) (A : Cell) (d : Addr) (B : Cell) (o q len : Nat) (r : Option Value) (s u : State) : Prop := r = some (.int (Int32.ofNat len)) ∧ ∃ B', Put d B' s u ∧ Laid B B' q (q + len) (fun j => Value.int (lo8 (cv A (o + (j - q)))))
/-- no char of the range above 255: len; the places written hold each char's low byte -/
theorem law (l : Launch) (b : Addr) (A : Cell) (d : Addr) (B : Cell) (o q len : Nat) : Law l yN 5 5 0 0 yB 7 (some .int) site (P b A d B o q len) (E b A d B o q len) (copyLocs d q len) 0 0 := by
  refine Law.of_walk (plainFor_of_name (by decide +kernel)) (by decide +kernel) (by decide +kernel) (by decide) (fun _ _ h => by rw [h.1]; rfl) (fun _ U U' hal hh h => ⟨h.1, h.2.1.mv hal hh, h.2.2.1.mv hal hh, h.2.2.2⟩) (fun r U U' V V' h1 hal h2 h => ⟨h.1, h.2.elim fun B' q => ⟨B', q.1.mv h1 h2, q.2⟩⟩) ?_
  intro p e s m args below meth c s₁ X0 hexec hbytes hml hret hlk hnm hown hh0 W hP
  obtain ⟨rfl, hA, hB, hne, l1, l2, hp⟩ := hP
  have c1 : Steps p.tables e below (s₁.setTop (entryFrame m #[.ref b, .int (Int32.ofNat o), .ref d, .int (Int32.ofNat q), .int (Int32.ofNat len)] 7)) (s₁.setTop (mkF m 0 #[.val (.ref b), .val (.int (Int32.ofNat o)), .val (.ref d), .val (.int (Int32.ofNat q)), .val (.int (Int32.ofNat len)), .unset, .unset] [])) := entry rfl
  have hA0 := hA.1.mv X0.warmed.alike hh0
  have hB0 := hB.mv X0.warmed.alike hh0
  have a31 := hA.1.2.2.2
  have c2 : Steps p.tables e below (s₁.setTop (entryFrame m #[.ref b, .int (Int32.ofNat o), .ref d, .int (Int32.ofNat q), .int (Int32.ofNat len)] 7)) (s₁.setTop (mkF m 3 #[.val (.ref b), .val (.int (Int32.ofNat o)), .val (.ref d), .val (.int (Int32.ofNat q)), .val (.int (Int32.ofNat len)), .val (.int 0), .unset] [])) := c1.trans (by
    refine iconstV X0.here hexec rfl 0 (hb hbytes d0) (by decide) ?_
    refine XS.istore X0.here hexec rfl (hb hbytes d1) rfl rfl ?_
    exact Steps.refl _)
  have loop : ∀ (r i : Nat), i + r = len → ∀ (z : Slot), (z = .unset ∨ ∃ w, z = .val w ∧ w.category = 1) → ∀ (Tl : State) (Bk : Cell), Stand p l e { frames := 0, locals := 0, cells := 0, slots := 0 } s m #[.ref b, .int (Int32.ofNat o), .ref d, .int (Int32.ofNat q), .int (Int32.ofNat len)] below meth c Tl ([] ++ copyLocs d q i) 0 0 → Put d Bk s₁ Tl → Laid B Bk q (q + i) (fun j => Value.int (lo8 (cv A (o + (j - q))))) →
      Steps p.tables e below (s₁.setTop (entryFrame m #[.ref b, .int (Int32.ofNat o), .ref d, .int (Int32.ofNat q), .int (Int32.ofNat len)] 7)) (Tl.setTop (mkF m 3 #[.val (.ref b), .val (.int (Int32.ofNat (o + i))), .val (.ref d), .val (.int (Int32.ofNat (q + i))), .val (.int (Int32.ofNat len)), .val (.int (Int32.ofNat i)), z] [])) → ∃ (T' : State) (B' : Cell) (z' : Slot), Stand p l e { frames := 0, locals := 0, cells := 0, slots := 0 } s m #[.ref b, .int (Int32.ofNat o), .ref d, .int (Int32.ofNat q), .int (Int32.ofNat len)] below meth c T' ([] ++ copyLocs d q len) 0 0 ∧ Put d B' s₁ T' ∧ Laid B B' q (q + len) (fun j => Value.int (lo8 (cv A (o + (j - q))))) ∧
      Steps p.tables e below (s₁.setTop (entryFrame m #[.ref b, .int (Int32.ofNat o), .ref d, .int (Int32.ofNat q), .int (Int32.ofNat len)] 7)) (T'.setTop (mkF m 3 #[.val (.ref b), .val (.int (Int32.ofNat (o + len))), .val (.ref d), .val (.int (Int32.ofNat (q + len))), .val (.int (Int32.ofNat len)), .val (.int (Int32.ofNat len)), z'] [])) := by
    intro r
    induction r with
    | zero =>
      intro i hi z hz Tl Bk Xl pl fl cl
      have hil : i = len := by omega
      rw [hil] at Xl fl cl
      exact ⟨Tl, Bk, z, Xl, pl, fl, cl⟩
    | succ r ih =>
      intro i hi z hz Tl Bk Xl pl fl cl
      have all := X0.warmed.alike.symm.trans Xl.warmed.alike
      have hAl := hA0.keep all (pl.other hne hA0.1)
      have hBk := hB0.like all pl.1 fl.1 fl.2.1 fl.2.2.1
      have hlt : q + i < Bk.slots.size := by rw [fl.2.2.1]; omega
      have c3 : Steps p.tables e below (s₁.setTop (entryFrame m #[.ref b, .int (Int32.ofNat o), .ref d, .int (Int32.ofNat q), .int (Int32.ofNat len)] 7)) (Tl.setTop (mkF m 12 #[.val (.ref b), .val (.int (Int32.ofNat (o + i))), .val (.ref d), .val (.int (Int32.ofNat (q + i))), .val (.int (Int32.ofNat len)), .val (.int (Int32.ofNat i)), z] [.int (Int32.ofNat (o + i)), .ref b])) := cl.trans (by
        refine XS.iload Xl.here hexec rfl (hb hbytes d3) rfl ?_
        refine XS.iload Xl.here hexec rfl (hb hbytes d5) rfl ?_
        refine XS.icmpNo Xl.here hexec rfl (hb hbytes d7) rfl (ii_ge_f (lt32 (by omega) (by omega))) ?_
        refine XS.aloadN Xl.here hexec rfl (hb hbytes d10) rfl rfl ?_
        refine XS.iloadN Xl.here hexec rfl (hb hbytes d11) rfl ?_
        exact Steps.refl _)
      have c4 : Steps p.tables e below (s₁.setTop (entryFrame m #[.ref b, .int (Int32.ofNat o), .ref d, .int (Int32.ofNat q), .int (Int32.ofNat len)] 7)) (Tl.setTop (mkF m 13 #[.val (.ref b), .val (.int (Int32.ofNat (o + i))), .val (.ref d), .val (.int (Int32.ofNat (q + i))), .val (.int (Int32.ofNat len)), .val (.int (Int32.ofNat i)), z] [.int (cv A (o + i))])) := c3.trans (by
        refine Xl.aget hexec hAl rfl (hA.get (i := o + i) (by omega)) rfl rfl (hb hbytes d12) ?_
        exact Steps.refl _)
      have c5 : Steps p.tables e below (s₁.setTop (entryFrame m #[.ref b, .int (Int32.ofNat o), .ref d, .int (Int32.ofNat q), .int (Int32.ofNat len)] 7)) (Tl.setTop (mkF m 15 #[.val (.ref b), .val (.int (Int32.ofNat (o + i))), .val (.ref d), .val (.int (Int32.ofNat (q + i))), .val (.int (Int32.ofNat len)), .val (.int (Int32.ofNat i)), .val (.int (cv A (o + i)))] [])) := c4.trans (by
        refine XS.istoreS Xl.here hexec rfl (hb hbytes d13) rfl rfl hz ?_
        exact Steps.refl _)
      have c6 : Steps p.tables e below (s₁.setTop (entryFrame m #[.ref b, .int (Int32.ofNat o), .ref d, .int (Int32.ofNat q), .int (Int32.ofNat len)] 7)) (Tl.setTop (mkF m 31 #[.val (.ref b), .val (.int (Int32.ofNat (o + i))), .val (.ref d), .val (.int (Int32.ofNat (q + i))), .val (.int (Int32.ofNat len)), .val (.int (Int32.ofNat i)), .val (.int (cv A (o + i)))] [.int (lo8 (cv A (o + i))), .int (Int32.ofNat (q + i)), .ref d])) := c5.trans (by
        refine XS.iload Xl.here hexec rfl (hb hbytes d15) rfl ?_
        refine sipushV Xl.here hexec rfl 255 (hb hbytes d17) (by decide) ?_
        refine XS.icmpYes Xl.here hexec rfl (pc0 := 20) rfl (hb hbytes d20) rfl (ii_le_t (hp i (by omega))) (by decide) rfl ?_
        refine XS.aloadN Xl.here hexec rfl (hb hbytes d26) rfl rfl ?_
        refine XS.iloadN Xl.here hexec rfl (hb hbytes d27) rfl ?_
        refine XS.iload Xl.here hexec rfl (hb hbytes d28) rfl ?_
        refine i2b Xl.here hexec rfl (hb hbytes d30) rfl ?_
        exact Steps.refl _)
      obtain ⟨T7, X7, p7, st7⟩ := Xl.aput hexec hBk rfl hlt rfl (fits_lo8 (cv A (o + i))) (g := (mkF m 31 #[.val (.ref b), .val (.int (Int32.ofNat (o + i))), .val (.ref d), .val (.int (Int32.ofNat (q + i))), .val (.int (Int32.ofNat len)), .val (.int (Int32.ofNat i)), .val (.int (cv A (o + i)))] [.int (lo8 (cv A (o + i))), .int (Int32.ofNat (q + i)), .ref d])) rfl (rest := []) rfl (hb hbytes d31)
      have c8 : Steps p.tables e below (s₁.setTop (entryFrame m #[.ref b, .int (Int32.ofNat o), .ref d, .int (Int32.ofNat q), .int (Int32.ofNat len)] 7)) (T7.setTop (mkF m 32 #[.val (.ref b), .val (.int (Int32.ofNat (o + i))), .val (.ref d), .val (.int (Int32.ofNat (q + i))), .val (.int (Int32.ofNat len)), .val (.int (Int32.ofNat i)), .val (.int (cv A (o + i)))] [])) := c6.trans (st7 _ (Steps.refl _))
      have c9 : Steps p.tables e below (s₁.setTop (entryFrame m #[.ref b, .int (Int32.ofNat o), .ref d, .int (Int32.ofNat q), .int (Int32.ofNat len)] 7)) (T7.setTop (mkF m 3 #[.val (.ref b), .val (.int (Int32.ofNat (o + i) + 1)), .val (.ref d), .val (.int (Int32.ofNat (q + i) + 1)), .val (.int (Int32.ofNat len)), .val (.int (Int32.ofNat i + 1)), .val (.int (cv A (o + i)))] [])) := c8.trans (by
        refine iincV X7.here hexec rfl 1 (hb hbytes d32) (by decide) rfl rfl ?_
        refine iincV X7.here hexec rfl 1 (hb hbytes d35) (by decide) rfl rfl ?_
        refine iincV X7.here hexec rfl 1 (hb hbytes d38) (by decide) rfl rfl ?_
        refine XS.goto X7.here hexec rfl (pc0 := 41) rfl (hb hbytes d41) (by decide) rfl ?_
        exact Steps.refl _)
      have c10 : Steps p.tables e below (s₁.setTop (entryFrame m #[.ref b, .int (Int32.ofNat o), .ref d, .int (Int32.ofNat q), .int (Int32.ofNat len)] 7)) (T7.setTop (mkF m 3 #[.val (.ref b), .val (.int (Int32.ofNat (o + (i + 1)))), .val (.ref d), .val (.int (Int32.ofNat (q + (i + 1)))), .val (.int (Int32.ofNat len)), .val (.int (Int32.ofNat (i + 1))), .val (.int (cv A (o + i)))] [])) := by
        have := c9
        rw [succ32, succ32, succ32] at this
        exact this
      exact ih (i + 1) (by omega) _ (Or.inr ⟨_, rfl, rfl⟩) T7 _ (by rw [copyLocs_step, ← List.append_assoc]; exact X7) (pl.trans p7) (fl.step (by omega) hlt (by simp)) c10
  obtain ⟨T9, B9, z9, X9, p9, f9, g9⟩ := loop len 0 (by omega) .unset (Or.inl rfl) s₁ B (by simpa [copyLocs] using X0) ⟨hB0.1, fun _ _ => rfl, rfl⟩ (Laid.zero _ _ _) c2
  have c11 : Steps p.tables e below (s₁.setTop (entryFrame m #[.ref b, .int (Int32.ofNat o), .ref d, .int (Int32.ofNat q), .int (Int32.ofNat len)] 7)) (T9.setTop (mkF m 46 #[.val (.ref b), .val (.int (Int32.ofNat (o + len))), .val (.ref d), .val (.int (Int32.ofNat (q + len))), .val (.int (Int32.ofNat len)), .val (.int (Int32.ofNat len)), z9] [.int (Int32.ofNat len)])) := g9.trans (by
    refine XS.iload X9.here hexec rfl (hb hbytes d3) rfl ?_
    refine XS.iload X9.here hexec rfl (hb hbytes d5) rfl ?_
    refine XS.icmpYes X9.here hexec rfl (pc0 := 7) rfl (hb hbytes d7) rfl (ii_ge_t (nlt32 (by omega) (Nat.le_refl _))) (by decide) rfl ?_
    refine XS.iload X9.here hexec rfl (hb hbytes d44) rfl ?_
    exact Steps.refl _)
  exact ⟨T9, some (.int (Int32.ofNat len)), _, _, _, X9, by simp, rfl, rfl, (fun h => by cases h), ⟨rfl, B9, p9.from hh0, f9⟩, fun fs hl => c11.trans (X9.ireturnOut hexec hret rfl (Or.inl rfl) (hb hbytes d46) hl)⟩
end Cmp5
namespace Cmp3
def yN : MethodName := ⟨"java/lang/StringUTF16", "compress", "([CII)[B"⟩
abbrev yB : ByteArray := jdk_52_method_16_code
theorem d0 : decode yB 0 = .ok (.iload_n 2, 1) := by decide +kernel
theorem d1 : decode yB 1 = .ok (.newarray .byte, 2) := by decide +kernel
theorem d3 : decode yB 3 = .ok (.astore_n 3, 1) := by decide +kernel
theorem d4 : decode yB 4 = .ok (.aload_n 0, 1) := by decide +kernel
theorem d5 : decode yB 5 = .ok (.iload_n 1, 1) := by decide +kernel
theorem d6 : decode yB 6 = .ok (.aload_n 3, 1) := by decide +kernel
theorem d7 : decode yB 7 = .ok (.iconst 0, 1) := by decide +kernel
theorem d8 : decode yB 8 = .ok (.iload_n 2, 1) := by decide +kernel
theorem d9 : decode yB 9 = .ok (.invokestatic 115, 3) := by decide +kernel
theorem d12 : decode yB 12 = .ok (.istore 4, 2) := by decide +kernel
theorem d14 : decode yB 14 = .ok (.iload 4, 2) := by decide +kernel
theorem d16 : decode yB 16 = .ok (.iload_n 2, 1) := by decide +kernel
theorem d17 : decode yB 17 = .ok (.if_icmp (.eq) 40, 3) := by decide +kernel
theorem d57 : decode yB 57 = .ok (.aload_n 3, 1) := by decide +kernel
theorem d58 : decode yB 58 = .ok (.areturn, 1) := by decide +kernel
def site : List Cond := [.arrayClass .byte, Cmp5.tab] ++ staticW U16 115 Cmp5.yN
def tab : Cond := tabOf yN yB 6 (some (.array .byte)) site
def P (b : Addr) (A : Cell) (o len : Nat) (args : Array Value) (s : State) : Prop := args = #[.ref b, .int (Int32.ofNat o), .int (Int32.ofNat len)] ∧ Ch b A s ∧ o + len ≤ A.slots.size ∧ len ≤ 536870912 ∧ ∀ i, i < len → ¬ 255 < cv A (o + i)
def E (b : Addr) (A : Cell) (o len : Nat) (r : Option Value) (s u : State) : Prop := NewArr .byte "[B" len (fun j => .int (lo8 (cv A (o + j)))) r s u ∧ u.heap.size = s.heap.size + 1
/-- no char of the range above 255: a new byte[] of their low bytes -/
theorem law (l : Launch) (b : Addr) (A : Cell) (o len : Nat) : Law l yN 3 3 1 18 yB 6 (some (.array .byte)) site (P b A o len) (E b A o len) [] 1 len := by
  refine Law.of_walk (plainFor_of_name (by decide +kernel)) (by decide +kernel) (by decide +kernel) (by decide) (fun _ _ h => by rw [h.1]; rfl) (fun _ U U' hal hh h => ⟨h.1, h.2.1.mv hal hh, h.2.2⟩) (fun r U U' V V' h1 hal h2 h => ⟨NewArr.mv r U U' V V' h1 hal h2 h.1, by rw [h1, h2]; exact h.2⟩) ?_
  intro p e s m args below meth c s₁ X0 hexec hbytes hml hret hlk hnm hown hh0 W hP
  obtain ⟨rfl, hA, l1, l2, hp⟩ := hP
  have a31 := hA.1.2.2.2
  have c1 : Steps p.tables e below (s₁.setTop (entryFrame m #[.ref b, .int (Int32.ofNat o), .int (Int32.ofNat len)] 6)) (s₁.setTop (mkF m 0 #[.val (.ref b), .val (.int (Int32.ofNat o)), .val (.int (Int32.ofNat len)), .unset, .unset, .unset] [])) := entry rfl
  have c2 : Steps p.tables e below (s₁.setTop (entryFrame m #[.ref b, .int (Int32.ofNat o), .int (Int32.ofNat len)] 6)) (s₁.setTop (mkF m 1 #[.val (.ref b), .val (.int (Int32.ofNat o)), .val (.int (Int32.ofNat len)), .unset, .unset, .unset] [.int (Int32.ofNat len)])) := c1.trans (by
    refine XS.iloadN X0.here hexec rfl (hb hbytes d0) rfl ?_
    exact Steps.refl _)
  obtain ⟨T3, B3, X3, ba3, bs3, bv3, bh3, bf3, st3⟩ := X0.anew hexec (atype := .byte) (wk W (.arrayClass .byte)) rfl (by show len * 1 ≤ _; omega) (by omega) (g := (mkF m 1 #[.val (.ref b), .val (.int (Int32.ofNat o)), .val (.int (Int32.ofNat len)), .unset, .unset, .unset] [.int (Int32.ofNat len)])) rfl (hb hbytes d1) (rest := []) rfl (Nat.le_refl _) (by show 0 + len ≤ len; omega)
  rw [hh0] at ba3 st3
  have kp3 : XT.Kept s T3 := (XT.Kept.of_eq hh0).push bh3
  have hA3 := hA.keep X3.warmed.alike (kp3 _ _ hA.1.1)
  have hne : b ≠ s.heap.size := hA.1.ne
  have c4 : Steps p.tables e below (s₁.setTop (entryFrame m #[.ref b, .int (Int32.ofNat o), .int (Int32.ofNat len)] 6)) (T3.setTop (mkF m 3 #[.val (.ref b), .val (.int (Int32.ofNat o)), .val (.int (Int32.ofNat len)), .unset, .unset, .unset] [.ref s.heap.size])) := c2.trans (st3 _ (Steps.refl _))
  have c5 : Steps p.tables e below (s₁.setTop (entryFrame m #[.ref b, .int (Int32.ofNat o), .int (Int32.ofNat len)] 6)) (T3.setTop (mkF m 9 #[.val (.ref b), .val (.int (Int32.ofNat o)), .val (.int (Int32.ofNat len)), .val (.ref s.heap.size), .unset, .unset] [.int (Int32.ofNat len), .int 0, .ref s.heap.size, .int (Int32.ofNat o), .ref b])) := c4.trans (by
    refine XS.astoreN X3.here hexec rfl (hb hbytes d3) rfl rfl rfl ?_
    refine XS.aloadN X3.here hexec rfl (hb hbytes d4) rfl rfl ?_
    refine XS.iloadN X3.here hexec rfl (hb hbytes d5) rfl ?_
    refine XS.aloadN X3.here hexec rfl (hb hbytes d6) rfl rfl ?_
    refine iconstV X3.here hexec rfl 0 (hb hbytes d7) (by decide) ?_
    refine XS.iloadN X3.here hexec rfl (hb hbytes d8) rfl ?_
    exact Steps.refl _)
  obtain ⟨v6, T6, X6, E6, g6⟩ := X3.callS hexec (Cmp5.law l b A s.heap.size B3 o 0 len) hown (wks W (staticW U16 115 Cmp5.yN)) (wk W Cmp5.tab) (W := 0) (Nat.le_of_ble_eq_true rfl) (Nat.le_of_ble_eq_true rfl) (Nat.le_refl _) (by show 0 + len + 0 ≤ len; omega) (g := (mkF m 9 #[.val (.ref b), .val (.int (Int32.ofNat o)), .val (.int (Int32.ofNat len)), .val (.ref s.heap.size), .unset, .unset] [.int (Int32.ofNat len), .int (Int32.ofNat 0), .ref s.heap.size, .int (Int32.ofNat o), .ref b])) rfl (by rw [hml]; rfl) c5 (argsL := [.ref b, .int (Int32.ofNat o), .ref s.heap.size, .int (Int32.ofNat 0), .int (Int32.ofNat len)]) (rest := []) rfl rfl (by show 2 * 0 + 0 ≤ _; decide) (hb hbytes d9) (⟨rfl, hA3, ba3, hne, l1, by rw [bs3]; simp, hp⟩)
  obtain ⟨rfl, B6, p6, f6⟩ := E6
  have c7 : Steps p.tables e below (s₁.setTop (entryFrame m #[.ref b, .int (Int32.ofNat o), .int (Int32.ofNat len)] 6)) (T6.setTop (mkF m 12 #[.val (.ref b), .val (.int (Int32.ofNat o)), .val (.int (Int32.ofNat len)), .val (.ref s.heap.size), .unset, .unset] [.int (Int32.ofNat len)])) := g6
  have c8 : Steps p.tables e below (s₁.setTop (entryFrame m #[.ref b, .int (Int32.ofNat o), .int (Int32.ofNat len)] 6)) (T6.setTop (mkF m 58 #[.val (.ref b), .val (.int (Int32.ofNat o)), .val (.int (Int32.ofNat len)), .val (.ref s.heap.size), .val (.int (Int32.ofNat len)), .unset] [.ref s.heap.size])) := c7.trans (by
    refine XS.istore X6.here hexec rfl (hb hbytes d12) rfl rfl ?_
    refine XS.iload X6.here hexec rfl (hb hbytes d14) rfl ?_
    refine XS.iloadN X6.here hexec rfl (hb hbytes d16) rfl ?_
    refine XS.icmpYes X6.here hexec rfl (pc0 := 17) rfl (hb hbytes d17) rfl (ii_eq_t rfl) (by decide) rfl ?_
    refine XS.aloadN X6.here hexec rfl (hb hbytes d57) rfl rfl ?_
    exact Steps.refl _)
  have X8 := X6.wide (L' := []) (cells' := 1) (slots' := len) (fun x hx hlt => by
    simp only [List.nil_append, copyLocs, List.mem_map, List.mem_range] at hx
    obtain ⟨i, -, rfl⟩ := hx
    exact absurd hlt (Nat.lt_irrefl _)) (Nat.le_refl _) (by omega)
  exact ⟨T6, some (.ref s.heap.size), _, _, _, X8, rfl, rfl, rfl, (fun h => by cases h), ⟨⟨rfl, B6, ba3.like (X3.warmed.alike.symm.trans X6.warmed.alike) p6.1 f6.1 f6.2.1 f6.2.2.1, f6.2.1.trans bv3, by rw [X6.warmed.alike.findClass, f6.1]; exact bf3, by rw [f6.2.2.1, bs3]; simp, fun j hj => by rw [f6.2.2.2 j, if_pos (by omega)]; rfl, kp3.put p6 (Nat.le_refl _)⟩, by rw [p6.2.2, bh3, hh0]; simp⟩, fun fs hl => c8.trans (X8.areturnOut hexec rfl hret rfl (hb hbytes d58) hl)⟩
end Cmp3
namespace CodL
def yN : MethodName := ⟨"java/lang/StringUTF16", "coderFromArrayLen", "([BI)B"⟩
abbrev yB : ByteArray := jdk_52_method_15_code
theorem d0 : decode yB 0 = .ok (.iload_n 1, 1) := by decide +kernel
theorem d1 : decode yB 1 = .ok (.aload_n 0, 1) := by decide +kernel
theorem d2 : decode yB 2 = .ok (.arraylength, 1) := by decide +kernel
theorem d3 : decode yB 3 = .ok (.isub, 1) := by decide +kernel
theorem d4 : decode yB 4 = .ok (.bipush 31, 2) := by decide +kernel
theorem d6 : decode yB 6 = .ok (.iushr, 1) := by decide +kernel
theorem d7 : decode yB 7 = .ok (.i2b, 1) := by decide +kernel
theorem d8 : decode yB 8 = .ok (.ireturn, 1) := by decide +kernel
def site : List Cond := []
def tab : Cond := tabOf yN yB 2 (some .byte) site
def P (d : Addr) (B : Cell) (args : Array Value) (s : State) : Prop := args = #[.ref d, .int (Int32.ofNat B.slots.size)] ∧ Arr .byte d B s
def E (r : Option Value) (s u : State) : Prop := XT.PureE (some (.int 0)) r s u
/-- an array as long as the number of chars: LATIN1 -/
theorem law (l : Launch) (d : Addr) (B : Cell) : Law l yN 2 2 0 0 yB 2 (some .byte) site (P d B) E [] 0 0 := by
  refine Law.of_walk (plainFor_of_name (by decide +kernel)) (by decide +kernel) (by decide +kernel) (by decide) (fun _ _ h => by rw [h.1]; rfl) (fun _ U U' hal hh h => ⟨h.1, h.2.mv hal hh⟩) (fun r U U' V V' h1 hal h2 h => XT.PureE.mv r U U' V V' h1 hal h2 h) ?_
  intro p e s m args below meth c s₁ X0 hexec hbytes hml hret hlk hnm hown hh0 W hP
  obtain ⟨rfl, hB⟩ := hP
  have hB0 := hB.mv X0.warmed.alike hh0
  have c1 : Steps p.tables e below (s₁.setTop (entryFrame m #[.ref d, .int (Int32.ofNat B.slots.size)] 2)) (s₁.setTop (mkF m 0 #[.val (.ref d), .val (.int (Int32.ofNat B.slots.size))] [])) := entry rfl
  have c2 : Steps p.tables e below (s₁.setTop (entryFrame m #[.ref d, .int (Int32.ofNat B.slots.size)] 2)) (s₁.setTop (mkF m 2 #[.val (.ref d), .val (.int (Int32.ofNat B.slots.size))] [.ref d, .int (Int32.ofNat B.slots.size)])) := c1.trans (by
    refine XS.iloadN X0.here hexec rfl (hb hbytes d0) rfl ?_
    refine XS.aloadN X0.here hexec rfl (hb hbytes d1) rfl rfl ?_
    exact Steps.refl _)
  have c3 : Steps p.tables e below (s₁.setTop (entryFrame m #[.ref d, .int (Int32.ofNat B.slots.size)] 2)) (s₁.setTop (mkF m 8 #[.val (.ref d), .val (.int (Int32.ofNat B.slots.size))] [.int (lo8 (ushr (Int32.ofNat B.slots.size - Int32.ofNat B.slots.size) 31))])) := c2.trans (by
    refine X0.alen hexec hB0 rfl rfl (hb hbytes d2) ?_
    refine XS.isub X0.here hexec rfl (hb hbytes d3) rfl ?_
    refine bipushV X0.here hexec rfl 31 (hb hbytes d4) (by decide) ?_
    refine iushr X0.here hexec rfl (hb hbytes d6) rfl ?_
    refine i2b X0.here hexec rfl (hb hbytes d7) rfl ?_
    exact Steps.refl _)
  have e0 : lo8 (ushr (Int32.ofNat B.slots.size - Int32.ofNat B.slots.size) 31) = 0 := by rw [Int32.sub_self]; decide
  rw [e0] at c3
  exact ⟨s₁, some (.int 0), _, _, _, X0, rfl, rfl, rfl, (fun h => by cases h), ⟨rfl, hh0⟩, fun fs hl => c3.trans (X0.ireturnOut hexec hret rfl (Or.inr (Or.inr (Or.inl rfl))) (hb hbytes d8) hl)⟩
end CodL
/-- the String at a is Latin-1 over a new byte[] (the heap's one new cell): the low bytes of the len chars of A from o on; every cell but a is kept -/
def Got (a : Addr) (D : Cell) (fV fC : Field) (A : Cell) (o len : Nat) (r : Option Value) (s u : State) : Prop := r = none ∧ ∃ D' V : Cell, Blank "java/lang/String" a D' u ∧ Same D D' [fV.slot, fC.slot] ∧ D'.slots[fV.slot]? = some (.ref s.heap.size) ∧ D'.slots[fC.slot]? = some (.int 0) ∧ Arr .byte s.heap.size V u ∧ V.vm = .none ∧ u.vm.findClass "[B" = some V.cls ∧ V.slots.size = len ∧ (∀ j, j < len → V.slots[j]? = some (.int (lo8 (cv A (o + j))))) ∧ (∀ (y : Addr) (c : Cell), y ≠ a → s.heap[y]? = some c → u.heap[y]? = some c) ∧ u.heap.size = s.heap.size + 1
theorem Got.mv {a : Addr} {D A : Cell} {fV fC : Field} {o len : Nat} : ∀ r (U U' V V' : State), U'.heap = U.heap → V.vm.Alike V'.vm → V'.heap = V.heap → Got a D fV fC A o len r U V → Got a D fV fC A o len r U' V' :=
  fun r U U' V V' h1 hal h2 ⟨e0, D', X, a1, a2, a3, a4, a5, a6, a7, a8, a9, a10, a11⟩ => ⟨e0, D', X, a1.mv hal h2, a2, by rw [h1]; exact a3, a4, by rw [h1]; exact a5.mv hal h2, a6, by rw [hal.findClass]; exact a7, a8, a9, by rw [h1, h2]; exact a10, by rw [h1, h2]; exact a11⟩
namespace New4
def yN : MethodName := ⟨"java/lang/String", "<init>", "([CIILjava/lang/Void;)V"⟩
abbrev yB : ByteArray := jdk_42_method_149_code
theorem d0 : decode yB 0 = .ok (.aload_n 0, 1) := by decide +kernel
theorem d1 : decode yB 1 = .ok (.invokespecial 1, 3) := by decide +kernel
theorem d4 : decode yB 4 = .ok (.iload_n 3, 1) := by decide +kernel
theorem d5 : decode yB 5 = .ok (.ifCond (.ne) 22, 3) := by decide +kernel
theorem d27 : decode yB 27 = .ok (.getstatic 38, 3) := by decide +kernel
theorem d30 : decode yB 30 = .ok (.ifCond (.eq) 28, 3) := by decide +kernel
theorem d33 : decode yB 33 = .ok (.aload_n 1, 1) := by decide +kernel
theorem d34 : decode yB 34 = .ok (.iload_n 2, 1) := by decide +kernel
theorem d35 : decode yB 35 = .ok (.iload_n 3, 1) := by decide +kernel
theorem d36 : decode yB 36 = .ok (.invokestatic 177, 3) := by decide +kernel
theorem d39 : decode yB 39 = .ok (.astore 5, 2) := by decide +kernel
theorem d41 : decode yB 41 = .ok (.aload_n 0, 1) := by decide +kernel
theorem d42 : decode yB 42 = .ok (.aload 5, 2) := by decide +kernel
theorem d44 : decode yB 44 = .ok (.iload_n 3, 1) := by decide +kernel
theorem d45 : decode yB 45 = .ok (.invokestatic 47, 3) := by decide +kernel
theorem d48 : decode yB 48 = .ok (.putfield 15, 3) := by decide +kernel
theorem d51 : decode yB 51 = .ok (.aload_n 0, 1) := by decide +kernel
theorem d52 : decode yB 52 = .ok (.aload 5, 2) := by decide +kernel
theorem d54 : decode yB 54 = .ok (.putfield 9, 3) := by decide +kernel
theorem d57 : decode yB 57 = .ok (.return_, 1) := by decide +kernel
def site : List Cond := [.fieldLink "java/lang/String" 38 "java/lang/String" "COMPACT_STRINGS" "Z", Cmp3.tab, CodL.tab, .laysFinal "java/lang/String" "java/lang/String" "value" "[B", .fieldLink "java/lang/String" 9 "java/lang/String" "value" "[B", .laysFinal "java/lang/String" "java/lang/String" "coder" "B", .fieldLink "java/lang/String" 15 "java/lang/String" "coder" "B"] ++ objW "java/lang/String" 1 ++ staticW "java/lang/String" 177 Cmp3.yN ++ staticW "java/lang/String" 47 CodL.yN
def tab : Cond := tabOf yN yB 6 none site
def P (a : Addr) (D : Cell) (fV fC : Field) (b : Addr) (A : Cell) (z : Int32) (o len : Nat) (args : Array Value) (s : State) : Prop := args = #[.ref a, .ref b, .int (Int32.ofNat o), .int (Int32.ofNat len), .null] ∧ Blank "java/lang/String" a D s ∧ Found "java/lang/String" "value" "[B" fV s ∧ Found "java/lang/String" "coder" "B" fC s ∧ Ch b A s ∧ StaticIs s "java/lang/String" "COMPACT_STRINGS" "Z" (.int z) ∧ ¬ z = 0 ∧ 0 < len ∧ o + len ≤ A.slots.size ∧ len ≤ 536870912 ∧ ∀ i, i < len → ¬ 255 < cv A (o + i)
def E (a : Addr) (D : Cell) (fV fC : Field) (A : Cell) (o len : Nat) (r : Option Value) (s u : State) : Prop := Got a D fV fC A o len r s u
/-- len > 0, no char of the range above 255: a Latin-1 String of their low bytes -/
theorem law (l : Launch) (a : Addr) (D : Cell) (fV fC : Field) (b : Addr) (A : Cell) (z : Int32) (o len : Nat) : Law l yN 5 4 2 35 yB 6 none site (P a D fV fC b A z o len) (E a D fV fC A o len) [⟨a, fC.slot⟩, ⟨a, fV.slot⟩] 1 len := by
  refine Law.of_walk (plainFor_of_name (by decide +kernel)) (by decide +kernel) (by decide +kernel) (by decide) (fun _ _ h => by rw [h.1]; rfl) (fun _ U U' hal hh h => ⟨h.1, h.2.1.mv hal hh, h.2.2.1.al hal, h.2.2.2.1.al hal, h.2.2.2.2.1.mv hal hh, h.2.2.2.2.2.1.there hal hh, h.2.2.2.2.2.2⟩) (fun r U U' V V' h1 hal h2 h => Got.mv r U U' V V' h1 hal h2 h) ?_
  intro p e s m args below meth c s₁ X0 hexec hbytes hml hret hlk hnm hown hh0 W hP
  obtain ⟨rfl, hB, f1, f2, hA, s1, hz, l0, l1, l2, hp⟩ := hP
  have a31 := hA.1.2.2.2
  have c1 : Steps p.tables e below (s₁.setTop (entryFrame m #[.ref a, .ref b, .int (Int32.ofNat o), .int (Int32.ofNat len), .null] 6)) (s₁.setTop (mkF m 0 #[.val (.ref a), .val (.ref b), .val (.int (Int32.ofNat o)), .val (.int (Int32.ofNat len)), .val .null, .unset] [])) := entry rfl
  have c2 : Steps p.tables e below (s₁.setTop (entryFrame m #[.ref a, .ref b, .int (Int32.ofNat o), .int (Int32.ofNat len), .null] 6)) (s₁.setTop (mkF m 1 #[.val (.ref a), .val (.ref b), .val (.int (Int32.ofNat o)), .val (.int (Int32.ofNat len)), .val .null, .unset] [.ref a])) := c1.trans (by
    refine XS.aloadN X0.here hexec rfl (hb hbytes d0) rfl rfl ?_
    exact Steps.refl _)
  obtain ⟨T3, X3, q3, st3⟩ := X0.oinit hexec hown (wks W (objW "java/lang/String" 1)) (g := (mkF m 1 #[.val (.ref a), .val (.ref b), .val (.int (Int32.ofNat o)), .val (.int (Int32.ofNat len)), .val .null, .unset] [.ref a])) rfl (by rw [hml]; rfl) (rest := []) rfl (hb hbytes d1) (W := 0) (by show 2 * 0 + 0 ≤ _; decide) (Nat.le_of_ble_eq_true rfl) (Nat.le_of_ble_eq_true rfl)
  have hh3 := q3.trans hh0
  have c4 : Steps p.tables e below (s₁.setTop (entryFrame m #[.ref a, .ref b, .int (Int32.ofNat o), .int (Int32.ofNat len), .null] 6)) (T3.setTop (mkF m 27 #[.val (.ref a), .val (.ref b), .val (.int (Int32.ofNat o)), .val (.int (Int32.ofNat len)), .val .null, .unset] [])) := (c2.trans (st3 _ (Steps.refl _))).trans (by
    refine XS.iloadN X3.here hexec rfl (hb hbytes d4) rfl ?_
    refine XS.ifYes X3.here hexec rfl (pc0 := 5) rfl (hb hbytes d5) rfl (i0_ne_t (nz32 (by omega) l0)) (by decide) rfl ?_
    exact Steps.refl _)
  obtain ⟨T5, X5, q5, st5⟩ := X3.sget hexec hown (wk W (.fieldLink "java/lang/String" 38 "java/lang/String" "COMPACT_STRINGS" "Z")) s1 (fun _ _ h => by rw [hh3]; exact h) (g := (mkF m 27 #[.val (.ref a), .val (.ref b), .val (.int (Int32.ofNat o)), .val (.int (Int32.ofNat len)), .val .null, .unset] [])) rfl (hb hbytes d27)
  have hh5 := q5.trans hh3
  have c6 : Steps p.tables e below (s₁.setTop (entryFrame m #[.ref a, .ref b, .int (Int32.ofNat o), .int (Int32.ofNat len), .null] 6)) (T5.setTop (mkF m 30 #[.val (.ref a), .val (.ref b), .val (.int (Int32.ofNat o)), .val (.int (Int32.ofNat len)), .val .null, .unset] [.int z])) := c4.trans (st5 _ (Steps.refl _))
  have c7 : Steps p.tables e below (s₁.setTop (entryFrame m #[.ref a, .ref b, .int (Int32.ofNat o), .int (Int32.ofNat len), .null] 6)) (T5.setTop (mkF m 36 #[.val (.ref a), .val (.ref b), .val (.int (Int32.ofNat o)), .val (.int (Int32.ofNat len)), .val .null, .unset] [.int (Int32.ofNat len), .int (Int32.ofNat o), .ref b])) := c6.trans (by
    refine XS.ifNo X5.here hexec rfl (hb hbytes d30) rfl (i0_eq_f hz) ?_
    refine XS.aloadN X5.here hexec rfl (hb hbytes d33) rfl rfl ?_
    refine XS.iloadN X5.here hexec rfl (hb hbytes d34) rfl ?_
    refine XS.iloadN X5.here hexec rfl (hb hbytes d35) rfl ?_
    exact Steps.refl _)
  obtain ⟨v8, T8, X8, E8, g8⟩ := X5.callS hexec (Cmp3.law l b A o len) hown (wks W (staticW "java/lang/String" 177 Cmp3.yN)) (wk W Cmp3.tab) (W := 0) (Nat.le_of_ble_eq_true rfl) (Nat.le_of_ble_eq_true rfl) (Nat.le_refl _) (by show 0 + len ≤ len; omega) (g := (mkF m 36 #[.val (.ref a), .val (.ref b), .val (.int (Int32.ofNat o)), .val (.int (Int32.ofNat len)), .val .null, .unset] [.int (Int32.ofNat len), .int (Int32.ofNat o), .ref b])) rfl (by rw [hml]; rfl) c7 (argsL := [.ref b, .int (Int32.ofNat o), .int (Int32.ofNat len)]) (rest := []) rfl rfl (by show 2 * 0 + 0 ≤ _; decide) (hb hbytes d36) (⟨rfl, hA.mv X5.warmed.alike hh5, l1, l2, hp⟩)
  obtain ⟨e8, z8⟩ := E8
  obtain ⟨rfl, N, n1, n2, n3, n4, n5, n6⟩ := NewArr.mv _ T5 s _ _ hh5.symm (Vm.Alike.refl _) rfl e8
  rw [hh5] at z8
  have hB1 := hB.keep X8.warmed.alike (n6 _ _ hB.1)
  have hne : s.heap.size ≠ a := (Nat.ne_of_lt (Array.getElem?_eq_some_iff.mp hB.1).1).symm
  have c9 : Steps p.tables e below (s₁.setTop (entryFrame m #[.ref a, .ref b, .int (Int32.ofNat o), .int (Int32.ofNat len), .null] 6)) (T8.setTop (mkF m 39 #[.val (.ref a), .val (.ref b), .val (.int (Int32.ofNat o)), .val (.int (Int32.ofNat len)), .val .null, .unset] [.ref s.heap.size])) := g8
  have c10 : Steps p.tables e below (s₁.setTop (entryFrame m #[.ref a, .ref b, .int (Int32.ofNat o), .int (Int32.ofNat len), .null] 6)) (T8.setTop (mkF m 45 #[.val (.ref a), .val (.ref b), .val (.int (Int32.ofNat o)), .val (.int (Int32.ofNat len)), .val .null, .val (.ref s.heap.size)] [.int (Int32.ofNat N.slots.size), .ref s.heap.size, .ref a])) := by
    have hc : Steps p.tables e below (s₁.setTop (entryFrame m #[.ref a, .ref b, .int (Int32.ofNat o), .int (Int32.ofNat len), .null] 6)) (T8.setTop (mkF m 45 #[.val (.ref a), .val (.ref b), .val (.int (Int32.ofNat o)), .val (.int (Int32.ofNat len)), .val .null, .val (.ref s.heap.size)] [.int (Int32.ofNat len), .ref s.heap.size, .ref a])) := c9.trans (by
      refine XS.astore X8.here hexec rfl (hb hbytes d39) rfl rfl rfl ?_
      refine XS.aloadN X8.here hexec rfl (hb hbytes d41) rfl rfl ?_
      refine XS.aload X8.here hexec rfl (hb hbytes d42) rfl rfl ?_
      refine XS.iloadN X8.here hexec rfl (hb hbytes d44) rfl ?_
      exact Steps.refl _)
    rw [n4]; exact hc
  obtain ⟨v11, T11, X11, E11, g11⟩ := X8.callS hexec (CodL.law l s.heap.size N) hown (wks W (staticW "java/lang/String" 47 CodL.yN)) (wk W CodL.tab) (W := 1) (Nat.le_of_ble_eq_true rfl) (Nat.le_of_ble_eq_true rfl) (Nat.le_refl _) (by show 0 + len + 0 ≤ len; omega) (g := (mkF m 45 #[.val (.ref a), .val (.ref b), .val (.int (Int32.ofNat o)), .val (.int (Int32.ofNat len)), .val .null, .val (.ref s.heap.size)] [.int (Int32.ofNat N.slots.size), .ref s.heap.size, .ref a])) rfl (by rw [hml]; rfl) c10 (argsL := [.ref s.heap.size, .int (Int32.ofNat N.slots.size)]) (rest := [.ref a]) rfl rfl (by show 2 * 0 + (1 + 0) ≤ _; decide) (hb hbytes d45) (⟨rfl, n1⟩)
  obtain ⟨rfl, q11⟩ := E11
  have hB11 := hB1.mv (X8.warmed.alike.symm.trans X11.warmed.alike) q11
  have c12 : Steps p.tables e below (s₁.setTop (entryFrame m #[.ref a, .ref b, .int (Int32.ofNat o), .int (Int32.ofNat len), .null] 6)) (T11.setTop (mkF m 48 #[.val (.ref a), .val (.ref b), .val (.int (Int32.ofNat o)), .val (.int (Int32.ofNat len)), .val .null, .val (.ref s.heap.size)] [.int 0, .ref a])) := g11
  obtain ⟨T13, X13, p13, bl13, sl13, st13⟩ := X11.finit hexec hown (wk W (.fieldLink "java/lang/String" 15 "java/lang/String" "coder" "B")) (Or.inr ⟨_, (wk W (.laysFinal "java/lang/String" "java/lang/String" "coder" "B"))⟩) (Or.inl ⟨rfl, hnm⟩) f2 (Or.inl rfl) hB11 (t := .byte) (by decide +kernel) rfl (g := (mkF m 48 #[.val (.ref a), .val (.ref b), .val (.int (Int32.ofNat o)), .val (.int (Int32.ofNat len)), .val .null, .val (.ref s.heap.size)] [.int 0, .ref a])) rfl (rest := []) rfl (hb hbytes d48)
  have c14 : Steps p.tables e below (s₁.setTop (entryFrame m #[.ref a, .ref b, .int (Int32.ofNat o), .int (Int32.ofNat len), .null] 6)) (T13.setTop (mkF m 54 #[.val (.ref a), .val (.ref b), .val (.int (Int32.ofNat o)), .val (.int (Int32.ofNat len)), .val .null, .val (.ref s.heap.size)] [.ref s.heap.size, .ref a])) := (c12.trans (st13 _ (Steps.refl _))).trans (by
    refine XS.aloadN X13.here hexec rfl (hb hbytes d51) rfl rfl ?_
    refine XS.aload X13.here hexec rfl (hb hbytes d52) rfl rfl ?_
    exact Steps.refl _)
  obtain ⟨T15, X15, p15, bl15, sl15, st15⟩ := X13.finit hexec hown (wk W (.fieldLink "java/lang/String" 9 "java/lang/String" "value" "[B")) (Or.inr ⟨_, (wk W (.laysFinal "java/lang/String" "java/lang/String" "value" "[B"))⟩) (Or.inl ⟨rfl, hnm⟩) f1 (Or.inl rfl) bl13 (t := (.array .byte)) (by decide +kernel) rfl (g := (mkF m 54 #[.val (.ref a), .val (.ref b), .val (.int (Int32.ofNat o)), .val (.int (Int32.ofNat len)), .val .null, .val (.ref s.heap.size)] [.ref s.heap.size, .ref a])) rfl (rest := []) rfl (hb hbytes d54)
  have c16 : Steps p.tables e below (s₁.setTop (entryFrame m #[.ref a, .ref b, .int (Int32.ofNat o), .int (Int32.ofNat len), .null] 6)) (T15.setTop (mkF m 57 #[.val (.ref a), .val (.ref b), .val (.int (Int32.ofNat o)), .val (.int (Int32.ofNat len)), .val .null, .val (.ref s.heap.size)] [])) := c14.trans (st15 _ (Steps.refl _))
  have ap := apart (Or.inr ⟨_, (wk W (.laysFinal "java/lang/String" "java/lang/String" "value" "[B"))⟩) (Or.inr ⟨_, (wk W (.laysFinal "java/lang/String" "java/lang/String" "coder" "B"))⟩) f1 f2 (t₁ := .array .byte) (t₂ := .byte) (by decide +kernel) (by decide +kernel) (by decide)
  have al := X8.warmed.alike.symm.trans X15.warmed.alike
  have n7 : T11.heap[s.heap.size]? = some N := by rw [q11]; exact n1.1
  exact ⟨T15, none, _, _, _, X15, by simp, rfl, by omega, (fun _ => rfl), ⟨rfl, _, N, bl15, ((Same.refl D _).set _ (by simp)).set _ (by simp), sl15, (Cell.slots_setSlot_ne _ ap).trans sl13, n1.keep al (p15.other hne (p13.other hne n7)), n2, by rw [al.findClass]; exact n3, n4, n5, fun y c h1 h2 => p15.other h1 (p13.other h1 (by rw [q11]; exact n6 y c h2)), by rw [p15.2.2, p13.2.2, q11]; exact z8⟩, fun fs hl => c16.trans (X15.returnOut hexec hret (hb hbytes d57) hl)⟩
end New4
namespace New1
def yN : MethodName := ⟨"java/lang/String", "<init>", "([C)V"⟩
abbrev yB : ByteArray := jdk_42_method_3_code
theorem d0 : decode yB 0 = .ok (.aload_n 0, 1) := by decide +kernel
theorem d1 : decode yB 1 = .ok (.aload_n 1, 1) := by decide +kernel
theorem d2 : decode yB 2 = .ok (.iconst 0, 1) := by decide +kernel
theorem d3 : decode yB 3 = .ok (.aload_n 1, 1) := by decide +kernel
theorem d4 : decode yB 4 = .ok (.arraylength, 1) := by decide +kernel
theorem d5 : decode yB 5 = .ok (.aconst_null, 1) := by decide +kernel
theorem d6 : decode yB 6 = .ok (.invokespecial 27, 3) := by decide +kernel
theorem d9 : decode yB 9 = .ok (.return_, 1) := by decide +kernel
def site : List Cond := [New4.tab] ++ initW "java/lang/String" 27 New4.yN
def tab : Cond := tabOf yN yB 2 none site
def P (a : Addr) (D : Cell) (fV fC : Field) (b : Addr) (A : Cell) (z : Int32) (args : Array Value) (s : State) : Prop := args = #[.ref a, .ref b] ∧ Blank "java/lang/String" a D s ∧ Found "java/lang/String" "value" "[B" fV s ∧ Found "java/lang/String" "coder" "B" fC s ∧ Ch b A s ∧ StaticIs s "java/lang/String" "COMPACT_STRINGS" "Z" (.int z) ∧ ¬ z = 0 ∧ 0 < A.slots.size ∧ A.slots.size ≤ 536870912 ∧ ∀ i, i < A.slots.size → ¬ 255 < cv A i
def E (a : Addr) (D : Cell) (fV fC : Field) (A : Cell) (r : Option Value) (s u : State) : Prop := Got a D fV fC A 0 A.slots.size r s u
/-- new String(chars), not empty, no char above 255: a Latin-1 String of their low bytes -/
theorem law (l : Launch) (a : Addr) (D : Cell) (fV fC : Field) (b : Addr) (A : Cell) (z : Int32) : Law l yN 2 1 3 52 yB 2 none site (P a D fV fC b A z) (E a D fV fC A) [⟨a, fC.slot⟩, ⟨a, fV.slot⟩] 1 A.slots.size := by
  refine Law.of_walk (plainFor_of_name (by decide +kernel)) (by decide +kernel) (by decide +kernel) (by decide) (fun _ _ h => by rw [h.1]; rfl) (fun _ U U' hal hh h => ⟨h.1, h.2.1.mv hal hh, h.2.2.1.al hal, h.2.2.2.1.al hal, h.2.2.2.2.1.mv hal hh, h.2.2.2.2.2.1.there hal hh, h.2.2.2.2.2.2⟩) (fun r U U' V V' h1 hal h2 h => Got.mv r U U' V V' h1 hal h2 h) ?_
  intro p e s m args below meth c s₁ X0 hexec hbytes hml hret hlk hnm hown hh0 W hP
  obtain ⟨rfl, hB, f1, f2, hA, s1, hz, l0, l2, hp⟩ := hP
  have c1 : Steps p.tables e below (s₁.setTop (entryFrame m #[.ref a, .ref b] 2)) (s₁.setTop (mkF m 0 #[.val (.ref a), .val (.ref b)] [])) := entry rfl
  have c2 : Steps p.tables e below (s₁.setTop (entryFrame m #[.ref a, .ref b] 2)) (s₁.setTop (mkF m 6 #[.val (.ref a), .val (.ref b)] [.null, .int (Int32.ofNat A.slots.size), .int 0, .ref b, .ref a])) := c1.trans (by
    refine XS.aloadN X0.here hexec rfl (hb hbytes d0) rfl rfl ?_
    refine XS.aloadN X0.here hexec rfl (hb hbytes d1) rfl rfl ?_
    refine iconstV X0.here hexec rfl 0 (hb hbytes d2) (by decide) ?_
    refine XS.aloadN X0.here hexec rfl (hb hbytes d3) rfl rfl ?_
    refine X0.alen hexec (hA.1.mv X0.warmed.alike hh0) rfl rfl (hb hbytes d4) ?_
    refine XS.aconstNull X0.here hexec rfl (hb hbytes d5) ?_
    exact Steps.refl _)
  obtain ⟨v3, T3, X3, E3, g3⟩ := X0.callN hexec (New4.law l a D fV fC b A z 0 A.slots.size) rfl hown (wks W (initW "java/lang/String" 27 New4.yN)) (W New4.tab (by simp only [site, List.mem_cons, List.mem_append, true_or, or_true])) (W := 0) (Nat.le_of_ble_eq_true rfl) (Nat.le_of_ble_eq_true rfl) (Nat.le_refl _) (by show 0 + A.slots.size ≤ A.slots.size; omega) (g := (mkF m 6 #[.val (.ref a), .val (.ref b)] [.null, .int (Int32.ofNat A.slots.size), .int (Int32.ofNat 0), .ref b, .ref a])) rfl (by rw [hml]; rfl) c2 (argsL := [.ref b, .int (Int32.ofNat 0), .int (Int32.ofNat A.slots.size), .null]) (rest := []) rfl rfl (by show 2 * 0 + 0 ≤ _; decide) (hb hbytes d6) (⟨rfl, hB.mv X0.warmed.alike hh0, f1.al X0.warmed.alike, f2.al X0.warmed.alike, hA.mv X0.warmed.alike hh0, s1.there X0.warmed.alike hh0, hz, l0, by omega, l2, fun i hi => by rw [Nat.zero_add]; exact hp i hi⟩)
  have e0 := Got.mv _ s₁ s _ _ hh0.symm (Vm.Alike.refl _) rfl E3
  obtain rfl := e0.1
  have c4 : Steps p.tables e below (s₁.setTop (entryFrame m #[.ref a, .ref b] 2)) (T3.setTop (mkF m 9 #[.val (.ref a), .val (.ref b)] [])) := g3
  exact ⟨T3, none, _, _, _, X3, by simp, rfl, by omega, (fun _ => rfl), e0, fun fs hl => c4.trans (X3.returnOut hexec hret (hb hbytes d9) hl)⟩
theorem pays {l : Launch} {R : Room} {p : Program} {e : Env} {below : List Frame} {s : State} {sargs : Array Value} {len W : Nat} (a : Addr) (D : Cell) (fV fC : Field) (b : Addr) (A : Cell) (z : Int32) (htab : tab.before sargs s = true) (hfr : 4 ≤ R.frames) (hlo : W + 65 ≤ R.locals) :
    Back l R p e below s sargs yN len W (fun A₁ a₁ => A₁.cells + 1 ≤ R.cells ∧ A₁.slots + A.slots.size ≤ R.slots ∧ P a D fV fC b A z a₁ A₁.U) (fun A₁ _ v₁ B₁ => E a D fV fC A v₁ A₁.U B₁.U ∧ B₁.locs = A₁.locs ++ [⟨a, fC.slot⟩, ⟨a, fV.slot⟩] ∧ B₁.cells = A₁.cells + 1 ∧ B₁.slots = A₁.slots + A.slots.size) :=
  (law l a D fV fC b A z).pays htab hfr (by omega)
end New1
end StrChars
namespace StrChars.Road
open Jvm Sem ClassFile Op Lib Jvm.Stand Jvm.Free Jvm.Free.XT
open Jvm.Lib.Cold (StaticIs)
abbrev ST : String := "java/lang/String"
/-- every table word that New1's law asks, flat -/
abbrev words : List Jvm.Cond := [.code New1.yN New1.yB 2 none, .initialized ST, .methodLink ST 27 New4.yN, .instanceMethod New4.yN,
  .code New4.yN New4.yB 6 none, .fieldLink ST 38 ST "COMPACT_STRINGS" "Z", .laysFinal ST ST "value" "[B", .fieldLink ST 9 ST "value" "[B", .laysFinal ST ST "coder" "B", .fieldLink ST 15 ST "coder" "B",
  .methodLink ST 1 Lib.objectInit, .instanceMethod Lib.objectInit, .code Lib.objectInit ⟨#[0xb1]⟩ 1 none, .methodLink ST 177 Cmp3.yN, .static Cmp3.yN, .methodLink ST 47 CodL.yN, .static CodL.yN,
  .code Cmp3.yN Cmp3.yB 6 (some (.array .byte)), .initialized U16, .arrayClass .byte, .methodLink U16 115 Cmp5.yN, .static Cmp5.yN, .code Cmp5.yN Cmp5.yB 7 (some .int), .code CodL.yN CodL.yB 2 (some .byte)]
theorem tab_of {a : Array Value} {s : State} (h : ∀ w ∈ words, w.before a s = true) : New1.tab.before a s = true := by
  have h5 : Cmp5.tab.before a s = true := unparts (wk h (.code Cmp5.yN Cmp5.yB 7 (some .int))) (wks h (.initialized Cmp5.yN.cls :: Cmp5.site))
  have hc : CodL.tab.before a s = true := unparts (wk h (.code CodL.yN CodL.yB 2 (some .byte))) (wks h (.initialized CodL.yN.cls :: CodL.site))
  have q5 : ∀ w ∈ Cmp5.tab :: words, w.before a s = true := fun w hw => (List.mem_cons.mp hw).elim (fun e => e ▸ h5) (h w)
  have h3 : Cmp3.tab.before a s = true := unparts (wk q5 (.code Cmp3.yN Cmp3.yB 6 (some (.array .byte)))) (wks q5 (.initialized Cmp3.yN.cls :: Cmp3.site))
  have q3 : ∀ w ∈ Cmp3.tab :: CodL.tab :: words, w.before a s = true := fun w hw => (List.mem_cons.mp hw).elim (fun e => e ▸ h3) fun hw => (List.mem_cons.mp hw).elim (fun e => e ▸ hc) (h w)
  have h4 : New4.tab.before a s = true := unparts (wk q3 (.code New4.yN New4.yB 6 none)) (wks q3 (.initialized New4.yN.cls :: New4.site))
  have q4 : ∀ w ∈ New4.tab :: words, w.before a s = true := fun w hw => (List.mem_cons.mp hw).elim (fun e => e ▸ h4) (h w)
  exact unparts (wk q4 (.code New1.yN New1.yB 2 none)) (wks q4 (.initialized New1.yN.cls :: New1.site))
/-- the words ride from the start Z to the walk's own state -/
theorem moved {Z s : State} {a0 args : Array Value} (hZ : Z.Warmed39 s.vm) (hw : ∀ d ∈ words, d.before a0 Z = true) : ∀ d ∈ words, d.before args s = true := fun d hd => by
  have q := hw d hd
  have t : ∀ d ∈ words, d = .arrayClass .byte ∨ (d.onTables && d.keepsFace) = true := by decide +kernel
  rcases t d hd with rfl | t
  · exact RoadKit.mvA hZ q
  · exact RoadKit.mv hZ q t
/-- WHAT COMES BACK, over the tables of the start Z: h the heap at the call, h' behind it -/
def Q (Z : State) (x : Addr) (A : Cell) (h : Heap) (v : Option Value) (h' : Heap) (L : List Loc) : Prop := v = none ∧ (∀ y ∈ L, y.base = x) ∧ RoadKit.Keep h h' [x] ∧ h'.size = h.size + 1 ∧ RoadKit.Exa Z h' x ST ∧ RoadKit.Fld Z h' x ST "value" "[B" (.ref h.size) ∧ RoadKit.Fld Z h' x ST "coder" "B" (.int 0) ∧
  (∃ V : Cell, RoadKit.Arr Z h' h.size V .byte ∧ V.vm = .none ∧ Z.vm.findClass "[B" = some V.cls ∧ V.slots.size = A.slots.size ∧ ∀ j, j < A.slots.size → V.slots[j]? = some (.int (lo8 (cv A j)))) ∧
  ∀ (O n d : String) (w : Value), RoadKit.Fld Z h x O n d w → RoadKit.slotOf Z O n d ≠ RoadKit.slotOf Z ST "value" "[B" → RoadKit.slotOf Z O n d ≠ RoadKit.slotOf Z ST "coder" "B" → RoadKit.Fld Z h' x O n d w
/-- **new String(chars) AT A CALL, IN THE ROAD'S FORM**: for specialBack behind newO: x the fresh String, b the char[] with the cell A -/
theorem back {p : Program} {l : Launch} {e : Env} {R : Room} {s : State} {args : Array Value} {below : List Frame} {len W : Nat} {Z : State} {a0 : Array Value} {h : Heap} (hZ : Z.Warmed39 s.vm) (hw : ∀ d ∈ words, d.before a0 Z = true) {kI : Nat} (wi : (Jvm.Cond.instantiable ST kI).before a0 Z = true)
    {x b : Addr} {A : Cell} {z : Int32} {v0 c0 : Value} (E : RoadKit.Exa Z h x ST) (V : RoadKit.Fld Z h x ST "value" "[B" v0) (C : RoadKit.Fld Z h x ST "coder" "B" c0) (K : RoadKit.Arr Z h b A .char) (hty : Typed .char A) (S : RoadKit.Sta Z h ST "COMPACT_STRINGS" "Z" (.int z)) (hz : ¬ z = 0)
    (l0 : 0 < A.slots.size) (l2 : A.slots.size ≤ 536870912) (hp : ∀ i, i < A.slots.size → ¬ 255 < cv A i) (hfr : 4 ≤ R.frames) (hlo : W + 65 ≤ R.locals) :
    Back l R p e below s args New1.yN len W (fun P a => a = #[.ref x, .ref b] ∧ P.U.heap = h ∧ P.cells + 1 ≤ R.cells ∧ P.slots + A.slots.size ≤ R.slots)
      (fun P _ v B => ∃ L, Q Z x A h v B.U.heap L ∧ B.locs = P.locs ++ L ∧ B.cells = P.cells + 1 ∧ B.slots = P.slots + A.slots.size) := by
  intro m meth c P g ig mk a X hg hsize hdg hW hn hp'
  obtain ⟨rfl, rfl, r1, r2⟩ := hp'
  have al : Z.vm.Alike P.U.vm := hZ.alike.trans X.warmed.alike
  obtain ⟨D, cfV, kV, iV, fV, hD, gV, stV, knV, obV, asV, slV⟩ := id V
  obtain ⟨D', cfC, kC, iC, fC, hD', gC, stC, -, -, asC, slC⟩ := id C
  cases hD.symm.trans hD'
  obtain ⟨D2, kD, e1, e2, e3, e4, e5⟩ := id E
  cases hD.symm.trans e1
  obtain ⟨c2, k2, i1, i2, i3, -⟩ := Cond.instantiable_spec wi
  cases e2.symm.trans i1
  cases e3.symm.trans i2
  obtain ⟨kU, u1, u2⟩ := al.2.2 _ _ e3
  have hB : Blank ST x D P.U := ⟨hD, ⟨knV, fun q hq => by rw [hq] at obV; cases obV⟩, by rw [al.findClass]; exact e2, kU, u1, by rw [u2]; exact i3, by rw [u2]; exact e5 i3⟩
  have F1 : Found ST "value" "[B" fV P.U := ⟨SBG.found_only al ⟨cfV, kV, iV, gV⟩, stV⟩
  have F2 : Found ST "coder" "B" fC P.U := ⟨SBG.found_only al ⟨cfC, kC, iC, gC⟩, stC⟩
  have hA : Ch b A P.U := ⟨⟨K.1, State.isArrayOf_alike al K.2.1, K.2.2, by omega⟩, hty⟩
  have hS : StaticIs P.U ST "COMPACT_STRINGS" "Z" (.int z) := by
    obtain ⟨cfS, iS, kS, fS, st, cS, t1, t2, t3, t4, t5, t6, t7⟩ := S
    exact StaticIs.there (s := { Z with heap := P.U.heap }) ⟨cfS, iS, kS, fS, st, cS, t1, t2, t3, t4, t5, (fun q => by rw [q] at t6; cases t6), t7⟩ al rfl
  obtain ⟨v, B, X', ⟨⟨hv, E', V', q1, q2, q3, q4, q5, q6, q7, q8, q9, q10, q11⟩, hl, hc, hs⟩, st⟩ := New1.pays x D fV fC b A z (tab_of (moved hZ hw)) hfr hlo m meth c P g ig mk _ X hg hsize hdg hW hn ⟨r1, r2, rfl, hB, F1, F2, hA, hS, hz, l0, l2, hp⟩
  have al' : Z.vm.Alike B.U.vm := hZ.alike.trans X'.warmed.alike
  have hsz : E'.slots.size = D.slots.size := by
    obtain ⟨-, -, -, kB, w1, w2, w3⟩ := q1
    obtain ⟨kB', y1, y2⟩ := al'.2.2 _ _ e3
    rw [q2.2.1] at w1
    cases w1.symm.trans y1
    rw [w3, e5 i3, y2]
  refine ⟨v, B, X', ⟨_, ⟨hv, ?_, ⟨by omega, fun y cy hy hn' => q10 y cy (by simpa using hn') hy, fun y cy hy => ?_⟩, q11, ⟨E', _, q1.1, by rw [q2.2.1]; exact e2, by rw [q2.2.1]; exact e3, by rw [q2.1]; exact obV, fun _ => by rw [hsz]; exact e5 i3⟩,
    ⟨E', cfV, kV, iV, fV, q1.1, gV, stV, by rw [q2.1]; exact knV, by rw [q2.1]; exact obV, by rw [q2.2.1]; exact asV, q3⟩, ⟨E', cfC, kC, iC, fC, q1.1, gC, stC, by rw [q2.1]; exact knV, by rw [q2.1]; exact obV, by rw [q2.2.1]; exact asC, q4⟩,
    ⟨V', ⟨q5.1, State.isArrayOf_alike al'.symm q5.2.1, q5.2.2.1⟩, q6, by rw [← al'.findClass]; exact q7, q8, fun j hj => by have := q9 j hj; rwa [Nat.zero_add] at this⟩, fun O n d w F n1 n2 => ?_⟩, hl, hc, hs⟩, st⟩
  · intro y hy
    simp only [List.mem_cons, List.not_mem_nil, or_false] at hy
    rcases hy with rfl | rfl <;> rfl
  · by_cases q : y = x
    · subst q
      cases hD.symm.trans hy
      exact ⟨E', q1.1, q2.2.1, q2.1, hsz⟩
    · exact ⟨cy, q10 y cy q hy, rfl, rfl, rfl⟩
  · obtain ⟨D3, cf, k, i, f, g1, g2, g3, g4, g5, g6, g7⟩ := F
    cases hD.symm.trans g1
    simp only [RoadKit.slotOf, g2, gV, gC, Option.map_some, Option.getD_some] at n1 n2
    exact ⟨E', cf, k, i, f, q1.1, g2, g3, by rw [q2.1]; exact g4, by rw [q2.1]; exact g5, by rw [q2.2.1]; exact g6, by rw [q2.2.2 f.slot (by simp [n1, n2])]; exact g7⟩
end StrChars.Road
namespace StrChars.Road
open Jvm Sem ClassFile Op Lib Jvm.Stand Jvm.Free Jvm.Free.XT
/-- WHAT COMES BACK, the byte[] as a list of values -/
def QA (Z : State) (x : Addr) (zn : Int32) (cs : List Int32) (h : Heap) (v : Option Value) (h' : Heap) (L : List Loc) : Prop := v = none ∧ (∀ y ∈ L, y.base = x) ∧ RoadKit.Keep h h' [x] ∧ h'.size = h.size + 1 ∧ RoadKit.Exa Z h' x ST ∧ RoadKit.Fld Z h' x ST "value" "[B" (.ref h.size) ∧ RoadKit.Fld Z h' x ST "coder" "B" (.int 0) ∧
  (∃ kb, Z.vm.findClass "[B" = some kb ∧ RoadKit.Arv Z h' h.size kb .byte zn (cs.map fun c => .int (lo8 c)) (.int 0)) ∧
  ∀ (O n d : String) (w : Value), RoadKit.Fld Z h x O n d w → RoadKit.slotOf Z O n d ≠ RoadKit.slotOf Z ST "value" "[B" → RoadKit.slotOf Z O n d ≠ RoadKit.slotOf Z ST "coder" "B" → RoadKit.Fld Z h' x O n d w
/-- **new String(chars) AT A CALL, THE ARRAYS AS LISTS**: the char[] at b holds cs, not empty, no char above 255 -/
theorem backArv {p : Program} {l : Launch} {e : Env} {R : Room} {s : State} {args : Array Value} {below : List Frame} {len W : Nat} {Z : State} {a0 : Array Value} {h : Heap} (hZ : Z.Warmed39 s.vm) (hw : ∀ d ∈ words, d.before a0 Z = true) {kI : Nat} (wi : (Jvm.Cond.instantiable ST kI).before a0 Z = true)
    {x b : Addr} {k : ClassId} {zn z : Int32} {cs : List Int32} {dv v0 c0 : Value} (E : RoadKit.Exa Z h x ST) (V : RoadKit.Fld Z h x ST "value" "[B" v0) (C : RoadKit.Fld Z h x ST "coder" "B" c0) (K : RoadKit.Arv Z h b k .char zn (cs.map Value.int) dv) (S : RoadKit.Sta Z h ST "COMPACT_STRINGS" "Z" (.int z)) (hz : ¬ z = 0)
    (hlen : zn.toNatClampNeg = cs.length) (h0 : 0 < cs.length) (hbig : cs.length ≤ 536870912) (hall : ∀ c ∈ cs, ¬ 255 < c) (hfr : 4 ≤ R.frames) (hlo : W + 65 ≤ R.locals) :
    Back l R p e below s args New1.yN len W (fun P a => a = #[.ref x, .ref b] ∧ P.U.heap = h ∧ P.cells + 1 ≤ R.cells ∧ P.slots + cs.length ≤ R.slots)
      (fun P _ v B => ∃ L, QA Z x zn cs h v B.U.heap L ∧ B.locs = P.locs ++ L ∧ B.cells = P.cells + 1 ∧ B.slots = P.slots + cs.length) := by
  obtain ⟨A, K1, K2, K3, K4, K5, K6⟩ := K
  have e : A.slots.size = cs.length := K3.trans hlen
  have hat : ∀ (i : Nat) (hi : i < cs.length), A.slots[i]? = some (.int cs[i]) := fun i hi => by rw [K5 i (by omega)]; simp [List.getD_eq_getElem?_getD, hi]
  have hcv : ∀ (i : Nat) (hi : i < cs.length), cv A i = cs[i] := fun i hi => by unfold cv; rw [hat i hi]
  have hty : Typed .char A := fun i v hv => by
    have hi : i < A.slots.size := (Array.getElem?_eq_some_iff.mp hv).1
    have q := K5 i hi
    rw [hv] at q
    rw [Option.some.inj q]
    exact K6 i hi
  refine Back.mono (back hZ hw wi E V C K1 hty S hz (by omega) (by omega) (fun i hi => by rw [hcv i (by omega)]; exact hall _ (List.getElem_mem _)) hfr hlo) (fun P a hp => ⟨hp.1, hp.2.1, hp.2.2.1, by rw [e]; exact hp.2.2.2⟩) (fun P a v B hp hq => ?_)
  obtain ⟨L, ⟨q1, q2, q3, q4, q5, q6, q7, ⟨V', v1, v2, v3, v4, v5⟩, q9⟩, hl, hc, hs⟩ := hq
  refine ⟨L, ⟨q1, q2, q3, q4, q5, q6, q7, ⟨V'.cls, v3, V', v1, rfl, by rw [v4, e, hlen], K4, fun i hi => ?_, fun i hi => ?_⟩, q9⟩, hl, hc, by rw [hs, e]⟩
  · have hi' : i < cs.length := by omega
    rw [v5 i (by omega), hcv i hi']; simp [List.getD_eq_getElem?_getD, hi']
  · have hi' : i < cs.length := by omega
    simp only [List.getD_eq_getElem?_getD, List.getElem?_map, List.getElem?_eq_getElem hi', Option.map_some, Option.getD_some]
    exact fits_lo8 _
end StrChars.Road
namespace StrChars.Road
open Jvm Sem ClassFile Op Lib Jvm.Stand Jvm.Free Jvm.Free.XT
/-- WHAT COMES BACK, in the writer's own shape -/
def QV (Z : State) (x : Addr) (N : Int32) (bs : List Int32) (h : Heap) (n0 : Nat) (v : Option Value) (h' : Heap) (L : List Loc) : Prop := v = none ∧ RoadKit.Fr n0 L ∧ RoadKit.Keep h h' [x] ∧ RoadKit.Exa Z h' x ST ∧ RoadKit.Fld Z h' x ST "coder" "B" (.int 0) ∧
  ∃ (t : Addr) (kb : ClassId), n0 ≤ t ∧ h.size ≤ t ∧ ¬ t = x ∧ RoadKit.Fld Z h' x ST "value" "[B" (.ref t) ∧ RoadKit.Arv Z h' t kb .byte N (bs.map Value.int) (.int 0)
/-- **new String(chars) AT A CALL, FOR THE WRITER**: a char[] of n known ints, each 0 to 255 -/
theorem backV {p : Program} {l : Launch} {e : Env} {R : Room} {s : State} {args : Array Value} {below : List Frame} {len W : Nat} {Z : State} {a0 : Array Value} {h : Heap} (hZ : Z.Warmed39 s.vm) (hw : ∀ d ∈ words, d.before a0 Z = true) {kI : Nat} (wi : (Jvm.Cond.instantiable ST kI).before a0 Z = true)
    {x b : Addr} {kC : ClassId} {cs bs : List Int32} {d v0 c0 : Value} {z N : Int32} {n n0 : Nat} (hx0 : n0 ≤ x) (hh0 : n0 ≤ h.size) (E : RoadKit.Exa Z h x ST) (V : RoadKit.Fld Z h x ST "value" "[B" v0) (C : RoadKit.Fld Z h x ST "coder" "B" c0) (K : RoadKit.Arv Z h b kC .char N (cs.map Value.int) d) (S : RoadKit.Sta Z h ST "COMPACT_STRINGS" "Z" (.int z)) (hz : ¬ z = 0)
    (hn : cs.length = n) (hN : N = Int32.ofNat n) (l0 : 0 < n) (l2 : n ≤ 4000) (hp : ∀ c ∈ cs, ¬ c < 0 ∧ ¬ (255 : Int32) < c) (hb : bs = cs.map (fun c => c.toInt8.toInt32)) (hfr : 4 ≤ R.frames) (hlo : W + 65 ≤ R.locals) :
    Back l R p e below s args (⟨"java/lang/String", "<init>", "([C)V"⟩ : MethodName) len W (fun P a => a = #[.ref x, .ref b] ∧ P.U.heap = h ∧ P.cells + 1 ≤ R.cells ∧ P.slots + n ≤ R.slots)
      (fun P _ v B => ∃ L, QV Z x N bs h n0 v B.U.heap L ∧ B.locs = P.locs ++ L ∧ B.cells = P.cells + 1 ∧ B.slots = P.slots + n) := by
  subst hn hN hb
  refine Back.mono (backArv hZ hw wi E V C K S hz (n32 (by omega)) l0 (by omega) (fun c hc => (hp c hc).2) hfr hlo) (fun P a hp => hp) (fun P a v B hp hq => ?_)
  obtain ⟨L, ⟨q1, q2, q3, q4, q5, q6, q7, ⟨kb, v1, v2⟩, q9⟩, hl, hc, hs⟩ := hq
  exact ⟨L, ⟨q1, fun y hy => by rw [q2 y hy]; exact hx0, q3, q5, q7, h.size, kb, hh0, Nat.le_refl _, Nat.ne_of_gt E.lt, q6, by rw [List.map_map]; exact v2⟩, hl, hc, hs⟩
end StrChars.Road
end Jvm.Pilot.@@N@@
namespace Jvm.Pilot.@@N@@
open Jvm Jvm.ClassFile Sem Op Lib Jvm.Free Jvm.Stand Jvm.LawKit Jvm.RoadKit Bundle Jvm.Pilot.@@N@@.Jvm.D
abbrev mn0 : MethodName := ⟨"com/example/typed_api_errors/typedapierrors/error/Detail", "<init>", "(Lcom/example/typed_api_errors/typedapierrors/error/Detail$Builder;)V"⟩
abbrev mn1 : MethodName := ⟨"com/example/typed_api_errors/typedapierrors/error/Detail", "code", "()Ljava/util/Optional;"⟩
abbrev mn2 : MethodName := ⟨"com/example/typed_api_errors/typedapierrors/error/Detail", "constraint", "()Ljava/util/Optional;"⟩
abbrev mn3 : MethodName := ⟨"com/example/typed_api_errors/typedapierrors/error/Detail", "message", "()Ljava/util/Optional;"⟩
abbrev mn4 : MethodName := ⟨"com/example/typed_api_errors/typedapierrors/error/Detail", "moreInfo", "()Ljava/util/Optional;"⟩
abbrev mn5 : MethodName := ⟨"com/example/typed_api_errors/typedapierrors/error/Detail", "target", "()Ljava/util/Optional;"⟩
abbrev mn6 : MethodName := ⟨"com/example/typed_api_errors/typedapierrors/error/Detail", "type", "()Ljava/util/Optional;"⟩
abbrev mn7 : MethodName := ⟨"com/example/typed_api_errors/typedapierrors/error/Detail$Builder", "<init>", "()V"⟩
abbrev mn8 : MethodName := ⟨"com/example/typed_api_errors/typedapierrors/error/Detail$Builder", "build", "()Lcom/example/typed_api_errors/typedapierrors/error/Detail;"⟩
abbrev mn9 : MethodName := ⟨"com/example/typed_api_errors/typedapierrors/error/Detail$Builder", "code", "(Ljava/lang/String;)Lcom/example/typed_api_errors/typedapierrors/error/Detail$Builder;"⟩
abbrev mn10 : MethodName := ⟨"com/example/typed_api_errors/typedapierrors/error/Detail$Builder", "message", "(Ljava/lang/String;)Lcom/example/typed_api_errors/typedapierrors/error/Detail$Builder;"⟩
abbrev mn11 : MethodName := ⟨"com/example/typed_api_errors/typedapierrors/error/Detail$Builder", "moreInfo", "(Ljava/lang/String;)Lcom/example/typed_api_errors/typedapierrors/error/Detail$Builder;"⟩
abbrev mn12 : MethodName := ⟨"com/example/typed_api_errors/typedapierrors/error/Detail$Builder", "target", "(Lcom/example/typed_api_errors/typedapierrors/error/Target;)Lcom/example/typed_api_errors/typedapierrors/error/Detail$Builder;"⟩
abbrev mn13 : MethodName := ⟨"com/example/typed_api_errors/typedapierrors/error/Occurrence", "<init>", "(Ljava/lang/String;ILjava/util/Optional;Ljava/util/Optional;Ljava/util/Optional;Ljava/util/Optional;Ljava/util/Optional;Ljava/util/List;)V"⟩
abbrev mn14 : MethodName := ⟨"com/example/typed_api_errors/typedapierrors/error/Occurrence", "asItem", "(Ljava/util/Optional;)Lcom/example/typed_api_errors/typedapierrors/error/Detail;"⟩
abbrev mn15 : MethodName := ⟨"com/example/typed_api_errors/typedapierrors/error/OccurrenceAsItemPinLaw", "same", "(Ljava/util/Optional;ZLjava/lang/String;)Z"⟩
abbrev mn16 : MethodName := ⟨"com/example/typed_api_errors/typedapierrors/error/OccurrenceAsItemPinLaw", "str2", "(II)Ljava/lang/String;"⟩
abbrev mn17 : MethodName := ⟨"com/example/typed_api_errors/typedapierrors/error/Target", "<init>", "(Ljava/lang/String;Ljava/lang/String;Ljava/lang/String;)V"⟩
abbrev mn18 : MethodName := ⟨"java/lang/Record", "<init>", "()V"⟩
abbrev mn20 : MethodName := ⟨"java/lang/String", "equals", "(Ljava/lang/Object;)Z"⟩
abbrev mn21 : MethodName := ⟨"java/util/AbstractCollection", "<init>", "()V"⟩
abbrev mn22 : MethodName := ⟨"java/util/AbstractList", "<init>", "()V"⟩
abbrev mn23 : MethodName := ⟨"java/util/ArrayList", "<init>", "()V"⟩
abbrev mn24 : MethodName := ⟨"java/util/Objects", "requireNonNull", "(Ljava/lang/Object;)Ljava/lang/Object;"⟩
abbrev mn25 : MethodName := ⟨"java/util/Objects", "requireNonNull", "(Ljava/lang/Object;Ljava/lang/String;)Ljava/lang/Object;"⟩
abbrev mn26 : MethodName := ⟨"java/util/Optional", "<init>", "(Ljava/lang/Object;)V"⟩
abbrev mn27 : MethodName := ⟨"java/util/Optional", "empty", "()Ljava/util/Optional;"⟩
abbrev mn28 : MethodName := ⟨"java/util/Optional", "get", "()Ljava/lang/Object;"⟩
abbrev mn29 : MethodName := ⟨"java/util/Optional", "isPresent", "()Z"⟩
abbrev mn30 : MethodName := ⟨"java/util/Optional", "of", "(Ljava/lang/Object;)Ljava/util/Optional;"⟩
abbrev mn31 : MethodName := ⟨"java/util/Optional", "ofNullable", "(Ljava/lang/Object;)Ljava/util/Optional;"⟩
abbrev mn32 : MethodName := ⟨"java/util/Optional", "orElse", "(Ljava/lang/Object;)Ljava/lang/Object;"⟩
abbrev cn4 : String := "com/example/typed_api_errors/typedapierrors/error/OccurrenceAsItemPinLaw"
abbrev cn6 : String := "com/example/typed_api_errors/typedapierrors/error/Detail$Builder"
abbrev cn7 : String := "Lcom/example/typed_api_errors/typedapierrors/error/Constraint;"
abbrev cn9 : String := "com/example/typed_api_errors/typedapierrors/error/Constraint"
abbrev cn10 : String := "com/example/typed_api_errors/typedapierrors/error/Occurrence"
abbrev cn11 : String := "Lcom/example/typed_api_errors/typedapierrors/error/Target;"
abbrev cn13 : String := "com/example/typed_api_errors/typedapierrors/error/Detail"
abbrev cn14 : String := "com/example/typed_api_errors/typedapierrors/error/Target"
theorem wd0 {a0 : Array Value} {Z : State} (hw : ∀ d ∈ tables_1, d.before a0 Z = true) : (Jvm.Cond.methodLink "com/example/typed_api_errors/typedapierrors/error/OccurrenceAsItemPinLaw" (26 : Nat) ({ cls := "com/example/typed_api_errors/typedapierrors/error/OccurrenceAsItemPinLaw", name := "str2", desc := "(II)Ljava/lang/String;" } : Jvm.MethodName)).before a0 Z = true := hw _ (List.mem_of_getElem? (i := 0) rfl)
theorem wd1 {a0 : Array Value} {Z : State} (hw : ∀ d ∈ tables_1, d.before a0 Z = true) : (Jvm.Cond.static ({ cls := "com/example/typed_api_errors/typedapierrors/error/OccurrenceAsItemPinLaw", name := "str2", desc := "(II)Ljava/lang/String;" } : Jvm.MethodName)).before a0 Z = true := hw _ (List.mem_of_getElem? (i := 1) rfl)
theorem wd2 {a0 : Array Value} {Z : State} (hw : ∀ d ∈ tables_1, d.before a0 Z = true) : (Jvm.Cond.initialized "com/example/typed_api_errors/typedapierrors/error/OccurrenceAsItemPinLaw").before a0 Z = true := hw _ (List.mem_of_getElem? (i := 2) rfl)
theorem wd3 {a0 : Array Value} {Z : State} (hw : ∀ d ∈ tables_1, d.before a0 Z = true) : (Jvm.Cond.code ({ cls := "com/example/typed_api_errors/typedapierrors/error/OccurrenceAsItemPinLaw", name := "str2", desc := "(II)Ljava/lang/String;" } : Jvm.MethodName) method_2_code (3 : Nat) (Option.some (Jvm.ClassFile.FieldType.object "java/lang/String"))).before a0 Z = true := hw _ (List.mem_of_getElem? (i := 3) rfl)
theorem wd4 {a0 : Array Value} {Z : State} (hw : ∀ d ∈ tables_1, d.before a0 Z = true) : (Jvm.Cond.arrayClass Jvm.ClassFile.FieldType.char).before a0 Z = true := hw _ (List.mem_of_getElem? (i := 4) rfl)
theorem wd5 {a0 : Array Value} {Z : State} (hw : ∀ d ∈ tables_1, d.before a0 Z = true) : (Jvm.Cond.classLink "com/example/typed_api_errors/typedapierrors/error/OccurrenceAsItemPinLaw" (7 : Nat) "java/lang/String").before a0 Z = true := hw _ (List.mem_of_getElem? (i := 5) rfl)
theorem wd6 {a0 : Array Value} {Z : State} (hw : ∀ d ∈ tables_1, d.before a0 Z = true) : (Jvm.Cond.instantiable "java/lang/String" (4 : Nat)).before a0 Z = true := hw _ (List.mem_of_getElem? (i := 6) rfl)
theorem wd7 {a0 : Array Value} {Z : State} (hw : ∀ d ∈ tables_1, d.before a0 Z = true) : (Jvm.Cond.initialized "java/lang/String").before a0 Z = true := hw _ (List.mem_of_getElem? (i := 7) rfl)
theorem wd8 {a0 : Array Value} {Z : State} (hw : ∀ d ∈ tables_1, d.before a0 Z = true) : (Jvm.Cond.methodLink "com/example/typed_api_errors/typedapierrors/error/OccurrenceAsItemPinLaw" (9 : Nat) ({ cls := "java/lang/String", name := "<init>", desc := "([C)V" } : Jvm.MethodName)).before a0 Z = true := hw _ (List.mem_of_getElem? (i := 8) rfl)
theorem wd9 {a0 : Array Value} {Z : State} (hw : ∀ d ∈ tables_1, d.before a0 Z = true) : (Jvm.Cond.instanceMethod ({ cls := "java/lang/String", name := "<init>", desc := "([C)V" } : Jvm.MethodName)).before a0 Z = true := hw _ (List.mem_of_getElem? (i := 9) rfl)
theorem wd10 {a0 : Array Value} {Z : State} (hw : ∀ d ∈ tables_1, d.before a0 Z = true) : (Jvm.Cond.code ({ cls := "java/lang/String", name := "<init>", desc := "([C)V" } : Jvm.MethodName) jdk_42_method_3_code (2 : Nat) (Option.none : Option Jvm.ClassFile.FieldType)).before a0 Z = true := hw _ (List.mem_of_getElem? (i := 10) rfl)
theorem wd16 {a0 : Array Value} {Z : State} (hw : ∀ d ∈ tables_1, d.before a0 Z = true) : (Jvm.Cond.instanceMethod ({ cls := "java/lang/Object", name := "<init>", desc := "()V" } : Jvm.MethodName)).before a0 Z = true := hw _ (List.mem_of_getElem? (i := 16) rfl)
theorem wd17 {a0 : Array Value} {Z : State} (hw : ∀ d ∈ tables_1, d.before a0 Z = true) : (Jvm.Cond.code ({ cls := "java/lang/Object", name := "<init>", desc := "()V" } : Jvm.MethodName) object_method_1_code (1 : Nat) (Option.none : Option Jvm.ClassFile.FieldType)).before a0 Z = true := hw _ (List.mem_of_getElem? (i := 17) rfl)
theorem wd31 {a0 : Array Value} {Z : State} (hw : ∀ d ∈ tables_1, d.before a0 Z = true) : (Jvm.Cond.laysFinal "java/lang/String" "java/lang/String" "coder" "B").before a0 Z = true := hw _ (List.mem_of_getElem? (i := 31) rfl)
theorem wd33 {a0 : Array Value} {Z : State} (hw : ∀ d ∈ tables_1, d.before a0 Z = true) : (Jvm.Cond.laysFinal "java/lang/String" "java/lang/String" "value" "[B").before a0 Z = true := hw _ (List.mem_of_getElem? (i := 33) rfl)
theorem wd34 {a0 : Array Value} {Z : State} (hw : ∀ d ∈ tables_1, d.before a0 Z = true) : (Jvm.Cond.methodLink "com/example/typed_api_errors/typedapierrors/error/OccurrenceAsItemPinLaw" (36 : Nat) ({ cls := "java/util/Optional", name := "empty", desc := "()Ljava/util/Optional;" } : Jvm.MethodName)).before a0 Z = true := hw _ (List.mem_of_getElem? (i := 34) rfl)
theorem wd35 {a0 : Array Value} {Z : State} (hw : ∀ d ∈ tables_1, d.before a0 Z = true) : (Jvm.Cond.static ({ cls := "java/util/Optional", name := "empty", desc := "()Ljava/util/Optional;" } : Jvm.MethodName)).before a0 Z = true := hw _ (List.mem_of_getElem? (i := 35) rfl)
theorem wd36 {a0 : Array Value} {Z : State} (hw : ∀ d ∈ tables_1, d.before a0 Z = true) : (Jvm.Cond.initialized "java/util/Optional").before a0 Z = true := hw _ (List.mem_of_getElem? (i := 36) rfl)
theorem wd37 {a0 : Array Value} {Z : State} (hw : ∀ d ∈ tables_1, d.before a0 Z = true) : (Jvm.Cond.code ({ cls := "java/util/Optional", name := "empty", desc := "()Ljava/util/Optional;" } : Jvm.MethodName) jdk_32_method_1_code (1 : Nat) (Option.some (Jvm.ClassFile.FieldType.object "java/util/Optional"))).before a0 Z = true := hw _ (List.mem_of_getElem? (i := 37) rfl)
theorem wd38 {a0 : Array Value} {Z : State} (hw : ∀ d ∈ tables_1, d.before a0 Z = true) : (Jvm.Cond.fieldLink "java/util/Optional" (1 : Nat) "java/util/Optional" "EMPTY" "Ljava/util/Optional;").before a0 Z = true := hw _ (List.mem_of_getElem? (i := 38) rfl)
theorem wd39 {a0 : Array Value} {Z : State} (hw : ∀ d ∈ tables_1, d.before a0 Z = true) : (Jvm.Cond.classLink "com/example/typed_api_errors/typedapierrors/error/OccurrenceAsItemPinLaw" (45 : Nat) "java/util/ArrayList").before a0 Z = true := hw _ (List.mem_of_getElem? (i := 39) rfl)
theorem wd40 {a0 : Array Value} {Z : State} (hw : ∀ d ∈ tables_1, d.before a0 Z = true) : (Jvm.Cond.instantiable "java/util/ArrayList" (3 : Nat)).before a0 Z = true := hw _ (List.mem_of_getElem? (i := 40) rfl)
theorem wd41 {a0 : Array Value} {Z : State} (hw : ∀ d ∈ tables_1, d.before a0 Z = true) : (Jvm.Cond.initialized "java/util/ArrayList").before a0 Z = true := hw _ (List.mem_of_getElem? (i := 41) rfl)
theorem wd42 {a0 : Array Value} {Z : State} (hw : ∀ d ∈ tables_1, d.before a0 Z = true) : (Jvm.Cond.methodLink "com/example/typed_api_errors/typedapierrors/error/OccurrenceAsItemPinLaw" (47 : Nat) ({ cls := "java/util/ArrayList", name := "<init>", desc := "()V" } : Jvm.MethodName)).before a0 Z = true := hw _ (List.mem_of_getElem? (i := 42) rfl)
theorem wd43 {a0 : Array Value} {Z : State} (hw : ∀ d ∈ tables_1, d.before a0 Z = true) : (Jvm.Cond.instanceMethod ({ cls := "java/util/ArrayList", name := "<init>", desc := "()V" } : Jvm.MethodName)).before a0 Z = true := hw _ (List.mem_of_getElem? (i := 43) rfl)
theorem wd44 {a0 : Array Value} {Z : State} (hw : ∀ d ∈ tables_1, d.before a0 Z = true) : (Jvm.Cond.code ({ cls := "java/util/ArrayList", name := "<init>", desc := "()V" } : Jvm.MethodName) jdk_38_method_2_code (1 : Nat) (Option.none : Option Jvm.ClassFile.FieldType)).before a0 Z = true := hw _ (List.mem_of_getElem? (i := 44) rfl)
theorem wd45 {a0 : Array Value} {Z : State} (hw : ∀ d ∈ tables_1, d.before a0 Z = true) : (Jvm.Cond.methodLink "java/util/ArrayList" (1 : Nat) ({ cls := "java/util/AbstractList", name := "<init>", desc := "()V" } : Jvm.MethodName)).before a0 Z = true := hw _ (List.mem_of_getElem? (i := 45) rfl)
theorem wd46 {a0 : Array Value} {Z : State} (hw : ∀ d ∈ tables_1, d.before a0 Z = true) : (Jvm.Cond.instanceMethod ({ cls := "java/util/AbstractList", name := "<init>", desc := "()V" } : Jvm.MethodName)).before a0 Z = true := hw _ (List.mem_of_getElem? (i := 46) rfl)
theorem wd49 {a0 : Array Value} {Z : State} (hw : ∀ d ∈ tables_1, d.before a0 Z = true) : (Jvm.Cond.initialized "java/util/AbstractList").before a0 Z = true := hw _ (List.mem_of_getElem? (i := 49) rfl)
theorem wd50 {a0 : Array Value} {Z : State} (hw : ∀ d ∈ tables_1, d.before a0 Z = true) : (Jvm.Cond.code ({ cls := "java/util/AbstractList", name := "<init>", desc := "()V" } : Jvm.MethodName) jdk_39_method_1_code (1 : Nat) (Option.none : Option Jvm.ClassFile.FieldType)).before a0 Z = true := hw _ (List.mem_of_getElem? (i := 50) rfl)
theorem wd51 {a0 : Array Value} {Z : State} (hw : ∀ d ∈ tables_1, d.before a0 Z = true) : (Jvm.Cond.methodLink "java/util/AbstractList" (1 : Nat) ({ cls := "java/util/AbstractCollection", name := "<init>", desc := "()V" } : Jvm.MethodName)).before a0 Z = true := hw _ (List.mem_of_getElem? (i := 51) rfl)
theorem wd52 {a0 : Array Value} {Z : State} (hw : ∀ d ∈ tables_1, d.before a0 Z = true) : (Jvm.Cond.instanceMethod ({ cls := "java/util/AbstractCollection", name := "<init>", desc := "()V" } : Jvm.MethodName)).before a0 Z = true := hw _ (List.mem_of_getElem? (i := 52) rfl)
theorem wd55 {a0 : Array Value} {Z : State} (hw : ∀ d ∈ tables_1, d.before a0 Z = true) : (Jvm.Cond.initialized "java/util/AbstractCollection").before a0 Z = true := hw _ (List.mem_of_getElem? (i := 55) rfl)
theorem wd56 {a0 : Array Value} {Z : State} (hw : ∀ d ∈ tables_1, d.before a0 Z = true) : (Jvm.Cond.code ({ cls := "java/util/AbstractCollection", name := "<init>", desc := "()V" } : Jvm.MethodName) jdk_22_method_1_code (1 : Nat) (Option.none : Option Jvm.ClassFile.FieldType)).before a0 Z = true := hw _ (List.mem_of_getElem? (i := 56) rfl)
theorem wd57 {a0 : Array Value} {Z : State} (hw : ∀ d ∈ tables_1, d.before a0 Z = true) : (Jvm.Cond.methodLink "java/util/AbstractCollection" (1 : Nat) ({ cls := "java/lang/Object", name := "<init>", desc := "()V" } : Jvm.MethodName)).before a0 Z = true := hw _ (List.mem_of_getElem? (i := 57) rfl)
theorem wd58 {a0 : Array Value} {Z : State} (hw : ∀ d ∈ tables_1, d.before a0 Z = true) : (Jvm.Cond.fieldLink "java/util/AbstractList" (7 : Nat) "java/util/AbstractList" "modCount" "I").before a0 Z = true := hw _ (List.mem_of_getElem? (i := 58) rfl)
theorem wd59 {a0 : Array Value} {Z : State} (hw : ∀ d ∈ tables_1, d.before a0 Z = true) : (Jvm.Cond.lays "java/util/ArrayList" "java/util/AbstractList" "modCount" "I").before a0 Z = true := hw _ (List.mem_of_getElem? (i := 59) rfl)
theorem wd60 {a0 : Array Value} {Z : State} (hw : ∀ d ∈ tables_1, d.before a0 Z = true) : (Jvm.Cond.fieldLink "java/util/ArrayList" (39 : Nat) "java/util/ArrayList" "DEFAULTCAPACITY_EMPTY_ELEMENTDATA" "[Ljava/lang/Object;").before a0 Z = true := hw _ (List.mem_of_getElem? (i := 60) rfl)
theorem wd61 {a0 : Array Value} {Z : State} (hw : ∀ d ∈ tables_1, d.before a0 Z = true) : (Jvm.Cond.fieldLink "java/util/ArrayList" (9 : Nat) "java/util/ArrayList" "elementData" "[Ljava/lang/Object;").before a0 Z = true := hw _ (List.mem_of_getElem? (i := 61) rfl)
theorem wd62 {a0 : Array Value} {Z : State} (hw : ∀ d ∈ tables_1, d.before a0 Z = true) : (Jvm.Cond.lays "java/util/ArrayList" "java/util/ArrayList" "elementData" "[Ljava/lang/Object;").before a0 Z = true := hw _ (List.mem_of_getElem? (i := 62) rfl)
theorem wd63 {a0 : Array Value} {Z : State} (hw : ∀ d ∈ tables_1, d.before a0 Z = true) : (Jvm.Cond.classLink "com/example/typed_api_errors/typedapierrors/error/OccurrenceAsItemPinLaw" (48 : Nat) "com/example/typed_api_errors/typedapierrors/error/Occurrence").before a0 Z = true := hw _ (List.mem_of_getElem? (i := 63) rfl)
theorem wd64 {a0 : Array Value} {Z : State} (hw : ∀ d ∈ tables_1, d.before a0 Z = true) : (Jvm.Cond.instantiable "com/example/typed_api_errors/typedapierrors/error/Occurrence" (8 : Nat)).before a0 Z = true := hw _ (List.mem_of_getElem? (i := 64) rfl)
theorem wd65 {a0 : Array Value} {Z : State} (hw : ∀ d ∈ tables_1, d.before a0 Z = true) : (Jvm.Cond.initialized "com/example/typed_api_errors/typedapierrors/error/Occurrence").before a0 Z = true := hw _ (List.mem_of_getElem? (i := 65) rfl)
theorem wd66 {a0 : Array Value} {Z : State} (hw : ∀ d ∈ tables_1, d.before a0 Z = true) : (Jvm.Cond.methodLink "com/example/typed_api_errors/typedapierrors/error/OccurrenceAsItemPinLaw" (50 : Nat) ({ cls := "com/example/typed_api_errors/typedapierrors/error/Occurrence", name := "<init>", desc := "(Ljava/lang/String;ILjava/util/Optional;Ljava/util/Optional;Ljava/util/Optional;Ljava/util/Optional;Ljava/util/Optional;Ljava/util/List;)V" } : Jvm.MethodName)).before a0 Z = true := hw _ (List.mem_of_getElem? (i := 66) rfl)
theorem wd67 {a0 : Array Value} {Z : State} (hw : ∀ d ∈ tables_1, d.before a0 Z = true) : (Jvm.Cond.instanceMethod ({ cls := "com/example/typed_api_errors/typedapierrors/error/Occurrence", name := "<init>", desc := "(Ljava/lang/String;ILjava/util/Optional;Ljava/util/Optional;Ljava/util/Optional;Ljava/util/Optional;Ljava/util/Optional;Ljava/util/List;)V" } : Jvm.MethodName)).before a0 Z = true := hw _ (List.mem_of_getElem? (i := 67) rfl)
theorem wd68 {a0 : Array Value} {Z : State} (hw : ∀ d ∈ tables_1, d.before a0 Z = true) : (Jvm.Cond.code ({ cls := "com/example/typed_api_errors/typedapierrors/error/Occurrence", name := "<init>", desc := "(Ljava/lang/String;ILjava/util/Optional;Ljava/util/Optional;Ljava/util/Optional;Ljava/util/Optional;Ljava/util/Optional;Ljava/util/List;)V" } : Jvm.MethodName) prog_9_method_1_code (9 : Nat) (Option.none : Option Jvm.ClassFile.FieldType)).before a0 Z = true := hw _ (List.mem_of_getElem? (i := 68) rfl)
theorem wd69 {a0 : Array Value} {Z : State} (hw : ∀ d ∈ tables_1, d.before a0 Z = true) : (Jvm.Cond.methodLink "com/example/typed_api_errors/typedapierrors/error/Occurrence" (1 : Nat) ({ cls := "java/lang/Record", name := "<init>", desc := "()V" } : Jvm.MethodName)).before a0 Z = true := hw _ (List.mem_of_getElem? (i := 69) rfl)
theorem wd70 {a0 : Array Value} {Z : State} (hw : ∀ d ∈ tables_1, d.before a0 Z = true) : (Jvm.Cond.instanceMethod ({ cls := "java/lang/Record", name := "<init>", desc := "()V" } : Jvm.MethodName)).before a0 Z = true := hw _ (List.mem_of_getElem? (i := 70) rfl)
theorem wd72 {a0 : Array Value} {Z : State} (hw : ∀ d ∈ tables_1, d.before a0 Z = true) : (Jvm.Cond.initialized "java/lang/Record").before a0 Z = true := hw _ (List.mem_of_getElem? (i := 72) rfl)
theorem wd73 {a0 : Array Value} {Z : State} (hw : ∀ d ∈ tables_1, d.before a0 Z = true) : (Jvm.Cond.code ({ cls := "java/lang/Record", name := "<init>", desc := "()V" } : Jvm.MethodName) jdk_30_method_1_code (1 : Nat) (Option.none : Option Jvm.ClassFile.FieldType)).before a0 Z = true := hw _ (List.mem_of_getElem? (i := 73) rfl)
theorem wd74 {a0 : Array Value} {Z : State} (hw : ∀ d ∈ tables_1, d.before a0 Z = true) : (Jvm.Cond.methodLink "java/lang/Record" (1 : Nat) ({ cls := "java/lang/Object", name := "<init>", desc := "()V" } : Jvm.MethodName)).before a0 Z = true := hw _ (List.mem_of_getElem? (i := 74) rfl)
theorem wd75 {a0 : Array Value} {Z : State} (hw : ∀ d ∈ tables_1, d.before a0 Z = true) : (Jvm.Cond.fieldLink "com/example/typed_api_errors/typedapierrors/error/Occurrence" (7 : Nat) "com/example/typed_api_errors/typedapierrors/error/Occurrence" "code" "Ljava/lang/String;").before a0 Z = true := hw _ (List.mem_of_getElem? (i := 75) rfl)
theorem wd76 {a0 : Array Value} {Z : State} (hw : ∀ d ∈ tables_1, d.before a0 Z = true) : (Jvm.Cond.laysFinal "com/example/typed_api_errors/typedapierrors/error/Occurrence" "com/example/typed_api_errors/typedapierrors/error/Occurrence" "code" "Ljava/lang/String;").before a0 Z = true := hw _ (List.mem_of_getElem? (i := 76) rfl)
theorem wd77 {a0 : Array Value} {Z : State} (hw : ∀ d ∈ tables_1, d.before a0 Z = true) : (Jvm.Cond.fieldLink "com/example/typed_api_errors/typedapierrors/error/Occurrence" (13 : Nat) "com/example/typed_api_errors/typedapierrors/error/Occurrence" "status" "I").before a0 Z = true := hw _ (List.mem_of_getElem? (i := 77) rfl)
theorem wd78 {a0 : Array Value} {Z : State} (hw : ∀ d ∈ tables_1, d.before a0 Z = true) : (Jvm.Cond.laysFinal "com/example/typed_api_errors/typedapierrors/error/Occurrence" "com/example/typed_api_errors/typedapierrors/error/Occurrence" "status" "I").before a0 Z = true := hw _ (List.mem_of_getElem? (i := 78) rfl)
theorem wd79 {a0 : Array Value} {Z : State} (hw : ∀ d ∈ tables_1, d.before a0 Z = true) : (Jvm.Cond.fieldLink "com/example/typed_api_errors/typedapierrors/error/Occurrence" (17 : Nat) "com/example/typed_api_errors/typedapierrors/error/Occurrence" "catalogueMessage" "Ljava/util/Optional;").before a0 Z = true := hw _ (List.mem_of_getElem? (i := 79) rfl)
theorem wd80 {a0 : Array Value} {Z : State} (hw : ∀ d ∈ tables_1, d.before a0 Z = true) : (Jvm.Cond.laysFinal "com/example/typed_api_errors/typedapierrors/error/Occurrence" "com/example/typed_api_errors/typedapierrors/error/Occurrence" "catalogueMessage" "Ljava/util/Optional;").before a0 Z = true := hw _ (List.mem_of_getElem? (i := 80) rfl)
theorem wd81 {a0 : Array Value} {Z : State} (hw : ∀ d ∈ tables_1, d.before a0 Z = true) : (Jvm.Cond.fieldLink "com/example/typed_api_errors/typedapierrors/error/Occurrence" (21 : Nat) "com/example/typed_api_errors/typedapierrors/error/Occurrence" "ownMessage" "Ljava/util/Optional;").before a0 Z = true := hw _ (List.mem_of_getElem? (i := 81) rfl)
theorem wd82 {a0 : Array Value} {Z : State} (hw : ∀ d ∈ tables_1, d.before a0 Z = true) : (Jvm.Cond.laysFinal "com/example/typed_api_errors/typedapierrors/error/Occurrence" "com/example/typed_api_errors/typedapierrors/error/Occurrence" "ownMessage" "Ljava/util/Optional;").before a0 Z = true := hw _ (List.mem_of_getElem? (i := 82) rfl)
theorem wd83 {a0 : Array Value} {Z : State} (hw : ∀ d ∈ tables_1, d.before a0 Z = true) : (Jvm.Cond.fieldLink "com/example/typed_api_errors/typedapierrors/error/Occurrence" (24 : Nat) "com/example/typed_api_errors/typedapierrors/error/Occurrence" "trace" "Ljava/util/Optional;").before a0 Z = true := hw _ (List.mem_of_getElem? (i := 83) rfl)
theorem wd84 {a0 : Array Value} {Z : State} (hw : ∀ d ∈ tables_1, d.before a0 Z = true) : (Jvm.Cond.laysFinal "com/example/typed_api_errors/typedapierrors/error/Occurrence" "com/example/typed_api_errors/typedapierrors/error/Occurrence" "trace" "Ljava/util/Optional;").before a0 Z = true := hw _ (List.mem_of_getElem? (i := 84) rfl)
theorem wd85 {a0 : Array Value} {Z : State} (hw : ∀ d ∈ tables_1, d.before a0 Z = true) : (Jvm.Cond.fieldLink "com/example/typed_api_errors/typedapierrors/error/Occurrence" (27 : Nat) "com/example/typed_api_errors/typedapierrors/error/Occurrence" "moreInfo" "Ljava/util/Optional;").before a0 Z = true := hw _ (List.mem_of_getElem? (i := 85) rfl)
theorem wd86 {a0 : Array Value} {Z : State} (hw : ∀ d ∈ tables_1, d.before a0 Z = true) : (Jvm.Cond.laysFinal "com/example/typed_api_errors/typedapierrors/error/Occurrence" "com/example/typed_api_errors/typedapierrors/error/Occurrence" "moreInfo" "Ljava/util/Optional;").before a0 Z = true := hw _ (List.mem_of_getElem? (i := 86) rfl)
theorem wd87 {a0 : Array Value} {Z : State} (hw : ∀ d ∈ tables_1, d.before a0 Z = true) : (Jvm.Cond.fieldLink "com/example/typed_api_errors/typedapierrors/error/Occurrence" (30 : Nat) "com/example/typed_api_errors/typedapierrors/error/Occurrence" "target" "Ljava/util/Optional;").before a0 Z = true := hw _ (List.mem_of_getElem? (i := 87) rfl)
theorem wd88 {a0 : Array Value} {Z : State} (hw : ∀ d ∈ tables_1, d.before a0 Z = true) : (Jvm.Cond.laysFinal "com/example/typed_api_errors/typedapierrors/error/Occurrence" "com/example/typed_api_errors/typedapierrors/error/Occurrence" "target" "Ljava/util/Optional;").before a0 Z = true := hw _ (List.mem_of_getElem? (i := 88) rfl)
theorem wd89 {a0 : Array Value} {Z : State} (hw : ∀ d ∈ tables_1, d.before a0 Z = true) : (Jvm.Cond.fieldLink "com/example/typed_api_errors/typedapierrors/error/Occurrence" (33 : Nat) "com/example/typed_api_errors/typedapierrors/error/Occurrence" "details" "Ljava/util/List;").before a0 Z = true := hw _ (List.mem_of_getElem? (i := 89) rfl)
theorem wd90 {a0 : Array Value} {Z : State} (hw : ∀ d ∈ tables_1, d.before a0 Z = true) : (Jvm.Cond.laysFinal "com/example/typed_api_errors/typedapierrors/error/Occurrence" "com/example/typed_api_errors/typedapierrors/error/Occurrence" "details" "Ljava/util/List;").before a0 Z = true := hw _ (List.mem_of_getElem? (i := 90) rfl)
theorem wd91 {a0 : Array Value} {Z : State} (hw : ∀ d ∈ tables_1, d.before a0 Z = true) : (Jvm.Cond.methodLink "com/example/typed_api_errors/typedapierrors/error/OccurrenceAsItemPinLaw" (53 : Nat) ({ cls := "com/example/typed_api_errors/typedapierrors/error/Occurrence", name := "asItem", desc := "(Ljava/util/Optional;)Lcom/example/typed_api_errors/typedapierrors/error/Detail;" } : Jvm.MethodName)).before a0 Z = true := hw _ (List.mem_of_getElem? (i := 91) rfl)
theorem wd92 {a0 : Array Value} {Z : State} (hw : ∀ d ∈ tables_1, d.before a0 Z = true) : (Jvm.Cond.declares ({ cls := "com/example/typed_api_errors/typedapierrors/error/Occurrence", name := "asItem", desc := "(Ljava/util/Optional;)Lcom/example/typed_api_errors/typedapierrors/error/Detail;" } : Jvm.MethodName)).before a0 Z = true := hw _ (List.mem_of_getElem? (i := 92) rfl)
theorem wd93 {a0 : Array Value} {Z : State} (hw : ∀ d ∈ tables_1, d.before a0 Z = true) : (Jvm.Cond.instanceMethod ({ cls := "com/example/typed_api_errors/typedapierrors/error/Occurrence", name := "asItem", desc := "(Ljava/util/Optional;)Lcom/example/typed_api_errors/typedapierrors/error/Detail;" } : Jvm.MethodName)).before a0 Z = true := hw _ (List.mem_of_getElem? (i := 93) rfl)
theorem wd94 {a0 : Array Value} {Z : State} (hw : ∀ d ∈ tables_1, d.before a0 Z = true) : (Jvm.Cond.selects "com/example/typed_api_errors/typedapierrors/error/Occurrence" ({ cls := "com/example/typed_api_errors/typedapierrors/error/Occurrence", name := "asItem", desc := "(Ljava/util/Optional;)Lcom/example/typed_api_errors/typedapierrors/error/Detail;" } : Jvm.MethodName) ({ cls := "com/example/typed_api_errors/typedapierrors/error/Occurrence", name := "asItem", desc := "(Ljava/util/Optional;)Lcom/example/typed_api_errors/typedapierrors/error/Detail;" } : Jvm.MethodName)).before a0 Z = true := hw _ (List.mem_of_getElem? (i := 94) rfl)
theorem wd95 {a0 : Array Value} {Z : State} (hw : ∀ d ∈ tables_1, d.before a0 Z = true) : (Jvm.Cond.code ({ cls := "com/example/typed_api_errors/typedapierrors/error/Occurrence", name := "asItem", desc := "(Ljava/util/Optional;)Lcom/example/typed_api_errors/typedapierrors/error/Detail;" } : Jvm.MethodName) prog_9_method_3_code (2 : Nat) (Option.some (Jvm.ClassFile.FieldType.object "com/example/typed_api_errors/typedapierrors/error/Detail"))).before a0 Z = true := hw _ (List.mem_of_getElem? (i := 95) rfl)
theorem wd96 {a0 : Array Value} {Z : State} (hw : ∀ d ∈ tables_1, d.before a0 Z = true) : (Jvm.Cond.classLink "com/example/typed_api_errors/typedapierrors/error/Occurrence" (47 : Nat) "com/example/typed_api_errors/typedapierrors/error/Detail$Builder").before a0 Z = true := hw _ (List.mem_of_getElem? (i := 96) rfl)
theorem wd97 {a0 : Array Value} {Z : State} (hw : ∀ d ∈ tables_1, d.before a0 Z = true) : (Jvm.Cond.instantiable "com/example/typed_api_errors/typedapierrors/error/Detail$Builder" (6 : Nat)).before a0 Z = true := hw _ (List.mem_of_getElem? (i := 97) rfl)
theorem wd98 {a0 : Array Value} {Z : State} (hw : ∀ d ∈ tables_1, d.before a0 Z = true) : (Jvm.Cond.initialized "com/example/typed_api_errors/typedapierrors/error/Detail$Builder").before a0 Z = true := hw _ (List.mem_of_getElem? (i := 98) rfl)
theorem wd99 {a0 : Array Value} {Z : State} (hw : ∀ d ∈ tables_1, d.before a0 Z = true) : (Jvm.Cond.methodLink "com/example/typed_api_errors/typedapierrors/error/Occurrence" (49 : Nat) ({ cls := "com/example/typed_api_errors/typedapierrors/error/Detail$Builder", name := "<init>", desc := "()V" } : Jvm.MethodName)).before a0 Z = true := hw _ (List.mem_of_getElem? (i := 99) rfl)
theorem wd100 {a0 : Array Value} {Z : State} (hw : ∀ d ∈ tables_1, d.before a0 Z = true) : (Jvm.Cond.instanceMethod ({ cls := "com/example/typed_api_errors/typedapierrors/error/Detail$Builder", name := "<init>", desc := "()V" } : Jvm.MethodName)).before a0 Z = true := hw _ (List.mem_of_getElem? (i := 100) rfl)
theorem wd101 {a0 : Array Value} {Z : State} (hw : ∀ d ∈ tables_1, d.before a0 Z = true) : (Jvm.Cond.code ({ cls := "com/example/typed_api_errors/typedapierrors/error/Detail$Builder", name := "<init>", desc := "()V" } : Jvm.MethodName) prog_8_method_1_code (1 : Nat) (Option.none : Option Jvm.ClassFile.FieldType)).before a0 Z = true := hw _ (List.mem_of_getElem? (i := 101) rfl)
theorem wd102 {a0 : Array Value} {Z : State} (hw : ∀ d ∈ tables_1, d.before a0 Z = true) : (Jvm.Cond.methodLink "com/example/typed_api_errors/typedapierrors/error/Detail$Builder" (1 : Nat) ({ cls := "java/lang/Object", name := "<init>", desc := "()V" } : Jvm.MethodName)).before a0 Z = true := hw _ (List.mem_of_getElem? (i := 102) rfl)
theorem wd103 {a0 : Array Value} {Z : State} (hw : ∀ d ∈ tables_1, d.before a0 Z = true) : (Jvm.Cond.methodLink "com/example/typed_api_errors/typedapierrors/error/Occurrence" (50 : Nat) ({ cls := "com/example/typed_api_errors/typedapierrors/error/Detail$Builder", name := "code", desc := "(Ljava/lang/String;)Lcom/example/typed_api_errors/typedapierrors/error/Detail$Builder;" } : Jvm.MethodName)).before a0 Z = true := hw _ (List.mem_of_getElem? (i := 103) rfl)
theorem wd104 {a0 : Array Value} {Z : State} (hw : ∀ d ∈ tables_1, d.before a0 Z = true) : (Jvm.Cond.declares ({ cls := "com/example/typed_api_errors/typedapierrors/error/Detail$Builder", name := "code", desc := "(Ljava/lang/String;)Lcom/example/typed_api_errors/typedapierrors/error/Detail$Builder;" } : Jvm.MethodName)).before a0 Z = true := hw _ (List.mem_of_getElem? (i := 104) rfl)
theorem wd105 {a0 : Array Value} {Z : State} (hw : ∀ d ∈ tables_1, d.before a0 Z = true) : (Jvm.Cond.instanceMethod ({ cls := "com/example/typed_api_errors/typedapierrors/error/Detail$Builder", name := "code", desc := "(Ljava/lang/String;)Lcom/example/typed_api_errors/typedapierrors/error/Detail$Builder;" } : Jvm.MethodName)).before a0 Z = true := hw _ (List.mem_of_getElem? (i := 105) rfl)
theorem wd106 {a0 : Array Value} {Z : State} (hw : ∀ d ∈ tables_1, d.before a0 Z = true) : (Jvm.Cond.selects "com/example/typed_api_errors/typedapierrors/error/Detail$Builder" ({ cls := "com/example/typed_api_errors/typedapierrors/error/Detail$Builder", name := "code", desc := "(Ljava/lang/String;)Lcom/example/typed_api_errors/typedapierrors/error/Detail$Builder;" } : Jvm.MethodName) ({ cls := "com/example/typed_api_errors/typedapierrors/error/Detail$Builder", name := "code", desc := "(Ljava/lang/String;)Lcom/example/typed_api_errors/typedapierrors/error/Detail$Builder;" } : Jvm.MethodName)).before a0 Z = true := hw _ (List.mem_of_getElem? (i := 106) rfl)
theorem wd107 {a0 : Array Value} {Z : State} (hw : ∀ d ∈ tables_1, d.before a0 Z = true) : (Jvm.Cond.code ({ cls := "com/example/typed_api_errors/typedapierrors/error/Detail$Builder", name := "code", desc := "(Ljava/lang/String;)Lcom/example/typed_api_errors/typedapierrors/error/Detail$Builder;" } : Jvm.MethodName) prog_8_method_2_code (2 : Nat) (Option.some (Jvm.ClassFile.FieldType.object "com/example/typed_api_errors/typedapierrors/error/Detail$Builder"))).before a0 Z = true := hw _ (List.mem_of_getElem? (i := 107) rfl)
theorem wd108 {a0 : Array Value} {Z : State} (hw : ∀ d ∈ tables_1, d.before a0 Z = true) : (Jvm.Cond.fieldLink "com/example/typed_api_errors/typedapierrors/error/Detail$Builder" (7 : Nat) "com/example/typed_api_errors/typedapierrors/error/Detail$Builder" "code" "Ljava/lang/String;").before a0 Z = true := hw _ (List.mem_of_getElem? (i := 108) rfl)
theorem wd109 {a0 : Array Value} {Z : State} (hw : ∀ d ∈ tables_1, d.before a0 Z = true) : (Jvm.Cond.lays "com/example/typed_api_errors/typedapierrors/error/Detail$Builder" "com/example/typed_api_errors/typedapierrors/error/Detail$Builder" "code" "Ljava/lang/String;").before a0 Z = true := hw _ (List.mem_of_getElem? (i := 109) rfl)
theorem wd110 {a0 : Array Value} {Z : State} (hw : ∀ d ∈ tables_1, d.before a0 Z = true) : (Jvm.Cond.methodLink "com/example/typed_api_errors/typedapierrors/error/Occurrence" (53 : Nat) ({ cls := "java/util/Optional", name := "orElse", desc := "(Ljava/lang/Object;)Ljava/lang/Object;" } : Jvm.MethodName)).before a0 Z = true := hw _ (List.mem_of_getElem? (i := 110) rfl)
theorem wd111 {a0 : Array Value} {Z : State} (hw : ∀ d ∈ tables_1, d.before a0 Z = true) : (Jvm.Cond.declares ({ cls := "java/util/Optional", name := "orElse", desc := "(Ljava/lang/Object;)Ljava/lang/Object;" } : Jvm.MethodName)).before a0 Z = true := hw _ (List.mem_of_getElem? (i := 111) rfl)
theorem wd112 {a0 : Array Value} {Z : State} (hw : ∀ d ∈ tables_1, d.before a0 Z = true) : (Jvm.Cond.instanceMethod ({ cls := "java/util/Optional", name := "orElse", desc := "(Ljava/lang/Object;)Ljava/lang/Object;" } : Jvm.MethodName)).before a0 Z = true := hw _ (List.mem_of_getElem? (i := 112) rfl)
theorem wd113 {a0 : Array Value} {Z : State} (hw : ∀ d ∈ tables_1, d.before a0 Z = true) : (Jvm.Cond.selects "java/util/Optional" ({ cls := "java/util/Optional", name := "orElse", desc := "(Ljava/lang/Object;)Ljava/lang/Object;" } : Jvm.MethodName) ({ cls := "java/util/Optional", name := "orElse", desc := "(Ljava/lang/Object;)Ljava/lang/Object;" } : Jvm.MethodName)).before a0 Z = true := hw _ (List.mem_of_getElem? (i := 113) rfl)
theorem wd114 {a0 : Array Value} {Z : State} (hw : ∀ d ∈ tables_1, d.before a0 Z = true) : (Jvm.Cond.code ({ cls := "java/util/Optional", name := "orElse", desc := "(Ljava/lang/Object;)Ljava/lang/Object;" } : Jvm.MethodName) jdk_32_method_15_code (2 : Nat) (Option.some (Jvm.ClassFile.FieldType.object "java/lang/Object"))).before a0 Z = true := hw _ (List.mem_of_getElem? (i := 114) rfl)
theorem wd115 {a0 : Array Value} {Z : State} (hw : ∀ d ∈ tables_1, d.before a0 Z = true) : (Jvm.Cond.fieldLink "java/util/Optional" (13 : Nat) "java/util/Optional" "value" "Ljava/lang/Object;").before a0 Z = true := hw _ (List.mem_of_getElem? (i := 115) rfl)
theorem wd116 {a0 : Array Value} {Z : State} (hw : ∀ d ∈ tables_1, d.before a0 Z = true) : (Jvm.Cond.laysFinal "java/util/Optional" "java/util/Optional" "value" "Ljava/lang/Object;").before a0 Z = true := hw _ (List.mem_of_getElem? (i := 116) rfl)
theorem wd117 {a0 : Array Value} {Z : State} (hw : ∀ d ∈ tables_1, d.before a0 Z = true) : (Jvm.Cond.methodLink "com/example/typed_api_errors/typedapierrors/error/Occurrence" (59 : Nat) ({ cls := "com/example/typed_api_errors/typedapierrors/error/Detail$Builder", name := "message", desc := "(Ljava/lang/String;)Lcom/example/typed_api_errors/typedapierrors/error/Detail$Builder;" } : Jvm.MethodName)).before a0 Z = true := hw _ (List.mem_of_getElem? (i := 117) rfl)
theorem wd118 {a0 : Array Value} {Z : State} (hw : ∀ d ∈ tables_1, d.before a0 Z = true) : (Jvm.Cond.declares ({ cls := "com/example/typed_api_errors/typedapierrors/error/Detail$Builder", name := "message", desc := "(Ljava/lang/String;)Lcom/example/typed_api_errors/typedapierrors/error/Detail$Builder;" } : Jvm.MethodName)).before a0 Z = true := hw _ (List.mem_of_getElem? (i := 118) rfl)
theorem wd119 {a0 : Array Value} {Z : State} (hw : ∀ d ∈ tables_1, d.before a0 Z = true) : (Jvm.Cond.instanceMethod ({ cls := "com/example/typed_api_errors/typedapierrors/error/Detail$Builder", name := "message", desc := "(Ljava/lang/String;)Lcom/example/typed_api_errors/typedapierrors/error/Detail$Builder;" } : Jvm.MethodName)).before a0 Z = true := hw _ (List.mem_of_getElem? (i := 119) rfl)
theorem wd120 {a0 : Array Value} {Z : State} (hw : ∀ d ∈ tables_1, d.before a0 Z = true) : (Jvm.Cond.selects "com/example/typed_api_errors/typedapierrors/error/Detail$Builder" ({ cls := "com/example/typed_api_errors/typedapierrors/error/Detail$Builder", name := "message", desc := "(Ljava/lang/String;)Lcom/example/typed_api_errors/typedapierrors/error/Detail$Builder;" } : Jvm.MethodName) ({ cls := "com/example/typed_api_errors/typedapierrors/error/Detail$Builder", name := "message", desc := "(Ljava/lang/String;)Lcom/example/typed_api_errors/typedapierrors/error/Detail$Builder;" } : Jvm.MethodName)).before a0 Z = true := hw _ (List.mem_of_getElem? (i := 120) rfl)
theorem wd121 {a0 : Array Value} {Z : State} (hw : ∀ d ∈ tables_1, d.before a0 Z = true) : (Jvm.Cond.code ({ cls := "com/example/typed_api_errors/typedapierrors/error/Detail$Builder", name := "message", desc := "(Ljava/lang/String;)Lcom/example/typed_api_errors/typedapierrors/error/Detail$Builder;" } : Jvm.MethodName) prog_8_method_3_code (2 : Nat) (Option.some (Jvm.ClassFile.FieldType.object "com/example/typed_api_errors/typedapierrors/error/Detail$Builder"))).before a0 Z = true := hw _ (List.mem_of_getElem? (i := 121) rfl)
theorem wd122 {a0 : Array Value} {Z : State} (hw : ∀ d ∈ tables_1, d.before a0 Z = true) : (Jvm.Cond.fieldLink "com/example/typed_api_errors/typedapierrors/error/Detail$Builder" (13 : Nat) "com/example/typed_api_errors/typedapierrors/error/Detail$Builder" "message" "Ljava/lang/String;").before a0 Z = true := hw _ (List.mem_of_getElem? (i := 122) rfl)
theorem wd123 {a0 : Array Value} {Z : State} (hw : ∀ d ∈ tables_1, d.before a0 Z = true) : (Jvm.Cond.lays "com/example/typed_api_errors/typedapierrors/error/Detail$Builder" "com/example/typed_api_errors/typedapierrors/error/Detail$Builder" "message" "Ljava/lang/String;").before a0 Z = true := hw _ (List.mem_of_getElem? (i := 123) rfl)
theorem wd124 {a0 : Array Value} {Z : State} (hw : ∀ d ∈ tables_1, d.before a0 Z = true) : (Jvm.Cond.methodLink "com/example/typed_api_errors/typedapierrors/error/Occurrence" (62 : Nat) ({ cls := "com/example/typed_api_errors/typedapierrors/error/Detail$Builder", name := "moreInfo", desc := "(Ljava/lang/String;)Lcom/example/typed_api_errors/typedapierrors/error/Detail$Builder;" } : Jvm.MethodName)).before a0 Z = true := hw _ (List.mem_of_getElem? (i := 124) rfl)
theorem wd125 {a0 : Array Value} {Z : State} (hw : ∀ d ∈ tables_1, d.before a0 Z = true) : (Jvm.Cond.declares ({ cls := "com/example/typed_api_errors/typedapierrors/error/Detail$Builder", name := "moreInfo", desc := "(Ljava/lang/String;)Lcom/example/typed_api_errors/typedapierrors/error/Detail$Builder;" } : Jvm.MethodName)).before a0 Z = true := hw _ (List.mem_of_getElem? (i := 125) rfl)
theorem wd126 {a0 : Array Value} {Z : State} (hw : ∀ d ∈ tables_1, d.before a0 Z = true) : (Jvm.Cond.instanceMethod ({ cls := "com/example/typed_api_errors/typedapierrors/error/Detail$Builder", name := "moreInfo", desc := "(Ljava/lang/String;)Lcom/example/typed_api_errors/typedapierrors/error/Detail$Builder;" } : Jvm.MethodName)).before a0 Z = true := hw _ (List.mem_of_getElem? (i := 126) rfl)
theorem wd127 {a0 : Array Value} {Z : State} (hw : ∀ d ∈ tables_1, d.before a0 Z = true) : (Jvm.Cond.selects "com/example/typed_api_errors/typedapierrors/error/Detail$Builder" ({ cls := "com/example/typed_api_errors/typedapierrors/error/Detail$Builder", name := "moreInfo", desc := "(Ljava/lang/String;)Lcom/example/typed_api_errors/typedapierrors/error/Detail$Builder;" } : Jvm.MethodName) ({ cls := "com/example/typed_api_errors/typedapierrors/error/Detail$Builder", name := "moreInfo", desc := "(Ljava/lang/String;)Lcom/example/typed_api_errors/typedapierrors/error/Detail$Builder;" } : Jvm.MethodName)).before a0 Z = true := hw _ (List.mem_of_getElem? (i := 127) rfl)
theorem wd128 {a0 : Array Value} {Z : State} (hw : ∀ d ∈ tables_1, d.before a0 Z = true) : (Jvm.Cond.code ({ cls := "com/example/typed_api_errors/typedapierrors/error/Detail$Builder", name := "moreInfo", desc := "(Ljava/lang/String;)Lcom/example/typed_api_errors/typedapierrors/error/Detail$Builder;" } : Jvm.MethodName) prog_8_method_6_code (2 : Nat) (Option.some (Jvm.ClassFile.FieldType.object "com/example/typed_api_errors/typedapierrors/error/Detail$Builder"))).before a0 Z = true := hw _ (List.mem_of_getElem? (i := 128) rfl)
theorem wd129 {a0 : Array Value} {Z : State} (hw : ∀ d ∈ tables_1, d.before a0 Z = true) : (Jvm.Cond.fieldLink "com/example/typed_api_errors/typedapierrors/error/Detail$Builder" (23 : Nat) "com/example/typed_api_errors/typedapierrors/error/Detail$Builder" "moreInfo" "Ljava/lang/String;").before a0 Z = true := hw _ (List.mem_of_getElem? (i := 129) rfl)
theorem wd130 {a0 : Array Value} {Z : State} (hw : ∀ d ∈ tables_1, d.before a0 Z = true) : (Jvm.Cond.lays "com/example/typed_api_errors/typedapierrors/error/Detail$Builder" "com/example/typed_api_errors/typedapierrors/error/Detail$Builder" "moreInfo" "Ljava/lang/String;").before a0 Z = true := hw _ (List.mem_of_getElem? (i := 130) rfl)
theorem wd131 {a0 : Array Value} {Z : State} (hw : ∀ d ∈ tables_1, d.before a0 Z = true) : (Jvm.Cond.methodLink "com/example/typed_api_errors/typedapierrors/error/Occurrence" (66 : Nat) ({ cls := "com/example/typed_api_errors/typedapierrors/error/Detail$Builder", name := "target", desc := "(Lcom/example/typed_api_errors/typedapierrors/error/Target;)Lcom/example/typed_api_errors/typedapierrors/error/Detail$Builder;" } : Jvm.MethodName)).before a0 Z = true := hw _ (List.mem_of_getElem? (i := 131) rfl)
theorem wd132 {a0 : Array Value} {Z : State} (hw : ∀ d ∈ tables_1, d.before a0 Z = true) : (Jvm.Cond.declares ({ cls := "com/example/typed_api_errors/typedapierrors/error/Detail$Builder", name := "target", desc := "(Lcom/example/typed_api_errors/typedapierrors/error/Target;)Lcom/example/typed_api_errors/typedapierrors/error/Detail$Builder;" } : Jvm.MethodName)).before a0 Z = true := hw _ (List.mem_of_getElem? (i := 132) rfl)
theorem wd133 {a0 : Array Value} {Z : State} (hw : ∀ d ∈ tables_1, d.before a0 Z = true) : (Jvm.Cond.instanceMethod ({ cls := "com/example/typed_api_errors/typedapierrors/error/Detail$Builder", name := "target", desc := "(Lcom/example/typed_api_errors/typedapierrors/error/Target;)Lcom/example/typed_api_errors/typedapierrors/error/Detail$Builder;" } : Jvm.MethodName)).before a0 Z = true := hw _ (List.mem_of_getElem? (i := 133) rfl)
theorem wd134 {a0 : Array Value} {Z : State} (hw : ∀ d ∈ tables_1, d.before a0 Z = true) : (Jvm.Cond.selects "com/example/typed_api_errors/typedapierrors/error/Detail$Builder" ({ cls := "com/example/typed_api_errors/typedapierrors/error/Detail$Builder", name := "target", desc := "(Lcom/example/typed_api_errors/typedapierrors/error/Target;)Lcom/example/typed_api_errors/typedapierrors/error/Detail$Builder;" } : Jvm.MethodName) ({ cls := "com/example/typed_api_errors/typedapierrors/error/Detail$Builder", name := "target", desc := "(Lcom/example/typed_api_errors/typedapierrors/error/Target;)Lcom/example/typed_api_errors/typedapierrors/error/Detail$Builder;" } : Jvm.MethodName)).before a0 Z = true := hw _ (List.mem_of_getElem? (i := 134) rfl)
theorem wd135 {a0 : Array Value} {Z : State} (hw : ∀ d ∈ tables_1, d.before a0 Z = true) : (Jvm.Cond.code ({ cls := "com/example/typed_api_errors/typedapierrors/error/Detail$Builder", name := "target", desc := "(Lcom/example/typed_api_errors/typedapierrors/error/Target;)Lcom/example/typed_api_errors/typedapierrors/error/Detail$Builder;" } : Jvm.MethodName) prog_8_method_5_code (2 : Nat) (Option.some (Jvm.ClassFile.FieldType.object "com/example/typed_api_errors/typedapierrors/error/Detail$Builder"))).before a0 Z = true := hw _ (List.mem_of_getElem? (i := 135) rfl)
theorem wd136 {a0 : Array Value} {Z : State} (hw : ∀ d ∈ tables_1, d.before a0 Z = true) : (Jvm.Cond.fieldLink "com/example/typed_api_errors/typedapierrors/error/Detail$Builder" (19 : Nat) "com/example/typed_api_errors/typedapierrors/error/Detail$Builder" "target" "Lcom/example/typed_api_errors/typedapierrors/error/Target;").before a0 Z = true := hw _ (List.mem_of_getElem? (i := 136) rfl)
theorem wd137 {a0 : Array Value} {Z : State} (hw : ∀ d ∈ tables_1, d.before a0 Z = true) : (Jvm.Cond.lays "com/example/typed_api_errors/typedapierrors/error/Detail$Builder" "com/example/typed_api_errors/typedapierrors/error/Detail$Builder" "target" "Lcom/example/typed_api_errors/typedapierrors/error/Target;").before a0 Z = true := hw _ (List.mem_of_getElem? (i := 137) rfl)
theorem wd138 {a0 : Array Value} {Z : State} (hw : ∀ d ∈ tables_1, d.before a0 Z = true) : (Jvm.Cond.methodLink "com/example/typed_api_errors/typedapierrors/error/Occurrence" (69 : Nat) ({ cls := "com/example/typed_api_errors/typedapierrors/error/Detail$Builder", name := "build", desc := "()Lcom/example/typed_api_errors/typedapierrors/error/Detail;" } : Jvm.MethodName)).before a0 Z = true := hw _ (List.mem_of_getElem? (i := 138) rfl)
theorem wd139 {a0 : Array Value} {Z : State} (hw : ∀ d ∈ tables_1, d.before a0 Z = true) : (Jvm.Cond.declares ({ cls := "com/example/typed_api_errors/typedapierrors/error/Detail$Builder", name := "build", desc := "()Lcom/example/typed_api_errors/typedapierrors/error/Detail;" } : Jvm.MethodName)).before a0 Z = true := hw _ (List.mem_of_getElem? (i := 139) rfl)
theorem wd140 {a0 : Array Value} {Z : State} (hw : ∀ d ∈ tables_1, d.before a0 Z = true) : (Jvm.Cond.instanceMethod ({ cls := "com/example/typed_api_errors/typedapierrors/error/Detail$Builder", name := "build", desc := "()Lcom/example/typed_api_errors/typedapierrors/error/Detail;" } : Jvm.MethodName)).before a0 Z = true := hw _ (List.mem_of_getElem? (i := 140) rfl)
theorem wd141 {a0 : Array Value} {Z : State} (hw : ∀ d ∈ tables_1, d.before a0 Z = true) : (Jvm.Cond.selects "com/example/typed_api_errors/typedapierrors/error/Detail$Builder" ({ cls := "com/example/typed_api_errors/typedapierrors/error/Detail$Builder", name := "build", desc := "()Lcom/example/typed_api_errors/typedapierrors/error/Detail;" } : Jvm.MethodName) ({ cls := "com/example/typed_api_errors/typedapierrors/error/Detail$Builder", name := "build", desc := "()Lcom/example/typed_api_errors/typedapierrors/error/Detail;" } : Jvm.MethodName)).before a0 Z = true := hw _ (List.mem_of_getElem? (i := 141) rfl)
theorem wd142 {a0 : Array Value} {Z : State} (hw : ∀ d ∈ tables_1, d.before a0 Z = true) : (Jvm.Cond.code ({ cls := "com/example/typed_api_errors/typedapierrors/error/Detail$Builder", name := "build", desc := "()Lcom/example/typed_api_errors/typedapierrors/error/Detail;" } : Jvm.MethodName) prog_8_method_8_code (1 : Nat) (Option.some (Jvm.ClassFile.FieldType.object "com/example/typed_api_errors/typedapierrors/error/Detail"))).before a0 Z = true := hw _ (List.mem_of_getElem? (i := 142) rfl)
theorem wd143 {a0 : Array Value} {Z : State} (hw : ∀ d ∈ tables_1, d.before a0 Z = true) : (Jvm.Cond.classLink "com/example/typed_api_errors/typedapierrors/error/Detail$Builder" (30 : Nat) "com/example/typed_api_errors/typedapierrors/error/Detail").before a0 Z = true := hw _ (List.mem_of_getElem? (i := 143) rfl)
theorem wd144 {a0 : Array Value} {Z : State} (hw : ∀ d ∈ tables_1, d.before a0 Z = true) : (Jvm.Cond.instantiable "com/example/typed_api_errors/typedapierrors/error/Detail" (6 : Nat)).before a0 Z = true := hw _ (List.mem_of_getElem? (i := 144) rfl)
theorem wd145 {a0 : Array Value} {Z : State} (hw : ∀ d ∈ tables_1, d.before a0 Z = true) : (Jvm.Cond.initialized "com/example/typed_api_errors/typedapierrors/error/Detail").before a0 Z = true := hw _ (List.mem_of_getElem? (i := 145) rfl)
theorem wd146 {a0 : Array Value} {Z : State} (hw : ∀ d ∈ tables_1, d.before a0 Z = true) : (Jvm.Cond.methodLinkNest "com/example/typed_api_errors/typedapierrors/error/Detail$Builder" (32 : Nat) ({ cls := "com/example/typed_api_errors/typedapierrors/error/Detail", name := "<init>", desc := "(Lcom/example/typed_api_errors/typedapierrors/error/Detail$Builder;)V" } : Jvm.MethodName) "com/example/typed_api_errors/typedapierrors/error/Detail").before a0 Z = true := hw _ (List.mem_of_getElem? (i := 146) rfl)
theorem wd147 {a0 : Array Value} {Z : State} (hw : ∀ d ∈ tables_1, d.before a0 Z = true) : (Jvm.Cond.instanceMethod ({ cls := "com/example/typed_api_errors/typedapierrors/error/Detail", name := "<init>", desc := "(Lcom/example/typed_api_errors/typedapierrors/error/Detail$Builder;)V" } : Jvm.MethodName)).before a0 Z = true := hw _ (List.mem_of_getElem? (i := 147) rfl)
theorem wd148 {a0 : Array Value} {Z : State} (hw : ∀ d ∈ tables_1, d.before a0 Z = true) : (Jvm.Cond.code ({ cls := "com/example/typed_api_errors/typedapierrors/error/Detail", name := "<init>", desc := "(Lcom/example/typed_api_errors/typedapierrors/error/Detail$Builder;)V" } : Jvm.MethodName) prog_7_method_1_code (2 : Nat) (Option.none : Option Jvm.ClassFile.FieldType)).before a0 Z = true := hw _ (List.mem_of_getElem? (i := 148) rfl)
theorem wd149 {a0 : Array Value} {Z : State} (hw : ∀ d ∈ tables_1, d.before a0 Z = true) : (Jvm.Cond.methodLink "com/example/typed_api_errors/typedapierrors/error/Detail" (1 : Nat) ({ cls := "java/lang/Object", name := "<init>", desc := "()V" } : Jvm.MethodName)).before a0 Z = true := hw _ (List.mem_of_getElem? (i := 149) rfl)
theorem wd150 {a0 : Array Value} {Z : State} (hw : ∀ d ∈ tables_1, d.before a0 Z = true) : (Jvm.Cond.fieldRef "com/example/typed_api_errors/typedapierrors/error/Detail" (7 : Nat) "com/example/typed_api_errors/typedapierrors/error/Detail$Builder" "code" "Ljava/lang/String;").before a0 Z = true := hw _ (List.mem_of_getElem? (i := 150) rfl)
theorem wd151 {a0 : Array Value} {Z : State} (hw : ∀ d ∈ tables_1, d.before a0 Z = true) : (Jvm.Cond.fieldLink "com/example/typed_api_errors/typedapierrors/error/Detail" (13 : Nat) "com/example/typed_api_errors/typedapierrors/error/Detail" "code" "Ljava/lang/String;").before a0 Z = true := hw _ (List.mem_of_getElem? (i := 151) rfl)
theorem wd152 {a0 : Array Value} {Z : State} (hw : ∀ d ∈ tables_1, d.before a0 Z = true) : (Jvm.Cond.laysFinal "com/example/typed_api_errors/typedapierrors/error/Detail" "com/example/typed_api_errors/typedapierrors/error/Detail" "code" "Ljava/lang/String;").before a0 Z = true := hw _ (List.mem_of_getElem? (i := 152) rfl)
theorem wd153 {a0 : Array Value} {Z : State} (hw : ∀ d ∈ tables_1, d.before a0 Z = true) : (Jvm.Cond.fieldRef "com/example/typed_api_errors/typedapierrors/error/Detail" (16 : Nat) "com/example/typed_api_errors/typedapierrors/error/Detail$Builder" "message" "Ljava/lang/String;").before a0 Z = true := hw _ (List.mem_of_getElem? (i := 153) rfl)
theorem wd154 {a0 : Array Value} {Z : State} (hw : ∀ d ∈ tables_1, d.before a0 Z = true) : (Jvm.Cond.fieldLink "com/example/typed_api_errors/typedapierrors/error/Detail" (19 : Nat) "com/example/typed_api_errors/typedapierrors/error/Detail" "message" "Ljava/lang/String;").before a0 Z = true := hw _ (List.mem_of_getElem? (i := 154) rfl)
theorem wd155 {a0 : Array Value} {Z : State} (hw : ∀ d ∈ tables_1, d.before a0 Z = true) : (Jvm.Cond.laysFinal "com/example/typed_api_errors/typedapierrors/error/Detail" "com/example/typed_api_errors/typedapierrors/error/Detail" "message" "Ljava/lang/String;").before a0 Z = true := hw _ (List.mem_of_getElem? (i := 155) rfl)
theorem wd156 {a0 : Array Value} {Z : State} (hw : ∀ d ∈ tables_1, d.before a0 Z = true) : (Jvm.Cond.fieldRef "com/example/typed_api_errors/typedapierrors/error/Detail" (20 : Nat) "com/example/typed_api_errors/typedapierrors/error/Detail$Builder" "type" "Ljava/lang/String;").before a0 Z = true := hw _ (List.mem_of_getElem? (i := 156) rfl)
theorem wd157 {a0 : Array Value} {Z : State} (hw : ∀ d ∈ tables_1, d.before a0 Z = true) : (Jvm.Cond.lays "com/example/typed_api_errors/typedapierrors/error/Detail$Builder" "com/example/typed_api_errors/typedapierrors/error/Detail$Builder" "type" "Ljava/lang/String;").before a0 Z = true := hw _ (List.mem_of_getElem? (i := 157) rfl)
theorem wd158 {a0 : Array Value} {Z : State} (hw : ∀ d ∈ tables_1, d.before a0 Z = true) : (Jvm.Cond.fieldLink "com/example/typed_api_errors/typedapierrors/error/Detail" (23 : Nat) "com/example/typed_api_errors/typedapierrors/error/Detail" "type" "Ljava/lang/String;").before a0 Z = true := hw _ (List.mem_of_getElem? (i := 158) rfl)
theorem wd159 {a0 : Array Value} {Z : State} (hw : ∀ d ∈ tables_1, d.before a0 Z = true) : (Jvm.Cond.laysFinal "com/example/typed_api_errors/typedapierrors/error/Detail" "com/example/typed_api_errors/typedapierrors/error/Detail" "type" "Ljava/lang/String;").before a0 Z = true := hw _ (List.mem_of_getElem? (i := 159) rfl)
theorem wd160 {a0 : Array Value} {Z : State} (hw : ∀ d ∈ tables_1, d.before a0 Z = true) : (Jvm.Cond.fieldRef "com/example/typed_api_errors/typedapierrors/error/Detail" (24 : Nat) "com/example/typed_api_errors/typedapierrors/error/Detail$Builder" "target" "Lcom/example/typed_api_errors/typedapierrors/error/Target;").before a0 Z = true := hw _ (List.mem_of_getElem? (i := 160) rfl)
theorem wd161 {a0 : Array Value} {Z : State} (hw : ∀ d ∈ tables_1, d.before a0 Z = true) : (Jvm.Cond.fieldLink "com/example/typed_api_errors/typedapierrors/error/Detail" (28 : Nat) "com/example/typed_api_errors/typedapierrors/error/Detail" "target" "Lcom/example/typed_api_errors/typedapierrors/error/Target;").before a0 Z = true := hw _ (List.mem_of_getElem? (i := 161) rfl)
theorem wd162 {a0 : Array Value} {Z : State} (hw : ∀ d ∈ tables_1, d.before a0 Z = true) : (Jvm.Cond.laysFinal "com/example/typed_api_errors/typedapierrors/error/Detail" "com/example/typed_api_errors/typedapierrors/error/Detail" "target" "Lcom/example/typed_api_errors/typedapierrors/error/Target;").before a0 Z = true := hw _ (List.mem_of_getElem? (i := 162) rfl)
theorem wd163 {a0 : Array Value} {Z : State} (hw : ∀ d ∈ tables_1, d.before a0 Z = true) : (Jvm.Cond.fieldRef "com/example/typed_api_errors/typedapierrors/error/Detail" (29 : Nat) "com/example/typed_api_errors/typedapierrors/error/Detail$Builder" "moreInfo" "Ljava/lang/String;").before a0 Z = true := hw _ (List.mem_of_getElem? (i := 163) rfl)
theorem wd164 {a0 : Array Value} {Z : State} (hw : ∀ d ∈ tables_1, d.before a0 Z = true) : (Jvm.Cond.fieldLink "com/example/typed_api_errors/typedapierrors/error/Detail" (32 : Nat) "com/example/typed_api_errors/typedapierrors/error/Detail" "moreInfo" "Ljava/lang/String;").before a0 Z = true := hw _ (List.mem_of_getElem? (i := 164) rfl)
theorem wd165 {a0 : Array Value} {Z : State} (hw : ∀ d ∈ tables_1, d.before a0 Z = true) : (Jvm.Cond.laysFinal "com/example/typed_api_errors/typedapierrors/error/Detail" "com/example/typed_api_errors/typedapierrors/error/Detail" "moreInfo" "Ljava/lang/String;").before a0 Z = true := hw _ (List.mem_of_getElem? (i := 165) rfl)
theorem wd166 {a0 : Array Value} {Z : State} (hw : ∀ d ∈ tables_1, d.before a0 Z = true) : (Jvm.Cond.fieldRef "com/example/typed_api_errors/typedapierrors/error/Detail" (33 : Nat) "com/example/typed_api_errors/typedapierrors/error/Detail$Builder" "constraint" "Lcom/example/typed_api_errors/typedapierrors/error/Constraint;").before a0 Z = true := hw _ (List.mem_of_getElem? (i := 166) rfl)
theorem wd167 {a0 : Array Value} {Z : State} (hw : ∀ d ∈ tables_1, d.before a0 Z = true) : (Jvm.Cond.lays "com/example/typed_api_errors/typedapierrors/error/Detail$Builder" "com/example/typed_api_errors/typedapierrors/error/Detail$Builder" "constraint" "Lcom/example/typed_api_errors/typedapierrors/error/Constraint;").before a0 Z = true := hw _ (List.mem_of_getElem? (i := 167) rfl)
theorem wd168 {a0 : Array Value} {Z : State} (hw : ∀ d ∈ tables_1, d.before a0 Z = true) : (Jvm.Cond.fieldLink "com/example/typed_api_errors/typedapierrors/error/Detail" (37 : Nat) "com/example/typed_api_errors/typedapierrors/error/Detail" "constraint" "Lcom/example/typed_api_errors/typedapierrors/error/Constraint;").before a0 Z = true := hw _ (List.mem_of_getElem? (i := 168) rfl)
theorem wd169 {a0 : Array Value} {Z : State} (hw : ∀ d ∈ tables_1, d.before a0 Z = true) : (Jvm.Cond.laysFinal "com/example/typed_api_errors/typedapierrors/error/Detail" "com/example/typed_api_errors/typedapierrors/error/Detail" "constraint" "Lcom/example/typed_api_errors/typedapierrors/error/Constraint;").before a0 Z = true := hw _ (List.mem_of_getElem? (i := 169) rfl)
theorem wd170 {a0 : Array Value} {Z : State} (hw : ∀ d ∈ tables_1, d.before a0 Z = true) : (Jvm.Cond.methodLink "com/example/typed_api_errors/typedapierrors/error/OccurrenceAsItemPinLaw" (57 : Nat) ({ cls := "com/example/typed_api_errors/typedapierrors/error/Detail", name := "code", desc := "()Ljava/util/Optional;" } : Jvm.MethodName)).before a0 Z = true := hw _ (List.mem_of_getElem? (i := 170) rfl)
theorem wd171 {a0 : Array Value} {Z : State} (hw : ∀ d ∈ tables_1, d.before a0 Z = true) : (Jvm.Cond.declares ({ cls := "com/example/typed_api_errors/typedapierrors/error/Detail", name := "code", desc := "()Ljava/util/Optional;" } : Jvm.MethodName)).before a0 Z = true := hw _ (List.mem_of_getElem? (i := 171) rfl)
theorem wd172 {a0 : Array Value} {Z : State} (hw : ∀ d ∈ tables_1, d.before a0 Z = true) : (Jvm.Cond.instanceMethod ({ cls := "com/example/typed_api_errors/typedapierrors/error/Detail", name := "code", desc := "()Ljava/util/Optional;" } : Jvm.MethodName)).before a0 Z = true := hw _ (List.mem_of_getElem? (i := 172) rfl)
theorem wd173 {a0 : Array Value} {Z : State} (hw : ∀ d ∈ tables_1, d.before a0 Z = true) : (Jvm.Cond.selects "com/example/typed_api_errors/typedapierrors/error/Detail" ({ cls := "com/example/typed_api_errors/typedapierrors/error/Detail", name := "code", desc := "()Ljava/util/Optional;" } : Jvm.MethodName) ({ cls := "com/example/typed_api_errors/typedapierrors/error/Detail", name := "code", desc := "()Ljava/util/Optional;" } : Jvm.MethodName)).before a0 Z = true := hw _ (List.mem_of_getElem? (i := 173) rfl)
theorem wd174 {a0 : Array Value} {Z : State} (hw : ∀ d ∈ tables_1, d.before a0 Z = true) : (Jvm.Cond.code ({ cls := "com/example/typed_api_errors/typedapierrors/error/Detail", name := "code", desc := "()Ljava/util/Optional;" } : Jvm.MethodName) prog_7_method_2_code (1 : Nat) (Option.some (Jvm.ClassFile.FieldType.object "java/util/Optional"))).before a0 Z = true := hw _ (List.mem_of_getElem? (i := 174) rfl)
theorem wd175 {a0 : Array Value} {Z : State} (hw : ∀ d ∈ tables_1, d.before a0 Z = true) : (Jvm.Cond.methodLink "com/example/typed_api_errors/typedapierrors/error/Detail" (38 : Nat) ({ cls := "java/util/Optional", name := "ofNullable", desc := "(Ljava/lang/Object;)Ljava/util/Optional;" } : Jvm.MethodName)).before a0 Z = true := hw _ (List.mem_of_getElem? (i := 175) rfl)
theorem wd176 {a0 : Array Value} {Z : State} (hw : ∀ d ∈ tables_1, d.before a0 Z = true) : (Jvm.Cond.static ({ cls := "java/util/Optional", name := "ofNullable", desc := "(Ljava/lang/Object;)Ljava/util/Optional;" } : Jvm.MethodName)).before a0 Z = true := hw _ (List.mem_of_getElem? (i := 176) rfl)
theorem wd177 {a0 : Array Value} {Z : State} (hw : ∀ d ∈ tables_1, d.before a0 Z = true) : (Jvm.Cond.code ({ cls := "java/util/Optional", name := "ofNullable", desc := "(Ljava/lang/Object;)Ljava/util/Optional;" } : Jvm.MethodName) jdk_32_method_4_code (1 : Nat) (Option.some (Jvm.ClassFile.FieldType.object "java/util/Optional"))).before a0 Z = true := hw _ (List.mem_of_getElem? (i := 177) rfl)
theorem wd178 {a0 : Array Value} {Z : State} (hw : ∀ d ∈ tables_1, d.before a0 Z = true) : (Jvm.Cond.classLink "java/util/Optional" (2 : Nat) "java/util/Optional").before a0 Z = true := hw _ (List.mem_of_getElem? (i := 178) rfl)
theorem wd179 {a0 : Array Value} {Z : State} (hw : ∀ d ∈ tables_1, d.before a0 Z = true) : (Jvm.Cond.instantiable "java/util/Optional" (1 : Nat)).before a0 Z = true := hw _ (List.mem_of_getElem? (i := 179) rfl)
theorem wd180 {a0 : Array Value} {Z : State} (hw : ∀ d ∈ tables_1, d.before a0 Z = true) : (Jvm.Cond.methodLink "java/util/Optional" (23 : Nat) ({ cls := "java/util/Optional", name := "<init>", desc := "(Ljava/lang/Object;)V" } : Jvm.MethodName)).before a0 Z = true := hw _ (List.mem_of_getElem? (i := 180) rfl)
theorem wd181 {a0 : Array Value} {Z : State} (hw : ∀ d ∈ tables_1, d.before a0 Z = true) : (Jvm.Cond.instanceMethod ({ cls := "java/util/Optional", name := "<init>", desc := "(Ljava/lang/Object;)V" } : Jvm.MethodName)).before a0 Z = true := hw _ (List.mem_of_getElem? (i := 181) rfl)
theorem wd183 {a0 : Array Value} {Z : State} (hw : ∀ d ∈ tables_1, d.before a0 Z = true) : (Jvm.Cond.code ({ cls := "java/util/Optional", name := "<init>", desc := "(Ljava/lang/Object;)V" } : Jvm.MethodName) jdk_32_method_2_code (2 : Nat) (Option.none : Option Jvm.ClassFile.FieldType)).before a0 Z = true := hw _ (List.mem_of_getElem? (i := 183) rfl)
theorem wd184 {a0 : Array Value} {Z : State} (hw : ∀ d ∈ tables_1, d.before a0 Z = true) : (Jvm.Cond.methodLink "java/util/Optional" (7 : Nat) ({ cls := "java/lang/Object", name := "<init>", desc := "()V" } : Jvm.MethodName)).before a0 Z = true := hw _ (List.mem_of_getElem? (i := 184) rfl)
theorem wd185 {a0 : Array Value} {Z : State} (hw : ∀ d ∈ tables_1, d.before a0 Z = true) : (Jvm.Cond.methodLink "com/example/typed_api_errors/typedapierrors/error/OccurrenceAsItemPinLaw" (62 : Nat) ({ cls := "com/example/typed_api_errors/typedapierrors/error/Detail", name := "message", desc := "()Ljava/util/Optional;" } : Jvm.MethodName)).before a0 Z = true := hw _ (List.mem_of_getElem? (i := 185) rfl)
theorem wd186 {a0 : Array Value} {Z : State} (hw : ∀ d ∈ tables_1, d.before a0 Z = true) : (Jvm.Cond.declares ({ cls := "com/example/typed_api_errors/typedapierrors/error/Detail", name := "message", desc := "()Ljava/util/Optional;" } : Jvm.MethodName)).before a0 Z = true := hw _ (List.mem_of_getElem? (i := 186) rfl)
theorem wd187 {a0 : Array Value} {Z : State} (hw : ∀ d ∈ tables_1, d.before a0 Z = true) : (Jvm.Cond.instanceMethod ({ cls := "com/example/typed_api_errors/typedapierrors/error/Detail", name := "message", desc := "()Ljava/util/Optional;" } : Jvm.MethodName)).before a0 Z = true := hw _ (List.mem_of_getElem? (i := 187) rfl)
theorem wd188 {a0 : Array Value} {Z : State} (hw : ∀ d ∈ tables_1, d.before a0 Z = true) : (Jvm.Cond.selects "com/example/typed_api_errors/typedapierrors/error/Detail" ({ cls := "com/example/typed_api_errors/typedapierrors/error/Detail", name := "message", desc := "()Ljava/util/Optional;" } : Jvm.MethodName) ({ cls := "com/example/typed_api_errors/typedapierrors/error/Detail", name := "message", desc := "()Ljava/util/Optional;" } : Jvm.MethodName)).before a0 Z = true := hw _ (List.mem_of_getElem? (i := 188) rfl)
theorem wd189 {a0 : Array Value} {Z : State} (hw : ∀ d ∈ tables_1, d.before a0 Z = true) : (Jvm.Cond.code ({ cls := "com/example/typed_api_errors/typedapierrors/error/Detail", name := "message", desc := "()Ljava/util/Optional;" } : Jvm.MethodName) prog_7_method_3_code (1 : Nat) (Option.some (Jvm.ClassFile.FieldType.object "java/util/Optional"))).before a0 Z = true := hw _ (List.mem_of_getElem? (i := 189) rfl)
theorem wd190 {a0 : Array Value} {Z : State} (hw : ∀ d ∈ tables_1, d.before a0 Z = true) : (Jvm.Cond.methodLink "com/example/typed_api_errors/typedapierrors/error/OccurrenceAsItemPinLaw" (65 : Nat) ({ cls := "com/example/typed_api_errors/typedapierrors/error/Detail", name := "moreInfo", desc := "()Ljava/util/Optional;" } : Jvm.MethodName)).before a0 Z = true := hw _ (List.mem_of_getElem? (i := 190) rfl)
theorem wd191 {a0 : Array Value} {Z : State} (hw : ∀ d ∈ tables_1, d.before a0 Z = true) : (Jvm.Cond.declares ({ cls := "com/example/typed_api_errors/typedapierrors/error/Detail", name := "moreInfo", desc := "()Ljava/util/Optional;" } : Jvm.MethodName)).before a0 Z = true := hw _ (List.mem_of_getElem? (i := 191) rfl)
theorem wd192 {a0 : Array Value} {Z : State} (hw : ∀ d ∈ tables_1, d.before a0 Z = true) : (Jvm.Cond.instanceMethod ({ cls := "com/example/typed_api_errors/typedapierrors/error/Detail", name := "moreInfo", desc := "()Ljava/util/Optional;" } : Jvm.MethodName)).before a0 Z = true := hw _ (List.mem_of_getElem? (i := 192) rfl)
theorem wd193 {a0 : Array Value} {Z : State} (hw : ∀ d ∈ tables_1, d.before a0 Z = true) : (Jvm.Cond.selects "com/example/typed_api_errors/typedapierrors/error/Detail" ({ cls := "com/example/typed_api_errors/typedapierrors/error/Detail", name := "moreInfo", desc := "()Ljava/util/Optional;" } : Jvm.MethodName) ({ cls := "com/example/typed_api_errors/typedapierrors/error/Detail", name := "moreInfo", desc := "()Ljava/util/Optional;" } : Jvm.MethodName)).before a0 Z = true := hw _ (List.mem_of_getElem? (i := 193) rfl)
theorem wd194 {a0 : Array Value} {Z : State} (hw : ∀ d ∈ tables_1, d.before a0 Z = true) : (Jvm.Cond.code ({ cls := "com/example/typed_api_errors/typedapierrors/error/Detail", name := "moreInfo", desc := "()Ljava/util/Optional;" } : Jvm.MethodName) prog_7_method_6_code (1 : Nat) (Option.some (Jvm.ClassFile.FieldType.object "java/util/Optional"))).before a0 Z = true := hw _ (List.mem_of_getElem? (i := 194) rfl)
theorem wd195 {a0 : Array Value} {Z : State} (hw : ∀ d ∈ tables_1, d.before a0 Z = true) : (Jvm.Cond.methodLink "com/example/typed_api_errors/typedapierrors/error/OccurrenceAsItemPinLaw" (68 : Nat) ({ cls := "com/example/typed_api_errors/typedapierrors/error/Detail", name := "target", desc := "()Ljava/util/Optional;" } : Jvm.MethodName)).before a0 Z = true := hw _ (List.mem_of_getElem? (i := 195) rfl)
theorem wd196 {a0 : Array Value} {Z : State} (hw : ∀ d ∈ tables_1, d.before a0 Z = true) : (Jvm.Cond.declares ({ cls := "com/example/typed_api_errors/typedapierrors/error/Detail", name := "target", desc := "()Ljava/util/Optional;" } : Jvm.MethodName)).before a0 Z = true := hw _ (List.mem_of_getElem? (i := 196) rfl)
theorem wd197 {a0 : Array Value} {Z : State} (hw : ∀ d ∈ tables_1, d.before a0 Z = true) : (Jvm.Cond.instanceMethod ({ cls := "com/example/typed_api_errors/typedapierrors/error/Detail", name := "target", desc := "()Ljava/util/Optional;" } : Jvm.MethodName)).before a0 Z = true := hw _ (List.mem_of_getElem? (i := 197) rfl)
theorem wd198 {a0 : Array Value} {Z : State} (hw : ∀ d ∈ tables_1, d.before a0 Z = true) : (Jvm.Cond.selects "com/example/typed_api_errors/typedapierrors/error/Detail" ({ cls := "com/example/typed_api_errors/typedapierrors/error/Detail", name := "target", desc := "()Ljava/util/Optional;" } : Jvm.MethodName) ({ cls := "com/example/typed_api_errors/typedapierrors/error/Detail", name := "target", desc := "()Ljava/util/Optional;" } : Jvm.MethodName)).before a0 Z = true := hw _ (List.mem_of_getElem? (i := 198) rfl)
theorem wd199 {a0 : Array Value} {Z : State} (hw : ∀ d ∈ tables_1, d.before a0 Z = true) : (Jvm.Cond.code ({ cls := "com/example/typed_api_errors/typedapierrors/error/Detail", name := "target", desc := "()Ljava/util/Optional;" } : Jvm.MethodName) prog_7_method_5_code (1 : Nat) (Option.some (Jvm.ClassFile.FieldType.object "java/util/Optional"))).before a0 Z = true := hw _ (List.mem_of_getElem? (i := 199) rfl)
theorem wd200 {a0 : Array Value} {Z : State} (hw : ∀ d ∈ tables_1, d.before a0 Z = true) : (Jvm.Cond.methodLink "com/example/typed_api_errors/typedapierrors/error/OccurrenceAsItemPinLaw" (71 : Nat) ({ cls := "com/example/typed_api_errors/typedapierrors/error/Detail", name := "type", desc := "()Ljava/util/Optional;" } : Jvm.MethodName)).before a0 Z = true := hw _ (List.mem_of_getElem? (i := 200) rfl)
theorem wd201 {a0 : Array Value} {Z : State} (hw : ∀ d ∈ tables_1, d.before a0 Z = true) : (Jvm.Cond.declares ({ cls := "com/example/typed_api_errors/typedapierrors/error/Detail", name := "type", desc := "()Ljava/util/Optional;" } : Jvm.MethodName)).before a0 Z = true := hw _ (List.mem_of_getElem? (i := 201) rfl)
theorem wd202 {a0 : Array Value} {Z : State} (hw : ∀ d ∈ tables_1, d.before a0 Z = true) : (Jvm.Cond.instanceMethod ({ cls := "com/example/typed_api_errors/typedapierrors/error/Detail", name := "type", desc := "()Ljava/util/Optional;" } : Jvm.MethodName)).before a0 Z = true := hw _ (List.mem_of_getElem? (i := 202) rfl)
theorem wd203 {a0 : Array Value} {Z : State} (hw : ∀ d ∈ tables_1, d.before a0 Z = true) : (Jvm.Cond.selects "com/example/typed_api_errors/typedapierrors/error/Detail" ({ cls := "com/example/typed_api_errors/typedapierrors/error/Detail", name := "type", desc := "()Ljava/util/Optional;" } : Jvm.MethodName) ({ cls := "com/example/typed_api_errors/typedapierrors/error/Detail", name := "type", desc := "()Ljava/util/Optional;" } : Jvm.MethodName)).before a0 Z = true := hw _ (List.mem_of_getElem? (i := 203) rfl)
theorem wd204 {a0 : Array Value} {Z : State} (hw : ∀ d ∈ tables_1, d.before a0 Z = true) : (Jvm.Cond.code ({ cls := "com/example/typed_api_errors/typedapierrors/error/Detail", name := "type", desc := "()Ljava/util/Optional;" } : Jvm.MethodName) prog_7_method_4_code (1 : Nat) (Option.some (Jvm.ClassFile.FieldType.object "java/util/Optional"))).before a0 Z = true := hw _ (List.mem_of_getElem? (i := 204) rfl)
theorem wd205 {a0 : Array Value} {Z : State} (hw : ∀ d ∈ tables_1, d.before a0 Z = true) : (Jvm.Cond.methodLink "com/example/typed_api_errors/typedapierrors/error/OccurrenceAsItemPinLaw" (74 : Nat) ({ cls := "com/example/typed_api_errors/typedapierrors/error/Detail", name := "constraint", desc := "()Ljava/util/Optional;" } : Jvm.MethodName)).before a0 Z = true := hw _ (List.mem_of_getElem? (i := 205) rfl)
theorem wd206 {a0 : Array Value} {Z : State} (hw : ∀ d ∈ tables_1, d.before a0 Z = true) : (Jvm.Cond.declares ({ cls := "com/example/typed_api_errors/typedapierrors/error/Detail", name := "constraint", desc := "()Ljava/util/Optional;" } : Jvm.MethodName)).before a0 Z = true := hw _ (List.mem_of_getElem? (i := 206) rfl)
theorem wd207 {a0 : Array Value} {Z : State} (hw : ∀ d ∈ tables_1, d.before a0 Z = true) : (Jvm.Cond.instanceMethod ({ cls := "com/example/typed_api_errors/typedapierrors/error/Detail", name := "constraint", desc := "()Ljava/util/Optional;" } : Jvm.MethodName)).before a0 Z = true := hw _ (List.mem_of_getElem? (i := 207) rfl)
theorem wd208 {a0 : Array Value} {Z : State} (hw : ∀ d ∈ tables_1, d.before a0 Z = true) : (Jvm.Cond.selects "com/example/typed_api_errors/typedapierrors/error/Detail" ({ cls := "com/example/typed_api_errors/typedapierrors/error/Detail", name := "constraint", desc := "()Ljava/util/Optional;" } : Jvm.MethodName) ({ cls := "com/example/typed_api_errors/typedapierrors/error/Detail", name := "constraint", desc := "()Ljava/util/Optional;" } : Jvm.MethodName)).before a0 Z = true := hw _ (List.mem_of_getElem? (i := 208) rfl)
theorem wd209 {a0 : Array Value} {Z : State} (hw : ∀ d ∈ tables_1, d.before a0 Z = true) : (Jvm.Cond.code ({ cls := "com/example/typed_api_errors/typedapierrors/error/Detail", name := "constraint", desc := "()Ljava/util/Optional;" } : Jvm.MethodName) prog_7_method_7_code (1 : Nat) (Option.some (Jvm.ClassFile.FieldType.object "java/util/Optional"))).before a0 Z = true := hw _ (List.mem_of_getElem? (i := 209) rfl)
theorem wd210 {a0 : Array Value} {Z : State} (hw : ∀ d ∈ tables_1, d.before a0 Z = true) : (Jvm.Cond.methodLink "com/example/typed_api_errors/typedapierrors/error/OccurrenceAsItemPinLaw" (77 : Nat) ({ cls := "com/example/typed_api_errors/typedapierrors/error/OccurrenceAsItemPinLaw", name := "same", desc := "(Ljava/util/Optional;ZLjava/lang/String;)Z" } : Jvm.MethodName)).before a0 Z = true := hw _ (List.mem_of_getElem? (i := 210) rfl)
theorem wd211 {a0 : Array Value} {Z : State} (hw : ∀ d ∈ tables_1, d.before a0 Z = true) : (Jvm.Cond.static ({ cls := "com/example/typed_api_errors/typedapierrors/error/OccurrenceAsItemPinLaw", name := "same", desc := "(Ljava/util/Optional;ZLjava/lang/String;)Z" } : Jvm.MethodName)).before a0 Z = true := hw _ (List.mem_of_getElem? (i := 211) rfl)
theorem wd212 {a0 : Array Value} {Z : State} (hw : ∀ d ∈ tables_1, d.before a0 Z = true) : (Jvm.Cond.code ({ cls := "com/example/typed_api_errors/typedapierrors/error/OccurrenceAsItemPinLaw", name := "same", desc := "(Ljava/util/Optional;ZLjava/lang/String;)Z" } : Jvm.MethodName) method_3_code (3 : Nat) (Option.some Jvm.ClassFile.FieldType.boolean)).before a0 Z = true := hw _ (List.mem_of_getElem? (i := 212) rfl)
theorem wd213 {a0 : Array Value} {Z : State} (hw : ∀ d ∈ tables_1, d.before a0 Z = true) : (Jvm.Cond.methodLink "com/example/typed_api_errors/typedapierrors/error/OccurrenceAsItemPinLaw" (12 : Nat) ({ cls := "java/util/Optional", name := "isPresent", desc := "()Z" } : Jvm.MethodName)).before a0 Z = true := hw _ (List.mem_of_getElem? (i := 213) rfl)
theorem wd214 {a0 : Array Value} {Z : State} (hw : ∀ d ∈ tables_1, d.before a0 Z = true) : (Jvm.Cond.declares ({ cls := "java/util/Optional", name := "isPresent", desc := "()Z" } : Jvm.MethodName)).before a0 Z = true := hw _ (List.mem_of_getElem? (i := 214) rfl)
theorem wd215 {a0 : Array Value} {Z : State} (hw : ∀ d ∈ tables_1, d.before a0 Z = true) : (Jvm.Cond.instanceMethod ({ cls := "java/util/Optional", name := "isPresent", desc := "()Z" } : Jvm.MethodName)).before a0 Z = true := hw _ (List.mem_of_getElem? (i := 215) rfl)
theorem wd216 {a0 : Array Value} {Z : State} (hw : ∀ d ∈ tables_1, d.before a0 Z = true) : (Jvm.Cond.selects "java/util/Optional" ({ cls := "java/util/Optional", name := "isPresent", desc := "()Z" } : Jvm.MethodName) ({ cls := "java/util/Optional", name := "isPresent", desc := "()Z" } : Jvm.MethodName)).before a0 Z = true := hw _ (List.mem_of_getElem? (i := 216) rfl)
theorem wd217 {a0 : Array Value} {Z : State} (hw : ∀ d ∈ tables_1, d.before a0 Z = true) : (Jvm.Cond.code ({ cls := "java/util/Optional", name := "isPresent", desc := "()Z" } : Jvm.MethodName) jdk_32_method_6_code (1 : Nat) (Option.some Jvm.ClassFile.FieldType.boolean)).before a0 Z = true := hw _ (List.mem_of_getElem? (i := 217) rfl)
theorem wd218 {a0 : Array Value} {Z : State} (hw : ∀ d ∈ tables_1, d.before a0 Z = true) : (Jvm.Cond.methodLink "com/example/typed_api_errors/typedapierrors/error/OccurrenceAsItemPinLaw" (18 : Nat) ({ cls := "java/util/Optional", name := "get", desc := "()Ljava/lang/Object;" } : Jvm.MethodName)).before a0 Z = true := hw _ (List.mem_of_getElem? (i := 218) rfl)
theorem wd219 {a0 : Array Value} {Z : State} (hw : ∀ d ∈ tables_1, d.before a0 Z = true) : (Jvm.Cond.declares ({ cls := "java/util/Optional", name := "get", desc := "()Ljava/lang/Object;" } : Jvm.MethodName)).before a0 Z = true := hw _ (List.mem_of_getElem? (i := 219) rfl)
theorem wd220 {a0 : Array Value} {Z : State} (hw : ∀ d ∈ tables_1, d.before a0 Z = true) : (Jvm.Cond.instanceMethod ({ cls := "java/util/Optional", name := "get", desc := "()Ljava/lang/Object;" } : Jvm.MethodName)).before a0 Z = true := hw _ (List.mem_of_getElem? (i := 220) rfl)
theorem wd221 {a0 : Array Value} {Z : State} (hw : ∀ d ∈ tables_1, d.before a0 Z = true) : (Jvm.Cond.selects "java/util/Optional" ({ cls := "java/util/Optional", name := "get", desc := "()Ljava/lang/Object;" } : Jvm.MethodName) ({ cls := "java/util/Optional", name := "get", desc := "()Ljava/lang/Object;" } : Jvm.MethodName)).before a0 Z = true := hw _ (List.mem_of_getElem? (i := 221) rfl)
theorem wd222 {a0 : Array Value} {Z : State} (hw : ∀ d ∈ tables_1, d.before a0 Z = true) : (Jvm.Cond.code ({ cls := "java/util/Optional", name := "get", desc := "()Ljava/lang/Object;" } : Jvm.MethodName) jdk_32_method_5_code (1 : Nat) (Option.some (Jvm.ClassFile.FieldType.object "java/lang/Object"))).before a0 Z = true := hw _ (List.mem_of_getElem? (i := 222) rfl)
theorem wd223 {a0 : Array Value} {Z : State} (hw : ∀ d ∈ tables_1, d.before a0 Z = true) : (Jvm.Cond.methodLink "com/example/typed_api_errors/typedapierrors/error/OccurrenceAsItemPinLaw" (22 : Nat) ({ cls := "java/lang/String", name := "equals", desc := "(Ljava/lang/Object;)Z" } : Jvm.MethodName)).before a0 Z = true := hw _ (List.mem_of_getElem? (i := 223) rfl)
theorem wd224 {a0 : Array Value} {Z : State} (hw : ∀ d ∈ tables_1, d.before a0 Z = true) : (Jvm.Cond.declares ({ cls := "java/lang/String", name := "equals", desc := "(Ljava/lang/Object;)Z" } : Jvm.MethodName)).before a0 Z = true := hw _ (List.mem_of_getElem? (i := 224) rfl)
theorem wd225 {a0 : Array Value} {Z : State} (hw : ∀ d ∈ tables_1, d.before a0 Z = true) : (Jvm.Cond.instanceMethod ({ cls := "java/lang/String", name := "equals", desc := "(Ljava/lang/Object;)Z" } : Jvm.MethodName)).before a0 Z = true := hw _ (List.mem_of_getElem? (i := 225) rfl)
theorem wd226 {a0 : Array Value} {Z : State} (hw : ∀ d ∈ tables_1, d.before a0 Z = true) : (Jvm.Cond.selects "java/lang/String" ({ cls := "java/lang/String", name := "equals", desc := "(Ljava/lang/Object;)Z" } : Jvm.MethodName) ({ cls := "java/lang/String", name := "equals", desc := "(Ljava/lang/Object;)Z" } : Jvm.MethodName)).before a0 Z = true := hw _ (List.mem_of_getElem? (i := 226) rfl)
theorem wd227 {a0 : Array Value} {Z : State} (hw : ∀ d ∈ tables_1, d.before a0 Z = true) : (Jvm.Cond.code ({ cls := "java/lang/String", name := "equals", desc := "(Ljava/lang/Object;)Z" } : Jvm.MethodName) jdk_42_method_66_code (3 : Nat) (Option.some Jvm.ClassFile.FieldType.boolean)).before a0 Z = true := hw _ (List.mem_of_getElem? (i := 227) rfl)
theorem wd228 {a0 : Array Value} {Z : State} (hw : ∀ d ∈ tables_1, d.before a0 Z = true) : (Jvm.Cond.methodLink "com/example/typed_api_errors/typedapierrors/error/OccurrenceAsItemPinLaw" (32 : Nat) ({ cls := "java/util/Optional", name := "of", desc := "(Ljava/lang/Object;)Ljava/util/Optional;" } : Jvm.MethodName)).before a0 Z = true := hw _ (List.mem_of_getElem? (i := 228) rfl)
theorem wd229 {a0 : Array Value} {Z : State} (hw : ∀ d ∈ tables_1, d.before a0 Z = true) : (Jvm.Cond.static ({ cls := "java/util/Optional", name := "of", desc := "(Ljava/lang/Object;)Ljava/util/Optional;" } : Jvm.MethodName)).before a0 Z = true := hw _ (List.mem_of_getElem? (i := 229) rfl)
theorem wd230 {a0 : Array Value} {Z : State} (hw : ∀ d ∈ tables_1, d.before a0 Z = true) : (Jvm.Cond.code ({ cls := "java/util/Optional", name := "of", desc := "(Ljava/lang/Object;)Ljava/util/Optional;" } : Jvm.MethodName) jdk_32_method_3_code (1 : Nat) (Option.some (Jvm.ClassFile.FieldType.object "java/util/Optional"))).before a0 Z = true := hw _ (List.mem_of_getElem? (i := 230) rfl)
theorem wd231 {a0 : Array Value} {Z : State} (hw : ∀ d ∈ tables_1, d.before a0 Z = true) : (Jvm.Cond.methodLink "java/util/Optional" (17 : Nat) ({ cls := "java/util/Objects", name := "requireNonNull", desc := "(Ljava/lang/Object;)Ljava/lang/Object;" } : Jvm.MethodName)).before a0 Z = true := hw _ (List.mem_of_getElem? (i := 231) rfl)
theorem wd232 {a0 : Array Value} {Z : State} (hw : ∀ d ∈ tables_1, d.before a0 Z = true) : (Jvm.Cond.static ({ cls := "java/util/Objects", name := "requireNonNull", desc := "(Ljava/lang/Object;)Ljava/lang/Object;" } : Jvm.MethodName)).before a0 Z = true := hw _ (List.mem_of_getElem? (i := 232) rfl)
theorem wd233 {a0 : Array Value} {Z : State} (hw : ∀ d ∈ tables_1, d.before a0 Z = true) : (Jvm.Cond.initialized "java/util/Objects").before a0 Z = true := hw _ (List.mem_of_getElem? (i := 233) rfl)
theorem wd234 {a0 : Array Value} {Z : State} (hw : ∀ d ∈ tables_1, d.before a0 Z = true) : (Jvm.Cond.code ({ cls := "java/util/Objects", name := "requireNonNull", desc := "(Ljava/lang/Object;)Ljava/lang/Object;" } : Jvm.MethodName) jdk_31_method_10_code (1 : Nat) (Option.some (Jvm.ClassFile.FieldType.object "java/lang/Object"))).before a0 Z = true := hw _ (List.mem_of_getElem? (i := 234) rfl)
theorem wd235 {a0 : Array Value} {Z : State} (hw : ∀ d ∈ tables_1, d.before a0 Z = true) : (Jvm.Cond.classLink "com/example/typed_api_errors/typedapierrors/error/Occurrence" (57 : Nat) "java/lang/String").before a0 Z = true := hw _ (List.mem_of_getElem? (i := 235) rfl)
theorem wd236 {a0 : Array Value} {Z : State} (hw : ∀ d ∈ tables_1, d.before a0 Z = true) : (Jvm.Cond.classLink "com/example/typed_api_errors/typedapierrors/error/OccurrenceAsItemPinLaw" (40 : Nat) "com/example/typed_api_errors/typedapierrors/error/Target").before a0 Z = true := hw _ (List.mem_of_getElem? (i := 236) rfl)
theorem wd237 {a0 : Array Value} {Z : State} (hw : ∀ d ∈ tables_1, d.before a0 Z = true) : (Jvm.Cond.instantiable "com/example/typed_api_errors/typedapierrors/error/Target" (3 : Nat)).before a0 Z = true := hw _ (List.mem_of_getElem? (i := 237) rfl)
theorem wd238 {a0 : Array Value} {Z : State} (hw : ∀ d ∈ tables_1, d.before a0 Z = true) : (Jvm.Cond.initialized "com/example/typed_api_errors/typedapierrors/error/Target").before a0 Z = true := hw _ (List.mem_of_getElem? (i := 238) rfl)
theorem wd239 {a0 : Array Value} {Z : State} (hw : ∀ d ∈ tables_1, d.before a0 Z = true) : (Jvm.Cond.methodLink "com/example/typed_api_errors/typedapierrors/error/OccurrenceAsItemPinLaw" (42 : Nat) ({ cls := "com/example/typed_api_errors/typedapierrors/error/Target", name := "<init>", desc := "(Ljava/lang/String;Ljava/lang/String;Ljava/lang/String;)V" } : Jvm.MethodName)).before a0 Z = true := hw _ (List.mem_of_getElem? (i := 239) rfl)
theorem wd240 {a0 : Array Value} {Z : State} (hw : ∀ d ∈ tables_1, d.before a0 Z = true) : (Jvm.Cond.instanceMethod ({ cls := "com/example/typed_api_errors/typedapierrors/error/Target", name := "<init>", desc := "(Ljava/lang/String;Ljava/lang/String;Ljava/lang/String;)V" } : Jvm.MethodName)).before a0 Z = true := hw _ (List.mem_of_getElem? (i := 240) rfl)
theorem wd241 {a0 : Array Value} {Z : State} (hw : ∀ d ∈ tables_1, d.before a0 Z = true) : (Jvm.Cond.code ({ cls := "com/example/typed_api_errors/typedapierrors/error/Target", name := "<init>", desc := "(Ljava/lang/String;Ljava/lang/String;Ljava/lang/String;)V" } : Jvm.MethodName) prog_13_method_1_code (4 : Nat) (Option.none : Option Jvm.ClassFile.FieldType)).before a0 Z = true := hw _ (List.mem_of_getElem? (i := 241) rfl)
theorem wd242 {a0 : Array Value} {Z : State} (hw : ∀ d ∈ tables_1, d.before a0 Z = true) : (Jvm.Cond.methodLink "com/example/typed_api_errors/typedapierrors/error/Target" (1 : Nat) ({ cls := "java/lang/Object", name := "<init>", desc := "()V" } : Jvm.MethodName)).before a0 Z = true := hw _ (List.mem_of_getElem? (i := 242) rfl)
theorem wd243 {a0 : Array Value} {Z : State} (hw : ∀ d ∈ tables_1, d.before a0 Z = true) : (Jvm.Cond.stringLink "com/example/typed_api_errors/typedapierrors/error/Target" (7 : Nat) "name").before a0 Z = true := hw _ (List.mem_of_getElem? (i := 243) rfl)
theorem wd246 {a0 : Array Value} {Z : State} (hw : ∀ d ∈ tables_1, d.before a0 Z = true) : (Jvm.Cond.methodLink "com/example/typed_api_errors/typedapierrors/error/Target" (9 : Nat) ({ cls := "java/util/Objects", name := "requireNonNull", desc := "(Ljava/lang/Object;Ljava/lang/String;)Ljava/lang/Object;" } : Jvm.MethodName)).before a0 Z = true := hw _ (List.mem_of_getElem? (i := 246) rfl)
theorem wd247 {a0 : Array Value} {Z : State} (hw : ∀ d ∈ tables_1, d.before a0 Z = true) : (Jvm.Cond.static ({ cls := "java/util/Objects", name := "requireNonNull", desc := "(Ljava/lang/Object;Ljava/lang/String;)Ljava/lang/Object;" } : Jvm.MethodName)).before a0 Z = true := hw _ (List.mem_of_getElem? (i := 247) rfl)
theorem wd248 {a0 : Array Value} {Z : State} (hw : ∀ d ∈ tables_1, d.before a0 Z = true) : (Jvm.Cond.code ({ cls := "java/util/Objects", name := "requireNonNull", desc := "(Ljava/lang/Object;Ljava/lang/String;)Ljava/lang/Object;" } : Jvm.MethodName) jdk_31_method_11_code (2 : Nat) (Option.some (Jvm.ClassFile.FieldType.object "java/lang/Object"))).before a0 Z = true := hw _ (List.mem_of_getElem? (i := 248) rfl)
theorem wd249 {a0 : Array Value} {Z : State} (hw : ∀ d ∈ tables_1, d.before a0 Z = true) : (Jvm.Cond.classLink "com/example/typed_api_errors/typedapierrors/error/Target" (15 : Nat) "java/lang/String").before a0 Z = true := hw _ (List.mem_of_getElem? (i := 249) rfl)
theorem wd250 {a0 : Array Value} {Z : State} (hw : ∀ d ∈ tables_1, d.before a0 Z = true) : (Jvm.Cond.fieldLink "com/example/typed_api_errors/typedapierrors/error/Target" (17 : Nat) "com/example/typed_api_errors/typedapierrors/error/Target" "name" "Ljava/lang/String;").before a0 Z = true := hw _ (List.mem_of_getElem? (i := 250) rfl)
theorem wd251 {a0 : Array Value} {Z : State} (hw : ∀ d ∈ tables_1, d.before a0 Z = true) : (Jvm.Cond.laysFinal "com/example/typed_api_errors/typedapierrors/error/Target" "com/example/typed_api_errors/typedapierrors/error/Target" "name" "Ljava/lang/String;").before a0 Z = true := hw _ (List.mem_of_getElem? (i := 251) rfl)
theorem wd252 {a0 : Array Value} {Z : State} (hw : ∀ d ∈ tables_1, d.before a0 Z = true) : (Jvm.Cond.fieldLink "com/example/typed_api_errors/typedapierrors/error/Target" (22 : Nat) "com/example/typed_api_errors/typedapierrors/error/Target" "type" "Ljava/lang/String;").before a0 Z = true := hw _ (List.mem_of_getElem? (i := 252) rfl)
theorem wd253 {a0 : Array Value} {Z : State} (hw : ∀ d ∈ tables_1, d.before a0 Z = true) : (Jvm.Cond.laysFinal "com/example/typed_api_errors/typedapierrors/error/Target" "com/example/typed_api_errors/typedapierrors/error/Target" "type" "Ljava/lang/String;").before a0 Z = true := hw _ (List.mem_of_getElem? (i := 253) rfl)
theorem wd254 {a0 : Array Value} {Z : State} (hw : ∀ d ∈ tables_1, d.before a0 Z = true) : (Jvm.Cond.fieldLink "com/example/typed_api_errors/typedapierrors/error/Target" (25 : Nat) "com/example/typed_api_errors/typedapierrors/error/Target" "value" "Ljava/lang/String;").before a0 Z = true := hw _ (List.mem_of_getElem? (i := 254) rfl)
theorem wd255 {a0 : Array Value} {Z : State} (hw : ∀ d ∈ tables_1, d.before a0 Z = true) : (Jvm.Cond.laysFinal "com/example/typed_api_errors/typedapierrors/error/Target" "com/example/typed_api_errors/typedapierrors/error/Target" "value" "Ljava/lang/String;").before a0 Z = true := hw _ (List.mem_of_getElem? (i := 255) rfl)
theorem wd256 {a0 : Array Value} {Z : State} (hw : ∀ d ∈ tables_1, d.before a0 Z = true) : (Jvm.Cond.classLink "com/example/typed_api_errors/typedapierrors/error/Occurrence" (64 : Nat) "com/example/typed_api_errors/typedapierrors/error/Target").before a0 Z = true := hw _ (List.mem_of_getElem? (i := 256) rfl)
theorem pn_java_util_Optional : plainName "java/util/Optional" = true := by first | (simp [plainName, overriddenIn]; done) | decide +kernel
theorem pd__Ljava_lang_Object__V : parseMethodDescriptor "(Ljava/lang/Object;)V" = some ⟨[(.object "java/lang/Object")], none⟩ := by decide +kernel
theorem pn_java_lang_String : plainName "java/lang/String" = true := by first | (simp [plainName, overriddenIn]; done) | decide +kernel
theorem pn_com_example_typed_api_errors_typedapierrors_error_OccurrenceAsItemPinLaw : plainName cn4 = true := by first | (simp [plainName, overriddenIn]; done) | decide +kernel
theorem pd___Z : parseMethodDescriptor "()Z" = some ⟨[], some .boolean⟩ := by decide +kernel
theorem pd___Ljava_lang_Object_ : parseMethodDescriptor "()Ljava/lang/Object;" = some ⟨[], some (.object "java/lang/Object")⟩ := by decide +kernel
theorem pd__Ljava_lang_Object__Z : parseMethodDescriptor "(Ljava/lang/Object;)Z" = some ⟨[(.object "java/lang/Object")], some .boolean⟩ := by decide +kernel
theorem pd___C_V : parseMethodDescriptor "([C)V" = some ⟨[(.array .char)], none⟩ := by decide +kernel
theorem pn_java_util_Objects : plainName "java/util/Objects" = true := by first | (simp [plainName, overriddenIn]; done) | decide +kernel
theorem pd__Ljava_lang_Object__Ljava_lang_Object_ : parseMethodDescriptor "(Ljava/lang/Object;)Ljava/lang/Object;" = some ⟨[(.object "java/lang/Object")], some (.object "java/lang/Object")⟩ := by decide +kernel
theorem pn_java_util_ArrayList : plainName "java/util/ArrayList" = true := by first | (simp [plainName, overriddenIn]; done) | decide +kernel
theorem pn_java_util_AbstractList : plainName "java/util/AbstractList" = true := by first | (simp [plainName, overriddenIn]; done) | decide +kernel
theorem pn_java_util_AbstractCollection : plainName "java/util/AbstractCollection" = true := by first | (simp [plainName, overriddenIn]; done) | decide +kernel
theorem pd___V : parseMethodDescriptor "()V" = some ⟨[], none⟩ := by decide +kernel
theorem pn_com_example_typed_api_errors_typedapierrors_error_Occurrence : plainName cn10 = true := by first | (simp [plainName, overriddenIn]; done) | decide +kernel
theorem pn_java_lang_Record : plainName "java/lang/Record" = true := by first | (simp [plainName, overriddenIn]; done) | decide +kernel
theorem pn_com_example_typed_api_errors_typedapierrors_error_Detail_Builder : plainName cn6 = true := by first | (simp [plainName, overriddenIn]; done) | decide +kernel
theorem pd__Ljava_lang_String__Lcom_example_typed_api_errors_typedapierrors_error_Detail_Builder_ : parseMethodDescriptor "(Ljava/lang/String;)Lcom/example/typed_api_errors/typedapierrors/error/Detail$Builder;" = some ⟨[(.object "java/lang/String")], some (.object cn6)⟩ := by decide +kernel
theorem pd__Lcom_example_typed_api_errors_typedapierrors_error_Target__Lcom_example_typed_api_errors_typedapierrors_error_Detail_Builder_ : parseMethodDescriptor "(Lcom/example/typed_api_errors/typedapierrors/error/Target;)Lcom/example/typed_api_errors/typedapierrors/error/Detail$Builder;" = some ⟨[(.object cn14)], some (.object cn6)⟩ := by decide +kernel
theorem pn_com_example_typed_api_errors_typedapierrors_error_Detail : plainName cn13 = true := by first | (simp [plainName, overriddenIn]; done) | decide +kernel
theorem pd__Lcom_example_typed_api_errors_typedapierrors_error_Detail_Builder__V : parseMethodDescriptor "(Lcom/example/typed_api_errors/typedapierrors/error/Detail$Builder;)V" = some ⟨[(.object cn6)], none⟩ := by decide +kernel
theorem pd___Lcom_example_typed_api_errors_typedapierrors_error_Detail_ : parseMethodDescriptor "()Lcom/example/typed_api_errors/typedapierrors/error/Detail;" = some ⟨[], some (.object cn13)⟩ := by decide +kernel
theorem pn_com_example_typed_api_errors_typedapierrors_error_Target : plainName cn14 = true := by first | (simp [plainName, overriddenIn]; done) | decide +kernel
theorem pd__Ljava_lang_Object_Ljava_lang_String__Ljava_lang_Object_ : parseMethodDescriptor "(Ljava/lang/Object;Ljava/lang/String;)Ljava/lang/Object;" = some ⟨[(.object "java/lang/Object"), (.object "java/lang/String")], some (.object "java/lang/Object")⟩ := by decide +kernel
theorem pd__II_Ljava_lang_String_ : parseMethodDescriptor "(II)Ljava/lang/String;" = some ⟨[.int, .int], some (.object "java/lang/String")⟩ := by decide +kernel
theorem pd___Ljava_util_Optional_ : parseMethodDescriptor "()Ljava/util/Optional;" = some ⟨[], some (.object "java/util/Optional")⟩ := by decide +kernel
theorem pd__Ljava_lang_Object__Ljava_util_Optional_ : parseMethodDescriptor "(Ljava/lang/Object;)Ljava/util/Optional;" = some ⟨[(.object "java/lang/Object")], some (.object "java/util/Optional")⟩ := by decide +kernel
theorem pd__Ljava_lang_String_ILjava_util_Optional_Ljava_util_Optional_Ljava_util_Optional_Ljava_util_Optional_Ljava_util_Optional_Ljava_util_List__V : parseMethodDescriptor "(Ljava/lang/String;ILjava/util/Optional;Ljava/util/Optional;Ljava/util/Optional;Ljava/util/Optional;Ljava/util/Optional;Ljava/util/List;)V" = some ⟨[(.object "java/lang/String"), .int, (.object "java/util/Optional"), (.object "java/util/Optional"), (.object "java/util/Optional"), (.object "java/util/Optional"), (.object "java/util/Optional"), (.object "java/util/List")], none⟩ := by decide +kernel
theorem pd__Ljava_util_Optional__Lcom_example_typed_api_errors_typedapierrors_error_Detail_ : parseMethodDescriptor "(Ljava/util/Optional;)Lcom/example/typed_api_errors/typedapierrors/error/Detail;" = some ⟨[(.object "java/util/Optional")], some (.object cn13)⟩ := by decide +kernel
theorem pd__Ljava_util_Optional_ZLjava_lang_String__Z : parseMethodDescriptor "(Ljava/util/Optional;ZLjava/lang/String;)Z" = some ⟨[(.object "java/util/Optional"), .boolean, (.object "java/lang/String")], some .boolean⟩ := by decide +kernel
theorem pd__Ljava_lang_String_Ljava_lang_String_Ljava_lang_String__V : parseMethodDescriptor "(Ljava/lang/String;Ljava/lang/String;Ljava/lang/String;)V" = some ⟨[(.object "java/lang/String"), (.object "java/lang/String"), (.object "java/lang/String")], none⟩ := by decide +kernel
theorem own_and255 (x : Int32) : ¬ nar .char ((x &&& (255 : Int32)).toUInt32.toUInt16.toUInt32.toInt32) < 0 ∧ ¬ (255 : Int32) < nar .char ((x &&& (255 : Int32)).toUInt32.toUInt16.toUInt32.toInt32) := by
  have t : ∀ k : Fin 256, ¬ nar .char ((Int32.ofNat k.val).toUInt32.toUInt16.toUInt32.toInt32) < 0 ∧ ¬ (255 : Int32) < nar .char ((Int32.ofNat k.val).toUInt32.toUInt16.toUInt32.toInt32) := by decide +kernel
  have h : (x &&& 255).toBitVec.toNat < 256 := by
    simp only [Int32.toBitVec_and, BitVec.toNat_and]
    exact Nat.lt_succ_of_le Nat.and_le_right
  have e : (x &&& 255) = Int32.ofNat (x &&& 255).toBitVec.toNat := by
    apply Int32.toBitVec_inj.mp
    show _ = BitVec.ofNat 32 _
    rw [BitVec.ofNat_toNat]; simp
  rw [e]
  exact t ⟨_, h⟩
theorem own_up (cs : List Int32) (h : ∀ c ∈ cs, ¬ c < 0 ∧ ¬ (255 : Int32) < c) : ∀ c ∈ cs, ¬ c < 0 ∧ ¬ (65535 : Int32) < c := fun c hc => ⟨(h c hc).1, fun q => (h c hc).2 (by rw [Int32.lt_iff_toInt_lt] at q ⊢; have e1 : (65535 : Int32).toInt = 65535 := rfl; have e2 : (255 : Int32).toInt = 255 := rfl; omega)⟩
theorem own_refc {v : Value} (h : v.isRef = true) : v = .null ∨ ∃ a, v = .ref a := by
  cases v <;> first | exact Or.inl rfl | exact Or.inr ⟨_, rfl⟩ | cases h
theorem own_nrO {C : String} {v : Value} (h : v.isRef = true) : narrow (.object C) v = v := by
  cases v <;> first | rfl | cases h
theorem own_ftO {C : String} {v : Value} (h : v.isRef = true) : fits (.object C) v = true := by
  cases v <;> first | rfl | cases h
theorem own_castV {p : Program} {l : Launch} {e : Env} {R : Room} {s : State} {m : MethodId} {args : Array Value} {below : List Frame} {meth : Method} {c : Code} {T : State} {locs : List Loc} {cells slots : Nat} {Z : State} {a0 : Array Value} {h : Heap}
    (X : Stand p l e R s m args below meth c T locs cells slots) (hx : p.tables.exec = Jvm.exec) (hZ : Z.Warmed39 s.vm) {own K : String} {index : Nat} (hown : s.vm.findClass own = some m.cls) (w : (Cond.classLink own index K).before a0 Z = true) (eT : T.heap = h) {v : Value} (rv : v.isRef = true) (F : ∀ a, v = .ref a → Ins Z h a K true)
    {g : JFrame} (hg : g.method = m) {rest : List Value} (hs : g.stack = v :: rest) (hd : decode c.code g.pc = .ok (.checkcast index, 3)) : ∃ T', Stand p l e R s m args below meth c T' locs cells slots ∧ T'.heap = h ∧ ∀ target, Steps p.tables e below (T'.setTop { g with pc := g.pc + 3 }) target → Steps p.tables e below (T.setTop g) target := by
  rcases own_refc rv with q | ⟨a, q⟩
  · subst q; exact ⟨T, X, eT, X.checkcastNull hx hg hs hd⟩
  · subst q; exact castY X hx hZ hown w eT (F a rfl) hg hs hd
theorem own_ef2 (m : MethodId) (a : Addr) (v : Value) (r : v.isRef = true) : entryFrame m #[(.ref a), v] 2 = mkF m 0 #[.val (.ref a), .val v] [] := by
  cases v <;> first | (simp [entryFrame, mkF, argsToLocals, Value.category]; done) | rfl | cases r
theorem own_getFR {p : Program} {l : Launch} {e : Env} {R : Room} {s : State} {m : MethodId} {args : Array Value} {below : List Frame} {meth : Method} {c : Code} {T : State} {locs : List Loc} {cells slots : Nat} {Z : State} {a0 : Array Value} {h : Heap}
    (X : Stand p l e R s m args below meth c T locs cells slots) (hx : p.tables.exec = Jvm.exec) (hZ : Z.Warmed39 s.vm) {own O n d : String} {index : Nat} (hown : s.vm.findClass own = some m.cls) (w : (Cond.fieldRef own index O n d).before a0 Z = true)
    (eT : T.heap = h) {a : Addr} {v : Value} (F : Fld Z h a O n d v) {g : JFrame} (hg : g.method = m) {rest : List Value} (hs : g.stack = .ref a :: rest) (hd : decode c.code g.pc = .ok (.getfield index, 3)) : ∃ T', Stand p l e R s m args below meth c T' locs cells slots ∧ T'.heap = h ∧ ∀ target, Steps p.tables e below (T'.setTop { g with pc := g.pc + 3, stack := v :: rest }) target → Steps p.tables e below (T.setTop g) target := by
  have hT : Z.Warmed39 T.vm := wtrans hZ X.warmed
  have w1 := Cond.fieldRef_warmed39 hT w
  have hcur : (Z.setVm T.vm).vm.findClass own = some m.cls := by
    show T.vm.findClass own = _
    rw [X.warmed.alike.findClass]; exact hown
  obtain ⟨cf', k', i', f', q1, q2⟩ := Cond.fieldRef_spec hcur w1
  obtain ⟨cell, cf, k, i, f, h1, h2, h3, h4, -, -, h7⟩ := F
  obtain ⟨k2, hi, -⟩ := State.fieldFound?_setVm (s := Z) hT.alike h2
  rw [hi] at q1
  injection q1 with q1
  injection q1 with e1 q1
  injection q1 with e2 q1
  injection q1 with e3 e4
  subst e1 e4
  refine ⟨T, X, eT, fun target k => ?_⟩
  exact (X.getfieldR hx hg q2 h3 hs (by rw [eT]; exact h1) h4 h7 hd (Steps.refl _)).trans k
theorem own_fldNull {Z : State} {args : Array Value} {t : Term} {a : Addr} {C n d : String} (ev : t.eval args Z none [] Z = some (.ref a)) (h : (Jvm.Cond.eq (.field t C n d) .null).value args Z none Z [] = some true) : Fld Z Z.heap a C n d .null := by
  cases hx : (Term.field t C n d).eval args Z none [] Z with
  | none => simp [Cond.value, hx] at h
  | some x =>
    have h2 : (Term.null).eval args Z none [] Z = some .null := by simp [Term.eval]
    have e : x = .null := by
      cases x <;> simp [Cond.value, hx, h2] at h ⊢
    rw [fld_at ev] at hx
    exact Fld.start (e ▸ hx)
def own_EL : List (String × Nat) := []
theorem own_EW (a0 : Array Value) (Z : State) (hw : ∀ d ∈ tables_1, d.before a0 Z = true) : EW Z a0 own_EL := EW.nil
theorem ef_OrE (m : MethodId) (x0 : Addr) : entryFrame m #[(.ref x0), .null] 2 = mkF m 0 #[.val (.ref x0), .val .null] [] := by first | (simp [entryFrame, mkF, argsToLocals, Value.category]; done) | rfl
theorem da_0 : decode jdk_32_method_15_code 0 = .ok (.aload_n 0, 1) := by decide +kernel
theorem da_1 : decode jdk_32_method_15_code 1 = .ok (.getfield 13, 3) := by decide +kernel
theorem da_4 : decode jdk_32_method_15_code 4 = .ok (.ifnull 10, 3) := by decide +kernel
theorem da_14 : decode jdk_32_method_15_code 14 = .ok (.aload_n 1, 1) := by decide +kernel
theorem da_15 : decode jdk_32_method_15_code 15 = .ok (.areturn, 1) := by decide +kernel
theorem da_7 : decode jdk_32_method_15_code 7 = .ok (.aload_n 0, 1) := by decide +kernel
theorem da_8 : decode jdk_32_method_15_code 8 = .ok (.getfield 13, 3) := by decide +kernel
theorem da_11 : decode jdk_32_method_15_code 11 = .ok (.goto 4, 3) := by decide +kernel
def QOrE (Z : State) (o : Addr) (vv : Value) (h0 : Heap) (n0 : Nat) (v : Option Value) (h : Heap) (L : List Loc) : Prop := v = some vv ∧ Fr n0 L ∧ h = h0
set_option maxRecDepth 65536 in
set_option maxHeartbeats 40000000 in
theorem rmOrE (l : Launch) (Z : State) (a0 : Array Value) (hw : ∀ d ∈ tables_1, d.before a0 Z = true) (ws : List Jvm.Cond) (o : Addr) (vv : Value) (h0 : Heap) (n0 : Nat) (Z0 : n0 ≤ h0.size) (F_o : Fld Z h0 o "java/util/Optional" "value" "Ljava/lang/Object;" vv) (rv : vv.isRef = true) :
    MetFree l mn32 (head1 (Jvm.Cond.code mn32 jdk_32_method_15_code 2 (some (.object "java/lang/Object")) :: ws) ({ frames := 0, cells := 0, slots := 0, locals := 0 } : Room)) (fun a U => a = #[(.ref o), .null] ∧ Z.Warmed39 U.vm ∧ U.heap = h0) (fun _ _ _ _ _ => True) (fun _ U oc_ U' => ∃ v L, oc_ = .returned v ∧ QOrE Z o vv h0 n0 v U'.heap L ∧ FrameEnd U oc_ U' L ({ frames := 0, cells := 0, slots := 0, locals := 0 } : Room).cells ({ frames := 0, cells := 0, slots := 0, locals := 0 } : Room).slots) := by
  refine MetFree.of_bodySF (plainFor_of_name pn_java_util_Optional) hisR ?_
  intro p e s m args below meth c s₁ Bd hml0 hP hK
  obtain ⟨rfl, hZ, hh⟩ := hP
  have hx := Bd.exec
  have hby := Bd.bytes
  have hml : c.maxLocals = 2 := hml0
  have hown : s.vm.findClass "java/util/Optional" = some m.cls := findClass_of_methodNamed Bd.named
  have hnm := (name_of_methodNamed Bd.named Bd.method).1
  have X0 : Stand p l e ({ frames := 0, cells := 0, slots := 0, locals := 0 } : Room) s m #[(.ref o), .null] below meth c s₁ [] 0 0 := Stand.of_body Bd
  have e0 : s₁.heap = h0 := by rw [← hh, Bd.state]; rfl
  have N0 := Fr.nil n0
  have pre0 : ∀ t, Steps p.tables e below (s₁.setTop (mkF m 0 #[.val (.ref o), .val .null] [])) t → Steps p.tables e below (s₁.setTop (entryFrame m #[(.ref o), .null] 2)) t := fun t k => castTop (ef_OrE m o) k
  obtain ⟨T1, X1, e1, st1⟩ := getF X0 hx hZ hown (host := "") (Or.inl (wd115 hw)) Via.refl e0 F_o (g := (mkF m 1 #[.val (.ref o), .val .null] [(.ref o)])) rfl rfl (hb hby da_1)
  have k2 : ∀ t, Steps p.tables e below (T1.setTop (mkF m 4 #[.val (.ref o), .val .null] [vv])) t → Steps p.tables e below (s₁.setTop (entryFrame m #[(.ref o), .null] 2)) t := by
    intro t kt
    refine pre0 t ?_
    show Steps p.tables e below (s₁.setTop (mkF m 0 #[.val (.ref o), .val .null] [])) _
    refine XS.aloadN X0.here hx rfl (hb hby da_0) rfl rfl ?_
    show Steps p.tables e below (s₁.setTop (mkF m 1 #[.val (.ref o), .val .null] [(.ref o)])) _
    refine st1 _ ?_
    exact kt
  rcases own_refc rv with qv | ⟨av, qv⟩
  · skip
    have k3 : ∀ t, Steps p.tables e below (T1.setTop (mkF m 4 #[.val (.ref o), .val .null] [.null])) t → Steps p.tables e below (s₁.setTop (entryFrame m #[(.ref o), .null] 2)) t := by
      intro t kt
      refine k2 t ?_
      rw [(qv : vv = .null)]
      exact kt
    obtain ⟨lfs, lhr, lhrun, lhended, lhW, lhsame⟩ := X1.leave (v := some .null) (fun h => by rw [Bd.returns] at h; cases h)
    refine ⟨_, _, k3 _ ?_, lhrun, lhended, _, _, rfl, ?_, ⟨_, rfl⟩, lhW, lhsame.mono (by decide) (by decide)⟩
    · skip
      show Steps p.tables e below (T1.setTop (mkF m 4 #[.val (.ref o), .val .null] [.null])) _
      refine XS.ifnullYes X1.here hx rfl (pc0 := 4) (pc' := 14) rfl (hb hby da_4) rfl (by decide) (by decide) ?_
      show Steps p.tables e below (T1.setTop (mkF m 14 #[.val (.ref o), .val .null] [])) _
      refine XS.aloadN X1.here hx rfl (hb hby da_14) rfl rfl ?_
      show Steps p.tables e below (T1.setTop (mkF m 15 #[.val (.ref o), .val .null] [.null])) _
      exact retOut X1 hx Bd.returns rfl (Or.inr (Or.inr (Or.inr (Or.inr ⟨rfl, rfl, rfl⟩)))) (hb hby da_15) lhr
    · skip
      show QOrE Z o vv h0 n0 _ T1.heap _
      rw [e1]
      refine ⟨?_, N0, rfl⟩
      rw [qv]
  · skip
    have k4 : ∀ t, Steps p.tables e below (T1.setTop (mkF m 4 #[.val (.ref o), .val .null] [(.ref av)])) t → Steps p.tables e below (s₁.setTop (entryFrame m #[(.ref o), .null] 2)) t := by
      intro t kt
      refine k2 t ?_
      rw [(qv : vv = (.ref av))]
      exact kt
    obtain ⟨T5, X5, e5, st5⟩ := getF X1 hx hZ hown (host := "") (Or.inl (wd115 hw)) Via.refl e1 F_o (g := (mkF m 8 #[.val (.ref o), .val .null] [(.ref o)])) rfl rfl (hb hby da_8)
    obtain ⟨lfs, lhr, lhrun, lhended, lhW, lhsame⟩ := X5.leave (v := some vv) (fun h => by rw [Bd.returns] at h; cases h)
    refine ⟨_, _, k4 _ ?_, lhrun, lhended, _, _, rfl, ?_, ⟨_, rfl⟩, lhW, lhsame.mono (by decide) (by decide)⟩
    · skip
      show Steps p.tables e below (T1.setTop (mkF m 4 #[.val (.ref o), .val .null] [(.ref av)])) _
      refine XS.ifnullNo X1.here hx rfl (hb hby da_4) rfl ?_
      show Steps p.tables e below (T1.setTop (mkF m 7 #[.val (.ref o), .val .null] [])) _
      refine XS.aloadN X1.here hx rfl (hb hby da_7) rfl rfl ?_
      show Steps p.tables e below (T1.setTop (mkF m 8 #[.val (.ref o), .val .null] [(.ref o)])) _
      refine st5 _ ?_
      show Steps p.tables e below (T5.setTop (mkF m 11 #[.val (.ref o), .val .null] [vv])) _
      refine XS.goto X5.here hx rfl (pc0 := 11) (pc' := 15) rfl (hb hby da_11) (by decide) (by decide) ?_
      show Steps p.tables e below (T5.setTop (mkF m 15 #[.val (.ref o), .val .null] [vv])) _
      exact retOut X5 hx Bd.returns rfl (Or.inr (Or.inr (Or.inr (Or.inr ⟨rfl, rfl, rv⟩)))) (hb hby da_15) lhr
    · skip
      show QOrE Z o vv h0 n0 _ T5.heap _
      rw [e5]
      refine ⟨?_, N0, rfl⟩
      rfl
theorem efa_jdk_32_method_2_code_vv (m : MethodId) (x0 : Addr) (x1 : Addr) : entryFrame m #[(.ref x0), (.ref x1)] 2 = mkF m 0 #[.val (.ref x0), .val (.ref x1)] [] := by first | (simp [entryFrame, mkF, argsToLocals, Value.category]; done) | rfl
theorem dn_0 : decode jdk_32_method_2_code 0 = .ok (.aload_n 0, 1) := by decide +kernel
theorem dn_1 : decode jdk_32_method_2_code 1 = .ok (.invokespecial 7, 3) := by decide +kernel
theorem dn_4 : decode jdk_32_method_2_code 4 = .ok (.aload_n 0, 1) := by decide +kernel
theorem dn_5 : decode jdk_32_method_2_code 5 = .ok (.aload_n 1, 1) := by decide +kernel
theorem dn_6 : decode jdk_32_method_2_code 6 = .ok (.putfield 13, 3) := by decide +kernel
theorem dn_9 : decode jdk_32_method_2_code 9 = .ok (.return_, 1) := by decide +kernel
def QA1 (Z : State) (o0 : Addr) (o1 : Addr) (h0 : Heap) (n0 : Nat) (v : Option Value) (h : Heap) (L : List Loc) : Prop := v = none ∧ Fr n0 L ∧ Keep h0 h [o0] ∧ Exa Z h o0 "java/util/Optional" ∧ Fld Z h o0 "java/util/Optional" "value" "Ljava/lang/Object;" (.ref o1)
set_option maxRecDepth 65536 in
set_option maxHeartbeats 40000000 in
theorem rmA1 (l : Launch) (Z : State) (a0 : Array Value) (hw : ∀ d ∈ tables_1, d.before a0 Z = true) (ws : List Jvm.Cond) (o0 : Addr) (o1 : Addr) (h0 : Heap) (n0 : Nat) (Z0 : n0 ≤ h0.size) (E_o0 : Exa Z h0 o0 "java/util/Optional") (F_o0_value : Fld Z h0 o0 "java/util/Optional" "value" "Ljava/lang/Object;" .null) (g_o0 : n0 ≤ o0) :
    MetFree l mn26 (head1 (Jvm.Cond.code mn26 jdk_32_method_2_code 2 none :: ws) ({ frames := 1, cells := 0, slots := 0, locals := 12 } : Room)) (fun a U => a = #[(.ref o0), (.ref o1)] ∧ Z.Warmed39 U.vm ∧ U.heap = h0) (fun _ _ _ _ _ => True) (fun _ U oc_ U' => ∃ v L, oc_ = .returned v ∧ QA1 Z o0 o1 h0 n0 v U'.heap L ∧ FrameEnd U oc_ U' L ({ frames := 1, cells := 0, slots := 0, locals := 12 } : Room).cells ({ frames := 1, cells := 0, slots := 0, locals := 12 } : Room).slots) := by
  refine MetFree.of_bodySF (plainFor_of_name pn_java_util_Optional) hisR ?_
  intro p e s m args below meth c s₁ Bd hml0 hP hK
  obtain ⟨rfl, hZ, hh⟩ := hP
  have hx := Bd.exec
  have hby := Bd.bytes
  have hml : c.maxLocals = 2 := hml0
  have hown : s.vm.findClass "java/util/Optional" = some m.cls := findClass_of_methodNamed Bd.named
  have hnm := (name_of_methodNamed Bd.named Bd.method).1
  have X0 : Stand p l e ({ frames := 1, cells := 0, slots := 0, locals := 12 } : Room) s m #[(.ref o0), (.ref o1)] below meth c s₁ [] 0 0 := Stand.of_body Bd
  have e0 : s₁.heap = h0 := by rw [← hh, Bd.state]; rfl
  have N0 := Fr.nil n0
  have pre0 : ∀ t, Steps p.tables e below (s₁.setTop (mkF m 0 #[.val (.ref o0), .val (.ref o1)] [])) t → Steps p.tables e below (s₁.setTop (entryFrame m #[(.ref o0), (.ref o1)] 2)) t := fun t k => castTop (efa_jdk_32_method_2_code_vv m o0 o1) k
  obtain ⟨T1, X1, e1, st1⟩ := initO X0 hx hZ hown (wd184 hw) (wd16 hw) (wd17 hw) e0 (g := (mkF m 1 #[.val (.ref o0), .val (.ref o1)] [(.ref o0)])) rfl (by rw [hml]; rfl) rfl (hb hby dn_1) (by decide) (W := 0) (by show 2 * 0 + _ ≤ _; exact Nat.le_of_eq rfl) (by decide)
  obtain ⟨T2, h2, X2, e2, W2, st2⟩ := putF X1 hx hZ hown (host := "") (Or.inl (wd115 hw)) Via.refl e1 F_o0_value E_o0 (Or.inr ⟨(wd116 hw), rfl, hnm⟩) (wd179 hw) (ty := (.object "java/lang/Object")) (by decide) rfl rfl (g := (mkF m 6 #[.val (.ref o0), .val (.ref o1)] [(.ref o1), (.ref o0)])) rfl rfl (hb hby dn_6)
  have N2 := Fr.snoc X2 N0 g_o0
  have Z2 : n0 ≤ h2.size := by rw [W2.size]; exact Z0
  have K2 : Keep h0 h2 [o0] := ((Keep.refl h0 [o0]).wr W2 (Or.inl (List.mem_of_getElem? (i := 0) rfl)))
  have Fw2 := F_o0_value.same W2
  have f3 := (E_o0.wr W2)
  obtain ⟨lfs, lhr, lhrun, lhended, lhW, lhsame⟩ := X2.leave (v := none) (fun _ => rfl)
  refine ⟨_, _, pre0 _ ?_, lhrun, lhended, _, _, rfl, ?_, ⟨_, rfl⟩, lhW, lhsame.mono (by decide) (by decide)⟩
  · skip
    show Steps p.tables e below (s₁.setTop (mkF m 0 #[.val (.ref o0), .val (.ref o1)] [])) _
    refine XS.aloadN X0.here hx rfl (hb hby dn_0) rfl rfl ?_
    show Steps p.tables e below (s₁.setTop (mkF m 1 #[.val (.ref o0), .val (.ref o1)] [(.ref o0)])) _
    refine st1 _ ?_
    show Steps p.tables e below (T1.setTop (mkF m 4 #[.val (.ref o0), .val (.ref o1)] [])) _
    refine XS.aloadN X1.here hx rfl (hb hby dn_4) rfl rfl ?_
    show Steps p.tables e below (T1.setTop (mkF m 5 #[.val (.ref o0), .val (.ref o1)] [(.ref o0)])) _
    refine XS.aloadN X1.here hx rfl (hb hby dn_5) rfl rfl ?_
    show Steps p.tables e below (T1.setTop (mkF m 6 #[.val (.ref o0), .val (.ref o1)] [(.ref o1), (.ref o0)])) _
    refine st2 _ ?_
    show Steps p.tables e below (T2.setTop (mkF m 9 #[.val (.ref o0), .val (.ref o1)] [])) _
    exact X2.returnOut hx Bd.returns (hb hby dn_9) lhr
  · skip
    show QA1 Z o0 o1 h0 n0 _ T2.heap _
    rw [e2]
    exact ⟨rfl, N2, K2, f3, Fw2⟩
theorem ef_OfN (m : MethodId) (x0 : Value) (r0 : x0.isRef = true) : entryFrame m #[x0] 1 = mkF m 0 #[.val x0] [] := by cases x0 <;> first | (simp [entryFrame, mkF, argsToLocals, Value.category]; done) | rfl | (cases r0; done)
theorem do_0 : decode jdk_32_method_4_code 0 = .ok (.aload_n 0, 1) := by decide +kernel
theorem do_1 : decode jdk_32_method_4_code 1 = .ok (.ifnonnull 9, 3) := by decide +kernel
theorem do_4 : decode jdk_32_method_4_code 4 = .ok (.getstatic 1, 3) := by decide +kernel
theorem do_7 : decode jdk_32_method_4_code 7 = .ok (.goto 11, 3) := by decide +kernel
theorem do_18 : decode jdk_32_method_4_code 18 = .ok (.areturn, 1) := by decide +kernel
theorem do_10 : decode jdk_32_method_4_code 10 = .ok (.new 2, 3) := by decide +kernel
theorem do_13 : decode jdk_32_method_4_code 13 = .ok (.dup, 1) := by decide +kernel
theorem do_14 : decode jdk_32_method_4_code 14 = .ok (.aload_n 0, 1) := by decide +kernel
theorem do_15 : decode jdk_32_method_4_code 15 = .ok (.invokespecial 23, 3) := by decide +kernel
def QOfN (Z : State) (vv : Value) (wE : Addr) (h0 : Heap) (n0 : Nat) (v : Option Value) (h : Heap) (L : List Loc) : Prop := ∃ w : Addr, v = some (.ref w) ∧ Fr n0 L ∧ Keep h0 h [] ∧ Exa Z h w "java/util/Optional" ∧ Fld Z h w "java/util/Optional" "value" "Ljava/lang/Object;" vv
set_option maxRecDepth 65536 in
set_option maxHeartbeats 40000000 in
theorem rmOfN (l : Launch) (Z : State) (a0 : Array Value) (hw : ∀ d ∈ tables_1, d.before a0 Z = true) (ws : List Jvm.Cond) (vv : Value) (wE : Addr) (h0 : Heap) (n0 : Nat) (Z0 : n0 ≤ h0.size) (S_E : Sta Z h0 "java/util/Optional" "EMPTY" "Ljava/util/Optional;" (.ref wE)) (E_w : Exa Z h0 wE "java/util/Optional") (F_w : Fld Z h0 wE "java/util/Optional" "value" "Ljava/lang/Object;" .null) (rv : vv.isRef = true) :
    MetFree l mn31 (head1 (Jvm.Cond.code mn31 jdk_32_method_4_code 1 (some (.object "java/util/Optional")) :: ws) ({ frames := 2, cells := 1, slots := 1, locals := 29 } : Room)) (fun a U => a = #[vv] ∧ Z.Warmed39 U.vm ∧ U.heap = h0) (fun _ _ _ _ _ => True) (fun _ U oc_ U' => ∃ v L, oc_ = .returned v ∧ QOfN Z vv wE h0 n0 v U'.heap L ∧ FrameEnd U oc_ U' L ({ frames := 2, cells := 1, slots := 1, locals := 29 } : Room).cells ({ frames := 2, cells := 1, slots := 1, locals := 29 } : Room).slots) := by
  refine MetFree.of_bodySF (plainFor_of_name pn_java_util_Optional) hisR ?_
  intro p e s m args below meth c s₁ Bd hml0 hP hK
  obtain ⟨rfl, hZ, hh⟩ := hP
  have hx := Bd.exec
  have hby := Bd.bytes
  have hml : c.maxLocals = 1 := hml0
  have hown : s.vm.findClass "java/util/Optional" = some m.cls := findClass_of_methodNamed Bd.named
  have hnm := (name_of_methodNamed Bd.named Bd.method).1
  have X0 : Stand p l e ({ frames := 2, cells := 1, slots := 1, locals := 29 } : Room) s m #[vv] below meth c s₁ [] 0 0 := Stand.of_body Bd
  have e0 : s₁.heap = h0 := by rw [← hh, Bd.state]; rfl
  have N0 := Fr.nil n0
  have pre0 : ∀ t, Steps p.tables e below (s₁.setTop (mkF m 0 #[.val vv] [])) t → Steps p.tables e below (s₁.setTop (entryFrame m #[vv] 1)) t := fun t k => castTop (ef_OfN m vv rv) k
  have k1 : ∀ t, Steps p.tables e below (s₁.setTop (mkF m 1 #[.val vv] [vv])) t → Steps p.tables e below (s₁.setTop (entryFrame m #[vv] 1)) t := by
    intro t kt
    refine pre0 t ?_
    show Steps p.tables e below (s₁.setTop (mkF m 0 #[.val vv] [])) _
    refine XS.aloadN X0.here hx rfl (hb hby do_0) rfl rv ?_
    exact kt
  rcases own_refc rv with qv | ⟨av, qv⟩
  · skip
    have k2 : ∀ t, Steps p.tables e below (s₁.setTop (mkF m 1 #[.val .null] [.null])) t → Steps p.tables e below (s₁.setTop (entryFrame m #[vv] 1)) t := by
      intro t kt
      refine k1 t ?_
      rw [(qv : vv = .null)]
      exact kt
    obtain ⟨T3, X3, e3, st3⟩ := getS2 X0 hx hZ hown (host := "") (Or.inl (wd38 hw)) Via.refl e0 S_E (g := (mkF m 4 #[.val .null] [])) rfl (hb hby do_4)
    obtain ⟨lfs, lhr, lhrun, lhended, lhW, lhsame⟩ := X3.leave (v := some (.ref wE)) (fun h => by rw [Bd.returns] at h; cases h)
    refine ⟨_, _, k2 _ ?_, lhrun, lhended, _, _, rfl, ?_, ⟨_, rfl⟩, lhW, lhsame.mono (by decide) (by decide)⟩
    · skip
      show Steps p.tables e below (s₁.setTop (mkF m 1 #[.val .null] [.null])) _
      refine XS.ifnonnullNo X0.here hx rfl (hb hby do_1) rfl ?_
      show Steps p.tables e below (s₁.setTop (mkF m 4 #[.val .null] [])) _
      refine st3 _ ?_
      show Steps p.tables e below (T3.setTop (mkF m 7 #[.val .null] [(.ref wE)])) _
      refine XS.goto X3.here hx rfl (pc0 := 7) (pc' := 18) rfl (hb hby do_7) (by decide) (by decide) ?_
      show Steps p.tables e below (T3.setTop (mkF m 18 #[.val .null] [(.ref wE)])) _
      exact retOut X3 hx Bd.returns rfl (Or.inr (Or.inr (Or.inr (Or.inr ⟨rfl, rfl, rfl⟩)))) (hb hby do_18) lhr
    · skip
      show QOfN Z vv wE h0 n0 _ T3.heap _
      rw [e3]
      exact ⟨wE, rfl, N0, (Keep.refl _ _), E_w, by rw [qv]; exact F_w⟩
  · skip
    have k4 : ∀ t, Steps p.tables e below (s₁.setTop (mkF m 1 #[.val (.ref av)] [(.ref av)])) t → Steps p.tables e below (s₁.setTop (entryFrame m #[vv] 1)) t := by
      intro t kt
      refine k1 t ?_
      rw [(qv : vv = (.ref av))]
      exact kt
    obtain ⟨T5, h5, X5, e5, E5, A5, D5, -, st5⟩ := newO X0 hx hZ hown (wd178 hw) (wd179 hw) (wd36 hw) e0 (g := (mkF m 10 #[.val (.ref av)] [])) rfl (hb hby do_10) (by decide) (by decide)
    obtain ⟨b5, g5⟩ : ∃ z, z = h0.size := ⟨_, rfl⟩
    rw [← g5] at A5 D5 st5
    have ne_wE_b5 : wE ≠ b5 := Nat.ne_of_lt (Nat.lt_of_lt_of_le E_w.lt (Nat.le_of_eq g5.symm))
    have ge_b5 : n0 ≤ b5 := Nat.le_trans Z0 (Nat.le_of_eq g5.symm)
    have sz_b5 : h0.size ≤ b5 := Nat.le_trans (Nat.le_refl _) (Nat.le_of_eq g5.symm)
    have Z5 : n0 ≤ h5.size := Nat.le_trans Z0 E5.1
    have K5 : Keep h0 h5 [] := ((Keep.refl h0 []).ext E5)
    have F5_value : Fld Z h5 b5 "java/util/Optional" "value" "Ljava/lang/Object;" .null := D5 (Or.inr (wd116 hw)) (ty := (.object "java/lang/Object")) (by decide)
    obtain ⟨_, _, ⟨T6, L6, kc6, ks6⟩, -, X6, ⟨Lc6, hQ6, l6, y6, z6⟩, st6⟩ := X5.specialBack hx (y := mn26) rfl hown (mvT hZ (wd180 hw)) (mvT hZ (wd181 hw)) (mvT hZ (wd183 hw)) (by decide) (backOf (W := 1) (rmA1 l Z a0 hw [] b5 av h5 n0 Z5 A5 F5_value ge_b5) hZ (wd183 hw) (wd36 hw) (by decide) (by decide)) (g := (mkF m 15 #[.val (.ref av)] [(.ref av), (.ref b5), (.ref b5)])) rfl (by rw [hml]; rfl) (Steps.refl _) (a := b5) (argsL := [(.ref av)]) (rest := [(.ref b5)]) (lenOf pd__Ljava_lang_Object__V rfl) rfl (by show 2 * 0 + _ ≤ _; exact Nat.le_of_eq rfl) (hb hby do_15) (fun _ _ => ⟨rfl, e5, (by decide : 1 + 0 ≤ _), (by decide : 1 + 0 ≤ _)⟩)
    dsimp only [Pt.U, Pt.locs, Pt.cells, Pt.slots] at X6 l6 y6 z6 st6 hQ6
    subst l6 y6 z6
    obtain ⟨rfl, Nq6, Kq6, g6_0, g6_1⟩ := hQ6
    have N6 := Fr.app N0 Nq6
    have Z6 : n0 ≤ T6.heap.size := Nat.le_trans Z5 Kq6.1
    have K6 : Keep h0 T6.heap [] := Keep.trans K5 Kq6 (allS (Or.inr sz_b5) all0)
    obtain ⟨lfs, lhr, lhrun, lhended, lhW, lhsame⟩ := X6.leave (v := some (.ref b5)) (fun h => by rw [Bd.returns] at h; cases h)
    refine ⟨_, _, k4 _ ?_, lhrun, lhended, _, _, rfl, ?_, ⟨_, rfl⟩, lhW, lhsame.mono (by decide) (by decide)⟩
    · skip
      show Steps p.tables e below (s₁.setTop (mkF m 1 #[.val (.ref av)] [(.ref av)])) _
      refine XS.ifnonnullYes X0.here hx rfl (pc0 := 1) (pc' := 10) rfl (hb hby do_1) rfl (by decide) (by decide) ?_
      show Steps p.tables e below (s₁.setTop (mkF m 10 #[.val (.ref av)] [])) _
      refine st5 _ ?_
      show Steps p.tables e below (T5.setTop (mkF m 13 #[.val (.ref av)] [(.ref b5)])) _
      refine XS.dup X5.here hx rfl (hb hby do_13) rfl rfl ?_
      refine XS.aloadN X5.here hx rfl (hb hby do_14) rfl rfl ?_
      show Steps p.tables e below (T5.setTop (mkF m 15 #[.val (.ref av)] [(.ref av), (.ref b5), (.ref b5)])) _
      refine st6.trans ?_
      show Steps p.tables e below (T6.setTop (mkF m 18 #[.val (.ref av)] [(.ref b5)])) _
      exact retOut X6 hx Bd.returns rfl (Or.inr (Or.inr (Or.inr (Or.inr ⟨rfl, rfl, rfl⟩)))) (hb hby do_18) lhr
    · skip
      show QOfN Z vv wE h0 n0 _ T6.heap _
      skip
      exact ⟨b5, rfl, N6, K6, g6_0, by rw [qv]; exact g6_1⟩
theorem efa_jdk_32_method_6_code_v (m : MethodId) (x0 : Addr) : entryFrame m #[(.ref x0)] 1 = mkF m 0 #[.val (.ref x0)] [] := by first | (simp [entryFrame, mkF, argsToLocals, Value.category]; done) | rfl
theorem dk_0 : decode jdk_32_method_6_code 0 = .ok (.aload_n 0, 1) := by decide +kernel
theorem dk_1 : decode jdk_32_method_6_code 1 = .ok (.getfield 13, 3) := by decide +kernel
theorem dk_4 : decode jdk_32_method_6_code 4 = .ok (.ifnull 7, 3) := by decide +kernel
theorem dk_11 : decode jdk_32_method_6_code 11 = .ok (.iconst 0, 1) := by decide +kernel
theorem dk_12 : decode jdk_32_method_6_code 12 = .ok (.ireturn, 1) := by decide +kernel
def QA2 (Z : State) (o0 : Addr) (h0 : Heap) (n0 : Nat) (v : Option Value) (h : Heap) (L : List Loc) : Prop := v = some (.int (0 : Int32)) ∧ Fr n0 L ∧ h = h0
set_option maxRecDepth 65536 in
set_option maxHeartbeats 40000000 in
theorem rmA2 (l : Launch) (Z : State) (a0 : Array Value) (hw : ∀ d ∈ tables_1, d.before a0 Z = true) (ws : List Jvm.Cond) (o0 : Addr) (h0 : Heap) (n0 : Nat) (Z0 : n0 ≤ h0.size) (F_o0_value : Fld Z h0 o0 "java/util/Optional" "value" "Ljava/lang/Object;" .null) :
    MetFree l mn29 (head1 (Jvm.Cond.code mn29 jdk_32_method_6_code 1 (some .boolean) :: ws) ({ frames := 0, cells := 0, slots := 0, locals := 0 } : Room)) (fun a U => a = #[(.ref o0)] ∧ Z.Warmed39 U.vm ∧ U.heap = h0) (fun _ _ _ _ _ => True) (fun _ U oc_ U' => ∃ v L, oc_ = .returned v ∧ QA2 Z o0 h0 n0 v U'.heap L ∧ FrameEnd U oc_ U' L ({ frames := 0, cells := 0, slots := 0, locals := 0 } : Room).cells ({ frames := 0, cells := 0, slots := 0, locals := 0 } : Room).slots) := by
  refine MetFree.of_bodySF (plainFor_of_name pn_java_util_Optional) hisR ?_
  intro p e s m args below meth c s₁ Bd hml0 hP hK
  obtain ⟨rfl, hZ, hh⟩ := hP
  have hx := Bd.exec
  have hby := Bd.bytes
  have hml : c.maxLocals = 1 := hml0
  have hown : s.vm.findClass "java/util/Optional" = some m.cls := findClass_of_methodNamed Bd.named
  have hnm := (name_of_methodNamed Bd.named Bd.method).1
  have X0 : Stand p l e ({ frames := 0, cells := 0, slots := 0, locals := 0 } : Room) s m #[(.ref o0)] below meth c s₁ [] 0 0 := Stand.of_body Bd
  have e0 : s₁.heap = h0 := by rw [← hh, Bd.state]; rfl
  have N0 := Fr.nil n0
  have pre0 : ∀ t, Steps p.tables e below (s₁.setTop (mkF m 0 #[.val (.ref o0)] [])) t → Steps p.tables e below (s₁.setTop (entryFrame m #[(.ref o0)] 1)) t := fun t k => castTop (efa_jdk_32_method_6_code_v m o0) k
  obtain ⟨T1, X1, e1, st1⟩ := getF X0 hx hZ hown (host := "") (Or.inl (wd115 hw)) Via.refl e0 F_o0_value (g := (mkF m 1 #[.val (.ref o0)] [(.ref o0)])) rfl rfl (hb hby dk_1)
  obtain ⟨lfs, lhr, lhrun, lhended, lhW, lhsame⟩ := X1.leave (v := some (.int (0 : Int32))) (fun h => by rw [Bd.returns] at h; cases h)
  refine ⟨_, _, pre0 _ ?_, lhrun, lhended, _, _, rfl, ?_, ⟨_, rfl⟩, lhW, lhsame.mono (by decide) (by decide)⟩
  · skip
    show Steps p.tables e below (s₁.setTop (mkF m 0 #[.val (.ref o0)] [])) _
    refine XS.aloadN X0.here hx rfl (hb hby dk_0) rfl rfl ?_
    show Steps p.tables e below (s₁.setTop (mkF m 1 #[.val (.ref o0)] [(.ref o0)])) _
    refine st1 _ ?_
    show Steps p.tables e below (T1.setTop (mkF m 4 #[.val (.ref o0)] [.null])) _
    refine XS.ifnullYes X1.here hx rfl (pc0 := 4) (pc' := 11) rfl (hb hby dk_4) rfl (by decide) (by decide) ?_
    show Steps p.tables e below (T1.setTop (mkF m 11 #[.val (.ref o0)] [])) _
    refine XS.iconst X1.here hx rfl (hb hby dk_11) ?_
    show Steps p.tables e below (T1.setTop (mkF m 12 #[.val (.ref o0)] [(.int (0 : Int32))])) _
    exact retN X1 hx (t := .boolean) Bd.returns (by simp) (hb hby dk_12) lhr
  · skip
    show QA2 Z o0 h0 n0 _ T1.heap _
    rw [e1]
    exact ⟨rfl, N0, rfl⟩
theorem dk_7 : decode jdk_32_method_6_code 7 = .ok (.iconst 1, 1) := by decide +kernel
theorem dk_8 : decode jdk_32_method_6_code 8 = .ok (.goto 4, 3) := by decide +kernel
def QA3 (Z : State) (o0 : Addr) (o1 : Addr) (h0 : Heap) (n0 : Nat) (v : Option Value) (h : Heap) (L : List Loc) : Prop := v = some (.int (1 : Int32)) ∧ Fr n0 L ∧ h = h0
set_option maxRecDepth 65536 in
set_option maxHeartbeats 40000000 in
theorem rmA3 (l : Launch) (Z : State) (a0 : Array Value) (hw : ∀ d ∈ tables_1, d.before a0 Z = true) (ws : List Jvm.Cond) (o0 : Addr) (o1 : Addr) (h0 : Heap) (n0 : Nat) (Z0 : n0 ≤ h0.size) (F_o0_value : Fld Z h0 o0 "java/util/Optional" "value" "Ljava/lang/Object;" (.ref o1)) :
    MetFree l mn29 (head1 (Jvm.Cond.code mn29 jdk_32_method_6_code 1 (some .boolean) :: ws) ({ frames := 0, cells := 0, slots := 0, locals := 0 } : Room)) (fun a U => a = #[(.ref o0)] ∧ Z.Warmed39 U.vm ∧ U.heap = h0) (fun _ _ _ _ _ => True) (fun _ U oc_ U' => ∃ v L, oc_ = .returned v ∧ QA3 Z o0 o1 h0 n0 v U'.heap L ∧ FrameEnd U oc_ U' L ({ frames := 0, cells := 0, slots := 0, locals := 0 } : Room).cells ({ frames := 0, cells := 0, slots := 0, locals := 0 } : Room).slots) := by
  refine MetFree.of_bodySF (plainFor_of_name pn_java_util_Optional) hisR ?_
  intro p e s m args below meth c s₁ Bd hml0 hP hK
  obtain ⟨rfl, hZ, hh⟩ := hP
  have hx := Bd.exec
  have hby := Bd.bytes
  have hml : c.maxLocals = 1 := hml0
  have hown : s.vm.findClass "java/util/Optional" = some m.cls := findClass_of_methodNamed Bd.named
  have hnm := (name_of_methodNamed Bd.named Bd.method).1
  have X0 : Stand p l e ({ frames := 0, cells := 0, slots := 0, locals := 0 } : Room) s m #[(.ref o0)] below meth c s₁ [] 0 0 := Stand.of_body Bd
  have e0 : s₁.heap = h0 := by rw [← hh, Bd.state]; rfl
  have N0 := Fr.nil n0
  have pre0 : ∀ t, Steps p.tables e below (s₁.setTop (mkF m 0 #[.val (.ref o0)] [])) t → Steps p.tables e below (s₁.setTop (entryFrame m #[(.ref o0)] 1)) t := fun t k => castTop (efa_jdk_32_method_6_code_v m o0) k
  obtain ⟨T1, X1, e1, st1⟩ := getF X0 hx hZ hown (host := "") (Or.inl (wd115 hw)) Via.refl e0 F_o0_value (g := (mkF m 1 #[.val (.ref o0)] [(.ref o0)])) rfl rfl (hb hby dk_1)
  obtain ⟨lfs, lhr, lhrun, lhended, lhW, lhsame⟩ := X1.leave (v := some (.int (1 : Int32))) (fun h => by rw [Bd.returns] at h; cases h)
  refine ⟨_, _, pre0 _ ?_, lhrun, lhended, _, _, rfl, ?_, ⟨_, rfl⟩, lhW, lhsame.mono (by decide) (by decide)⟩
  · skip
    show Steps p.tables e below (s₁.setTop (mkF m 0 #[.val (.ref o0)] [])) _
    refine XS.aloadN X0.here hx rfl (hb hby dk_0) rfl rfl ?_
    show Steps p.tables e below (s₁.setTop (mkF m 1 #[.val (.ref o0)] [(.ref o0)])) _
    refine st1 _ ?_
    show Steps p.tables e below (T1.setTop (mkF m 4 #[.val (.ref o0)] [(.ref o1)])) _
    refine XS.ifnullNo X1.here hx rfl (hb hby dk_4) rfl ?_
    show Steps p.tables e below (T1.setTop (mkF m 7 #[.val (.ref o0)] [])) _
    refine XS.iconst X1.here hx rfl (hb hby dk_7) ?_
    refine XS.goto X1.here hx rfl (pc0 := 8) (pc' := 12) rfl (hb hby dk_8) (by decide) (by decide) ?_
    show Steps p.tables e below (T1.setTop (mkF m 12 #[.val (.ref o0)] [(.int (1 : Int32))])) _
    exact retN X1 hx (t := .boolean) Bd.returns (by simp) (hb hby dk_12) lhr
  · skip
    show QA3 Z o0 o1 h0 n0 _ T1.heap _
    rw [e1]
    exact ⟨rfl, N0, rfl⟩
theorem efa_jdk_32_method_5_code_v (m : MethodId) (x0 : Addr) : entryFrame m #[(.ref x0)] 1 = mkF m 0 #[.val (.ref x0)] [] := by first | (simp [entryFrame, mkF, argsToLocals, Value.category]; done) | rfl
theorem dg_0 : decode jdk_32_method_5_code 0 = .ok (.aload_n 0, 1) := by decide +kernel
theorem dg_1 : decode jdk_32_method_5_code 1 = .ok (.getfield 13, 3) := by decide +kernel
theorem dg_4 : decode jdk_32_method_5_code 4 = .ok (.ifnonnull 13, 3) := by decide +kernel
theorem dg_17 : decode jdk_32_method_5_code 17 = .ok (.aload_n 0, 1) := by decide +kernel
theorem dg_18 : decode jdk_32_method_5_code 18 = .ok (.getfield 13, 3) := by decide +kernel
theorem dg_21 : decode jdk_32_method_5_code 21 = .ok (.areturn, 1) := by decide +kernel
def QA4 (Z : State) (o0 : Addr) (o1 : Addr) (h0 : Heap) (n0 : Nat) (v : Option Value) (h : Heap) (L : List Loc) : Prop := v = some (.ref o1) ∧ Fr n0 L ∧ h = h0
set_option maxRecDepth 65536 in
set_option maxHeartbeats 40000000 in
theorem rmA4 (l : Launch) (Z : State) (a0 : Array Value) (hw : ∀ d ∈ tables_1, d.before a0 Z = true) (ws : List Jvm.Cond) (o0 : Addr) (o1 : Addr) (h0 : Heap) (n0 : Nat) (Z0 : n0 ≤ h0.size) (F_o0_value : Fld Z h0 o0 "java/util/Optional" "value" "Ljava/lang/Object;" (.ref o1)) :
    MetFree l mn28 (head1 (Jvm.Cond.code mn28 jdk_32_method_5_code 1 (some (.object "java/lang/Object")) :: ws) ({ frames := 0, cells := 0, slots := 0, locals := 0 } : Room)) (fun a U => a = #[(.ref o0)] ∧ Z.Warmed39 U.vm ∧ U.heap = h0) (fun _ _ _ _ _ => True) (fun _ U oc_ U' => ∃ v L, oc_ = .returned v ∧ QA4 Z o0 o1 h0 n0 v U'.heap L ∧ FrameEnd U oc_ U' L ({ frames := 0, cells := 0, slots := 0, locals := 0 } : Room).cells ({ frames := 0, cells := 0, slots := 0, locals := 0 } : Room).slots) := by
  refine MetFree.of_bodySF (plainFor_of_name pn_java_util_Optional) hisR ?_
  intro p e s m args below meth c s₁ Bd hml0 hP hK
  obtain ⟨rfl, hZ, hh⟩ := hP
  have hx := Bd.exec
  have hby := Bd.bytes
  have hml : c.maxLocals = 1 := hml0
  have hown : s.vm.findClass "java/util/Optional" = some m.cls := findClass_of_methodNamed Bd.named
  have hnm := (name_of_methodNamed Bd.named Bd.method).1
  have X0 : Stand p l e ({ frames := 0, cells := 0, slots := 0, locals := 0 } : Room) s m #[(.ref o0)] below meth c s₁ [] 0 0 := Stand.of_body Bd
  have e0 : s₁.heap = h0 := by rw [← hh, Bd.state]; rfl
  have N0 := Fr.nil n0
  have pre0 : ∀ t, Steps p.tables e below (s₁.setTop (mkF m 0 #[.val (.ref o0)] [])) t → Steps p.tables e below (s₁.setTop (entryFrame m #[(.ref o0)] 1)) t := fun t k => castTop (efa_jdk_32_method_5_code_v m o0) k
  obtain ⟨T1, X1, e1, st1⟩ := getF X0 hx hZ hown (host := "") (Or.inl (wd115 hw)) Via.refl e0 F_o0_value (g := (mkF m 1 #[.val (.ref o0)] [(.ref o0)])) rfl rfl (hb hby dg_1)
  obtain ⟨T2, X2, e2, st2⟩ := getF X1 hx hZ hown (host := "") (Or.inl (wd115 hw)) Via.refl e1 F_o0_value (g := (mkF m 18 #[.val (.ref o0)] [(.ref o0)])) rfl rfl (hb hby dg_18)
  obtain ⟨lfs, lhr, lhrun, lhended, lhW, lhsame⟩ := X2.leave (v := some (.ref o1)) (fun h => by rw [Bd.returns] at h; cases h)
  refine ⟨_, _, pre0 _ ?_, lhrun, lhended, _, _, rfl, ?_, ⟨_, rfl⟩, lhW, lhsame.mono (by decide) (by decide)⟩
  · skip
    show Steps p.tables e below (s₁.setTop (mkF m 0 #[.val (.ref o0)] [])) _
    refine XS.aloadN X0.here hx rfl (hb hby dg_0) rfl rfl ?_
    show Steps p.tables e below (s₁.setTop (mkF m 1 #[.val (.ref o0)] [(.ref o0)])) _
    refine st1 _ ?_
    show Steps p.tables e below (T1.setTop (mkF m 4 #[.val (.ref o0)] [(.ref o1)])) _
    refine XS.ifnonnullYes X1.here hx rfl (pc0 := 4) (pc' := 17) rfl (hb hby dg_4) rfl (by decide) (by decide) ?_
    show Steps p.tables e below (T1.setTop (mkF m 17 #[.val (.ref o0)] [])) _
    refine XS.aloadN X1.here hx rfl (hb hby dg_17) rfl rfl ?_
    show Steps p.tables e below (T1.setTop (mkF m 18 #[.val (.ref o0)] [(.ref o0)])) _
    refine st2 _ ?_
    show Steps p.tables e below (T2.setTop (mkF m 21 #[.val (.ref o0)] [(.ref o1)])) _
    exact retOut X2 hx Bd.returns rfl (Or.inr (Or.inr (Or.inr (Or.inr ⟨rfl, rfl, rfl⟩)))) (hb hby dg_21) lhr
  · skip
    show QA4 Z o0 o1 h0 n0 _ T2.heap _
    rw [e2]
    exact ⟨rfl, N0, rfl⟩
theorem efa_jdk_42_method_66_code_vv (m : MethodId) (x0 : Addr) (x1 : Addr) : entryFrame m #[(.ref x0), (.ref x1)] 3 = mkF m 0 #[.val (.ref x0), .val (.ref x1), .unset] [] := by first | (simp [entryFrame, mkF, argsToLocals, Value.category]; done) | rfl
theorem dd_0 : decode jdk_42_method_66_code 0 = .ok (.aload_n 0, 1) := by decide +kernel
theorem dd_1 : decode jdk_42_method_66_code 1 = .ok (.aload_n 1, 1) := by decide +kernel
theorem dd_2 : decode jdk_42_method_66_code 2 = .ok (.if_acmp .ne 5, 3) := by decide +kernel
theorem dd_5 : decode jdk_42_method_66_code 5 = .ok (.iconst 1, 1) := by decide +kernel
theorem dd_6 : decode jdk_42_method_66_code 6 = .ok (.ireturn, 1) := by decide +kernel
def QA5 (Z : State) (o0 : Addr) (h0 : Heap) (n0 : Nat) (v : Option Value) (h : Heap) (L : List Loc) : Prop := v = some (.int (1 : Int32)) ∧ Fr n0 L ∧ h = h0
set_option maxRecDepth 65536 in
set_option maxHeartbeats 40000000 in
theorem rmA5 (l : Launch) (Z : State) (a0 : Array Value) (hw : ∀ d ∈ tables_1, d.before a0 Z = true) (ws : List Jvm.Cond) (o0 : Addr) (h0 : Heap) (n0 : Nat) (Z0 : n0 ≤ h0.size) :
    MetFree l mn20 (head1 (Jvm.Cond.code mn20 jdk_42_method_66_code 3 (some .boolean) :: ws) ({ frames := 0, cells := 0, slots := 0, locals := 0 } : Room)) (fun a U => a = #[(.ref o0), (.ref o0)] ∧ Z.Warmed39 U.vm ∧ U.heap = h0) (fun _ _ _ _ _ => True) (fun _ U oc_ U' => ∃ v L, oc_ = .returned v ∧ QA5 Z o0 h0 n0 v U'.heap L ∧ FrameEnd U oc_ U' L ({ frames := 0, cells := 0, slots := 0, locals := 0 } : Room).cells ({ frames := 0, cells := 0, slots := 0, locals := 0 } : Room).slots) := by
  refine MetFree.of_bodySF (plainFor_of_name pn_java_lang_String) hisR ?_
  intro p e s m args below meth c s₁ Bd hml0 hP hK
  obtain ⟨rfl, hZ, hh⟩ := hP
  have hx := Bd.exec
  have hby := Bd.bytes
  have hml : c.maxLocals = 3 := hml0
  have hown : s.vm.findClass "java/lang/String" = some m.cls := findClass_of_methodNamed Bd.named
  have hnm := (name_of_methodNamed Bd.named Bd.method).1
  have X0 : Stand p l e ({ frames := 0, cells := 0, slots := 0, locals := 0 } : Room) s m #[(.ref o0), (.ref o0)] below meth c s₁ [] 0 0 := Stand.of_body Bd
  have e0 : s₁.heap = h0 := by rw [← hh, Bd.state]; rfl
  have N0 := Fr.nil n0
  have pre0 : ∀ t, Steps p.tables e below (s₁.setTop (mkF m 0 #[.val (.ref o0), .val (.ref o0), .unset] [])) t → Steps p.tables e below (s₁.setTop (entryFrame m #[(.ref o0), (.ref o0)] 3)) t := fun t k => castTop (efa_jdk_42_method_66_code_vv m o0 o0) k
  obtain ⟨lfs, lhr, lhrun, lhended, lhW, lhsame⟩ := X0.leave (v := some (.int (1 : Int32))) (fun h => by rw [Bd.returns] at h; cases h)
  refine ⟨_, _, pre0 _ ?_, lhrun, lhended, _, _, rfl, ?_, ⟨_, rfl⟩, lhW, lhsame.mono (by decide) (by decide)⟩
  · skip
    show Steps p.tables e below (s₁.setTop (mkF m 0 #[.val (.ref o0), .val (.ref o0), .unset] [])) _
    refine XS.aloadN X0.here hx rfl (hb hby dd_0) rfl rfl ?_
    refine XS.aloadN X0.here hx rfl (hb hby dd_1) rfl rfl ?_
    show Steps p.tables e below (s₁.setTop (mkF m 2 #[.val (.ref o0), .val (.ref o0), .unset] [(.ref o0), (.ref o0)])) _
    refine Jvm.RoadKit.acmp (g := (mkF m 2 #[.val (.ref o0), .val (.ref o0), .unset] [(.ref o0), (.ref o0)])) X0 hx rfl rfl rfl (pc0 := 2) (pc' := 5) (same := true) rfl (hb hby dd_2) rfl (decide_eq_true rfl) (by decide) (by decide) ?_
    show Steps p.tables e below (s₁.setTop (mkF m 5 #[.val (.ref o0), .val (.ref o0), .unset] [])) _
    refine XS.iconst X0.here hx rfl (hb hby dd_5) ?_
    show Steps p.tables e below (s₁.setTop (mkF m 6 #[.val (.ref o0), .val (.ref o0), .unset] [(.int (1 : Int32))])) _
    exact retN X0 hx (t := .boolean) Bd.returns (by simp) (hb hby dd_6) lhr
  · skip
    show QA5 Z o0 h0 n0 _ s₁.heap _
    rw [e0]
    exact ⟨rfl, N0, rfl⟩
theorem ef_Sam (m : MethodId) (x0 : Addr) (x1 : Int32) (x2 : Addr) : entryFrame m #[(.ref x0), (.int x1), (.ref x2)] 3 = mkF m 0 #[.val (.ref x0), .val (.int x1), .val (.ref x2)] [] := by first | (simp [entryFrame, mkF, argsToLocals, Value.category]; done) | rfl
theorem de_1_0 : decode method_3_code 0 = .ok (.iload_n 1, 1) := by decide +kernel
theorem de_1_1 : decode method_3_code 1 = .ok (.ifCond .ne 16, 3) := by decide +kernel
theorem de_1_4 : decode method_3_code 4 = .ok (.aload_n 0, 1) := by decide +kernel
theorem de_1_5 : decode method_3_code 5 = .ok (.invokevirtual 12, 3) := by decide +kernel
theorem de_1_8 : decode method_3_code 8 = .ok (.ifCond .ne 7, 3) := by decide +kernel
theorem de_1_11 : decode method_3_code 11 = .ok (.iconst 1, 1) := by decide +kernel
theorem de_1_12 : decode method_3_code 12 = .ok (.goto 4, 3) := by decide +kernel
theorem de_1_16 : decode method_3_code 16 = .ok (.ireturn, 1) := by decide +kernel
theorem de_1_17 : decode method_3_code 17 = .ok (.aload_n 0, 1) := by decide +kernel
theorem de_1_18 : decode method_3_code 18 = .ok (.invokevirtual 12, 3) := by decide +kernel
theorem de_1_21 : decode method_3_code 21 = .ok (.ifCond .eq 21, 3) := by decide +kernel
theorem de_1_24 : decode method_3_code 24 = .ok (.aload_n 0, 1) := by decide +kernel
theorem de_1_25 : decode method_3_code 25 = .ok (.invokevirtual 18, 3) := by decide +kernel
theorem de_1_28 : decode method_3_code 28 = .ok (.checkcast 7, 3) := by decide +kernel
theorem de_1_31 : decode method_3_code 31 = .ok (.aload_n 2, 1) := by decide +kernel
theorem de_1_32 : decode method_3_code 32 = .ok (.invokevirtual 22, 3) := by decide +kernel
theorem de_1_35 : decode method_3_code 35 = .ok (.ifCond .eq 7, 3) := by decide +kernel
theorem de_1_38 : decode method_3_code 38 = .ok (.iconst 1, 1) := by decide +kernel
theorem de_1_39 : decode method_3_code 39 = .ok (.goto 4, 3) := by decide +kernel
theorem de_1_43 : decode method_3_code 43 = .ok (.ireturn, 1) := by decide +kernel
def QSam (Z : State) (o : Addr) (pr : Int32) (s0 : Addr) (vv : Value) (h0 : Heap) (n0 : Nat) (v : Option Value) (h : Heap) (L : List Loc) : Prop := v = some (.int 1) ∧ Fr n0 L ∧ h = h0
set_option maxRecDepth 65536 in
set_option maxHeartbeats 40000000 in
theorem rmSam (l : Launch) (Z : State) (a0 : Array Value) (hw : ∀ d ∈ tables_1, d.before a0 Z = true) (ws : List Jvm.Cond) (o : Addr) (pr : Int32) (s0 : Addr) (vv : Value) (h0 : Heap) (n0 : Nat) (Z0 : n0 ≤ h0.size) (E_o : Exa Z h0 o "java/util/Optional") (F_o : Fld Z h0 o "java/util/Optional" "value" "Ljava/lang/Object;" vv) (E_s : Exa Z h0 s0 "java/lang/String") (hs : (pr = (0 : Int32) ∧ vv = .null) ∨ (pr = (1 : Int32) ∧ vv = .ref s0)) :
    MetFree l mn15 (head1 (Jvm.Cond.code mn15 method_3_code 3 (some .boolean) :: ws) ({ frames := 1, cells := 0, slots := 0, locals := 30 } : Room)) (fun a U => a = #[(.ref o), (.int pr), (.ref s0)] ∧ Z.Warmed39 U.vm ∧ U.heap = h0) (fun _ _ _ _ _ => True) (fun _ U oc_ U' => ∃ v L, oc_ = .returned v ∧ QSam Z o pr s0 vv h0 n0 v U'.heap L ∧ FrameEnd U oc_ U' L ({ frames := 1, cells := 0, slots := 0, locals := 30 } : Room).cells ({ frames := 1, cells := 0, slots := 0, locals := 30 } : Room).slots) := by
  refine MetFree.of_bodySF (plainFor_of_name pn_com_example_typed_api_errors_typedapierrors_error_OccurrenceAsItemPinLaw) hisR ?_
  intro p e s m args below meth c s₁ Bd hml0 hP hK
  obtain ⟨rfl, hZ, hh⟩ := hP
  have hx := Bd.exec
  have hby := Bd.bytes
  have hml : c.maxLocals = 3 := hml0
  have hown : s.vm.findClass cn4 = some m.cls := findClass_of_methodNamed Bd.named
  have hnm := (name_of_methodNamed Bd.named Bd.method).1
  have X0 : Stand p l e ({ frames := 1, cells := 0, slots := 0, locals := 30 } : Room) s m #[(.ref o), (.int pr), (.ref s0)] below meth c s₁ [] 0 0 := Stand.of_body Bd
  have e0 : s₁.heap = h0 := by rw [← hh, Bd.state]; rfl
  have N0 := Fr.nil n0
  have pre0 : ∀ t, Steps p.tables e below (s₁.setTop (mkF m 0 #[.val (.ref o), .val (.int pr), .val (.ref s0)] [])) t → Steps p.tables e below (s₁.setTop (entryFrame m #[(.ref o), (.int pr), (.ref s0)] 3)) t := fun t k => castTop (ef_Sam m o pr s0) k
  rcases hs with ⟨e1, e2⟩ | ⟨e1, e2⟩
  · skip
    have k1 : ∀ t, Steps p.tables e below (s₁.setTop (mkF m 0 #[.val (.ref o), .val (.int (0 : Int32)), .val (.ref s0)] [])) t → Steps p.tables e below (s₁.setTop (entryFrame m #[(.ref o), (.int pr), (.ref s0)] 3)) t := by
      intro t kt
      refine pre0 t ?_
      rw [(e1 : pr = (0 : Int32))]
      exact kt
    have F2 : Fld Z h0 o "java/util/Optional" "value" "Ljava/lang/Object;" .null := by rw [← e2]; exact F_o
    obtain ⟨cq2, kq2, q2a, q2b, q2c⟩ := isOf hZ e0 E_o
    obtain ⟨_, _, ⟨T2, L2, kc2, ks2⟩, -, X2, ⟨Lc2, hQ2, l2, y2, z2⟩, st2⟩ := X0.virtualBack hx (y := mn29) (z := mn29) hown (mvT hZ (wd213 hw)) (mvT hZ (wd214 hw)) (notFace_of_selects (args := #[]) (mvT hZ (wd216 hw))) (mvT hZ (wd216 hw)) (mvT hZ (wd215 hw)) (by decide) (backOf (W := 0) (rmA2 l Z a0 hw [] o h0 n0 Z0 F2) hZ (wd217 hw) (wd36 hw) (by decide) (by decide)) q2a q2c (g := (mkF m 5 #[.val (.ref o), .val (.int (0 : Int32)), .val (.ref s0)] [(.ref o)])) rfl (by rw [hml]; rfl) (Steps.refl _) (argsL := []) (rest := []) (lenOf pd___Z rfl) rfl (by show 2 * 0 + _ ≤ _; exact Nat.le_of_eq rfl) (hb hby de_1_5) (fun _ _ => ⟨rfl, e0, (by decide : 0 + 0 ≤ _), (by decide : 0 + 0 ≤ _)⟩)
    dsimp only [Pt.U, Pt.locs, Pt.cells, Pt.slots] at X2 l2 y2 z2 st2 hQ2
    subst l2 y2 z2
    obtain ⟨rfl, Nq2, eq2⟩ := hQ2
    have N2 := Fr.app N0 Nq2
    obtain ⟨lfs, lhr, lhrun, lhended, lhW, lhsame⟩ := X2.leave (v := some (.int (1 : Int32))) (fun h => by rw [Bd.returns] at h; cases h)
    refine ⟨_, _, k1 _ ?_, lhrun, lhended, _, _, rfl, ?_, ⟨_, rfl⟩, lhW, lhsame.mono (by decide) (by decide)⟩
    · skip
      show Steps p.tables e below (s₁.setTop (mkF m 0 #[.val (.ref o), .val (.int (0 : Int32)), .val (.ref s0)] [])) _
      refine XS.iloadN X0.here hx rfl (hb hby de_1_0) rfl ?_
      refine XS.ifNo X0.here hx rfl (hb hby de_1_1) rfl ((if0 _ _).trans (teq (by decide : (0 : Int32) = (0 : Int32))).2) ?_
      refine XS.aloadN X0.here hx rfl (hb hby de_1_4) rfl rfl ?_
      show Steps p.tables e below (s₁.setTop (mkF m 5 #[.val (.ref o), .val (.int (0 : Int32)), .val (.ref s0)] [(.ref o)])) _
      refine st2.trans ?_
      show Steps p.tables e below (T2.setTop (mkF m 8 #[.val (.ref o), .val (.int (0 : Int32)), .val (.ref s0)] [(.int (0 : Int32))])) _
      refine XS.ifNo X2.here hx rfl (hb hby de_1_8) rfl ((if0 _ _).trans (teq (by decide : (0 : Int32) = (0 : Int32))).2) ?_
      refine XS.iconst X2.here hx rfl (hb hby de_1_11) ?_
      refine XS.goto X2.here hx rfl (pc0 := 12) (pc' := 16) rfl (hb hby de_1_12) (by decide) (by decide) ?_
      show Steps p.tables e below (T2.setTop (mkF m 16 #[.val (.ref o), .val (.int (0 : Int32)), .val (.ref s0)] [(.int (1 : Int32))])) _
      exact retN X2 hx (t := .boolean) Bd.returns (by simp) (hb hby de_1_16) lhr
    · skip
      show QSam Z o pr s0 vv h0 n0 _ T2.heap _
      rw [eq2]
      exact ⟨rfl, N2, rfl⟩
  · skip
    have k3 : ∀ t, Steps p.tables e below (s₁.setTop (mkF m 0 #[.val (.ref o), .val (.int (1 : Int32)), .val (.ref s0)] [])) t → Steps p.tables e below (s₁.setTop (entryFrame m #[(.ref o), (.int pr), (.ref s0)] 3)) t := by
      intro t kt
      refine pre0 t ?_
      rw [(e1 : pr = (1 : Int32))]
      exact kt
    have F2 : Fld Z h0 o "java/util/Optional" "value" "Ljava/lang/Object;" (.ref s0) := by rw [← e2]; exact F_o
    obtain ⟨cq4, kq4, q4a, q4b, q4c⟩ := isOf hZ e0 E_o
    obtain ⟨_, _, ⟨T4, L4, kc4, ks4⟩, -, X4, ⟨Lc4, hQ4, l4, y4, z4⟩, st4⟩ := X0.virtualBack hx (y := mn29) (z := mn29) hown (mvT hZ (wd213 hw)) (mvT hZ (wd214 hw)) (notFace_of_selects (args := #[]) (mvT hZ (wd216 hw))) (mvT hZ (wd216 hw)) (mvT hZ (wd215 hw)) (by decide) (backOf (W := 0) (rmA3 l Z a0 hw [] o s0 h0 n0 Z0 F2) hZ (wd217 hw) (wd36 hw) (by decide) (by decide)) q4a q4c (g := (mkF m 18 #[.val (.ref o), .val (.int (1 : Int32)), .val (.ref s0)] [(.ref o)])) rfl (by rw [hml]; rfl) (Steps.refl _) (argsL := []) (rest := []) (lenOf pd___Z rfl) rfl (by show 2 * 0 + _ ≤ _; exact Nat.le_of_eq rfl) (hb hby de_1_18) (fun _ _ => ⟨rfl, e0, (by decide : 0 + 0 ≤ _), (by decide : 0 + 0 ≤ _)⟩)
    dsimp only [Pt.U, Pt.locs, Pt.cells, Pt.slots] at X4 l4 y4 z4 st4 hQ4
    subst l4 y4 z4
    obtain ⟨rfl, Nq4, eq4⟩ := hQ4
    have N4 := Fr.app N0 Nq4
    obtain ⟨cq5, kq5, q5a, q5b, q5c⟩ := isOf hZ eq4 E_o
    obtain ⟨_, _, ⟨T5, L5, kc5, ks5⟩, -, X5, ⟨Lc5, hQ5, l5, y5, z5⟩, st5⟩ := X4.virtualBack hx (y := mn28) (z := mn28) hown (mvT hZ (wd218 hw)) (mvT hZ (wd219 hw)) (notFace_of_selects (args := #[]) (mvT hZ (wd221 hw))) (mvT hZ (wd221 hw)) (mvT hZ (wd220 hw)) (by decide) (backOf (W := 0) (rmA4 l Z a0 hw [] o s0 h0 n0 Z0 F2) hZ (wd222 hw) (wd36 hw) (by decide) (by decide)) q5a q5c (g := (mkF m 25 #[.val (.ref o), .val (.int (1 : Int32)), .val (.ref s0)] [(.ref o)])) rfl (by rw [hml]; rfl) (Steps.refl _) (argsL := []) (rest := []) (lenOf pd___Ljava_lang_Object_ rfl) rfl (by show 2 * 0 + _ ≤ _; exact Nat.le_of_eq rfl) (hb hby de_1_25) (fun _ _ => ⟨rfl, eq4, (by decide : 0 + 0 ≤ _), (by decide : 0 + 0 ≤ _)⟩)
    dsimp only [Pt.U, Pt.locs, Pt.cells, Pt.slots] at X5 l5 y5 z5 st5 hQ5
    subst l5 y5 z5
    obtain ⟨rfl, Nq5, eq5⟩ := hQ5
    have N5 := Fr.app N4 Nq5
    obtain ⟨T6, X6, e6, st6⟩ := castY X5 hx hZ hown (wd5 hw) eq5 (Ins.self E_s) (g := (mkF m 28 #[.val (.ref o), .val (.int (1 : Int32)), .val (.ref s0)] [(.ref s0)])) rfl rfl (hb hby de_1_28)
    obtain ⟨cq7, kq7, q7a, q7b, q7c⟩ := isOf hZ e6 E_s
    obtain ⟨_, _, ⟨T7, L7, kc7, ks7⟩, -, X7, ⟨Lc7, hQ7, l7, y7, z7⟩, st7⟩ := X6.virtualBack hx (y := mn20) (z := mn20) hown (mvT hZ (wd223 hw)) (mvT hZ (wd224 hw)) (notFace_of_selects (args := #[]) (mvT hZ (wd226 hw))) (mvT hZ (wd226 hw)) (mvT hZ (wd225 hw)) (by decide) (backOf (W := 0) (rmA5 l Z a0 hw [] s0 h0 n0 Z0 ) hZ (wd227 hw) (wd7 hw) (by decide) (by decide)) q7a q7c (g := (mkF m 32 #[.val (.ref o), .val (.int (1 : Int32)), .val (.ref s0)] [(.ref s0), (.ref s0)])) rfl (by rw [hml]; rfl) (Steps.refl _) (argsL := [(.ref s0)]) (rest := []) (lenOf pd__Ljava_lang_Object__Z rfl) rfl (by show 2 * 0 + _ ≤ _; exact Nat.le_of_eq rfl) (hb hby de_1_32) (fun _ _ => ⟨rfl, e6, (by decide : 0 + 0 ≤ _), (by decide : 0 + 0 ≤ _)⟩)
    dsimp only [Pt.U, Pt.locs, Pt.cells, Pt.slots] at X7 l7 y7 z7 st7 hQ7
    subst l7 y7 z7
    obtain ⟨rfl, Nq7, eq7⟩ := hQ7
    have N7 := Fr.app N5 Nq7
    obtain ⟨lfs, lhr, lhrun, lhended, lhW, lhsame⟩ := X7.leave (v := some (.int (1 : Int32))) (fun h => by rw [Bd.returns] at h; cases h)
    refine ⟨_, _, k3 _ ?_, lhrun, lhended, _, _, rfl, ?_, ⟨_, rfl⟩, lhW, lhsame.mono (by decide) (by decide)⟩
    · skip
      show Steps p.tables e below (s₁.setTop (mkF m 0 #[.val (.ref o), .val (.int (1 : Int32)), .val (.ref s0)] [])) _
      refine XS.iloadN X0.here hx rfl (hb hby de_1_0) rfl ?_
      refine XS.ifYes X0.here hx rfl (pc0 := 1) (pc' := 17) rfl (hb hby de_1_1) rfl ((if0 _ _).trans (feq (by decide : ¬ ((1 : Int32) = (0 : Int32)))).2) (by decide) (by decide) ?_
      refine XS.aloadN X0.here hx rfl (hb hby de_1_17) rfl rfl ?_
      show Steps p.tables e below (s₁.setTop (mkF m 18 #[.val (.ref o), .val (.int (1 : Int32)), .val (.ref s0)] [(.ref o)])) _
      refine st4.trans ?_
      show Steps p.tables e below (T4.setTop (mkF m 21 #[.val (.ref o), .val (.int (1 : Int32)), .val (.ref s0)] [(.int (1 : Int32))])) _
      refine XS.ifNo X4.here hx rfl (hb hby de_1_21) rfl ((if0 _ _).trans (feq (by decide : ¬ ((1 : Int32) = (0 : Int32)))).1) ?_
      refine XS.aloadN X4.here hx rfl (hb hby de_1_24) rfl rfl ?_
      show Steps p.tables e below (T4.setTop (mkF m 25 #[.val (.ref o), .val (.int (1 : Int32)), .val (.ref s0)] [(.ref o)])) _
      refine st5.trans ?_
      show Steps p.tables e below (T5.setTop (mkF m 28 #[.val (.ref o), .val (.int (1 : Int32)), .val (.ref s0)] [(.ref s0)])) _
      refine st6 _ ?_
      show Steps p.tables e below (T6.setTop (mkF m 31 #[.val (.ref o), .val (.int (1 : Int32)), .val (.ref s0)] [(.ref s0)])) _
      refine XS.aloadN X6.here hx rfl (hb hby de_1_31) rfl rfl ?_
      show Steps p.tables e below (T6.setTop (mkF m 32 #[.val (.ref o), .val (.int (1 : Int32)), .val (.ref s0)] [(.ref s0), (.ref s0)])) _
      refine st7.trans ?_
      show Steps p.tables e below (T7.setTop (mkF m 35 #[.val (.ref o), .val (.int (1 : Int32)), .val (.ref s0)] [(.int (1 : Int32))])) _
      refine XS.ifNo X7.here hx rfl (hb hby de_1_35) rfl ((if0 _ _).trans (feq (by decide : ¬ ((1 : Int32) = (0 : Int32)))).1) ?_
      show Steps p.tables e below (T7.setTop (mkF m 38 #[.val (.ref o), .val (.int (1 : Int32)), .val (.ref s0)] [])) _
      refine XS.iconst X7.here hx rfl (hb hby de_1_38) ?_
      refine XS.goto X7.here hx rfl (pc0 := 39) (pc' := 43) rfl (hb hby de_1_39) (by decide) (by decide) ?_
      show Steps p.tables e below (T7.setTop (mkF m 43 #[.val (.ref o), .val (.int (1 : Int32)), .val (.ref s0)] [(.int (1 : Int32))])) _
      exact retN X7 hx (t := .boolean) Bd.returns (by simp) (hb hby de_1_43) lhr
    · skip
      show QSam Z o pr s0 vv h0 n0 _ T7.heap _
      rw [eq7]
      exact ⟨rfl, N7, rfl⟩
theorem ef_St2 (m : MethodId) (x0 : Int32) (x1 : Int32) : entryFrame m #[(.int x0), (.int x1)] 3 = mkF m 0 #[.val (.int x0), .val (.int x1), .unset] [] := by first | (simp [entryFrame, mkF, argsToLocals, Value.category]; done) | rfl
theorem df_1_0 : decode method_2_code 0 = .ok (.iconst 2, 1) := by decide +kernel
theorem df_1_1 : decode method_2_code 1 = .ok (.newarray .char, 2) := by decide +kernel
theorem df_1_3 : decode method_2_code 3 = .ok (.astore_n 2, 1) := by decide +kernel
theorem df_1_4 : decode method_2_code 4 = .ok (.aload_n 2, 1) := by decide +kernel
theorem df_1_5 : decode method_2_code 5 = .ok (.iconst 0, 1) := by decide +kernel
theorem df_1_6 : decode method_2_code 6 = .ok (.iload_n 0, 1) := by decide +kernel
theorem df_1_7 : decode method_2_code 7 = .ok (.iload_n 1, 1) := by decide +kernel
theorem df_1_8 : decode method_2_code 8 = .ok (.iushr, 1) := by decide +kernel
theorem df_1_9 : decode method_2_code 9 = .ok (.sipush 255, 3) := by decide +kernel
theorem df_1_12 : decode method_2_code 12 = .ok (.iand, 1) := by decide +kernel
theorem df_1_13 : decode method_2_code 13 = .ok (.i2c, 1) := by decide +kernel
theorem df_1_14 : decode method_2_code 14 = .ok (.castore, 1) := by decide +kernel
theorem df_1_15 : decode method_2_code 15 = .ok (.aload_n 2, 1) := by decide +kernel
theorem df_1_16 : decode method_2_code 16 = .ok (.iconst 1, 1) := by decide +kernel
theorem df_1_17 : decode method_2_code 17 = .ok (.iload_n 0, 1) := by decide +kernel
theorem df_1_18 : decode method_2_code 18 = .ok (.iload_n 1, 1) := by decide +kernel
theorem df_1_19 : decode method_2_code 19 = .ok (.bipush 8, 2) := by decide +kernel
theorem df_1_21 : decode method_2_code 21 = .ok (.iadd, 1) := by decide +kernel
theorem df_1_22 : decode method_2_code 22 = .ok (.iushr, 1) := by decide +kernel
theorem df_1_23 : decode method_2_code 23 = .ok (.sipush 255, 3) := by decide +kernel
theorem df_1_26 : decode method_2_code 26 = .ok (.iand, 1) := by decide +kernel
theorem df_1_27 : decode method_2_code 27 = .ok (.i2c, 1) := by decide +kernel
theorem df_1_28 : decode method_2_code 28 = .ok (.castore, 1) := by decide +kernel
theorem df_1_29 : decode method_2_code 29 = .ok (.new 7, 3) := by decide +kernel
theorem df_1_32 : decode method_2_code 32 = .ok (.dup, 1) := by decide +kernel
theorem df_1_33 : decode method_2_code 33 = .ok (.aload_n 2, 1) := by decide +kernel
theorem df_1_34 : decode method_2_code 34 = .ok (.invokespecial 9, 3) := by decide +kernel
theorem df_1_37 : decode method_2_code 37 = .ok (.areturn, 1) := by decide +kernel
def QSt2 (Z : State) (x0 : Int32) (x1 : Int32) (G1 : Int32) (h0 : Heap) (n0 : Nat) (v : Option Value) (h : Heap) (L : List Loc) : Prop := ∃ w : Addr, v = some (.ref w) ∧ Fr n0 L ∧ Keep h0 h [] ∧ h0.size ≤ w ∧ Exa Z h w "java/lang/String"
set_option maxRecDepth 65536 in
set_option maxHeartbeats 40000000 in
theorem rmSt2 (l : Launch) (Z : State) (a0 : Array Value) (hw : ∀ d ∈ tables_1, d.before a0 Z = true) (ws : List Jvm.Cond) (x0 : Int32) (x1 : Int32) (G1 : Int32) (h0 : Heap) (n0 : Nat) (Z0 : n0 ≤ h0.size) (O2 : Sta Z Z.heap "java/lang/String" "COMPACT_STRINGS" "Z" (.int G1)) (P5 : ¬ (G1 = (0 : Int32))) (X00 : Old Z n0 h0) :
    MetFree l mn16 (head1 (Jvm.Cond.code mn16 method_2_code 3 (some (.object "java/lang/String")) :: ws) ({ frames := 6, cells := 4, slots := 16, locals := 120 } : Room)) (fun a U => a = #[(.int x0), (.int x1)] ∧ Z.Warmed39 U.vm ∧ U.heap = h0) (fun _ _ _ _ _ => True) (fun _ U oc_ U' => ∃ v L, oc_ = .returned v ∧ QSt2 Z x0 x1 G1 h0 n0 v U'.heap L ∧ FrameEnd U oc_ U' L ({ frames := 6, cells := 4, slots := 16, locals := 120 } : Room).cells ({ frames := 6, cells := 4, slots := 16, locals := 120 } : Room).slots) := by
  refine MetFree.of_bodySF (plainFor_of_name pn_com_example_typed_api_errors_typedapierrors_error_OccurrenceAsItemPinLaw) hisR ?_
  intro p e s m args below meth c s₁ Bd hml0 hP hK
  obtain ⟨rfl, hZ, hh⟩ := hP
  have hx := Bd.exec
  have hby := Bd.bytes
  have hml : c.maxLocals = 3 := hml0
  have hown : s.vm.findClass cn4 = some m.cls := findClass_of_methodNamed Bd.named
  have hnm := (name_of_methodNamed Bd.named Bd.method).1
  have X0 : Stand p l e ({ frames := 6, cells := 4, slots := 16, locals := 120 } : Room) s m #[(.int x0), (.int x1)] below meth c s₁ [] 0 0 := Stand.of_body Bd
  have e0 : s₁.heap = h0 := by rw [← hh, Bd.state]; rfl
  have N0 := Fr.nil n0
  have pre0 : ∀ t, Steps p.tables e below (s₁.setTop (mkF m 0 #[.val (.int x0), .val (.int x1), .unset] [])) t → Steps p.tables e below (s₁.setTop (entryFrame m #[(.int x0), (.int x1)] 3)) t := fun t k => castTop (ef_St2 m x0 x1) k
  have hws : ∀ d ∈ StrChars.Road.words, d.before a0 Z = true := fun d hd => hw d ((by decide +kernel : ∀ d ∈ StrChars.Road.words, d ∈ tables_1) d hd)
  obtain ⟨T1, h1, kk1, X1, e1, E1, A1, st1⟩ := newP X0 hx hZ (aty := .char) (wd4 hw) e0 (g := (mkF m 1 #[.val (.int x0), .val (.int x1), .unset] [(.int (2 : Int32))])) rfl (hb hby df_1_1) rfl (by decide) (cap := 2) (by decide) (by decide) (by decide) (by decide)
  obtain ⟨b1, g1⟩ : ∃ z, z = h0.size := ⟨_, rfl⟩
  rw [← g1] at A1 st1
  have ge_b1 : n0 ≤ b1 := Nat.le_trans Z0 (Nat.le_of_eq g1.symm)
  have sz_b1 : h0.size ≤ b1 := Nat.le_trans (Nat.le_refl _) (Nat.le_of_eq g1.symm)
  have Z1 : n0 ≤ h1.size := Nat.le_trans Z0 E1.1
  have K1 : Keep h0 h1 [] := ((Keep.refl h0 []).ext E1)
  have V1 : Arv Z h1 b1 kk1 .char (2 : Int32) [(.int (0 : Int32)), (.int (0 : Int32))] (.int (0 : Int32)) := (Arv.new A1 (by decide)).pad (pad_rep [] (.int (0 : Int32)) 2)
  obtain ⟨cl2, Ar2, q2, S2, M2, HH2, GG2⟩ := id V1
  have hin2 : ¬ ((0 : Int32) < 0 ∨ cl2.slots.size ≤ ((0 : Int32)).toNatClampNeg) := inb_of S2 ⟨by decide, by decide⟩
  obtain ⟨T3, h3, X3, e3, W3, st3⟩ := stC X1 hx hZ e1 Ar2 (j := (0 : Int32)) hin2 (g := (mkF m 14 #[.val (.int x0), .val (.int x1), .val (.ref b1)] [(.int ((((x0.toUInt32 >>> (x1 &&& 31).toUInt32).toInt32) &&& (255 : Int32)).toUInt32.toUInt16.toUInt32.toInt32)), (.int (0 : Int32)), (.ref b1)])) rfl rfl (hb hby df_1_14)
  have N3 := Fr.snoc X3 N0 ge_b1
  have Z3 : n0 ≤ h3.size := by rw [W3.size]; exact Z1
  have K3 : Keep h0 h3 [] := (K1.wr W3 (Or.inr sz_b1))
  have V3 := Arv.set Ar2 q2 S2 M2 HH2 GG2 (fits_nar_char _) W3 0 rfl (Nat.le_of_ble_eq_true rfl)
  obtain ⟨cl4, Ar4, q4, S4, M4, HH4, GG4⟩ := id V3
  have hin4 : ¬ ((1 : Int32) < 0 ∨ cl4.slots.size ≤ ((1 : Int32)).toNatClampNeg) := inb_of S4 ⟨by decide, by decide⟩
  obtain ⟨T5, h5, X5, e5, W5, st5⟩ := stC X3 hx hZ e3 Ar4 (j := (1 : Int32)) hin4 (g := (mkF m 28 #[.val (.int x0), .val (.int x1), .val (.ref b1)] [(.int ((((x0.toUInt32 >>> ((x1 + (8 : Int32)) &&& 31).toUInt32).toInt32) &&& (255 : Int32)).toUInt32.toUInt16.toUInt32.toInt32)), (.int (1 : Int32)), (.ref b1)])) rfl rfl (hb hby df_1_28)
  have N5 := Fr.snoc X5 N3 ge_b1
  have Z5 : n0 ≤ h5.size := by rw [W5.size]; exact Z3
  have K5 : Keep h0 h5 [] := (K3.wr W5 (Or.inr sz_b1))
  have V5 := Arv.set Ar4 q4 S4 M4 HH4 GG4 (fits_nar_char _) W5 1 rfl (Nat.le_of_ble_eq_true rfl)
  obtain ⟨T6, h6, X6, e6, E6, A6, D6, -, st6⟩ := newO X5 hx hZ hown (wd5 hw) (wd6 hw) (wd7 hw) e5 (g := (mkF m 29 #[.val (.int x0), .val (.int x1), .val (.ref b1)] [])) rfl (hb hby df_1_29) (by decide) (by decide)
  obtain ⟨b6, g6⟩ : ∃ z, z = h5.size := ⟨_, rfl⟩
  rw [← g6] at A6 D6 st6
  have ne_b1_b6 : b1 ≠ b6 := Nat.ne_of_lt (Nat.lt_of_lt_of_le V5.lt (Nat.le_of_eq g6.symm))
  have ge_b6 : n0 ≤ b6 := Nat.le_trans Z5 (Nat.le_of_eq g6.symm)
  have sz_b6 : h0.size ≤ b6 := Nat.le_trans K5.1 (Nat.le_of_eq g6.symm)
  have Z6 : n0 ≤ h6.size := Nat.le_trans Z5 E6.1
  have K6 : Keep h0 h6 [] := (K5.ext E6)
  have F6_coder : Fld Z h6 b6 "java/lang/String" "coder" "B" (.int (0 : Int32)) := D6 (Or.inr (wd31 hw)) (ty := .byte) (by decide)
  have F6_value : Fld Z h6 b6 "java/lang/String" "value" "[B" .null := D6 (Or.inr (wd33 hw)) (ty := (.array .byte)) (by decide)
  have hp7 : ∀ c ∈ ([(nar .char ((((x0.toUInt32 >>> (x1 &&& 31).toUInt32).toInt32) &&& (255 : Int32)).toUInt32.toUInt16.toUInt32.toInt32)), (nar .char ((((x0.toUInt32 >>> ((x1 + (8 : Int32)) &&& 31).toUInt32).toInt32) &&& (255 : Int32)).toUInt32.toUInt16.toUInt32.toInt32))] : List Int32), ¬ c < 0 ∧ ¬ (255 : Int32) < c := by
    intro c hc
    simp only [List.mem_cons, List.not_mem_nil, or_false] at hc
    rcases hc with rfl | rfl
    · exact own_and255 ((x0.toUInt32 >>> (x1 &&& 31).toUInt32).toInt32)
    · exact own_and255 ((x0.toUInt32 >>> ((x1 + (8 : Int32)) &&& 31).toUInt32).toInt32)
  have f8 := (V5.ext E6)
  have f9 := ((((X00.ext E1).wr W3 ge_b1).wr W5 ge_b1).ext E6)
  obtain ⟨_, _, ⟨T10, L10, kc10, ks10⟩, -, X10, ⟨Lc10, hQ10, l10, y10, z10⟩, st10⟩ := X6.specialBack hx (y := (⟨"java/lang/String", "<init>", "([C)V"⟩ : MethodName)) rfl hown (mvT hZ (wd8 hw)) (mvT hZ (wd9 hw)) (mvT hZ (wd10 hw)) (by decide) (StrChars.Road.backV (W := 1) hZ hws (kI := 4) (wd6 hw) (cs := ([(nar .char ((((x0.toUInt32 >>> (x1 &&& 31).toUInt32).toInt32) &&& (255 : Int32)).toUInt32.toUInt16.toUInt32.toInt32)), (nar .char ((((x0.toUInt32 >>> ((x1 + (8 : Int32)) &&& 31).toUInt32).toInt32) &&& (255 : Int32)).toUInt32.toUInt16.toUInt32.toInt32))] : List Int32)) (bs := ([(nar .char ((((x0.toUInt32 >>> (x1 &&& 31).toUInt32).toInt32) &&& (255 : Int32)).toUInt32.toUInt16.toUInt32.toInt32)), (nar .char ((((x0.toUInt32 >>> ((x1 + (8 : Int32)) &&& 31).toUInt32).toInt32) &&& (255 : Int32)).toUInt32.toUInt16.toUInt32.toInt32))] : List Int32).map (fun c => c.toInt8.toInt32)) (n := 2) ge_b6 Z6 A6 F6_value F6_coder f8 (O2.ext f9.2) P5 rfl rfl (by decide) (by decide) hp7 rfl (by decide) (by decide)) (g := (mkF m 34 #[.val (.int x0), .val (.int x1), .val (.ref b1)] [(.ref b1), (.ref b6), (.ref b6)])) rfl (by rw [hml]; rfl) (Steps.refl _) (a := b6) (argsL := [(.ref b1)]) (rest := [(.ref b6)]) (lenOf pd___C_V rfl) rfl (by show 2 * 0 + _ ≤ _; exact Nat.le_of_eq rfl) (hb hby df_1_34) (fun _ _ => ⟨rfl, e6, (by decide : 2 + 1 ≤ _), (by decide : 6 + 2 ≤ _)⟩)
  dsimp only [Pt.U, Pt.locs, Pt.cells, Pt.slots] at X10 l10 y10 z10 st10 hQ10
  subst l10 y10 z10
  obtain ⟨rfl, Nq10, Kq10, gE10, gC10, t10, kb10, gt10, gs10, gn10, gV10, gK10⟩ := hQ10
  have N10 := Fr.app N5 Nq10
  have Z10 : n0 ≤ T10.heap.size := Nat.le_trans Z6 Kq10.1
  have K10 : Keep h0 T10.heap [] := Keep.trans K6 Kq10 (allS (Or.inr sz_b6) all0)
  have ne_b1_t10 : b1 ≠ t10 := Nat.ne_of_lt (Nat.lt_of_lt_of_le f8.lt gs10)
  have ne_b6_t10 : b6 ≠ t10 := Nat.ne_of_lt (Nat.lt_of_lt_of_le A6.lt gs10)
  have sz_t10 : h0.size ≤ t10 := Nat.le_trans K6.1 gs10
  obtain ⟨lfs, lhr, lhrun, lhended, lhW, lhsame⟩ := X10.leave (v := some (.ref b6)) (fun h => by rw [Bd.returns] at h; cases h)
  refine ⟨_, _, pre0 _ ?_, lhrun, lhended, _, _, rfl, ?_, ⟨_, rfl⟩, lhW, lhsame.mono (by decide) (by decide)⟩
  · skip
    show Steps p.tables e below (s₁.setTop (mkF m 0 #[.val (.int x0), .val (.int x1), .unset] [])) _
    refine XS.iconst X0.here hx rfl (hb hby df_1_0) ?_
    show Steps p.tables e below (s₁.setTop (mkF m 1 #[.val (.int x0), .val (.int x1), .unset] [(.int (2 : Int32))])) _
    refine st1 _ ?_
    show Steps p.tables e below (T1.setTop (mkF m 3 #[.val (.int x0), .val (.int x1), .unset] [(.ref b1)])) _
    refine XS.astoreN X1.here hx rfl (hb hby df_1_3) rfl rfl (l' := #[.val (.int x0), .val (.int x1), .val (.ref b1)]) rfl ?_
    show Steps p.tables e below (T1.setTop (mkF m 4 #[.val (.int x0), .val (.int x1), .val (.ref b1)] [])) _
    refine XS.aloadN X1.here hx rfl (hb hby df_1_4) rfl rfl ?_
    refine XS.iconst X1.here hx rfl (hb hby df_1_5) ?_
    refine XS.iloadN X1.here hx rfl (hb hby df_1_6) rfl ?_
    refine XS.iloadN X1.here hx rfl (hb hby df_1_7) rfl ?_
    show Steps p.tables e below (T1.setTop (mkF m 8 #[.val (.int x0), .val (.int x1), .val (.ref b1)] [(.int x1), (.int x0), (.int (0 : Int32)), (.ref b1)])) _
    refine XS.iushr X1.here hx rfl (hb hby df_1_8) rfl ?_
    refine XS.sipush X1.here hx rfl (hb hby df_1_9) ?_
    refine XS.iand X1.here hx rfl (hb hby df_1_12) rfl ?_
    refine XS.i2c X1.here hx rfl (hb hby df_1_13) rfl ?_
    show Steps p.tables e below (T1.setTop (mkF m 14 #[.val (.int x0), .val (.int x1), .val (.ref b1)] [(.int ((((x0.toUInt32 >>> (x1 &&& 31).toUInt32).toInt32) &&& (255 : Int32)).toUInt32.toUInt16.toUInt32.toInt32)), (.int (0 : Int32)), (.ref b1)])) _
    refine st3 _ ?_
    show Steps p.tables e below (T3.setTop (mkF m 15 #[.val (.int x0), .val (.int x1), .val (.ref b1)] [])) _
    refine XS.aloadN X3.here hx rfl (hb hby df_1_15) rfl rfl ?_
    refine XS.iconst X3.here hx rfl (hb hby df_1_16) ?_
    refine XS.iloadN X3.here hx rfl (hb hby df_1_17) rfl ?_
    show Steps p.tables e below (T3.setTop (mkF m 18 #[.val (.int x0), .val (.int x1), .val (.ref b1)] [(.int x0), (.int (1 : Int32)), (.ref b1)])) _
    refine XS.iloadN X3.here hx rfl (hb hby df_1_18) rfl ?_
    refine XS.bipush X3.here hx rfl (hb hby df_1_19) ?_
    refine XS.iadd X3.here hx rfl (hb hby df_1_21) rfl ?_
    refine XS.iushr X3.here hx rfl (hb hby df_1_22) rfl ?_
    show Steps p.tables e below (T3.setTop (mkF m 23 #[.val (.int x0), .val (.int x1), .val (.ref b1)] [(.int ((x0.toUInt32 >>> ((x1 + (8 : Int32)) &&& 31).toUInt32).toInt32)), (.int (1 : Int32)), (.ref b1)])) _
    refine XS.sipush X3.here hx rfl (hb hby df_1_23) ?_
    refine XS.iand X3.here hx rfl (hb hby df_1_26) rfl ?_
    refine XS.i2c X3.here hx rfl (hb hby df_1_27) rfl ?_
    show Steps p.tables e below (T3.setTop (mkF m 28 #[.val (.int x0), .val (.int x1), .val (.ref b1)] [(.int ((((x0.toUInt32 >>> ((x1 + (8 : Int32)) &&& 31).toUInt32).toInt32) &&& (255 : Int32)).toUInt32.toUInt16.toUInt32.toInt32)), (.int (1 : Int32)), (.ref b1)])) _
    refine st5 _ ?_
    show Steps p.tables e below (T5.setTop (mkF m 29 #[.val (.int x0), .val (.int x1), .val (.ref b1)] [])) _
    refine st6 _ ?_
    show Steps p.tables e below (T6.setTop (mkF m 32 #[.val (.int x0), .val (.int x1), .val (.ref b1)] [(.ref b6)])) _
    refine XS.dup X6.here hx rfl (hb hby df_1_32) rfl rfl ?_
    refine XS.aloadN X6.here hx rfl (hb hby df_1_33) rfl rfl ?_
    show Steps p.tables e below (T6.setTop (mkF m 34 #[.val (.int x0), .val (.int x1), .val (.ref b1)] [(.ref b1), (.ref b6), (.ref b6)])) _
    refine st10.trans ?_
    show Steps p.tables e below (T10.setTop (mkF m 37 #[.val (.int x0), .val (.int x1), .val (.ref b1)] [(.ref b6)])) _
    exact retOut X10 hx Bd.returns rfl (Or.inr (Or.inr (Or.inr (Or.inr ⟨rfl, rfl, rfl⟩)))) (hb hby df_1_37) lhr
  · skip
    show QSt2 Z x0 x1 G1 h0 n0 _ T10.heap _
    skip
    exact ⟨b6, rfl, N10, K10, sz_b6, gE10⟩
theorem efa_jdk_32_method_1_code_ (m : MethodId)  : entryFrame m #[] 1 = mkF m 0 #[.unset] [] := by first | (simp [entryFrame, mkF, argsToLocals, Value.category]; done) | rfl
theorem df_0 : decode jdk_32_method_1_code 0 = .ok (.getstatic 1, 3) := by decide +kernel
theorem df_3 : decode jdk_32_method_1_code 3 = .ok (.astore_n 0, 1) := by decide +kernel
theorem df_4 : decode jdk_32_method_1_code 4 = .ok (.aload_n 0, 1) := by decide +kernel
theorem df_5 : decode jdk_32_method_1_code 5 = .ok (.areturn, 1) := by decide +kernel
def QA6 (Z : State) (o0 : Addr) (h0 : Heap) (n0 : Nat) (v : Option Value) (h : Heap) (L : List Loc) : Prop := v = some (.ref o0) ∧ Fr n0 L ∧ h = h0
set_option maxRecDepth 65536 in
set_option maxHeartbeats 40000000 in
theorem rmA6 (l : Launch) (Z : State) (a0 : Array Value) (hw : ∀ d ∈ tables_1, d.before a0 Z = true) (ws : List Jvm.Cond) (o0 : Addr) (h0 : Heap) (n0 : Nat) (Z0 : n0 ≤ h0.size) (SZ_EMPTY : Sta Z Z.heap "java/util/Optional" "EMPTY" "Ljava/util/Optional;" (.ref o0)) (X00 : Old Z n0 h0) :
    MetFree l mn27 (head1 (Jvm.Cond.code mn27 jdk_32_method_1_code 1 (some (.object "java/util/Optional")) :: ws) ({ frames := 0, cells := 0, slots := 0, locals := 0 } : Room)) (fun a U => a = #[] ∧ Z.Warmed39 U.vm ∧ U.heap = h0) (fun _ _ _ _ _ => True) (fun _ U oc_ U' => ∃ v L, oc_ = .returned v ∧ QA6 Z o0 h0 n0 v U'.heap L ∧ FrameEnd U oc_ U' L ({ frames := 0, cells := 0, slots := 0, locals := 0 } : Room).cells ({ frames := 0, cells := 0, slots := 0, locals := 0 } : Room).slots) := by
  refine MetFree.of_bodySF (plainFor_of_name pn_java_util_Optional) hisR ?_
  intro p e s m args below meth c s₁ Bd hml0 hP hK
  obtain ⟨rfl, hZ, hh⟩ := hP
  have hx := Bd.exec
  have hby := Bd.bytes
  have hml : c.maxLocals = 1 := hml0
  have hown : s.vm.findClass "java/util/Optional" = some m.cls := findClass_of_methodNamed Bd.named
  have hnm := (name_of_methodNamed Bd.named Bd.method).1
  have X0 : Stand p l e ({ frames := 0, cells := 0, slots := 0, locals := 0 } : Room) s m #[] below meth c s₁ [] 0 0 := Stand.of_body Bd
  have e0 : s₁.heap = h0 := by rw [← hh, Bd.state]; rfl
  have N0 := Fr.nil n0
  have pre0 : ∀ t, Steps p.tables e below (s₁.setTop (mkF m 0 #[.unset] [])) t → Steps p.tables e below (s₁.setTop (entryFrame m #[] 1)) t := fun t k => castTop (efa_jdk_32_method_1_code_ m ) k
  obtain ⟨T1, X1, e1, st1⟩ := getS2 X0 hx hZ hown (host := "") (Or.inl (wd38 hw)) Via.refl e0 (SZ_EMPTY.ext X00.2) (g := (mkF m 0 #[.unset] [])) rfl (hb hby df_0)
  obtain ⟨lfs, lhr, lhrun, lhended, lhW, lhsame⟩ := X1.leave (v := some (.ref o0)) (fun h => by rw [Bd.returns] at h; cases h)
  refine ⟨_, _, pre0 _ ?_, lhrun, lhended, _, _, rfl, ?_, ⟨_, rfl⟩, lhW, lhsame.mono (by decide) (by decide)⟩
  · skip
    show Steps p.tables e below (s₁.setTop (mkF m 0 #[.unset] [])) _
    refine st1 _ ?_
    show Steps p.tables e below (T1.setTop (mkF m 3 #[.unset] [(.ref o0)])) _
    refine XS.astoreN X1.here hx rfl (hb hby df_3) rfl rfl (l' := #[.val (.ref o0)]) rfl ?_
    refine XS.aloadN X1.here hx rfl (hb hby df_4) rfl rfl ?_
    show Steps p.tables e below (T1.setTop (mkF m 5 #[.val (.ref o0)] [(.ref o0)])) _
    exact retOut X1 hx Bd.returns rfl (Or.inr (Or.inr (Or.inr (Or.inr ⟨rfl, rfl, rfl⟩)))) (hb hby df_5) lhr
  · skip
    show QA6 Z o0 h0 n0 _ T1.heap _
    rw [e1]
    exact ⟨rfl, N0, rfl⟩
theorem efa_jdk_32_method_3_code_v (m : MethodId) (x0 : Addr) : entryFrame m #[(.ref x0)] 1 = mkF m 0 #[.val (.ref x0)] [] := by first | (simp [entryFrame, mkF, argsToLocals, Value.category]; done) | rfl
theorem dw_0 : decode jdk_32_method_3_code 0 = .ok (.new 2, 3) := by decide +kernel
theorem dw_3 : decode jdk_32_method_3_code 3 = .ok (.dup, 1) := by decide +kernel
theorem dw_4 : decode jdk_32_method_3_code 4 = .ok (.aload_n 0, 1) := by decide +kernel
theorem dw_5 : decode jdk_32_method_3_code 5 = .ok (.invokestatic 17, 3) := by decide +kernel
theorem efa_jdk_31_method_10_code_v (m : MethodId) (x0 : Addr) : entryFrame m #[(.ref x0)] 1 = mkF m 0 #[.val (.ref x0)] [] := by first | (simp [entryFrame, mkF, argsToLocals, Value.category]; done) | rfl
theorem de_0 : decode jdk_31_method_10_code 0 = .ok (.aload_n 0, 1) := by decide +kernel
theorem de_1 : decode jdk_31_method_10_code 1 = .ok (.ifnonnull 11, 3) := by decide +kernel
theorem de_12 : decode jdk_31_method_10_code 12 = .ok (.aload_n 0, 1) := by decide +kernel
theorem de_13 : decode jdk_31_method_10_code 13 = .ok (.areturn, 1) := by decide +kernel
def QA8 (Z : State) (o0 : Addr) (h0 : Heap) (n0 : Nat) (v : Option Value) (h : Heap) (L : List Loc) : Prop := v = some (.ref o0) ∧ Fr n0 L ∧ h = h0
set_option maxRecDepth 65536 in
set_option maxHeartbeats 40000000 in
theorem rmA8 (l : Launch) (Z : State) (a0 : Array Value) (hw : ∀ d ∈ tables_1, d.before a0 Z = true) (ws : List Jvm.Cond) (o0 : Addr) (h0 : Heap) (n0 : Nat) (Z0 : n0 ≤ h0.size) :
    MetFree l mn24 (head1 (Jvm.Cond.code mn24 jdk_31_method_10_code 1 (some (.object "java/lang/Object")) :: ws) ({ frames := 0, cells := 0, slots := 0, locals := 0 } : Room)) (fun a U => a = #[(.ref o0)] ∧ Z.Warmed39 U.vm ∧ U.heap = h0) (fun _ _ _ _ _ => True) (fun _ U oc_ U' => ∃ v L, oc_ = .returned v ∧ QA8 Z o0 h0 n0 v U'.heap L ∧ FrameEnd U oc_ U' L ({ frames := 0, cells := 0, slots := 0, locals := 0 } : Room).cells ({ frames := 0, cells := 0, slots := 0, locals := 0 } : Room).slots) := by
  refine MetFree.of_bodySF (plainFor_of_name pn_java_util_Objects) hisR ?_
  intro p e s m args below meth c s₁ Bd hml0 hP hK
  obtain ⟨rfl, hZ, hh⟩ := hP
  have hx := Bd.exec
  have hby := Bd.bytes
  have hml : c.maxLocals = 1 := hml0
  have hown : s.vm.findClass "java/util/Objects" = some m.cls := findClass_of_methodNamed Bd.named
  have hnm := (name_of_methodNamed Bd.named Bd.method).1
  have X0 : Stand p l e ({ frames := 0, cells := 0, slots := 0, locals := 0 } : Room) s m #[(.ref o0)] below meth c s₁ [] 0 0 := Stand.of_body Bd
  have e0 : s₁.heap = h0 := by rw [← hh, Bd.state]; rfl
  have N0 := Fr.nil n0
  have pre0 : ∀ t, Steps p.tables e below (s₁.setTop (mkF m 0 #[.val (.ref o0)] [])) t → Steps p.tables e below (s₁.setTop (entryFrame m #[(.ref o0)] 1)) t := fun t k => castTop (efa_jdk_31_method_10_code_v m o0) k
  obtain ⟨lfs, lhr, lhrun, lhended, lhW, lhsame⟩ := X0.leave (v := some (.ref o0)) (fun h => by rw [Bd.returns] at h; cases h)
  refine ⟨_, _, pre0 _ ?_, lhrun, lhended, _, _, rfl, ?_, ⟨_, rfl⟩, lhW, lhsame.mono (by decide) (by decide)⟩
  · skip
    show Steps p.tables e below (s₁.setTop (mkF m 0 #[.val (.ref o0)] [])) _
    refine XS.aloadN X0.here hx rfl (hb hby de_0) rfl rfl ?_
    refine XS.ifnonnullYes X0.here hx rfl (pc0 := 1) (pc' := 12) rfl (hb hby de_1) rfl (by decide) (by decide) ?_
    refine XS.aloadN X0.here hx rfl (hb hby de_12) rfl rfl ?_
    show Steps p.tables e below (s₁.setTop (mkF m 13 #[.val (.ref o0)] [(.ref o0)])) _
    exact retOut X0 hx Bd.returns rfl (Or.inr (Or.inr (Or.inr (Or.inr ⟨rfl, rfl, rfl⟩)))) (hb hby de_13) lhr
  · skip
    show QA8 Z o0 h0 n0 _ s₁.heap _
    rw [e0]
    exact ⟨rfl, N0, rfl⟩
theorem dw_8 : decode jdk_32_method_3_code 8 = .ok (.invokespecial 23, 3) := by decide +kernel
theorem dw_11 : decode jdk_32_method_3_code 11 = .ok (.areturn, 1) := by decide +kernel
def QA7 (Z : State) (o0 : Addr) (h0 : Heap) (n0 : Nat) (v : Option Value) (h : Heap) (L : List Loc) : Prop := ∃ (b1 : Addr), v = some (.ref b1) ∧ Fr n0 L ∧ Keep h0 h [] ∧ h0.size ≤ b1 ∧ Exa Z h b1 "java/util/Optional" ∧ Fld Z h b1 "java/util/Optional" "value" "Ljava/lang/Object;" (.ref o0)
set_option maxRecDepth 65536 in
set_option maxHeartbeats 40000000 in
theorem rmA7 (l : Launch) (Z : State) (a0 : Array Value) (hw : ∀ d ∈ tables_1, d.before a0 Z = true) (ws : List Jvm.Cond) (o0 : Addr) (h0 : Heap) (n0 : Nat) (Z0 : n0 ≤ h0.size) :
    MetFree l mn30 (head1 (Jvm.Cond.code mn30 jdk_32_method_3_code 1 (some (.object "java/util/Optional")) :: ws) ({ frames := 2, cells := 1, slots := 1, locals := 26 } : Room)) (fun a U => a = #[(.ref o0)] ∧ Z.Warmed39 U.vm ∧ U.heap = h0) (fun _ _ _ _ _ => True) (fun _ U oc_ U' => ∃ v L, oc_ = .returned v ∧ QA7 Z o0 h0 n0 v U'.heap L ∧ FrameEnd U oc_ U' L ({ frames := 2, cells := 1, slots := 1, locals := 26 } : Room).cells ({ frames := 2, cells := 1, slots := 1, locals := 26 } : Room).slots) := by
  refine MetFree.of_bodySF (plainFor_of_name pn_java_util_Optional) hisR ?_
  intro p e s m args below meth c s₁ Bd hml0 hP hK
  obtain ⟨rfl, hZ, hh⟩ := hP
  have hx := Bd.exec
  have hby := Bd.bytes
  have hml : c.maxLocals = 1 := hml0
  have hown : s.vm.findClass "java/util/Optional" = some m.cls := findClass_of_methodNamed Bd.named
  have hnm := (name_of_methodNamed Bd.named Bd.method).1
  have X0 : Stand p l e ({ frames := 2, cells := 1, slots := 1, locals := 26 } : Room) s m #[(.ref o0)] below meth c s₁ [] 0 0 := Stand.of_body Bd
  have e0 : s₁.heap = h0 := by rw [← hh, Bd.state]; rfl
  have N0 := Fr.nil n0
  have pre0 : ∀ t, Steps p.tables e below (s₁.setTop (mkF m 0 #[.val (.ref o0)] [])) t → Steps p.tables e below (s₁.setTop (entryFrame m #[(.ref o0)] 1)) t := fun t k => castTop (efa_jdk_32_method_3_code_v m o0) k
  obtain ⟨T1, h1, X1, e1, E1, A1, D1, -, st1⟩ := newO X0 hx hZ hown (wd178 hw) (wd179 hw) (wd36 hw) e0 (g := (mkF m 0 #[.val (.ref o0)] [])) rfl (hb hby dw_0) (by decide) (by decide)
  obtain ⟨b1, g1⟩ : ∃ z, z = h0.size := ⟨_, rfl⟩
  rw [← g1] at A1 D1 st1
  have ge_b1 : n0 ≤ b1 := Nat.le_trans Z0 (Nat.le_of_eq g1.symm)
  have sz_b1 : h0.size ≤ b1 := Nat.le_trans (Nat.le_refl _) (Nat.le_of_eq g1.symm)
  have Z1 : n0 ≤ h1.size := Nat.le_trans Z0 E1.1
  have K1 : Keep h0 h1 [] := ((Keep.refl h0 []).ext E1)
  have F1_value : Fld Z h1 b1 "java/util/Optional" "value" "Ljava/lang/Object;" .null := D1 (Or.inr (wd116 hw)) (ty := (.object "java/lang/Object")) (by decide)
  obtain ⟨_, _, ⟨T2, L2, kc2, ks2⟩, -, X2, ⟨Lc2, hQ2, l2, y2, z2⟩, st2⟩ := Jvm.LawKit.callS X1 hx (y := mn24) hown (mvT hZ (wd231 hw)) (mvT hZ (wd232 hw)) (mvT hZ (wd233 hw)) (mvT hZ (wd234 hw)) (by decide) (backOf (W := 2) (rmA8 l Z a0 hw [] o0 h1 n0 Z1 ) hZ (wd234 hw) (wd233 hw) (by decide) (by decide)) (g := (mkF m 5 #[.val (.ref o0)] [(.ref o0), (.ref b1), (.ref b1)])) rfl (by rw [hml]; rfl) (argsL := [(.ref o0)]) (rest := [(.ref b1), (.ref b1)]) (lenOf pd__Ljava_lang_Object__Ljava_lang_Object_ rfl) rfl (by show 2 * 0 + _ ≤ _; exact Nat.le_of_eq rfl) (hb hby dw_5) (fun _ _ => ⟨rfl, e1, (by decide : 1 + 0 ≤ _), (by decide : 1 + 0 ≤ _)⟩)
  dsimp only [Pt.U, Pt.locs, Pt.cells, Pt.slots] at X2 l2 y2 z2 st2 hQ2
  subst l2 y2 z2
  obtain ⟨rfl, Nq2, eq2⟩ := hQ2
  have N2 := Fr.app N0 Nq2
  obtain ⟨_, _, ⟨T3, L3, kc3, ks3⟩, -, X3, ⟨Lc3, hQ3, l3, y3, z3⟩, st3⟩ := X2.specialBack hx (y := mn26) rfl hown (mvT hZ (wd180 hw)) (mvT hZ (wd181 hw)) (mvT hZ (wd183 hw)) (by decide) (backOf (W := 1) (rmA1 l Z a0 hw [] b1 o0 h1 n0 Z1 A1 F1_value ge_b1) hZ (wd183 hw) (wd36 hw) (by decide) (by decide)) (g := (mkF m 8 #[.val (.ref o0)] [(.ref o0), (.ref b1), (.ref b1)])) rfl (by rw [hml]; rfl) (Steps.refl _) (a := b1) (argsL := [(.ref o0)]) (rest := [(.ref b1)]) (lenOf pd__Ljava_lang_Object__V rfl) rfl (by show 2 * 0 + _ ≤ _; exact Nat.le_of_eq rfl) (hb hby dw_8) (fun _ _ => ⟨rfl, eq2, (by decide : 1 + 0 ≤ _), (by decide : 1 + 0 ≤ _)⟩)
  dsimp only [Pt.U, Pt.locs, Pt.cells, Pt.slots] at X3 l3 y3 z3 st3 hQ3
  subst l3 y3 z3
  obtain ⟨rfl, Nq3, Kq3, g3_0, g3_1⟩ := hQ3
  have N3 := Fr.app N2 Nq3
  have Z3 : n0 ≤ T3.heap.size := Nat.le_trans Z1 Kq3.1
  have K3 : Keep h0 T3.heap [] := Keep.trans K1 Kq3 (allS (Or.inr sz_b1) all0)
  obtain ⟨lfs, lhr, lhrun, lhended, lhW, lhsame⟩ := X3.leave (v := some (.ref b1)) (fun h => by rw [Bd.returns] at h; cases h)
  refine ⟨_, _, pre0 _ ?_, lhrun, lhended, _, _, rfl, ?_, ⟨_, rfl⟩, lhW, lhsame.mono (by decide) (by decide)⟩
  · skip
    show Steps p.tables e below (s₁.setTop (mkF m 0 #[.val (.ref o0)] [])) _
    refine st1 _ ?_
    show Steps p.tables e below (T1.setTop (mkF m 3 #[.val (.ref o0)] [(.ref b1)])) _
    refine XS.dup X1.here hx rfl (hb hby dw_3) rfl rfl ?_
    refine XS.aloadN X1.here hx rfl (hb hby dw_4) rfl rfl ?_
    show Steps p.tables e below (T1.setTop (mkF m 5 #[.val (.ref o0)] [(.ref o0), (.ref b1), (.ref b1)])) _
    refine st2 _ ?_
    show Steps p.tables e below (T2.setTop (mkF m 8 #[.val (.ref o0)] [(.ref o0), (.ref b1), (.ref b1)])) _
    refine st3.trans ?_
    show Steps p.tables e below (T3.setTop (mkF m 11 #[.val (.ref o0)] [(.ref b1)])) _
    exact retOut X3 hx Bd.returns rfl (Or.inr (Or.inr (Or.inr (Or.inr ⟨rfl, rfl, rfl⟩)))) (hb hby dw_11) lhr
  · skip
    show QA7 Z o0 h0 n0 _ T3.heap _
    skip
    exact ⟨b1, rfl, N3, K3, sz_b1, g3_0, g3_1⟩
theorem efa_jdk_38_method_2_code_v (m : MethodId) (x0 : Addr) : entryFrame m #[(.ref x0)] 1 = mkF m 0 #[.val (.ref x0)] [] := by first | (simp [entryFrame, mkF, argsToLocals, Value.category]; done) | rfl
theorem dj_0 : decode jdk_38_method_2_code 0 = .ok (.aload_n 0, 1) := by decide +kernel
theorem dj_1 : decode jdk_38_method_2_code 1 = .ok (.invokespecial 1, 3) := by decide +kernel
theorem efa_jdk_39_method_1_code_v (m : MethodId) (x0 : Addr) : entryFrame m #[(.ref x0)] 1 = mkF m 0 #[.val (.ref x0)] [] := by first | (simp [entryFrame, mkF, argsToLocals, Value.category]; done) | rfl
theorem ds_0 : decode jdk_39_method_1_code 0 = .ok (.aload_n 0, 1) := by decide +kernel
theorem ds_1 : decode jdk_39_method_1_code 1 = .ok (.invokespecial 1, 3) := by decide +kernel
theorem efa_jdk_22_method_1_code_v (m : MethodId) (x0 : Addr) : entryFrame m #[(.ref x0)] 1 = mkF m 0 #[.val (.ref x0)] [] := by first | (simp [entryFrame, mkF, argsToLocals, Value.category]; done) | rfl
theorem dh_0 : decode jdk_22_method_1_code 0 = .ok (.aload_n 0, 1) := by decide +kernel
theorem dh_1 : decode jdk_22_method_1_code 1 = .ok (.invokespecial 1, 3) := by decide +kernel
theorem dh_4 : decode jdk_22_method_1_code 4 = .ok (.return_, 1) := by decide +kernel
def QA29 (Z : State) (o0 : Addr) (h0 : Heap) (n0 : Nat) (v : Option Value) (h : Heap) (L : List Loc) : Prop := v = none ∧ Fr n0 L ∧ h = h0
set_option maxRecDepth 65536 in
set_option maxHeartbeats 40000000 in
theorem rmA29 (l : Launch) (Z : State) (a0 : Array Value) (hw : ∀ d ∈ tables_1, d.before a0 Z = true) (ws : List Jvm.Cond) (o0 : Addr) (h0 : Heap) (n0 : Nat) (Z0 : n0 ≤ h0.size) :
    MetFree l mn21 (head1 (Jvm.Cond.code mn21 jdk_22_method_1_code 1 none :: ws) ({ frames := 1, cells := 0, slots := 0, locals := 12 } : Room)) (fun a U => a = #[(.ref o0)] ∧ Z.Warmed39 U.vm ∧ U.heap = h0) (fun _ _ _ _ _ => True) (fun _ U oc_ U' => ∃ v L, oc_ = .returned v ∧ QA29 Z o0 h0 n0 v U'.heap L ∧ FrameEnd U oc_ U' L ({ frames := 1, cells := 0, slots := 0, locals := 12 } : Room).cells ({ frames := 1, cells := 0, slots := 0, locals := 12 } : Room).slots) := by
  refine MetFree.of_bodySF (plainFor_of_name pn_java_util_AbstractCollection) hisR ?_
  intro p e s m args below meth c s₁ Bd hml0 hP hK
  obtain ⟨rfl, hZ, hh⟩ := hP
  have hx := Bd.exec
  have hby := Bd.bytes
  have hml : c.maxLocals = 1 := hml0
  have hown : s.vm.findClass "java/util/AbstractCollection" = some m.cls := findClass_of_methodNamed Bd.named
  have hnm := (name_of_methodNamed Bd.named Bd.method).1
  have X0 : Stand p l e ({ frames := 1, cells := 0, slots := 0, locals := 12 } : Room) s m #[(.ref o0)] below meth c s₁ [] 0 0 := Stand.of_body Bd
  have e0 : s₁.heap = h0 := by rw [← hh, Bd.state]; rfl
  have N0 := Fr.nil n0
  have pre0 : ∀ t, Steps p.tables e below (s₁.setTop (mkF m 0 #[.val (.ref o0)] [])) t → Steps p.tables e below (s₁.setTop (entryFrame m #[(.ref o0)] 1)) t := fun t k => castTop (efa_jdk_22_method_1_code_v m o0) k
  obtain ⟨T1, X1, e1, st1⟩ := initO X0 hx hZ hown (wd57 hw) (wd16 hw) (wd17 hw) e0 (g := (mkF m 1 #[.val (.ref o0)] [(.ref o0)])) rfl (by rw [hml]; rfl) rfl (hb hby dh_1) (by decide) (W := 0) (by show 2 * 0 + _ ≤ _; exact Nat.le_of_eq rfl) (by decide)
  obtain ⟨lfs, lhr, lhrun, lhended, lhW, lhsame⟩ := X1.leave (v := none) (fun _ => rfl)
  refine ⟨_, _, pre0 _ ?_, lhrun, lhended, _, _, rfl, ?_, ⟨_, rfl⟩, lhW, lhsame.mono (by decide) (by decide)⟩
  · skip
    show Steps p.tables e below (s₁.setTop (mkF m 0 #[.val (.ref o0)] [])) _
    refine XS.aloadN X0.here hx rfl (hb hby dh_0) rfl rfl ?_
    show Steps p.tables e below (s₁.setTop (mkF m 1 #[.val (.ref o0)] [(.ref o0)])) _
    refine st1 _ ?_
    show Steps p.tables e below (T1.setTop (mkF m 4 #[.val (.ref o0)] [])) _
    exact X1.returnOut hx Bd.returns (hb hby dh_4) lhr
  · skip
    show QA29 Z o0 h0 n0 _ T1.heap _
    rw [e1]
    exact ⟨rfl, N0, rfl⟩
theorem ds_4 : decode jdk_39_method_1_code 4 = .ok (.aload_n 0, 1) := by decide +kernel
theorem ds_5 : decode jdk_39_method_1_code 5 = .ok (.iconst 0, 1) := by decide +kernel
theorem ds_6 : decode jdk_39_method_1_code 6 = .ok (.putfield 7, 3) := by decide +kernel
theorem ds_9 : decode jdk_39_method_1_code 9 = .ok (.return_, 1) := by decide +kernel
def QA28 (Z : State) (o0 : Addr) (u100 : Value) (h0 : Heap) (n0 : Nat) (v : Option Value) (h : Heap) (L : List Loc) : Prop := v = none ∧ Fr n0 L ∧ Keep h0 h [o0] ∧ Exa Z h o0 "java/util/ArrayList" ∧ Fld Z h o0 "java/util/AbstractList" "modCount" "I" (.int (0 : Int32)) ∧ Fld Z h o0 "java/util/ArrayList" "elementData" "[Ljava/lang/Object;" u100
set_option maxRecDepth 65536 in
set_option maxHeartbeats 40000000 in
theorem rmA28 (l : Launch) (Z : State) (a0 : Array Value) (hw : ∀ d ∈ tables_1, d.before a0 Z = true) (ws : List Jvm.Cond) (o0 : Addr) (u100 : Value) (h0 : Heap) (n0 : Nat) (Z0 : n0 ≤ h0.size) (E_o0 : Exa Z h0 o0 "java/util/ArrayList") (F_o0_modCount : Fld Z h0 o0 "java/util/AbstractList" "modCount" "I" (.int (0 : Int32))) (g_o0 : n0 ≤ o0) (F_o0_elementData : Fld Z h0 o0 "java/util/ArrayList" "elementData" "[Ljava/lang/Object;" u100) :
    MetFree l mn22 (head1 (Jvm.Cond.code mn22 jdk_39_method_1_code 1 none :: ws) ({ frames := 2, cells := 0, slots := 0, locals := 24 } : Room)) (fun a U => a = #[(.ref o0)] ∧ Z.Warmed39 U.vm ∧ U.heap = h0) (fun _ _ _ _ _ => True) (fun _ U oc_ U' => ∃ v L, oc_ = .returned v ∧ QA28 Z o0 u100 h0 n0 v U'.heap L ∧ FrameEnd U oc_ U' L ({ frames := 2, cells := 0, slots := 0, locals := 24 } : Room).cells ({ frames := 2, cells := 0, slots := 0, locals := 24 } : Room).slots) := by
  refine MetFree.of_bodySF (plainFor_of_name pn_java_util_AbstractList) hisR ?_
  intro p e s m args below meth c s₁ Bd hml0 hP hK
  obtain ⟨rfl, hZ, hh⟩ := hP
  have hx := Bd.exec
  have hby := Bd.bytes
  have hml : c.maxLocals = 1 := hml0
  have hown : s.vm.findClass "java/util/AbstractList" = some m.cls := findClass_of_methodNamed Bd.named
  have hnm := (name_of_methodNamed Bd.named Bd.method).1
  have X0 : Stand p l e ({ frames := 2, cells := 0, slots := 0, locals := 24 } : Room) s m #[(.ref o0)] below meth c s₁ [] 0 0 := Stand.of_body Bd
  have e0 : s₁.heap = h0 := by rw [← hh, Bd.state]; rfl
  have N0 := Fr.nil n0
  have pre0 : ∀ t, Steps p.tables e below (s₁.setTop (mkF m 0 #[.val (.ref o0)] [])) t → Steps p.tables e below (s₁.setTop (entryFrame m #[(.ref o0)] 1)) t := fun t k => castTop (efa_jdk_39_method_1_code_v m o0) k
  obtain ⟨_, _, ⟨T1, L1, kc1, ks1⟩, -, X1, ⟨Lc1, hQ1, l1, y1, z1⟩, st1⟩ := X0.specialBack hx (y := mn21) rfl hown (mvT hZ (wd51 hw)) (mvT hZ (wd52 hw)) (mvT hZ (wd56 hw)) (by decide) (backOf (W := 0) (rmA29 l Z a0 hw [] o0 h0 n0 Z0 ) hZ (wd56 hw) (wd55 hw) (by decide) (by decide)) (g := (mkF m 1 #[.val (.ref o0)] [(.ref o0)])) rfl (by rw [hml]; rfl) (Steps.refl _) (a := o0) (argsL := []) (rest := []) (lenOf pd___V rfl) rfl (by show 2 * 0 + _ ≤ _; exact Nat.le_of_eq rfl) (hb hby ds_1) (fun _ _ => ⟨rfl, e0, (by decide : 0 + 0 ≤ _), (by decide : 0 + 0 ≤ _)⟩)
  dsimp only [Pt.U, Pt.locs, Pt.cells, Pt.slots] at X1 l1 y1 z1 st1 hQ1
  subst l1 y1 z1
  obtain ⟨rfl, Nq1, eq1⟩ := hQ1
  have N1 := Fr.app N0 Nq1
  obtain ⟨T2, h2, X2, e2, W2, st2⟩ := putF X1 hx hZ hown (host := "") (Or.inl (wd58 hw)) Via.refl eq1 F_o0_modCount E_o0 (Or.inl (wd59 hw)) (wd40 hw) (ty := .int) (by decide) rfl rfl (g := (mkF m 6 #[.val (.ref o0)] [(.int (0 : Int32)), (.ref o0)])) rfl rfl (hb hby ds_6)
  have N2 := Fr.snoc X2 N1 g_o0
  have Z2 : n0 ≤ h2.size := by rw [W2.size]; exact Z0
  have K2 : Keep h0 h2 [o0] := ((Keep.refl h0 [o0]).wr W2 (Or.inl (List.mem_of_getElem? (i := 0) rfl)))
  have Fw2 := F_o0_modCount.same W2
  have f3 := (E_o0.wr W2)
  have f4 := (F_o0_elementData.other W2 (Or.inr (slot_ne (Or.inl (wd62 hw)) (Or.inl (wd59 hw)) (by decide) (t := (.array (.object "java/lang/Object"))) (t' := .int) (by decide) (by decide))))
  obtain ⟨lfs, lhr, lhrun, lhended, lhW, lhsame⟩ := X2.leave (v := none) (fun _ => rfl)
  refine ⟨_, _, pre0 _ ?_, lhrun, lhended, _, _, rfl, ?_, ⟨_, rfl⟩, lhW, lhsame.mono (by decide) (by decide)⟩
  · skip
    show Steps p.tables e below (s₁.setTop (mkF m 0 #[.val (.ref o0)] [])) _
    refine XS.aloadN X0.here hx rfl (hb hby ds_0) rfl rfl ?_
    show Steps p.tables e below (s₁.setTop (mkF m 1 #[.val (.ref o0)] [(.ref o0)])) _
    refine st1.trans ?_
    show Steps p.tables e below (T1.setTop (mkF m 4 #[.val (.ref o0)] [])) _
    refine XS.aloadN X1.here hx rfl (hb hby ds_4) rfl rfl ?_
    show Steps p.tables e below (T1.setTop (mkF m 5 #[.val (.ref o0)] [(.ref o0)])) _
    refine XS.iconst X1.here hx rfl (hb hby ds_5) ?_
    show Steps p.tables e below (T1.setTop (mkF m 6 #[.val (.ref o0)] [(.int (0 : Int32)), (.ref o0)])) _
    refine st2 _ ?_
    show Steps p.tables e below (T2.setTop (mkF m 9 #[.val (.ref o0)] [])) _
    exact X2.returnOut hx Bd.returns (hb hby ds_9) lhr
  · skip
    show QA28 Z o0 u100 h0 n0 _ T2.heap _
    rw [e2]
    exact ⟨rfl, N2, K2, f3, Fw2, f4⟩
theorem dj_4 : decode jdk_38_method_2_code 4 = .ok (.aload_n 0, 1) := by decide +kernel
theorem dj_5 : decode jdk_38_method_2_code 5 = .ok (.getstatic 39, 3) := by decide +kernel
theorem dj_8 : decode jdk_38_method_2_code 8 = .ok (.putfield 9, 3) := by decide +kernel
theorem dj_11 : decode jdk_38_method_2_code 11 = .ok (.return_, 1) := by decide +kernel
def QA27 (Z : State) (o0 : Addr) (o1 : Addr) (h0 : Heap) (n0 : Nat) (v : Option Value) (h : Heap) (L : List Loc) : Prop := v = none ∧ Fr n0 L ∧ Keep h0 h [o0] ∧ Fld Z h o0 "java/util/AbstractList" "modCount" "I" (.int (0 : Int32)) ∧ Fld Z h o0 "java/util/ArrayList" "elementData" "[Ljava/lang/Object;" (.ref o1) ∧ Exa Z h o0 "java/util/ArrayList"
set_option maxRecDepth 65536 in
set_option maxHeartbeats 40000000 in
theorem rmA27 (l : Launch) (Z : State) (a0 : Array Value) (hw : ∀ d ∈ tables_1, d.before a0 Z = true) (ws : List Jvm.Cond) (o0 : Addr) (o1 : Addr) (h0 : Heap) (n0 : Nat) (Z0 : n0 ≤ h0.size) (F_o0_modCount : Fld Z h0 o0 "java/util/AbstractList" "modCount" "I" (.int (0 : Int32))) (F_o0_elementData : Fld Z h0 o0 "java/util/ArrayList" "elementData" "[Ljava/lang/Object;" .null) (E_o0 : Exa Z h0 o0 "java/util/ArrayList") (g_o0 : n0 ≤ o0) (SZ_DEFAULTCAPACITY_EMPTY_ELEMENTDATA : Sta Z Z.heap "java/util/ArrayList" "DEFAULTCAPACITY_EMPTY_ELEMENTDATA" "[Ljava/lang/Object;" (.ref o1)) (X00 : Old Z n0 h0) :
    MetFree l mn23 (head1 (Jvm.Cond.code mn23 jdk_38_method_2_code 1 none :: ws) ({ frames := 3, cells := 0, slots := 0, locals := 36 } : Room)) (fun a U => a = #[(.ref o0)] ∧ Z.Warmed39 U.vm ∧ U.heap = h0) (fun _ _ _ _ _ => True) (fun _ U oc_ U' => ∃ v L, oc_ = .returned v ∧ QA27 Z o0 o1 h0 n0 v U'.heap L ∧ FrameEnd U oc_ U' L ({ frames := 3, cells := 0, slots := 0, locals := 36 } : Room).cells ({ frames := 3, cells := 0, slots := 0, locals := 36 } : Room).slots) := by
  refine MetFree.of_bodySF (plainFor_of_name pn_java_util_ArrayList) hisR ?_
  intro p e s m args below meth c s₁ Bd hml0 hP hK
  obtain ⟨rfl, hZ, hh⟩ := hP
  have hx := Bd.exec
  have hby := Bd.bytes
  have hml : c.maxLocals = 1 := hml0
  have hown : s.vm.findClass "java/util/ArrayList" = some m.cls := findClass_of_methodNamed Bd.named
  have hnm := (name_of_methodNamed Bd.named Bd.method).1
  have X0 : Stand p l e ({ frames := 3, cells := 0, slots := 0, locals := 36 } : Room) s m #[(.ref o0)] below meth c s₁ [] 0 0 := Stand.of_body Bd
  have e0 : s₁.heap = h0 := by rw [← hh, Bd.state]; rfl
  have N0 := Fr.nil n0
  have pre0 : ∀ t, Steps p.tables e below (s₁.setTop (mkF m 0 #[.val (.ref o0)] [])) t → Steps p.tables e below (s₁.setTop (entryFrame m #[(.ref o0)] 1)) t := fun t k => castTop (efa_jdk_38_method_2_code_v m o0) k
  obtain ⟨_, _, ⟨T1, L1, kc1, ks1⟩, -, X1, ⟨Lc1, hQ1, l1, y1, z1⟩, st1⟩ := X0.specialBack hx (y := mn22) rfl hown (mvT hZ (wd45 hw)) (mvT hZ (wd46 hw)) (mvT hZ (wd50 hw)) (by decide) (backOf (W := 0) (rmA28 l Z a0 hw [] o0 .null h0 n0 Z0 E_o0 F_o0_modCount g_o0 F_o0_elementData) hZ (wd50 hw) (wd49 hw) (by decide) (by decide)) (g := (mkF m 1 #[.val (.ref o0)] [(.ref o0)])) rfl (by rw [hml]; rfl) (Steps.refl _) (a := o0) (argsL := []) (rest := []) (lenOf pd___V rfl) rfl (by show 2 * 0 + _ ≤ _; exact Nat.le_of_eq rfl) (hb hby dj_1) (fun _ _ => ⟨rfl, e0, (by decide : 0 + 0 ≤ _), (by decide : 0 + 0 ≤ _)⟩)
  dsimp only [Pt.U, Pt.locs, Pt.cells, Pt.slots] at X1 l1 y1 z1 st1 hQ1
  subst l1 y1 z1
  obtain ⟨rfl, Nq1, Kq1, g1_0, g1_1, g1_2⟩ := hQ1
  have N1 := Fr.app N0 Nq1
  have Z1 : n0 ≤ T1.heap.size := Nat.le_trans Z0 Kq1.1
  have K1 : Keep h0 T1.heap [o0] := Keep.trans (Keep.refl h0 [o0]) Kq1 (allS (Or.inl (List.mem_of_getElem? (i := 0) rfl)) all0)
  have f2 := (X00.keep Kq1 (allS g_o0 all0))
  obtain ⟨T3, X3, e3, st3⟩ := getS2 X1 hx hZ hown (host := "") (Or.inl (wd60 hw)) Via.refl rfl (SZ_DEFAULTCAPACITY_EMPTY_ELEMENTDATA.ext f2.2) (g := (mkF m 5 #[.val (.ref o0)] [(.ref o0)])) rfl (hb hby dj_5)
  obtain ⟨T4, h4, X4, e4, W4, st4⟩ := putF X3 hx hZ hown (host := "") (Or.inl (wd61 hw)) Via.refl e3 g1_2 g1_0 (Or.inl (wd62 hw)) (wd40 hw) (ty := (.array (.object "java/lang/Object"))) (by decide) rfl rfl (g := (mkF m 8 #[.val (.ref o0)] [(.ref o1), (.ref o0)])) rfl rfl (hb hby dj_8)
  have N4 := Fr.snoc X4 N1 g_o0
  have Z4 : n0 ≤ h4.size := by rw [W4.size]; exact Z1
  have K4 : Keep h0 h4 [o0] := (K1.wr W4 (Or.inl (List.mem_of_getElem? (i := 0) rfl)))
  have Fw4 := g1_2.same W4
  have f5 := (g1_1.other W4 (Or.inr (slot_ne (Or.inl (wd59 hw)) (Or.inl (wd62 hw)) (by decide) (t := .int) (t' := (.array (.object "java/lang/Object"))) (by decide) (by decide))))
  have f6 := (g1_0.wr W4)
  obtain ⟨lfs, lhr, lhrun, lhended, lhW, lhsame⟩ := X4.leave (v := none) (fun _ => rfl)
  refine ⟨_, _, pre0 _ ?_, lhrun, lhended, _, _, rfl, ?_, ⟨_, rfl⟩, lhW, lhsame.mono (by decide) (by decide)⟩
  · skip
    show Steps p.tables e below (s₁.setTop (mkF m 0 #[.val (.ref o0)] [])) _
    refine XS.aloadN X0.here hx rfl (hb hby dj_0) rfl rfl ?_
    show Steps p.tables e below (s₁.setTop (mkF m 1 #[.val (.ref o0)] [(.ref o0)])) _
    refine st1.trans ?_
    show Steps p.tables e below (T1.setTop (mkF m 4 #[.val (.ref o0)] [])) _
    refine XS.aloadN X1.here hx rfl (hb hby dj_4) rfl rfl ?_
    show Steps p.tables e below (T1.setTop (mkF m 5 #[.val (.ref o0)] [(.ref o0)])) _
    refine st3 _ ?_
    show Steps p.tables e below (T3.setTop (mkF m 8 #[.val (.ref o0)] [(.ref o1), (.ref o0)])) _
    refine st4 _ ?_
    show Steps p.tables e below (T4.setTop (mkF m 11 #[.val (.ref o0)] [])) _
    exact X4.returnOut hx Bd.returns (hb hby dj_11) lhr
  · skip
    show QA27 Z o0 o1 h0 n0 _ T4.heap _
    rw [e4]
    exact ⟨rfl, N4, K4, f5, Fw4, f6⟩
theorem efa_prog_9_method_1_code_vwvvvvvvv (m : MethodId) (x0 : Addr) (x1 : Value) (x2 : Int32) (x3 : Addr) (x4 : Addr) (x5 : Addr) (x6 : Addr) (x7 : Addr) (x8 : Addr) (r1 : x1.isRef = true) : entryFrame m #[(.ref x0), x1, (.int x2), (.ref x3), (.ref x4), (.ref x5), (.ref x6), (.ref x7), (.ref x8)] 9 = mkF m 0 #[.val (.ref x0), .val x1, .val (.int x2), .val (.ref x3), .val (.ref x4), .val (.ref x5), .val (.ref x6), .val (.ref x7), .val (.ref x8)] [] := by rcases own_refc r1 with q | ⟨a, q⟩ <;> subst q <;> first | (simp [entryFrame, mkF, argsToLocals, Value.category]; done) | rfl
theorem da_1_0 : decode prog_9_method_1_code 0 = .ok (.aload_n 0, 1) := by decide +kernel
theorem da_1_1 : decode prog_9_method_1_code 1 = .ok (.invokespecial 1, 3) := by decide +kernel
theorem efa_jdk_30_method_1_code_v (m : MethodId) (x0 : Addr) : entryFrame m #[(.ref x0)] 1 = mkF m 0 #[.val (.ref x0)] [] := by first | (simp [entryFrame, mkF, argsToLocals, Value.category]; done) | rfl
theorem db_1_0 : decode jdk_30_method_1_code 0 = .ok (.aload_n 0, 1) := by decide +kernel
theorem db_1_1 : decode jdk_30_method_1_code 1 = .ok (.invokespecial 1, 3) := by decide +kernel
theorem db_1_4 : decode jdk_30_method_1_code 4 = .ok (.return_, 1) := by decide +kernel
def QA31 (Z : State) (o0 : Addr) (h0 : Heap) (n0 : Nat) (v : Option Value) (h : Heap) (L : List Loc) : Prop := v = none ∧ Fr n0 L ∧ h = h0
set_option maxRecDepth 65536 in
set_option maxHeartbeats 40000000 in
theorem rmA31 (l : Launch) (Z : State) (a0 : Array Value) (hw : ∀ d ∈ tables_1, d.before a0 Z = true) (ws : List Jvm.Cond) (o0 : Addr) (h0 : Heap) (n0 : Nat) (Z0 : n0 ≤ h0.size) :
    MetFree l mn18 (head1 (Jvm.Cond.code mn18 jdk_30_method_1_code 1 none :: ws) ({ frames := 1, cells := 0, slots := 0, locals := 12 } : Room)) (fun a U => a = #[(.ref o0)] ∧ Z.Warmed39 U.vm ∧ U.heap = h0) (fun _ _ _ _ _ => True) (fun _ U oc_ U' => ∃ v L, oc_ = .returned v ∧ QA31 Z o0 h0 n0 v U'.heap L ∧ FrameEnd U oc_ U' L ({ frames := 1, cells := 0, slots := 0, locals := 12 } : Room).cells ({ frames := 1, cells := 0, slots := 0, locals := 12 } : Room).slots) := by
  refine MetFree.of_bodySF (plainFor_of_name pn_java_lang_Record) hisR ?_
  intro p e s m args below meth c s₁ Bd hml0 hP hK
  obtain ⟨rfl, hZ, hh⟩ := hP
  have hx := Bd.exec
  have hby := Bd.bytes
  have hml : c.maxLocals = 1 := hml0
  have hown : s.vm.findClass "java/lang/Record" = some m.cls := findClass_of_methodNamed Bd.named
  have hnm := (name_of_methodNamed Bd.named Bd.method).1
  have X0 : Stand p l e ({ frames := 1, cells := 0, slots := 0, locals := 12 } : Room) s m #[(.ref o0)] below meth c s₁ [] 0 0 := Stand.of_body Bd
  have e0 : s₁.heap = h0 := by rw [← hh, Bd.state]; rfl
  have N0 := Fr.nil n0
  have pre0 : ∀ t, Steps p.tables e below (s₁.setTop (mkF m 0 #[.val (.ref o0)] [])) t → Steps p.tables e below (s₁.setTop (entryFrame m #[(.ref o0)] 1)) t := fun t k => castTop (efa_jdk_30_method_1_code_v m o0) k
  obtain ⟨T1, X1, e1, st1⟩ := initO X0 hx hZ hown (wd74 hw) (wd16 hw) (wd17 hw) e0 (g := (mkF m 1 #[.val (.ref o0)] [(.ref o0)])) rfl (by rw [hml]; rfl) rfl (hb hby db_1_1) (by decide) (W := 0) (by show 2 * 0 + _ ≤ _; exact Nat.le_of_eq rfl) (by decide)
  obtain ⟨lfs, lhr, lhrun, lhended, lhW, lhsame⟩ := X1.leave (v := none) (fun _ => rfl)
  refine ⟨_, _, pre0 _ ?_, lhrun, lhended, _, _, rfl, ?_, ⟨_, rfl⟩, lhW, lhsame.mono (by decide) (by decide)⟩
  · skip
    show Steps p.tables e below (s₁.setTop (mkF m 0 #[.val (.ref o0)] [])) _
    refine XS.aloadN X0.here hx rfl (hb hby db_1_0) rfl rfl ?_
    show Steps p.tables e below (s₁.setTop (mkF m 1 #[.val (.ref o0)] [(.ref o0)])) _
    refine st1 _ ?_
    show Steps p.tables e below (T1.setTop (mkF m 4 #[.val (.ref o0)] [])) _
    exact X1.returnOut hx Bd.returns (hb hby db_1_4) lhr
  · skip
    show QA31 Z o0 h0 n0 _ T1.heap _
    rw [e1]
    exact ⟨rfl, N0, rfl⟩
theorem da_1_4 : decode prog_9_method_1_code 4 = .ok (.aload_n 0, 1) := by decide +kernel
theorem da_1_5 : decode prog_9_method_1_code 5 = .ok (.aload_n 1, 1) := by decide +kernel
theorem da_1_6 : decode prog_9_method_1_code 6 = .ok (.putfield 7, 3) := by decide +kernel
theorem da_1_9 : decode prog_9_method_1_code 9 = .ok (.aload_n 0, 1) := by decide +kernel
theorem da_1_10 : decode prog_9_method_1_code 10 = .ok (.iload_n 2, 1) := by decide +kernel
theorem da_1_11 : decode prog_9_method_1_code 11 = .ok (.putfield 13, 3) := by decide +kernel
theorem da_1_14 : decode prog_9_method_1_code 14 = .ok (.aload_n 0, 1) := by decide +kernel
theorem da_1_15 : decode prog_9_method_1_code 15 = .ok (.aload_n 3, 1) := by decide +kernel
theorem da_1_16 : decode prog_9_method_1_code 16 = .ok (.putfield 17, 3) := by decide +kernel
theorem da_1_19 : decode prog_9_method_1_code 19 = .ok (.aload_n 0, 1) := by decide +kernel
theorem da_1_20 : decode prog_9_method_1_code 20 = .ok (.aload 4, 2) := by decide +kernel
theorem da_1_22 : decode prog_9_method_1_code 22 = .ok (.putfield 21, 3) := by decide +kernel
theorem da_1_25 : decode prog_9_method_1_code 25 = .ok (.aload_n 0, 1) := by decide +kernel
theorem da_1_26 : decode prog_9_method_1_code 26 = .ok (.aload 5, 2) := by decide +kernel
theorem da_1_28 : decode prog_9_method_1_code 28 = .ok (.putfield 24, 3) := by decide +kernel
theorem da_1_31 : decode prog_9_method_1_code 31 = .ok (.aload_n 0, 1) := by decide +kernel
theorem da_1_32 : decode prog_9_method_1_code 32 = .ok (.aload 6, 2) := by decide +kernel
theorem da_1_34 : decode prog_9_method_1_code 34 = .ok (.putfield 27, 3) := by decide +kernel
theorem da_1_37 : decode prog_9_method_1_code 37 = .ok (.aload_n 0, 1) := by decide +kernel
theorem da_1_38 : decode prog_9_method_1_code 38 = .ok (.aload 7, 2) := by decide +kernel
theorem da_1_40 : decode prog_9_method_1_code 40 = .ok (.putfield 30, 3) := by decide +kernel
theorem da_1_43 : decode prog_9_method_1_code 43 = .ok (.aload_n 0, 1) := by decide +kernel
theorem da_1_44 : decode prog_9_method_1_code 44 = .ok (.aload 8, 2) := by decide +kernel
theorem da_1_46 : decode prog_9_method_1_code 46 = .ok (.putfield 33, 3) := by decide +kernel
theorem da_1_49 : decode prog_9_method_1_code 49 = .ok (.return_, 1) := by decide +kernel
def QA30 (Z : State) (o0 : Addr) (u1 : Value) (x2 : Int32) (o3 : Addr) (o4 : Addr) (o5 : Addr) (o6 : Addr) (o7 : Addr) (o8 : Addr) (h0 : Heap) (n0 : Nat) (v : Option Value) (h : Heap) (L : List Loc) : Prop := v = none ∧ Fr n0 L ∧ Keep h0 h [o0] ∧ Exa Z h o0 cn10 ∧ Fld Z h o0 cn10 "code" "Ljava/lang/String;" u1 ∧ Fld Z h o0 cn10 "status" "I" (.int x2) ∧ Fld Z h o0 cn10 "catalogueMessage" "Ljava/util/Optional;" (.ref o3) ∧ Fld Z h o0 cn10 "ownMessage" "Ljava/util/Optional;" (.ref o4) ∧ Fld Z h o0 cn10 "trace" "Ljava/util/Optional;" (.ref o5) ∧ Fld Z h o0 cn10 "moreInfo" "Ljava/util/Optional;" (.ref o6) ∧ Fld Z h o0 cn10 "target" "Ljava/util/Optional;" (.ref o7) ∧ Fld Z h o0 cn10 "details" "Ljava/util/List;" (.ref o8)
set_option maxRecDepth 65536 in
set_option maxHeartbeats 40000000 in
theorem rmA30 (l : Launch) (Z : State) (a0 : Array Value) (hw : ∀ d ∈ tables_1, d.before a0 Z = true) (ws : List Jvm.Cond) (o0 : Addr) (u1 : Value) (x2 : Int32) (o3 : Addr) (o4 : Addr) (o5 : Addr) (o6 : Addr) (o7 : Addr) (o8 : Addr) (h0 : Heap) (n0 : Nat) (Z0 : n0 ≤ h0.size) (r_u1 : u1.isRef = true) (E_o0 : Exa Z h0 o0 cn10) (F_o0_code : Fld Z h0 o0 cn10 "code" "Ljava/lang/String;" .null) (g_o0 : n0 ≤ o0) (F_o0_status : Fld Z h0 o0 cn10 "status" "I" (.int (0 : Int32))) (F_o0_catalogueMessage : Fld Z h0 o0 cn10 "catalogueMessage" "Ljava/util/Optional;" .null) (F_o0_ownMessage : Fld Z h0 o0 cn10 "ownMessage" "Ljava/util/Optional;" .null) (F_o0_trace : Fld Z h0 o0 cn10 "trace" "Ljava/util/Optional;" .null) (F_o0_moreInfo : Fld Z h0 o0 cn10 "moreInfo" "Ljava/util/Optional;" .null) (F_o0_target : Fld Z h0 o0 cn10 "target" "Ljava/util/Optional;" .null) (F_o0_details : Fld Z h0 o0 cn10 "details" "Ljava/util/List;" .null) :
    MetFree l mn13 (head1 (Jvm.Cond.code mn13 prog_9_method_1_code 9 none :: ws) ({ frames := 2, cells := 0, slots := 0, locals := 24 } : Room)) (fun a U => a = #[(.ref o0), u1, (.int x2), (.ref o3), (.ref o4), (.ref o5), (.ref o6), (.ref o7), (.ref o8)] ∧ Z.Warmed39 U.vm ∧ U.heap = h0) (fun _ _ _ _ _ => True) (fun _ U oc_ U' => ∃ v L, oc_ = .returned v ∧ QA30 Z o0 u1 x2 o3 o4 o5 o6 o7 o8 h0 n0 v U'.heap L ∧ FrameEnd U oc_ U' L ({ frames := 2, cells := 0, slots := 0, locals := 24 } : Room).cells ({ frames := 2, cells := 0, slots := 0, locals := 24 } : Room).slots) := by
  refine MetFree.of_bodySF (plainFor_of_name pn_com_example_typed_api_errors_typedapierrors_error_Occurrence) hisR ?_
  intro p e s m args below meth c s₁ Bd hml0 hP hK
  obtain ⟨rfl, hZ, hh⟩ := hP
  have hx := Bd.exec
  have hby := Bd.bytes
  have hml : c.maxLocals = 9 := hml0
  have hown : s.vm.findClass cn10 = some m.cls := findClass_of_methodNamed Bd.named
  have hnm := (name_of_methodNamed Bd.named Bd.method).1
  have X0 : Stand p l e ({ frames := 2, cells := 0, slots := 0, locals := 24 } : Room) s m #[(.ref o0), u1, (.int x2), (.ref o3), (.ref o4), (.ref o5), (.ref o6), (.ref o7), (.ref o8)] below meth c s₁ [] 0 0 := Stand.of_body Bd
  have e0 : s₁.heap = h0 := by rw [← hh, Bd.state]; rfl
  have N0 := Fr.nil n0
  have pre0 : ∀ t, Steps p.tables e below (s₁.setTop (mkF m 0 #[.val (.ref o0), .val u1, .val (.int x2), .val (.ref o3), .val (.ref o4), .val (.ref o5), .val (.ref o6), .val (.ref o7), .val (.ref o8)] [])) t → Steps p.tables e below (s₁.setTop (entryFrame m #[(.ref o0), u1, (.int x2), (.ref o3), (.ref o4), (.ref o5), (.ref o6), (.ref o7), (.ref o8)] 9)) t := fun t k => castTop (efa_prog_9_method_1_code_vwvvvvvvv m o0 u1 x2 o3 o4 o5 o6 o7 o8 r_u1) k
  obtain ⟨_, _, ⟨T1, L1, kc1, ks1⟩, -, X1, ⟨Lc1, hQ1, l1, y1, z1⟩, st1⟩ := X0.specialBack hx (y := mn18) rfl hown (mvT hZ (wd69 hw)) (mvT hZ (wd70 hw)) (mvT hZ (wd73 hw)) (by decide) (backOf (W := 0) (rmA31 l Z a0 hw [] o0 h0 n0 Z0 ) hZ (wd73 hw) (wd72 hw) (by decide) (by decide)) (g := (mkF m 1 #[.val (.ref o0), .val u1, .val (.int x2), .val (.ref o3), .val (.ref o4), .val (.ref o5), .val (.ref o6), .val (.ref o7), .val (.ref o8)] [(.ref o0)])) rfl (by rw [hml]; rfl) (Steps.refl _) (a := o0) (argsL := []) (rest := []) (lenOf pd___V rfl) rfl (by show 2 * 0 + _ ≤ _; exact Nat.le_of_eq rfl) (hb hby da_1_1) (fun _ _ => ⟨rfl, e0, (by decide : 0 + 0 ≤ _), (by decide : 0 + 0 ≤ _)⟩)
  dsimp only [Pt.U, Pt.locs, Pt.cells, Pt.slots] at X1 l1 y1 z1 st1 hQ1
  subst l1 y1 z1
  obtain ⟨rfl, Nq1, eq1⟩ := hQ1
  have N1 := Fr.app N0 Nq1
  obtain ⟨T2, h2, X2, e2, W2, st2⟩ := putF X1 hx hZ hown (host := "") (Or.inl (wd75 hw)) Via.refl eq1 F_o0_code E_o0 (Or.inr ⟨(wd76 hw), rfl, hnm⟩) (wd64 hw) (ty := (.object "java/lang/String")) (by decide) (own_nrO r_u1) (own_ftO r_u1) (g := (mkF m 6 #[.val (.ref o0), .val u1, .val (.int x2), .val (.ref o3), .val (.ref o4), .val (.ref o5), .val (.ref o6), .val (.ref o7), .val (.ref o8)] [u1, (.ref o0)])) rfl rfl (hb hby da_1_6)
  have N2 := Fr.snoc X2 N1 g_o0
  have Z2 : n0 ≤ h2.size := by rw [W2.size]; exact Z0
  have K2 : Keep h0 h2 [o0] := ((Keep.refl h0 [o0]).wr W2 (Or.inl (List.mem_of_getElem? (i := 0) rfl)))
  have Fw2 := F_o0_code.same W2
  have f3 := (E_o0.wr W2)
  have f4 := (F_o0_status.other W2 (Or.inr (slot_ne (Or.inr (wd78 hw)) (Or.inr (wd76 hw)) (by decide) (t := .int) (t' := (.object "java/lang/String")) (by decide) (by decide))))
  obtain ⟨T5, h5, X5, e5, W5, st5⟩ := putF X2 hx hZ hown (host := "") (Or.inl (wd77 hw)) Via.refl e2 f4 f3 (Or.inr ⟨(wd78 hw), rfl, hnm⟩) (wd64 hw) (ty := .int) (by decide) rfl rfl (g := (mkF m 11 #[.val (.ref o0), .val u1, .val (.int x2), .val (.ref o3), .val (.ref o4), .val (.ref o5), .val (.ref o6), .val (.ref o7), .val (.ref o8)] [(.int x2), (.ref o0)])) rfl rfl (hb hby da_1_11)
  have N5 := Fr.snoc X5 N2 g_o0
  have Z5 : n0 ≤ h5.size := by rw [W5.size]; exact Z2
  have K5 : Keep h0 h5 [o0] := (K2.wr W5 (Or.inl (List.mem_of_getElem? (i := 0) rfl)))
  have Fw5 := f4.same W5
  have f6 := (f3.wr W5)
  have f7 := ((F_o0_catalogueMessage.other W2 (Or.inr (slot_ne (Or.inr (wd80 hw)) (Or.inr (wd76 hw)) (by decide) (t := (.object "java/util/Optional")) (t' := (.object "java/lang/String")) (by decide) (by decide)))).other W5 (Or.inr (slot_ne (Or.inr (wd80 hw)) (Or.inr (wd78 hw)) (by decide) (t := (.object "java/util/Optional")) (t' := .int) (by decide) (by decide))))
  obtain ⟨T8, h8, X8, e8, W8, st8⟩ := putF X5 hx hZ hown (host := "") (Or.inl (wd79 hw)) Via.refl e5 f7 f6 (Or.inr ⟨(wd80 hw), rfl, hnm⟩) (wd64 hw) (ty := (.object "java/util/Optional")) (by decide) rfl rfl (g := (mkF m 16 #[.val (.ref o0), .val u1, .val (.int x2), .val (.ref o3), .val (.ref o4), .val (.ref o5), .val (.ref o6), .val (.ref o7), .val (.ref o8)] [(.ref o3), (.ref o0)])) rfl rfl (hb hby da_1_16)
  have N8 := Fr.snoc X8 N5 g_o0
  have Z8 : n0 ≤ h8.size := by rw [W8.size]; exact Z5
  have K8 : Keep h0 h8 [o0] := (K5.wr W8 (Or.inl (List.mem_of_getElem? (i := 0) rfl)))
  have Fw8 := f7.same W8
  have f9 := (f6.wr W8)
  have f10 := (((F_o0_ownMessage.other W2 (Or.inr (slot_ne (Or.inr (wd82 hw)) (Or.inr (wd76 hw)) (by decide) (t := (.object "java/util/Optional")) (t' := (.object "java/lang/String")) (by decide) (by decide)))).other W5 (Or.inr (slot_ne (Or.inr (wd82 hw)) (Or.inr (wd78 hw)) (by decide) (t := (.object "java/util/Optional")) (t' := .int) (by decide) (by decide)))).other W8 (Or.inr (slot_ne (Or.inr (wd82 hw)) (Or.inr (wd80 hw)) (by decide) (t := (.object "java/util/Optional")) (t' := (.object "java/util/Optional")) (by decide) (by decide))))
  obtain ⟨T11, h11, X11, e11, W11, st11⟩ := putF X8 hx hZ hown (host := "") (Or.inl (wd81 hw)) Via.refl e8 f10 f9 (Or.inr ⟨(wd82 hw), rfl, hnm⟩) (wd64 hw) (ty := (.object "java/util/Optional")) (by decide) rfl rfl (g := (mkF m 22 #[.val (.ref o0), .val u1, .val (.int x2), .val (.ref o3), .val (.ref o4), .val (.ref o5), .val (.ref o6), .val (.ref o7), .val (.ref o8)] [(.ref o4), (.ref o0)])) rfl rfl (hb hby da_1_22)
  have N11 := Fr.snoc X11 N8 g_o0
  have Z11 : n0 ≤ h11.size := by rw [W11.size]; exact Z8
  have K11 : Keep h0 h11 [o0] := (K8.wr W11 (Or.inl (List.mem_of_getElem? (i := 0) rfl)))
  have Fw11 := f10.same W11
  have f12 := (f9.wr W11)
  have f13 := ((((F_o0_trace.other W2 (Or.inr (slot_ne (Or.inr (wd84 hw)) (Or.inr (wd76 hw)) (by decide) (t := (.object "java/util/Optional")) (t' := (.object "java/lang/String")) (by decide) (by decide)))).other W5 (Or.inr (slot_ne (Or.inr (wd84 hw)) (Or.inr (wd78 hw)) (by decide) (t := (.object "java/util/Optional")) (t' := .int) (by decide) (by decide)))).other W8 (Or.inr (slot_ne (Or.inr (wd84 hw)) (Or.inr (wd80 hw)) (by decide) (t := (.object "java/util/Optional")) (t' := (.object "java/util/Optional")) (by decide) (by decide)))).other W11 (Or.inr (slot_ne (Or.inr (wd84 hw)) (Or.inr (wd82 hw)) (by decide) (t := (.object "java/util/Optional")) (t' := (.object "java/util/Optional")) (by decide) (by decide))))
  obtain ⟨T14, h14, X14, e14, W14, st14⟩ := putF X11 hx hZ hown (host := "") (Or.inl (wd83 hw)) Via.refl e11 f13 f12 (Or.inr ⟨(wd84 hw), rfl, hnm⟩) (wd64 hw) (ty := (.object "java/util/Optional")) (by decide) rfl rfl (g := (mkF m 28 #[.val (.ref o0), .val u1, .val (.int x2), .val (.ref o3), .val (.ref o4), .val (.ref o5), .val (.ref o6), .val (.ref o7), .val (.ref o8)] [(.ref o5), (.ref o0)])) rfl rfl (hb hby da_1_28)
  have N14 := Fr.snoc X14 N11 g_o0
  have Z14 : n0 ≤ h14.size := by rw [W14.size]; exact Z11
  have K14 : Keep h0 h14 [o0] := (K11.wr W14 (Or.inl (List.mem_of_getElem? (i := 0) rfl)))
  have Fw14 := f13.same W14
  have f15 := (f12.wr W14)
  have f16 := (((((F_o0_moreInfo.other W2 (Or.inr (slot_ne (Or.inr (wd86 hw)) (Or.inr (wd76 hw)) (by decide) (t := (.object "java/util/Optional")) (t' := (.object "java/lang/String")) (by decide) (by decide)))).other W5 (Or.inr (slot_ne (Or.inr (wd86 hw)) (Or.inr (wd78 hw)) (by decide) (t := (.object "java/util/Optional")) (t' := .int) (by decide) (by decide)))).other W8 (Or.inr (slot_ne (Or.inr (wd86 hw)) (Or.inr (wd80 hw)) (by decide) (t := (.object "java/util/Optional")) (t' := (.object "java/util/Optional")) (by decide) (by decide)))).other W11 (Or.inr (slot_ne (Or.inr (wd86 hw)) (Or.inr (wd82 hw)) (by decide) (t := (.object "java/util/Optional")) (t' := (.object "java/util/Optional")) (by decide) (by decide)))).other W14 (Or.inr (slot_ne (Or.inr (wd86 hw)) (Or.inr (wd84 hw)) (by decide) (t := (.object "java/util/Optional")) (t' := (.object "java/util/Optional")) (by decide) (by decide))))
  obtain ⟨T17, h17, X17, e17, W17, st17⟩ := putF X14 hx hZ hown (host := "") (Or.inl (wd85 hw)) Via.refl e14 f16 f15 (Or.inr ⟨(wd86 hw), rfl, hnm⟩) (wd64 hw) (ty := (.object "java/util/Optional")) (by decide) rfl rfl (g := (mkF m 34 #[.val (.ref o0), .val u1, .val (.int x2), .val (.ref o3), .val (.ref o4), .val (.ref o5), .val (.ref o6), .val (.ref o7), .val (.ref o8)] [(.ref o6), (.ref o0)])) rfl rfl (hb hby da_1_34)
  have N17 := Fr.snoc X17 N14 g_o0
  have Z17 : n0 ≤ h17.size := by rw [W17.size]; exact Z14
  have K17 : Keep h0 h17 [o0] := (K14.wr W17 (Or.inl (List.mem_of_getElem? (i := 0) rfl)))
  have Fw17 := f16.same W17
  have f18 := (f15.wr W17)
  have f19 := ((((((F_o0_target.other W2 (Or.inr (slot_ne (Or.inr (wd88 hw)) (Or.inr (wd76 hw)) (by decide) (t := (.object "java/util/Optional")) (t' := (.object "java/lang/String")) (by decide) (by decide)))).other W5 (Or.inr (slot_ne (Or.inr (wd88 hw)) (Or.inr (wd78 hw)) (by decide) (t := (.object "java/util/Optional")) (t' := .int) (by decide) (by decide)))).other W8 (Or.inr (slot_ne (Or.inr (wd88 hw)) (Or.inr (wd80 hw)) (by decide) (t := (.object "java/util/Optional")) (t' := (.object "java/util/Optional")) (by decide) (by decide)))).other W11 (Or.inr (slot_ne (Or.inr (wd88 hw)) (Or.inr (wd82 hw)) (by decide) (t := (.object "java/util/Optional")) (t' := (.object "java/util/Optional")) (by decide) (by decide)))).other W14 (Or.inr (slot_ne (Or.inr (wd88 hw)) (Or.inr (wd84 hw)) (by decide) (t := (.object "java/util/Optional")) (t' := (.object "java/util/Optional")) (by decide) (by decide)))).other W17 (Or.inr (slot_ne (Or.inr (wd88 hw)) (Or.inr (wd86 hw)) (by decide) (t := (.object "java/util/Optional")) (t' := (.object "java/util/Optional")) (by decide) (by decide))))
  obtain ⟨T20, h20, X20, e20, W20, st20⟩ := putF X17 hx hZ hown (host := "") (Or.inl (wd87 hw)) Via.refl e17 f19 f18 (Or.inr ⟨(wd88 hw), rfl, hnm⟩) (wd64 hw) (ty := (.object "java/util/Optional")) (by decide) rfl rfl (g := (mkF m 40 #[.val (.ref o0), .val u1, .val (.int x2), .val (.ref o3), .val (.ref o4), .val (.ref o5), .val (.ref o6), .val (.ref o7), .val (.ref o8)] [(.ref o7), (.ref o0)])) rfl rfl (hb hby da_1_40)
  have N20 := Fr.snoc X20 N17 g_o0
  have Z20 : n0 ≤ h20.size := by rw [W20.size]; exact Z17
  have K20 : Keep h0 h20 [o0] := (K17.wr W20 (Or.inl (List.mem_of_getElem? (i := 0) rfl)))
  have Fw20 := f19.same W20
  have f21 := (f18.wr W20)
  have f22 := (((((((F_o0_details.other W2 (Or.inr (slot_ne (Or.inr (wd90 hw)) (Or.inr (wd76 hw)) (by decide) (t := (.object "java/util/List")) (t' := (.object "java/lang/String")) (by decide) (by decide)))).other W5 (Or.inr (slot_ne (Or.inr (wd90 hw)) (Or.inr (wd78 hw)) (by decide) (t := (.object "java/util/List")) (t' := .int) (by decide) (by decide)))).other W8 (Or.inr (slot_ne (Or.inr (wd90 hw)) (Or.inr (wd80 hw)) (by decide) (t := (.object "java/util/List")) (t' := (.object "java/util/Optional")) (by decide) (by decide)))).other W11 (Or.inr (slot_ne (Or.inr (wd90 hw)) (Or.inr (wd82 hw)) (by decide) (t := (.object "java/util/List")) (t' := (.object "java/util/Optional")) (by decide) (by decide)))).other W14 (Or.inr (slot_ne (Or.inr (wd90 hw)) (Or.inr (wd84 hw)) (by decide) (t := (.object "java/util/List")) (t' := (.object "java/util/Optional")) (by decide) (by decide)))).other W17 (Or.inr (slot_ne (Or.inr (wd90 hw)) (Or.inr (wd86 hw)) (by decide) (t := (.object "java/util/List")) (t' := (.object "java/util/Optional")) (by decide) (by decide)))).other W20 (Or.inr (slot_ne (Or.inr (wd90 hw)) (Or.inr (wd88 hw)) (by decide) (t := (.object "java/util/List")) (t' := (.object "java/util/Optional")) (by decide) (by decide))))
  obtain ⟨T23, h23, X23, e23, W23, st23⟩ := putF X20 hx hZ hown (host := "") (Or.inl (wd89 hw)) Via.refl e20 f22 f21 (Or.inr ⟨(wd90 hw), rfl, hnm⟩) (wd64 hw) (ty := (.object "java/util/List")) (by decide) rfl rfl (g := (mkF m 46 #[.val (.ref o0), .val u1, .val (.int x2), .val (.ref o3), .val (.ref o4), .val (.ref o5), .val (.ref o6), .val (.ref o7), .val (.ref o8)] [(.ref o8), (.ref o0)])) rfl rfl (hb hby da_1_46)
  have N23 := Fr.snoc X23 N20 g_o0
  have Z23 : n0 ≤ h23.size := by rw [W23.size]; exact Z20
  have K23 : Keep h0 h23 [o0] := (K20.wr W23 (Or.inl (List.mem_of_getElem? (i := 0) rfl)))
  have Fw23 := f22.same W23
  have f24 := (f21.wr W23)
  have f25 := (((((((Fw2.other W5 (Or.inr (slot_ne (Or.inr (wd76 hw)) (Or.inr (wd78 hw)) (by decide) (t := (.object "java/lang/String")) (t' := .int) (by decide) (by decide)))).other W8 (Or.inr (slot_ne (Or.inr (wd76 hw)) (Or.inr (wd80 hw)) (by decide) (t := (.object "java/lang/String")) (t' := (.object "java/util/Optional")) (by decide) (by decide)))).other W11 (Or.inr (slot_ne (Or.inr (wd76 hw)) (Or.inr (wd82 hw)) (by decide) (t := (.object "java/lang/String")) (t' := (.object "java/util/Optional")) (by decide) (by decide)))).other W14 (Or.inr (slot_ne (Or.inr (wd76 hw)) (Or.inr (wd84 hw)) (by decide) (t := (.object "java/lang/String")) (t' := (.object "java/util/Optional")) (by decide) (by decide)))).other W17 (Or.inr (slot_ne (Or.inr (wd76 hw)) (Or.inr (wd86 hw)) (by decide) (t := (.object "java/lang/String")) (t' := (.object "java/util/Optional")) (by decide) (by decide)))).other W20 (Or.inr (slot_ne (Or.inr (wd76 hw)) (Or.inr (wd88 hw)) (by decide) (t := (.object "java/lang/String")) (t' := (.object "java/util/Optional")) (by decide) (by decide)))).other W23 (Or.inr (slot_ne (Or.inr (wd76 hw)) (Or.inr (wd90 hw)) (by decide) (t := (.object "java/lang/String")) (t' := (.object "java/util/List")) (by decide) (by decide))))
  have f26 := ((((((Fw5.other W8 (Or.inr (slot_ne (Or.inr (wd78 hw)) (Or.inr (wd80 hw)) (by decide) (t := .int) (t' := (.object "java/util/Optional")) (by decide) (by decide)))).other W11 (Or.inr (slot_ne (Or.inr (wd78 hw)) (Or.inr (wd82 hw)) (by decide) (t := .int) (t' := (.object "java/util/Optional")) (by decide) (by decide)))).other W14 (Or.inr (slot_ne (Or.inr (wd78 hw)) (Or.inr (wd84 hw)) (by decide) (t := .int) (t' := (.object "java/util/Optional")) (by decide) (by decide)))).other W17 (Or.inr (slot_ne (Or.inr (wd78 hw)) (Or.inr (wd86 hw)) (by decide) (t := .int) (t' := (.object "java/util/Optional")) (by decide) (by decide)))).other W20 (Or.inr (slot_ne (Or.inr (wd78 hw)) (Or.inr (wd88 hw)) (by decide) (t := .int) (t' := (.object "java/util/Optional")) (by decide) (by decide)))).other W23 (Or.inr (slot_ne (Or.inr (wd78 hw)) (Or.inr (wd90 hw)) (by decide) (t := .int) (t' := (.object "java/util/List")) (by decide) (by decide))))
  have f27 := (((((Fw8.other W11 (Or.inr (slot_ne (Or.inr (wd80 hw)) (Or.inr (wd82 hw)) (by decide) (t := (.object "java/util/Optional")) (t' := (.object "java/util/Optional")) (by decide) (by decide)))).other W14 (Or.inr (slot_ne (Or.inr (wd80 hw)) (Or.inr (wd84 hw)) (by decide) (t := (.object "java/util/Optional")) (t' := (.object "java/util/Optional")) (by decide) (by decide)))).other W17 (Or.inr (slot_ne (Or.inr (wd80 hw)) (Or.inr (wd86 hw)) (by decide) (t := (.object "java/util/Optional")) (t' := (.object "java/util/Optional")) (by decide) (by decide)))).other W20 (Or.inr (slot_ne (Or.inr (wd80 hw)) (Or.inr (wd88 hw)) (by decide) (t := (.object "java/util/Optional")) (t' := (.object "java/util/Optional")) (by decide) (by decide)))).other W23 (Or.inr (slot_ne (Or.inr (wd80 hw)) (Or.inr (wd90 hw)) (by decide) (t := (.object "java/util/Optional")) (t' := (.object "java/util/List")) (by decide) (by decide))))
  have f28 := ((((Fw11.other W14 (Or.inr (slot_ne (Or.inr (wd82 hw)) (Or.inr (wd84 hw)) (by decide) (t := (.object "java/util/Optional")) (t' := (.object "java/util/Optional")) (by decide) (by decide)))).other W17 (Or.inr (slot_ne (Or.inr (wd82 hw)) (Or.inr (wd86 hw)) (by decide) (t := (.object "java/util/Optional")) (t' := (.object "java/util/Optional")) (by decide) (by decide)))).other W20 (Or.inr (slot_ne (Or.inr (wd82 hw)) (Or.inr (wd88 hw)) (by decide) (t := (.object "java/util/Optional")) (t' := (.object "java/util/Optional")) (by decide) (by decide)))).other W23 (Or.inr (slot_ne (Or.inr (wd82 hw)) (Or.inr (wd90 hw)) (by decide) (t := (.object "java/util/Optional")) (t' := (.object "java/util/List")) (by decide) (by decide))))
  have f29 := (((Fw14.other W17 (Or.inr (slot_ne (Or.inr (wd84 hw)) (Or.inr (wd86 hw)) (by decide) (t := (.object "java/util/Optional")) (t' := (.object "java/util/Optional")) (by decide) (by decide)))).other W20 (Or.inr (slot_ne (Or.inr (wd84 hw)) (Or.inr (wd88 hw)) (by decide) (t := (.object "java/util/Optional")) (t' := (.object "java/util/Optional")) (by decide) (by decide)))).other W23 (Or.inr (slot_ne (Or.inr (wd84 hw)) (Or.inr (wd90 hw)) (by decide) (t := (.object "java/util/Optional")) (t' := (.object "java/util/List")) (by decide) (by decide))))
  have f30 := ((Fw17.other W20 (Or.inr (slot_ne (Or.inr (wd86 hw)) (Or.inr (wd88 hw)) (by decide) (t := (.object "java/util/Optional")) (t' := (.object "java/util/Optional")) (by decide) (by decide)))).other W23 (Or.inr (slot_ne (Or.inr (wd86 hw)) (Or.inr (wd90 hw)) (by decide) (t := (.object "java/util/Optional")) (t' := (.object "java/util/List")) (by decide) (by decide))))
  have f31 := (Fw20.other W23 (Or.inr (slot_ne (Or.inr (wd88 hw)) (Or.inr (wd90 hw)) (by decide) (t := (.object "java/util/Optional")) (t' := (.object "java/util/List")) (by decide) (by decide))))
  obtain ⟨lfs, lhr, lhrun, lhended, lhW, lhsame⟩ := X23.leave (v := none) (fun _ => rfl)
  refine ⟨_, _, pre0 _ ?_, lhrun, lhended, _, _, rfl, ?_, ⟨_, rfl⟩, lhW, lhsame.mono (by decide) (by decide)⟩
  · skip
    show Steps p.tables e below (s₁.setTop (mkF m 0 #[.val (.ref o0), .val u1, .val (.int x2), .val (.ref o3), .val (.ref o4), .val (.ref o5), .val (.ref o6), .val (.ref o7), .val (.ref o8)] [])) _
    refine XS.aloadN X0.here hx rfl (hb hby da_1_0) rfl rfl ?_
    show Steps p.tables e below (s₁.setTop (mkF m 1 #[.val (.ref o0), .val u1, .val (.int x2), .val (.ref o3), .val (.ref o4), .val (.ref o5), .val (.ref o6), .val (.ref o7), .val (.ref o8)] [(.ref o0)])) _
    refine st1.trans ?_
    show Steps p.tables e below (T1.setTop (mkF m 4 #[.val (.ref o0), .val u1, .val (.int x2), .val (.ref o3), .val (.ref o4), .val (.ref o5), .val (.ref o6), .val (.ref o7), .val (.ref o8)] [])) _
    refine XS.aloadN X1.here hx rfl (hb hby da_1_4) rfl rfl ?_
    show Steps p.tables e below (T1.setTop (mkF m 5 #[.val (.ref o0), .val u1, .val (.int x2), .val (.ref o3), .val (.ref o4), .val (.ref o5), .val (.ref o6), .val (.ref o7), .val (.ref o8)] [(.ref o0)])) _
    refine XS.aloadN X1.here hx rfl (hb hby da_1_5) rfl r_u1 ?_
    show Steps p.tables e below (T1.setTop (mkF m 6 #[.val (.ref o0), .val u1, .val (.int x2), .val (.ref o3), .val (.ref o4), .val (.ref o5), .val (.ref o6), .val (.ref o7), .val (.ref o8)] [u1, (.ref o0)])) _
    refine st2 _ ?_
    show Steps p.tables e below (T2.setTop (mkF m 9 #[.val (.ref o0), .val u1, .val (.int x2), .val (.ref o3), .val (.ref o4), .val (.ref o5), .val (.ref o6), .val (.ref o7), .val (.ref o8)] [])) _
    refine XS.aloadN X2.here hx rfl (hb hby da_1_9) rfl rfl ?_
    refine XS.iloadN X2.here hx rfl (hb hby da_1_10) rfl ?_
    show Steps p.tables e below (T2.setTop (mkF m 11 #[.val (.ref o0), .val u1, .val (.int x2), .val (.ref o3), .val (.ref o4), .val (.ref o5), .val (.ref o6), .val (.ref o7), .val (.ref o8)] [(.int x2), (.ref o0)])) _
    refine st5 _ ?_
    show Steps p.tables e below (T5.setTop (mkF m 14 #[.val (.ref o0), .val u1, .val (.int x2), .val (.ref o3), .val (.ref o4), .val (.ref o5), .val (.ref o6), .val (.ref o7), .val (.ref o8)] [])) _
    refine XS.aloadN X5.here hx rfl (hb hby da_1_14) rfl rfl ?_
    refine XS.aloadN X5.here hx rfl (hb hby da_1_15) rfl rfl ?_
    show Steps p.tables e below (T5.setTop (mkF m 16 #[.val (.ref o0), .val u1, .val (.int x2), .val (.ref o3), .val (.ref o4), .val (.ref o5), .val (.ref o6), .val (.ref o7), .val (.ref o8)] [(.ref o3), (.ref o0)])) _
    refine st8 _ ?_
    show Steps p.tables e below (T8.setTop (mkF m 19 #[.val (.ref o0), .val u1, .val (.int x2), .val (.ref o3), .val (.ref o4), .val (.ref o5), .val (.ref o6), .val (.ref o7), .val (.ref o8)] [])) _
    refine XS.aloadN X8.here hx rfl (hb hby da_1_19) rfl rfl ?_
    refine XS.aload X8.here hx rfl (hb hby da_1_20) rfl rfl ?_
    show Steps p.tables e below (T8.setTop (mkF m 22 #[.val (.ref o0), .val u1, .val (.int x2), .val (.ref o3), .val (.ref o4), .val (.ref o5), .val (.ref o6), .val (.ref o7), .val (.ref o8)] [(.ref o4), (.ref o0)])) _
    refine st11 _ ?_
    show Steps p.tables e below (T11.setTop (mkF m 25 #[.val (.ref o0), .val u1, .val (.int x2), .val (.ref o3), .val (.ref o4), .val (.ref o5), .val (.ref o6), .val (.ref o7), .val (.ref o8)] [])) _
    refine XS.aloadN X11.here hx rfl (hb hby da_1_25) rfl rfl ?_
    show Steps p.tables e below (T11.setTop (mkF m 26 #[.val (.ref o0), .val u1, .val (.int x2), .val (.ref o3), .val (.ref o4), .val (.ref o5), .val (.ref o6), .val (.ref o7), .val (.ref o8)] [(.ref o0)])) _
    refine XS.aload X11.here hx rfl (hb hby da_1_26) rfl rfl ?_
    show Steps p.tables e below (T11.setTop (mkF m 28 #[.val (.ref o0), .val u1, .val (.int x2), .val (.ref o3), .val (.ref o4), .val (.ref o5), .val (.ref o6), .val (.ref o7), .val (.ref o8)] [(.ref o5), (.ref o0)])) _
    refine st14 _ ?_
    show Steps p.tables e below (T14.setTop (mkF m 31 #[.val (.ref o0), .val u1, .val (.int x2), .val (.ref o3), .val (.ref o4), .val (.ref o5), .val (.ref o6), .val (.ref o7), .val (.ref o8)] [])) _
    refine XS.aloadN X14.here hx rfl (hb hby da_1_31) rfl rfl ?_
    refine XS.aload X14.here hx rfl (hb hby da_1_32) rfl rfl ?_
    show Steps p.tables e below (T14.setTop (mkF m 34 #[.val (.ref o0), .val u1, .val (.int x2), .val (.ref o3), .val (.ref o4), .val (.ref o5), .val (.ref o6), .val (.ref o7), .val (.ref o8)] [(.ref o6), (.ref o0)])) _
    refine st17 _ ?_
    show Steps p.tables e below (T17.setTop (mkF m 37 #[.val (.ref o0), .val u1, .val (.int x2), .val (.ref o3), .val (.ref o4), .val (.ref o5), .val (.ref o6), .val (.ref o7), .val (.ref o8)] [])) _
    refine XS.aloadN X17.here hx rfl (hb hby da_1_37) rfl rfl ?_
    refine XS.aload X17.here hx rfl (hb hby da_1_38) rfl rfl ?_
    show Steps p.tables e below (T17.setTop (mkF m 40 #[.val (.ref o0), .val u1, .val (.int x2), .val (.ref o3), .val (.ref o4), .val (.ref o5), .val (.ref o6), .val (.ref o7), .val (.ref o8)] [(.ref o7), (.ref o0)])) _
    refine st20 _ ?_
    show Steps p.tables e below (T20.setTop (mkF m 43 #[.val (.ref o0), .val u1, .val (.int x2), .val (.ref o3), .val (.ref o4), .val (.ref o5), .val (.ref o6), .val (.ref o7), .val (.ref o8)] [])) _
    refine XS.aloadN X20.here hx rfl (hb hby da_1_43) rfl rfl ?_
    refine XS.aload X20.here hx rfl (hb hby da_1_44) rfl rfl ?_
    show Steps p.tables e below (T20.setTop (mkF m 46 #[.val (.ref o0), .val u1, .val (.int x2), .val (.ref o3), .val (.ref o4), .val (.ref o5), .val (.ref o6), .val (.ref o7), .val (.ref o8)] [(.ref o8), (.ref o0)])) _
    refine st23 _ ?_
    show Steps p.tables e below (T23.setTop (mkF m 49 #[.val (.ref o0), .val u1, .val (.int x2), .val (.ref o3), .val (.ref o4), .val (.ref o5), .val (.ref o6), .val (.ref o7), .val (.ref o8)] [])) _
    exact X23.returnOut hx Bd.returns (hb hby da_1_49) lhr
  · skip
    show QA30 Z o0 u1 x2 o3 o4 o5 o6 o7 o8 h0 n0 _ T23.heap _
    rw [e23]
    exact ⟨rfl, N23, K23, f24, f25, f26, f27, f28, f29, f30, f31, Fw23⟩
theorem efa_prog_9_method_3_code_vv (m : MethodId) (x0 : Addr) (x1 : Addr) : entryFrame m #[(.ref x0), (.ref x1)] 2 = mkF m 0 #[.val (.ref x0), .val (.ref x1)] [] := by first | (simp [entryFrame, mkF, argsToLocals, Value.category]; done) | rfl
theorem dy_0 : decode prog_9_method_3_code 0 = .ok (.new 47, 3) := by decide +kernel
theorem dy_3 : decode prog_9_method_3_code 3 = .ok (.dup, 1) := by decide +kernel
theorem dy_4 : decode prog_9_method_3_code 4 = .ok (.invokespecial 49, 3) := by decide +kernel
theorem efa_prog_8_method_1_code_v (m : MethodId) (x0 : Addr) : entryFrame m #[(.ref x0)] 1 = mkF m 0 #[.val (.ref x0)] [] := by first | (simp [entryFrame, mkF, argsToLocals, Value.category]; done) | rfl
theorem dv_0 : decode prog_8_method_1_code 0 = .ok (.aload_n 0, 1) := by decide +kernel
theorem dv_1 : decode prog_8_method_1_code 1 = .ok (.invokespecial 1, 3) := by decide +kernel
theorem dv_4 : decode prog_8_method_1_code 4 = .ok (.return_, 1) := by decide +kernel
def QA33 (Z : State) (o0 : Addr) (h0 : Heap) (n0 : Nat) (v : Option Value) (h : Heap) (L : List Loc) : Prop := v = none ∧ Fr n0 L ∧ h = h0
set_option maxRecDepth 65536 in
set_option maxHeartbeats 40000000 in
theorem rmA33 (l : Launch) (Z : State) (a0 : Array Value) (hw : ∀ d ∈ tables_1, d.before a0 Z = true) (ws : List Jvm.Cond) (o0 : Addr) (h0 : Heap) (n0 : Nat) (Z0 : n0 ≤ h0.size) :
    MetFree l mn7 (head1 (Jvm.Cond.code mn7 prog_8_method_1_code 1 none :: ws) ({ frames := 1, cells := 0, slots := 0, locals := 12 } : Room)) (fun a U => a = #[(.ref o0)] ∧ Z.Warmed39 U.vm ∧ U.heap = h0) (fun _ _ _ _ _ => True) (fun _ U oc_ U' => ∃ v L, oc_ = .returned v ∧ QA33 Z o0 h0 n0 v U'.heap L ∧ FrameEnd U oc_ U' L ({ frames := 1, cells := 0, slots := 0, locals := 12 } : Room).cells ({ frames := 1, cells := 0, slots := 0, locals := 12 } : Room).slots) := by
  refine MetFree.of_bodySF (plainFor_of_name pn_com_example_typed_api_errors_typedapierrors_error_Detail_Builder) hisR ?_
  intro p e s m args below meth c s₁ Bd hml0 hP hK
  obtain ⟨rfl, hZ, hh⟩ := hP
  have hx := Bd.exec
  have hby := Bd.bytes
  have hml : c.maxLocals = 1 := hml0
  have hown : s.vm.findClass cn6 = some m.cls := findClass_of_methodNamed Bd.named
  have hnm := (name_of_methodNamed Bd.named Bd.method).1
  have X0 : Stand p l e ({ frames := 1, cells := 0, slots := 0, locals := 12 } : Room) s m #[(.ref o0)] below meth c s₁ [] 0 0 := Stand.of_body Bd
  have e0 : s₁.heap = h0 := by rw [← hh, Bd.state]; rfl
  have N0 := Fr.nil n0
  have pre0 : ∀ t, Steps p.tables e below (s₁.setTop (mkF m 0 #[.val (.ref o0)] [])) t → Steps p.tables e below (s₁.setTop (entryFrame m #[(.ref o0)] 1)) t := fun t k => castTop (efa_prog_8_method_1_code_v m o0) k
  obtain ⟨T1, X1, e1, st1⟩ := initO X0 hx hZ hown (wd102 hw) (wd16 hw) (wd17 hw) e0 (g := (mkF m 1 #[.val (.ref o0)] [(.ref o0)])) rfl (by rw [hml]; rfl) rfl (hb hby dv_1) (by decide) (W := 0) (by show 2 * 0 + _ ≤ _; exact Nat.le_of_eq rfl) (by decide)
  obtain ⟨lfs, lhr, lhrun, lhended, lhW, lhsame⟩ := X1.leave (v := none) (fun _ => rfl)
  refine ⟨_, _, pre0 _ ?_, lhrun, lhended, _, _, rfl, ?_, ⟨_, rfl⟩, lhW, lhsame.mono (by decide) (by decide)⟩
  · skip
    show Steps p.tables e below (s₁.setTop (mkF m 0 #[.val (.ref o0)] [])) _
    refine XS.aloadN X0.here hx rfl (hb hby dv_0) rfl rfl ?_
    show Steps p.tables e below (s₁.setTop (mkF m 1 #[.val (.ref o0)] [(.ref o0)])) _
    refine st1 _ ?_
    show Steps p.tables e below (T1.setTop (mkF m 4 #[.val (.ref o0)] [])) _
    exact X1.returnOut hx Bd.returns (hb hby dv_4) lhr
  · skip
    show QA33 Z o0 h0 n0 _ T1.heap _
    rw [e1]
    exact ⟨rfl, N0, rfl⟩
theorem dy_7 : decode prog_9_method_3_code 7 = .ok (.aload_n 0, 1) := by decide +kernel
theorem dy_8 : decode prog_9_method_3_code 8 = .ok (.getfield 7, 3) := by decide +kernel
theorem dy_11 : decode prog_9_method_3_code 11 = .ok (.invokevirtual 50, 3) := by decide +kernel
theorem efa_prog_8_method_2_code_vw (m : MethodId) (x0 : Addr) (x1 : Value) (r1 : x1.isRef = true) : entryFrame m #[(.ref x0), x1] 2 = mkF m 0 #[.val (.ref x0), .val x1] [] := by rcases own_refc r1 with q | ⟨a, q⟩ <;> subst q <;> first | (simp [entryFrame, mkF, argsToLocals, Value.category]; done) | rfl
theorem dl_0 : decode prog_8_method_2_code 0 = .ok (.aload_n 0, 1) := by decide +kernel
theorem dl_1 : decode prog_8_method_2_code 1 = .ok (.aload_n 1, 1) := by decide +kernel
theorem dl_2 : decode prog_8_method_2_code 2 = .ok (.putfield 7, 3) := by decide +kernel
theorem dl_5 : decode prog_8_method_2_code 5 = .ok (.aload_n 0, 1) := by decide +kernel
theorem dl_6 : decode prog_8_method_2_code 6 = .ok (.areturn, 1) := by decide +kernel
def QA34 (Z : State) (o0 : Addr) (u1 : Value) (u100 : Value) (u101 : Value) (u102 : Value) (u103 : Value) (u104 : Value) (h0 : Heap) (n0 : Nat) (v : Option Value) (h : Heap) (L : List Loc) : Prop := v = some (.ref o0) ∧ Fr n0 L ∧ Keep h0 h [o0] ∧ Exa Z h o0 cn6 ∧ Fld Z h o0 cn6 "code" "Ljava/lang/String;" u1 ∧ Fld Z h o0 cn6 "message" "Ljava/lang/String;" u100 ∧ Fld Z h o0 cn6 "moreInfo" "Ljava/lang/String;" u101 ∧ Fld Z h o0 cn6 "target" cn11 u102 ∧ Fld Z h o0 cn6 "type" "Ljava/lang/String;" u103 ∧ Fld Z h o0 cn6 "constraint" cn7 u104
set_option maxRecDepth 65536 in
set_option maxHeartbeats 40000000 in
theorem rmA34 (l : Launch) (Z : State) (a0 : Array Value) (hw : ∀ d ∈ tables_1, d.before a0 Z = true) (ws : List Jvm.Cond) (o0 : Addr) (u1 : Value) (u100 : Value) (u101 : Value) (u102 : Value) (u103 : Value) (u104 : Value) (h0 : Heap) (n0 : Nat) (Z0 : n0 ≤ h0.size) (r_u1 : u1.isRef = true) (E_o0 : Exa Z h0 o0 cn6) (F_o0_code : Fld Z h0 o0 cn6 "code" "Ljava/lang/String;" .null) (g_o0 : n0 ≤ o0) (F_o0_message : Fld Z h0 o0 cn6 "message" "Ljava/lang/String;" u100) (F_o0_moreInfo : Fld Z h0 o0 cn6 "moreInfo" "Ljava/lang/String;" u101) (F_o0_target : Fld Z h0 o0 cn6 "target" cn11 u102) (F_o0_type : Fld Z h0 o0 cn6 "type" "Ljava/lang/String;" u103) (F_o0_constraint : Fld Z h0 o0 cn6 "constraint" cn7 u104) :
    MetFree l mn9 (head1 (Jvm.Cond.code mn9 prog_8_method_2_code 2 (some (.object cn6)) :: ws) ({ frames := 0, cells := 0, slots := 0, locals := 0 } : Room)) (fun a U => a = #[(.ref o0), u1] ∧ Z.Warmed39 U.vm ∧ U.heap = h0) (fun _ _ _ _ _ => True) (fun _ U oc_ U' => ∃ v L, oc_ = .returned v ∧ QA34 Z o0 u1 u100 u101 u102 u103 u104 h0 n0 v U'.heap L ∧ FrameEnd U oc_ U' L ({ frames := 0, cells := 0, slots := 0, locals := 0 } : Room).cells ({ frames := 0, cells := 0, slots := 0, locals := 0 } : Room).slots) := by
  refine MetFree.of_bodySF (plainFor_of_name pn_com_example_typed_api_errors_typedapierrors_error_Detail_Builder) hisR ?_
  intro p e s m args below meth c s₁ Bd hml0 hP hK
  obtain ⟨rfl, hZ, hh⟩ := hP
  have hx := Bd.exec
  have hby := Bd.bytes
  have hml : c.maxLocals = 2 := hml0
  have hown : s.vm.findClass cn6 = some m.cls := findClass_of_methodNamed Bd.named
  have hnm := (name_of_methodNamed Bd.named Bd.method).1
  have X0 : Stand p l e ({ frames := 0, cells := 0, slots := 0, locals := 0 } : Room) s m #[(.ref o0), u1] below meth c s₁ [] 0 0 := Stand.of_body Bd
  have e0 : s₁.heap = h0 := by rw [← hh, Bd.state]; rfl
  have N0 := Fr.nil n0
  have pre0 : ∀ t, Steps p.tables e below (s₁.setTop (mkF m 0 #[.val (.ref o0), .val u1] [])) t → Steps p.tables e below (s₁.setTop (entryFrame m #[(.ref o0), u1] 2)) t := fun t k => castTop (efa_prog_8_method_2_code_vw m o0 u1 r_u1) k
  obtain ⟨T1, h1, X1, e1, W1, st1⟩ := putF X0 hx hZ hown (host := "") (Or.inl (wd108 hw)) Via.refl e0 F_o0_code E_o0 (Or.inl (wd109 hw)) (wd97 hw) (ty := (.object "java/lang/String")) (by decide) (own_nrO r_u1) (own_ftO r_u1) (g := (mkF m 2 #[.val (.ref o0), .val u1] [u1, (.ref o0)])) rfl rfl (hb hby dl_2)
  have N1 := Fr.snoc X1 N0 g_o0
  have Z1 : n0 ≤ h1.size := by rw [W1.size]; exact Z0
  have K1 : Keep h0 h1 [o0] := ((Keep.refl h0 [o0]).wr W1 (Or.inl (List.mem_of_getElem? (i := 0) rfl)))
  have Fw1 := F_o0_code.same W1
  have f2 := (E_o0.wr W1)
  have f3 := (F_o0_message.other W1 (Or.inr (slot_ne (Or.inl (wd123 hw)) (Or.inl (wd109 hw)) (by decide) (t := (.object "java/lang/String")) (t' := (.object "java/lang/String")) (by decide) (by decide))))
  have f4 := (F_o0_moreInfo.other W1 (Or.inr (slot_ne (Or.inl (wd130 hw)) (Or.inl (wd109 hw)) (by decide) (t := (.object "java/lang/String")) (t' := (.object "java/lang/String")) (by decide) (by decide))))
  have f5 := (F_o0_target.other W1 (Or.inr (slot_ne (Or.inl (wd137 hw)) (Or.inl (wd109 hw)) (by decide) (t := (.object cn14)) (t' := (.object "java/lang/String")) (by decide) (by decide))))
  have f6 := (F_o0_type.other W1 (Or.inr (slot_ne (Or.inl (wd157 hw)) (Or.inl (wd109 hw)) (by decide) (t := (.object "java/lang/String")) (t' := (.object "java/lang/String")) (by decide) (by decide))))
  have f7 := (F_o0_constraint.other W1 (Or.inr (slot_ne (Or.inl (wd167 hw)) (Or.inl (wd109 hw)) (by decide) (t := (.object cn9)) (t' := (.object "java/lang/String")) (by decide) (by decide))))
  obtain ⟨lfs, lhr, lhrun, lhended, lhW, lhsame⟩ := X1.leave (v := some (.ref o0)) (fun h => by rw [Bd.returns] at h; cases h)
  refine ⟨_, _, pre0 _ ?_, lhrun, lhended, _, _, rfl, ?_, ⟨_, rfl⟩, lhW, lhsame.mono (by decide) (by decide)⟩
  · skip
    show Steps p.tables e below (s₁.setTop (mkF m 0 #[.val (.ref o0), .val u1] [])) _
    refine XS.aloadN X0.here hx rfl (hb hby dl_0) rfl rfl ?_
    refine XS.aloadN X0.here hx rfl (hb hby dl_1) rfl r_u1 ?_
    show Steps p.tables e below (s₁.setTop (mkF m 2 #[.val (.ref o0), .val u1] [u1, (.ref o0)])) _
    refine st1 _ ?_
    show Steps p.tables e below (T1.setTop (mkF m 5 #[.val (.ref o0), .val u1] [])) _
    refine XS.aloadN X1.here hx rfl (hb hby dl_5) rfl rfl ?_
    show Steps p.tables e below (T1.setTop (mkF m 6 #[.val (.ref o0), .val u1] [(.ref o0)])) _
    exact retOut X1 hx Bd.returns rfl (Or.inr (Or.inr (Or.inr (Or.inr ⟨rfl, rfl, rfl⟩)))) (hb hby dl_6) lhr
  · skip
    show QA34 Z o0 u1 u100 u101 u102 u103 u104 h0 n0 _ T1.heap _
    rw [e1]
    exact ⟨rfl, N1, K1, f2, Fw1, f3, f4, f5, f6, f7⟩
theorem dy_14 : decode prog_9_method_3_code 14 = .ok (.aload_n 1, 1) := by decide +kernel
theorem dy_15 : decode prog_9_method_3_code 15 = .ok (.aconst_null, 1) := by decide +kernel
theorem dy_16 : decode prog_9_method_3_code 16 = .ok (.invokevirtual 53, 3) := by decide +kernel
theorem dy_19 : decode prog_9_method_3_code 19 = .ok (.checkcast 57, 3) := by decide +kernel
theorem dy_22 : decode prog_9_method_3_code 22 = .ok (.invokevirtual 59, 3) := by decide +kernel
theorem efa_prog_8_method_3_code_vw (m : MethodId) (x0 : Addr) (x1 : Value) (r1 : x1.isRef = true) : entryFrame m #[(.ref x0), x1] 2 = mkF m 0 #[.val (.ref x0), .val x1] [] := by rcases own_refc r1 with q | ⟨a, q⟩ <;> subst q <;> first | (simp [entryFrame, mkF, argsToLocals, Value.category]; done) | rfl
theorem du_0 : decode prog_8_method_3_code 0 = .ok (.aload_n 0, 1) := by decide +kernel
theorem du_1 : decode prog_8_method_3_code 1 = .ok (.aload_n 1, 1) := by decide +kernel
theorem du_2 : decode prog_8_method_3_code 2 = .ok (.putfield 13, 3) := by decide +kernel
theorem du_5 : decode prog_8_method_3_code 5 = .ok (.aload_n 0, 1) := by decide +kernel
theorem du_6 : decode prog_8_method_3_code 6 = .ok (.areturn, 1) := by decide +kernel
def QA35 (Z : State) (o0 : Addr) (u1 : Value) (u100 : Value) (u101 : Value) (u102 : Value) (u103 : Value) (u104 : Value) (h0 : Heap) (n0 : Nat) (v : Option Value) (h : Heap) (L : List Loc) : Prop := v = some (.ref o0) ∧ Fr n0 L ∧ Keep h0 h [o0] ∧ Exa Z h o0 cn6 ∧ Fld Z h o0 cn6 "message" "Ljava/lang/String;" u1 ∧ Fld Z h o0 cn6 "code" "Ljava/lang/String;" u100 ∧ Fld Z h o0 cn6 "moreInfo" "Ljava/lang/String;" u101 ∧ Fld Z h o0 cn6 "target" cn11 u102 ∧ Fld Z h o0 cn6 "type" "Ljava/lang/String;" u103 ∧ Fld Z h o0 cn6 "constraint" cn7 u104
set_option maxRecDepth 65536 in
set_option maxHeartbeats 40000000 in
theorem rmA35 (l : Launch) (Z : State) (a0 : Array Value) (hw : ∀ d ∈ tables_1, d.before a0 Z = true) (ws : List Jvm.Cond) (o0 : Addr) (u1 : Value) (u100 : Value) (u101 : Value) (u102 : Value) (u103 : Value) (u104 : Value) (h0 : Heap) (n0 : Nat) (Z0 : n0 ≤ h0.size) (r_u1 : u1.isRef = true) (E_o0 : Exa Z h0 o0 cn6) (F_o0_message : Fld Z h0 o0 cn6 "message" "Ljava/lang/String;" .null) (g_o0 : n0 ≤ o0) (F_o0_code : Fld Z h0 o0 cn6 "code" "Ljava/lang/String;" u100) (F_o0_moreInfo : Fld Z h0 o0 cn6 "moreInfo" "Ljava/lang/String;" u101) (F_o0_target : Fld Z h0 o0 cn6 "target" cn11 u102) (F_o0_type : Fld Z h0 o0 cn6 "type" "Ljava/lang/String;" u103) (F_o0_constraint : Fld Z h0 o0 cn6 "constraint" cn7 u104) :
    MetFree l mn10 (head1 (Jvm.Cond.code mn10 prog_8_method_3_code 2 (some (.object cn6)) :: ws) ({ frames := 0, cells := 0, slots := 0, locals := 0 } : Room)) (fun a U => a = #[(.ref o0), u1] ∧ Z.Warmed39 U.vm ∧ U.heap = h0) (fun _ _ _ _ _ => True) (fun _ U oc_ U' => ∃ v L, oc_ = .returned v ∧ QA35 Z o0 u1 u100 u101 u102 u103 u104 h0 n0 v U'.heap L ∧ FrameEnd U oc_ U' L ({ frames := 0, cells := 0, slots := 0, locals := 0 } : Room).cells ({ frames := 0, cells := 0, slots := 0, locals := 0 } : Room).slots) := by
  refine MetFree.of_bodySF (plainFor_of_name pn_com_example_typed_api_errors_typedapierrors_error_Detail_Builder) hisR ?_
  intro p e s m args below meth c s₁ Bd hml0 hP hK
  obtain ⟨rfl, hZ, hh⟩ := hP
  have hx := Bd.exec
  have hby := Bd.bytes
  have hml : c.maxLocals = 2 := hml0
  have hown : s.vm.findClass cn6 = some m.cls := findClass_of_methodNamed Bd.named
  have hnm := (name_of_methodNamed Bd.named Bd.method).1
  have X0 : Stand p l e ({ frames := 0, cells := 0, slots := 0, locals := 0 } : Room) s m #[(.ref o0), u1] below meth c s₁ [] 0 0 := Stand.of_body Bd
  have e0 : s₁.heap = h0 := by rw [← hh, Bd.state]; rfl
  have N0 := Fr.nil n0
  have pre0 : ∀ t, Steps p.tables e below (s₁.setTop (mkF m 0 #[.val (.ref o0), .val u1] [])) t → Steps p.tables e below (s₁.setTop (entryFrame m #[(.ref o0), u1] 2)) t := fun t k => castTop (efa_prog_8_method_3_code_vw m o0 u1 r_u1) k
  obtain ⟨T1, h1, X1, e1, W1, st1⟩ := putF X0 hx hZ hown (host := "") (Or.inl (wd122 hw)) Via.refl e0 F_o0_message E_o0 (Or.inl (wd123 hw)) (wd97 hw) (ty := (.object "java/lang/String")) (by decide) (own_nrO r_u1) (own_ftO r_u1) (g := (mkF m 2 #[.val (.ref o0), .val u1] [u1, (.ref o0)])) rfl rfl (hb hby du_2)
  have N1 := Fr.snoc X1 N0 g_o0
  have Z1 : n0 ≤ h1.size := by rw [W1.size]; exact Z0
  have K1 : Keep h0 h1 [o0] := ((Keep.refl h0 [o0]).wr W1 (Or.inl (List.mem_of_getElem? (i := 0) rfl)))
  have Fw1 := F_o0_message.same W1
  have f2 := (E_o0.wr W1)
  have f3 := (F_o0_code.other W1 (Or.inr (slot_ne (Or.inl (wd109 hw)) (Or.inl (wd123 hw)) (by decide) (t := (.object "java/lang/String")) (t' := (.object "java/lang/String")) (by decide) (by decide))))
  have f4 := (F_o0_moreInfo.other W1 (Or.inr (slot_ne (Or.inl (wd130 hw)) (Or.inl (wd123 hw)) (by decide) (t := (.object "java/lang/String")) (t' := (.object "java/lang/String")) (by decide) (by decide))))
  have f5 := (F_o0_target.other W1 (Or.inr (slot_ne (Or.inl (wd137 hw)) (Or.inl (wd123 hw)) (by decide) (t := (.object cn14)) (t' := (.object "java/lang/String")) (by decide) (by decide))))
  have f6 := (F_o0_type.other W1 (Or.inr (slot_ne (Or.inl (wd157 hw)) (Or.inl (wd123 hw)) (by decide) (t := (.object "java/lang/String")) (t' := (.object "java/lang/String")) (by decide) (by decide))))
  have f7 := (F_o0_constraint.other W1 (Or.inr (slot_ne (Or.inl (wd167 hw)) (Or.inl (wd123 hw)) (by decide) (t := (.object cn9)) (t' := (.object "java/lang/String")) (by decide) (by decide))))
  obtain ⟨lfs, lhr, lhrun, lhended, lhW, lhsame⟩ := X1.leave (v := some (.ref o0)) (fun h => by rw [Bd.returns] at h; cases h)
  refine ⟨_, _, pre0 _ ?_, lhrun, lhended, _, _, rfl, ?_, ⟨_, rfl⟩, lhW, lhsame.mono (by decide) (by decide)⟩
  · skip
    show Steps p.tables e below (s₁.setTop (mkF m 0 #[.val (.ref o0), .val u1] [])) _
    refine XS.aloadN X0.here hx rfl (hb hby du_0) rfl rfl ?_
    refine XS.aloadN X0.here hx rfl (hb hby du_1) rfl r_u1 ?_
    show Steps p.tables e below (s₁.setTop (mkF m 2 #[.val (.ref o0), .val u1] [u1, (.ref o0)])) _
    refine st1 _ ?_
    show Steps p.tables e below (T1.setTop (mkF m 5 #[.val (.ref o0), .val u1] [])) _
    refine XS.aloadN X1.here hx rfl (hb hby du_5) rfl rfl ?_
    show Steps p.tables e below (T1.setTop (mkF m 6 #[.val (.ref o0), .val u1] [(.ref o0)])) _
    exact retOut X1 hx Bd.returns rfl (Or.inr (Or.inr (Or.inr (Or.inr ⟨rfl, rfl, rfl⟩)))) (hb hby du_6) lhr
  · skip
    show QA35 Z o0 u1 u100 u101 u102 u103 u104 h0 n0 _ T1.heap _
    rw [e1]
    exact ⟨rfl, N1, K1, f2, Fw1, f3, f4, f5, f6, f7⟩
theorem dy_25 : decode prog_9_method_3_code 25 = .ok (.aload_n 0, 1) := by decide +kernel
theorem dy_26 : decode prog_9_method_3_code 26 = .ok (.getfield 27, 3) := by decide +kernel
theorem dy_29 : decode prog_9_method_3_code 29 = .ok (.aconst_null, 1) := by decide +kernel
theorem dy_30 : decode prog_9_method_3_code 30 = .ok (.invokevirtual 53, 3) := by decide +kernel
theorem dy_33 : decode prog_9_method_3_code 33 = .ok (.checkcast 57, 3) := by decide +kernel
theorem dy_36 : decode prog_9_method_3_code 36 = .ok (.invokevirtual 62, 3) := by decide +kernel
theorem efa_prog_8_method_6_code_vw (m : MethodId) (x0 : Addr) (x1 : Value) (r1 : x1.isRef = true) : entryFrame m #[(.ref x0), x1] 2 = mkF m 0 #[.val (.ref x0), .val x1] [] := by rcases own_refc r1 with q | ⟨a, q⟩ <;> subst q <;> first | (simp [entryFrame, mkF, argsToLocals, Value.category]; done) | rfl
theorem dm_0 : decode prog_8_method_6_code 0 = .ok (.aload_n 0, 1) := by decide +kernel
theorem dm_1 : decode prog_8_method_6_code 1 = .ok (.aload_n 1, 1) := by decide +kernel
theorem dm_2 : decode prog_8_method_6_code 2 = .ok (.putfield 23, 3) := by decide +kernel
theorem dm_5 : decode prog_8_method_6_code 5 = .ok (.aload_n 0, 1) := by decide +kernel
theorem dm_6 : decode prog_8_method_6_code 6 = .ok (.areturn, 1) := by decide +kernel
def QA36 (Z : State) (o0 : Addr) (u1 : Value) (u100 : Value) (u101 : Value) (u102 : Value) (u103 : Value) (u104 : Value) (h0 : Heap) (n0 : Nat) (v : Option Value) (h : Heap) (L : List Loc) : Prop := v = some (.ref o0) ∧ Fr n0 L ∧ Keep h0 h [o0] ∧ Exa Z h o0 cn6 ∧ Fld Z h o0 cn6 "moreInfo" "Ljava/lang/String;" u1 ∧ Fld Z h o0 cn6 "code" "Ljava/lang/String;" u100 ∧ Fld Z h o0 cn6 "message" "Ljava/lang/String;" u101 ∧ Fld Z h o0 cn6 "target" cn11 u102 ∧ Fld Z h o0 cn6 "type" "Ljava/lang/String;" u103 ∧ Fld Z h o0 cn6 "constraint" cn7 u104
set_option maxRecDepth 65536 in
set_option maxHeartbeats 40000000 in
theorem rmA36 (l : Launch) (Z : State) (a0 : Array Value) (hw : ∀ d ∈ tables_1, d.before a0 Z = true) (ws : List Jvm.Cond) (o0 : Addr) (u1 : Value) (u100 : Value) (u101 : Value) (u102 : Value) (u103 : Value) (u104 : Value) (h0 : Heap) (n0 : Nat) (Z0 : n0 ≤ h0.size) (r_u1 : u1.isRef = true) (E_o0 : Exa Z h0 o0 cn6) (F_o0_moreInfo : Fld Z h0 o0 cn6 "moreInfo" "Ljava/lang/String;" .null) (g_o0 : n0 ≤ o0) (F_o0_code : Fld Z h0 o0 cn6 "code" "Ljava/lang/String;" u100) (F_o0_message : Fld Z h0 o0 cn6 "message" "Ljava/lang/String;" u101) (F_o0_target : Fld Z h0 o0 cn6 "target" cn11 u102) (F_o0_type : Fld Z h0 o0 cn6 "type" "Ljava/lang/String;" u103) (F_o0_constraint : Fld Z h0 o0 cn6 "constraint" cn7 u104) :
    MetFree l mn11 (head1 (Jvm.Cond.code mn11 prog_8_method_6_code 2 (some (.object cn6)) :: ws) ({ frames := 0, cells := 0, slots := 0, locals := 0 } : Room)) (fun a U => a = #[(.ref o0), u1] ∧ Z.Warmed39 U.vm ∧ U.heap = h0) (fun _ _ _ _ _ => True) (fun _ U oc_ U' => ∃ v L, oc_ = .returned v ∧ QA36 Z o0 u1 u100 u101 u102 u103 u104 h0 n0 v U'.heap L ∧ FrameEnd U oc_ U' L ({ frames := 0, cells := 0, slots := 0, locals := 0 } : Room).cells ({ frames := 0, cells := 0, slots := 0, locals := 0 } : Room).slots) := by
  refine MetFree.of_bodySF (plainFor_of_name pn_com_example_typed_api_errors_typedapierrors_error_Detail_Builder) hisR ?_
  intro p e s m args below meth c s₁ Bd hml0 hP hK
  obtain ⟨rfl, hZ, hh⟩ := hP
  have hx := Bd.exec
  have hby := Bd.bytes
  have hml : c.maxLocals = 2 := hml0
  have hown : s.vm.findClass cn6 = some m.cls := findClass_of_methodNamed Bd.named
  have hnm := (name_of_methodNamed Bd.named Bd.method).1
  have X0 : Stand p l e ({ frames := 0, cells := 0, slots := 0, locals := 0 } : Room) s m #[(.ref o0), u1] below meth c s₁ [] 0 0 := Stand.of_body Bd
  have e0 : s₁.heap = h0 := by rw [← hh, Bd.state]; rfl
  have N0 := Fr.nil n0
  have pre0 : ∀ t, Steps p.tables e below (s₁.setTop (mkF m 0 #[.val (.ref o0), .val u1] [])) t → Steps p.tables e below (s₁.setTop (entryFrame m #[(.ref o0), u1] 2)) t := fun t k => castTop (efa_prog_8_method_6_code_vw m o0 u1 r_u1) k
  obtain ⟨T1, h1, X1, e1, W1, st1⟩ := putF X0 hx hZ hown (host := "") (Or.inl (wd129 hw)) Via.refl e0 F_o0_moreInfo E_o0 (Or.inl (wd130 hw)) (wd97 hw) (ty := (.object "java/lang/String")) (by decide) (own_nrO r_u1) (own_ftO r_u1) (g := (mkF m 2 #[.val (.ref o0), .val u1] [u1, (.ref o0)])) rfl rfl (hb hby dm_2)
  have N1 := Fr.snoc X1 N0 g_o0
  have Z1 : n0 ≤ h1.size := by rw [W1.size]; exact Z0
  have K1 : Keep h0 h1 [o0] := ((Keep.refl h0 [o0]).wr W1 (Or.inl (List.mem_of_getElem? (i := 0) rfl)))
  have Fw1 := F_o0_moreInfo.same W1
  have f2 := (E_o0.wr W1)
  have f3 := (F_o0_code.other W1 (Or.inr (slot_ne (Or.inl (wd109 hw)) (Or.inl (wd130 hw)) (by decide) (t := (.object "java/lang/String")) (t' := (.object "java/lang/String")) (by decide) (by decide))))
  have f4 := (F_o0_message.other W1 (Or.inr (slot_ne (Or.inl (wd123 hw)) (Or.inl (wd130 hw)) (by decide) (t := (.object "java/lang/String")) (t' := (.object "java/lang/String")) (by decide) (by decide))))
  have f5 := (F_o0_target.other W1 (Or.inr (slot_ne (Or.inl (wd137 hw)) (Or.inl (wd130 hw)) (by decide) (t := (.object cn14)) (t' := (.object "java/lang/String")) (by decide) (by decide))))
  have f6 := (F_o0_type.other W1 (Or.inr (slot_ne (Or.inl (wd157 hw)) (Or.inl (wd130 hw)) (by decide) (t := (.object "java/lang/String")) (t' := (.object "java/lang/String")) (by decide) (by decide))))
  have f7 := (F_o0_constraint.other W1 (Or.inr (slot_ne (Or.inl (wd167 hw)) (Or.inl (wd130 hw)) (by decide) (t := (.object cn9)) (t' := (.object "java/lang/String")) (by decide) (by decide))))
  obtain ⟨lfs, lhr, lhrun, lhended, lhW, lhsame⟩ := X1.leave (v := some (.ref o0)) (fun h => by rw [Bd.returns] at h; cases h)
  refine ⟨_, _, pre0 _ ?_, lhrun, lhended, _, _, rfl, ?_, ⟨_, rfl⟩, lhW, lhsame.mono (by decide) (by decide)⟩
  · skip
    show Steps p.tables e below (s₁.setTop (mkF m 0 #[.val (.ref o0), .val u1] [])) _
    refine XS.aloadN X0.here hx rfl (hb hby dm_0) rfl rfl ?_
    refine XS.aloadN X0.here hx rfl (hb hby dm_1) rfl r_u1 ?_
    show Steps p.tables e below (s₁.setTop (mkF m 2 #[.val (.ref o0), .val u1] [u1, (.ref o0)])) _
    refine st1 _ ?_
    show Steps p.tables e below (T1.setTop (mkF m 5 #[.val (.ref o0), .val u1] [])) _
    refine XS.aloadN X1.here hx rfl (hb hby dm_5) rfl rfl ?_
    show Steps p.tables e below (T1.setTop (mkF m 6 #[.val (.ref o0), .val u1] [(.ref o0)])) _
    exact retOut X1 hx Bd.returns rfl (Or.inr (Or.inr (Or.inr (Or.inr ⟨rfl, rfl, rfl⟩)))) (hb hby dm_6) lhr
  · skip
    show QA36 Z o0 u1 u100 u101 u102 u103 u104 h0 n0 _ T1.heap _
    rw [e1]
    exact ⟨rfl, N1, K1, f2, Fw1, f3, f4, f5, f6, f7⟩
theorem dy_39 : decode prog_9_method_3_code 39 = .ok (.aload_n 0, 1) := by decide +kernel
theorem dy_40 : decode prog_9_method_3_code 40 = .ok (.getfield 30, 3) := by decide +kernel
theorem dy_43 : decode prog_9_method_3_code 43 = .ok (.aconst_null, 1) := by decide +kernel
theorem dy_44 : decode prog_9_method_3_code 44 = .ok (.invokevirtual 53, 3) := by decide +kernel
theorem efa_jdk_32_method_15_code_vn (m : MethodId) (x0 : Addr) : entryFrame m #[(.ref x0), .null] 2 = mkF m 0 #[.val (.ref x0), .val .null] [] := by first | (simp [entryFrame, mkF, argsToLocals, Value.category]; done) | rfl
def QA37 (Z : State) (o0 : Addr) (h0 : Heap) (n0 : Nat) (v : Option Value) (h : Heap) (L : List Loc) : Prop := v = some .null ∧ Fr n0 L ∧ h = h0
set_option maxRecDepth 65536 in
set_option maxHeartbeats 40000000 in
theorem rmA37 (l : Launch) (Z : State) (a0 : Array Value) (hw : ∀ d ∈ tables_1, d.before a0 Z = true) (ws : List Jvm.Cond) (o0 : Addr) (h0 : Heap) (n0 : Nat) (Z0 : n0 ≤ h0.size) (F_o0_value : Fld Z h0 o0 "java/util/Optional" "value" "Ljava/lang/Object;" .null) :
    MetFree l mn32 (head1 (Jvm.Cond.code mn32 jdk_32_method_15_code 2 (some (.object "java/lang/Object")) :: ws) ({ frames := 0, cells := 0, slots := 0, locals := 0 } : Room)) (fun a U => a = #[(.ref o0), .null] ∧ Z.Warmed39 U.vm ∧ U.heap = h0) (fun _ _ _ _ _ => True) (fun _ U oc_ U' => ∃ v L, oc_ = .returned v ∧ QA37 Z o0 h0 n0 v U'.heap L ∧ FrameEnd U oc_ U' L ({ frames := 0, cells := 0, slots := 0, locals := 0 } : Room).cells ({ frames := 0, cells := 0, slots := 0, locals := 0 } : Room).slots) := by
  refine MetFree.of_bodySF (plainFor_of_name pn_java_util_Optional) hisR ?_
  intro p e s m args below meth c s₁ Bd hml0 hP hK
  obtain ⟨rfl, hZ, hh⟩ := hP
  have hx := Bd.exec
  have hby := Bd.bytes
  have hml : c.maxLocals = 2 := hml0
  have hown : s.vm.findClass "java/util/Optional" = some m.cls := findClass_of_methodNamed Bd.named
  have hnm := (name_of_methodNamed Bd.named Bd.method).1
  have X0 : Stand p l e ({ frames := 0, cells := 0, slots := 0, locals := 0 } : Room) s m #[(.ref o0), .null] below meth c s₁ [] 0 0 := Stand.of_body Bd
  have e0 : s₁.heap = h0 := by rw [← hh, Bd.state]; rfl
  have N0 := Fr.nil n0
  have pre0 : ∀ t, Steps p.tables e below (s₁.setTop (mkF m 0 #[.val (.ref o0), .val .null] [])) t → Steps p.tables e below (s₁.setTop (entryFrame m #[(.ref o0), .null] 2)) t := fun t k => castTop (efa_jdk_32_method_15_code_vn m o0) k
  obtain ⟨T1, X1, e1, st1⟩ := getF X0 hx hZ hown (host := "") (Or.inl (wd115 hw)) Via.refl e0 F_o0_value (g := (mkF m 1 #[.val (.ref o0), .val .null] [(.ref o0)])) rfl rfl (hb hby da_1)
  obtain ⟨lfs, lhr, lhrun, lhended, lhW, lhsame⟩ := X1.leave (v := some .null) (fun h => by rw [Bd.returns] at h; cases h)
  refine ⟨_, _, pre0 _ ?_, lhrun, lhended, _, _, rfl, ?_, ⟨_, rfl⟩, lhW, lhsame.mono (by decide) (by decide)⟩
  · skip
    show Steps p.tables e below (s₁.setTop (mkF m 0 #[.val (.ref o0), .val .null] [])) _
    refine XS.aloadN X0.here hx rfl (hb hby da_0) rfl rfl ?_
    show Steps p.tables e below (s₁.setTop (mkF m 1 #[.val (.ref o0), .val .null] [(.ref o0)])) _
    refine st1 _ ?_
    show Steps p.tables e below (T1.setTop (mkF m 4 #[.val (.ref o0), .val .null] [.null])) _
    refine XS.ifnullYes X1.here hx rfl (pc0 := 4) (pc' := 14) rfl (hb hby da_4) rfl (by decide) (by decide) ?_
    show Steps p.tables e below (T1.setTop (mkF m 14 #[.val (.ref o0), .val .null] [])) _
    refine XS.aloadN X1.here hx rfl (hb hby da_14) rfl rfl ?_
    show Steps p.tables e below (T1.setTop (mkF m 15 #[.val (.ref o0), .val .null] [.null])) _
    exact retOut X1 hx Bd.returns rfl (Or.inr (Or.inr (Or.inr (Or.inr ⟨rfl, rfl, rfl⟩)))) (hb hby da_15) lhr
  · skip
    show QA37 Z o0 h0 n0 _ T1.heap _
    rw [e1]
    exact ⟨rfl, N0, rfl⟩
theorem dy_47 : decode prog_9_method_3_code 47 = .ok (.checkcast 64, 3) := by decide +kernel
theorem dy_50 : decode prog_9_method_3_code 50 = .ok (.invokevirtual 66, 3) := by decide +kernel
theorem efa_prog_8_method_5_code_vn (m : MethodId) (x0 : Addr) : entryFrame m #[(.ref x0), .null] 2 = mkF m 0 #[.val (.ref x0), .val .null] [] := by first | (simp [entryFrame, mkF, argsToLocals, Value.category]; done) | rfl
theorem dd_1_0 : decode prog_8_method_5_code 0 = .ok (.aload_n 0, 1) := by decide +kernel
theorem dd_1_1 : decode prog_8_method_5_code 1 = .ok (.aload_n 1, 1) := by decide +kernel
theorem dd_1_2 : decode prog_8_method_5_code 2 = .ok (.putfield 19, 3) := by decide +kernel
theorem dd_1_5 : decode prog_8_method_5_code 5 = .ok (.aload_n 0, 1) := by decide +kernel
theorem dd_1_6 : decode prog_8_method_5_code 6 = .ok (.areturn, 1) := by decide +kernel
def QA38 (Z : State) (o0 : Addr) (u100 : Value) (u101 : Value) (u102 : Value) (u103 : Value) (u104 : Value) (h0 : Heap) (n0 : Nat) (v : Option Value) (h : Heap) (L : List Loc) : Prop := v = some (.ref o0) ∧ Fr n0 L ∧ Keep h0 h [o0] ∧ Exa Z h o0 cn6 ∧ Fld Z h o0 cn6 "target" cn11 .null ∧ Fld Z h o0 cn6 "code" "Ljava/lang/String;" u100 ∧ Fld Z h o0 cn6 "message" "Ljava/lang/String;" u101 ∧ Fld Z h o0 cn6 "moreInfo" "Ljava/lang/String;" u102 ∧ Fld Z h o0 cn6 "type" "Ljava/lang/String;" u103 ∧ Fld Z h o0 cn6 "constraint" cn7 u104
set_option maxRecDepth 65536 in
set_option maxHeartbeats 40000000 in
theorem rmA38 (l : Launch) (Z : State) (a0 : Array Value) (hw : ∀ d ∈ tables_1, d.before a0 Z = true) (ws : List Jvm.Cond) (o0 : Addr) (u100 : Value) (u101 : Value) (u102 : Value) (u103 : Value) (u104 : Value) (h0 : Heap) (n0 : Nat) (Z0 : n0 ≤ h0.size) (E_o0 : Exa Z h0 o0 cn6) (F_o0_target : Fld Z h0 o0 cn6 "target" cn11 .null) (g_o0 : n0 ≤ o0) (F_o0_code : Fld Z h0 o0 cn6 "code" "Ljava/lang/String;" u100) (F_o0_message : Fld Z h0 o0 cn6 "message" "Ljava/lang/String;" u101) (F_o0_moreInfo : Fld Z h0 o0 cn6 "moreInfo" "Ljava/lang/String;" u102) (F_o0_type : Fld Z h0 o0 cn6 "type" "Ljava/lang/String;" u103) (F_o0_constraint : Fld Z h0 o0 cn6 "constraint" cn7 u104) :
    MetFree l mn12 (head1 (Jvm.Cond.code mn12 prog_8_method_5_code 2 (some (.object cn6)) :: ws) ({ frames := 0, cells := 0, slots := 0, locals := 0 } : Room)) (fun a U => a = #[(.ref o0), .null] ∧ Z.Warmed39 U.vm ∧ U.heap = h0) (fun _ _ _ _ _ => True) (fun _ U oc_ U' => ∃ v L, oc_ = .returned v ∧ QA38 Z o0 u100 u101 u102 u103 u104 h0 n0 v U'.heap L ∧ FrameEnd U oc_ U' L ({ frames := 0, cells := 0, slots := 0, locals := 0 } : Room).cells ({ frames := 0, cells := 0, slots := 0, locals := 0 } : Room).slots) := by
  refine MetFree.of_bodySF (plainFor_of_name pn_com_example_typed_api_errors_typedapierrors_error_Detail_Builder) hisR ?_
  intro p e s m args below meth c s₁ Bd hml0 hP hK
  obtain ⟨rfl, hZ, hh⟩ := hP
  have hx := Bd.exec
  have hby := Bd.bytes
  have hml : c.maxLocals = 2 := hml0
  have hown : s.vm.findClass cn6 = some m.cls := findClass_of_methodNamed Bd.named
  have hnm := (name_of_methodNamed Bd.named Bd.method).1
  have X0 : Stand p l e ({ frames := 0, cells := 0, slots := 0, locals := 0 } : Room) s m #[(.ref o0), .null] below meth c s₁ [] 0 0 := Stand.of_body Bd
  have e0 : s₁.heap = h0 := by rw [← hh, Bd.state]; rfl
  have N0 := Fr.nil n0
  have pre0 : ∀ t, Steps p.tables e below (s₁.setTop (mkF m 0 #[.val (.ref o0), .val .null] [])) t → Steps p.tables e below (s₁.setTop (entryFrame m #[(.ref o0), .null] 2)) t := fun t k => castTop (efa_prog_8_method_5_code_vn m o0) k
  obtain ⟨T1, h1, X1, e1, W1, st1⟩ := putF X0 hx hZ hown (host := "") (Or.inl (wd136 hw)) Via.refl e0 F_o0_target E_o0 (Or.inl (wd137 hw)) (wd97 hw) (ty := (.object cn14)) (by decide) rfl rfl (g := (mkF m 2 #[.val (.ref o0), .val .null] [.null, (.ref o0)])) rfl rfl (hb hby dd_1_2)
  have N1 := Fr.snoc X1 N0 g_o0
  have Z1 : n0 ≤ h1.size := by rw [W1.size]; exact Z0
  have K1 : Keep h0 h1 [o0] := ((Keep.refl h0 [o0]).wr W1 (Or.inl (List.mem_of_getElem? (i := 0) rfl)))
  have Fw1 := F_o0_target.same W1
  have f2 := (E_o0.wr W1)
  have f3 := (F_o0_code.other W1 (Or.inr (slot_ne (Or.inl (wd109 hw)) (Or.inl (wd137 hw)) (by decide) (t := (.object "java/lang/String")) (t' := (.object cn14)) (by decide) (by decide))))
  have f4 := (F_o0_message.other W1 (Or.inr (slot_ne (Or.inl (wd123 hw)) (Or.inl (wd137 hw)) (by decide) (t := (.object "java/lang/String")) (t' := (.object cn14)) (by decide) (by decide))))
  have f5 := (F_o0_moreInfo.other W1 (Or.inr (slot_ne (Or.inl (wd130 hw)) (Or.inl (wd137 hw)) (by decide) (t := (.object "java/lang/String")) (t' := (.object cn14)) (by decide) (by decide))))
  have f6 := (F_o0_type.other W1 (Or.inr (slot_ne (Or.inl (wd157 hw)) (Or.inl (wd137 hw)) (by decide) (t := (.object "java/lang/String")) (t' := (.object cn14)) (by decide) (by decide))))
  have f7 := (F_o0_constraint.other W1 (Or.inr (slot_ne (Or.inl (wd167 hw)) (Or.inl (wd137 hw)) (by decide) (t := (.object cn9)) (t' := (.object cn14)) (by decide) (by decide))))
  obtain ⟨lfs, lhr, lhrun, lhended, lhW, lhsame⟩ := X1.leave (v := some (.ref o0)) (fun h => by rw [Bd.returns] at h; cases h)
  refine ⟨_, _, pre0 _ ?_, lhrun, lhended, _, _, rfl, ?_, ⟨_, rfl⟩, lhW, lhsame.mono (by decide) (by decide)⟩
  · skip
    show Steps p.tables e below (s₁.setTop (mkF m 0 #[.val (.ref o0), .val .null] [])) _
    refine XS.aloadN X0.here hx rfl (hb hby dd_1_0) rfl rfl ?_
    refine XS.aloadN X0.here hx rfl (hb hby dd_1_1) rfl rfl ?_
    show Steps p.tables e below (s₁.setTop (mkF m 2 #[.val (.ref o0), .val .null] [.null, (.ref o0)])) _
    refine st1 _ ?_
    show Steps p.tables e below (T1.setTop (mkF m 5 #[.val (.ref o0), .val .null] [])) _
    refine XS.aloadN X1.here hx rfl (hb hby dd_1_5) rfl rfl ?_
    show Steps p.tables e below (T1.setTop (mkF m 6 #[.val (.ref o0), .val .null] [(.ref o0)])) _
    exact retOut X1 hx Bd.returns rfl (Or.inr (Or.inr (Or.inr (Or.inr ⟨rfl, rfl, rfl⟩)))) (hb hby dd_1_6) lhr
  · skip
    show QA38 Z o0 u100 u101 u102 u103 u104 h0 n0 _ T1.heap _
    rw [e1]
    exact ⟨rfl, N1, K1, f2, Fw1, f3, f4, f5, f6, f7⟩
theorem dy_53 : decode prog_9_method_3_code 53 = .ok (.invokevirtual 69, 3) := by decide +kernel
theorem efa_prog_8_method_8_code_v (m : MethodId) (x0 : Addr) : entryFrame m #[(.ref x0)] 1 = mkF m 0 #[.val (.ref x0)] [] := by first | (simp [entryFrame, mkF, argsToLocals, Value.category]; done) | rfl
theorem dz_0 : decode prog_8_method_8_code 0 = .ok (.new 30, 3) := by decide +kernel
theorem dz_3 : decode prog_8_method_8_code 3 = .ok (.dup, 1) := by decide +kernel
theorem dz_4 : decode prog_8_method_8_code 4 = .ok (.aload_n 0, 1) := by decide +kernel
theorem dz_5 : decode prog_8_method_8_code 5 = .ok (.invokespecial 32, 3) := by decide +kernel
theorem efa_prog_7_method_1_code_vv (m : MethodId) (x0 : Addr) (x1 : Addr) : entryFrame m #[(.ref x0), (.ref x1)] 2 = mkF m 0 #[.val (.ref x0), .val (.ref x1)] [] := by first | (simp [entryFrame, mkF, argsToLocals, Value.category]; done) | rfl
theorem dr_0 : decode prog_7_method_1_code 0 = .ok (.aload_n 0, 1) := by decide +kernel
theorem dr_1 : decode prog_7_method_1_code 1 = .ok (.invokespecial 1, 3) := by decide +kernel
theorem dr_4 : decode prog_7_method_1_code 4 = .ok (.aload_n 0, 1) := by decide +kernel
theorem dr_5 : decode prog_7_method_1_code 5 = .ok (.aload_n 1, 1) := by decide +kernel
theorem dr_6 : decode prog_7_method_1_code 6 = .ok (.getfield 7, 3) := by decide +kernel
theorem dr_9 : decode prog_7_method_1_code 9 = .ok (.putfield 13, 3) := by decide +kernel
theorem dr_12 : decode prog_7_method_1_code 12 = .ok (.aload_n 0, 1) := by decide +kernel
theorem dr_13 : decode prog_7_method_1_code 13 = .ok (.aload_n 1, 1) := by decide +kernel
theorem dr_14 : decode prog_7_method_1_code 14 = .ok (.getfield 16, 3) := by decide +kernel
theorem dr_17 : decode prog_7_method_1_code 17 = .ok (.putfield 19, 3) := by decide +kernel
theorem dr_20 : decode prog_7_method_1_code 20 = .ok (.aload_n 0, 1) := by decide +kernel
theorem dr_21 : decode prog_7_method_1_code 21 = .ok (.aload_n 1, 1) := by decide +kernel
theorem dr_22 : decode prog_7_method_1_code 22 = .ok (.getfield 20, 3) := by decide +kernel
theorem dr_25 : decode prog_7_method_1_code 25 = .ok (.putfield 23, 3) := by decide +kernel
theorem dr_28 : decode prog_7_method_1_code 28 = .ok (.aload_n 0, 1) := by decide +kernel
theorem dr_29 : decode prog_7_method_1_code 29 = .ok (.aload_n 1, 1) := by decide +kernel
theorem dr_30 : decode prog_7_method_1_code 30 = .ok (.getfield 24, 3) := by decide +kernel
theorem dr_33 : decode prog_7_method_1_code 33 = .ok (.putfield 28, 3) := by decide +kernel
theorem dr_36 : decode prog_7_method_1_code 36 = .ok (.aload_n 0, 1) := by decide +kernel
theorem dr_37 : decode prog_7_method_1_code 37 = .ok (.aload_n 1, 1) := by decide +kernel
theorem dr_38 : decode prog_7_method_1_code 38 = .ok (.getfield 29, 3) := by decide +kernel
theorem dr_41 : decode prog_7_method_1_code 41 = .ok (.putfield 32, 3) := by decide +kernel
theorem dr_44 : decode prog_7_method_1_code 44 = .ok (.aload_n 0, 1) := by decide +kernel
theorem dr_45 : decode prog_7_method_1_code 45 = .ok (.aload_n 1, 1) := by decide +kernel
theorem dr_46 : decode prog_7_method_1_code 46 = .ok (.getfield 33, 3) := by decide +kernel
theorem dr_49 : decode prog_7_method_1_code 49 = .ok (.putfield 37, 3) := by decide +kernel
theorem dr_52 : decode prog_7_method_1_code 52 = .ok (.return_, 1) := by decide +kernel
def QA40 (Z : State) (o0 : Addr) (o1 : Addr) (u2 : Value) (u3 : Value) (u4 : Value) (h0 : Heap) (n0 : Nat) (v : Option Value) (h : Heap) (L : List Loc) : Prop := v = none ∧ Fr n0 L ∧ Keep h0 h [o0] ∧ Exa Z h o0 cn13 ∧ Fld Z h o0 cn13 "code" "Ljava/lang/String;" u2 ∧ Fld Z h o0 cn13 "message" "Ljava/lang/String;" u3 ∧ Fld Z h o0 cn13 "type" "Ljava/lang/String;" .null ∧ Fld Z h o0 cn13 "target" cn11 .null ∧ Fld Z h o0 cn13 "moreInfo" "Ljava/lang/String;" u4 ∧ Fld Z h o0 cn13 "constraint" cn7 .null
set_option maxRecDepth 65536 in
set_option maxHeartbeats 40000000 in
theorem rmA40 (l : Launch) (Z : State) (a0 : Array Value) (hw : ∀ d ∈ tables_1, d.before a0 Z = true) (ws : List Jvm.Cond) (o0 : Addr) (o1 : Addr) (u2 : Value) (u3 : Value) (u4 : Value) (h0 : Heap) (n0 : Nat) (Z0 : n0 ≤ h0.size) (F_o1_code : Fld Z h0 o1 cn6 "code" "Ljava/lang/String;" u2) (E_o0 : Exa Z h0 o0 cn13) (F_o0_code : Fld Z h0 o0 cn13 "code" "Ljava/lang/String;" .null) (r_u2 : u2.isRef = true) (g_o0 : n0 ≤ o0) (F_o1_message : Fld Z h0 o1 cn6 "message" "Ljava/lang/String;" u3) (ne_o1_o0 : o1 ≠ o0) (F_o0_message : Fld Z h0 o0 cn13 "message" "Ljava/lang/String;" .null) (r_u3 : u3.isRef = true) (F_o1_type : Fld Z h0 o1 cn6 "type" "Ljava/lang/String;" .null) (F_o0_type : Fld Z h0 o0 cn13 "type" "Ljava/lang/String;" .null) (F_o1_target : Fld Z h0 o1 cn6 "target" cn11 .null) (F_o0_target : Fld Z h0 o0 cn13 "target" cn11 .null) (F_o1_moreInfo : Fld Z h0 o1 cn6 "moreInfo" "Ljava/lang/String;" u4) (F_o0_moreInfo : Fld Z h0 o0 cn13 "moreInfo" "Ljava/lang/String;" .null) (r_u4 : u4.isRef = true) (F_o1_constraint : Fld Z h0 o1 cn6 "constraint" cn7 .null) (F_o0_constraint : Fld Z h0 o0 cn13 "constraint" cn7 .null) :
    MetFree l mn0 (head1 (Jvm.Cond.code mn0 prog_7_method_1_code 2 none :: ws) ({ frames := 1, cells := 0, slots := 0, locals := 12 } : Room)) (fun a U => a = #[(.ref o0), (.ref o1)] ∧ Z.Warmed39 U.vm ∧ U.heap = h0) (fun _ _ _ _ _ => True) (fun _ U oc_ U' => ∃ v L, oc_ = .returned v ∧ QA40 Z o0 o1 u2 u3 u4 h0 n0 v U'.heap L ∧ FrameEnd U oc_ U' L ({ frames := 1, cells := 0, slots := 0, locals := 12 } : Room).cells ({ frames := 1, cells := 0, slots := 0, locals := 12 } : Room).slots) := by
  refine MetFree.of_bodySF (plainFor_of_name pn_com_example_typed_api_errors_typedapierrors_error_Detail) hisR ?_
  intro p e s m args below meth c s₁ Bd hml0 hP hK
  obtain ⟨rfl, hZ, hh⟩ := hP
  have hx := Bd.exec
  have hby := Bd.bytes
  have hml : c.maxLocals = 2 := hml0
  have hown : s.vm.findClass cn13 = some m.cls := findClass_of_methodNamed Bd.named
  have hnm := (name_of_methodNamed Bd.named Bd.method).1
  have X0 : Stand p l e ({ frames := 1, cells := 0, slots := 0, locals := 12 } : Room) s m #[(.ref o0), (.ref o1)] below meth c s₁ [] 0 0 := Stand.of_body Bd
  have e0 : s₁.heap = h0 := by rw [← hh, Bd.state]; rfl
  have N0 := Fr.nil n0
  have pre0 : ∀ t, Steps p.tables e below (s₁.setTop (mkF m 0 #[.val (.ref o0), .val (.ref o1)] [])) t → Steps p.tables e below (s₁.setTop (entryFrame m #[(.ref o0), (.ref o1)] 2)) t := fun t k => castTop (efa_prog_7_method_1_code_vv m o0 o1) k
  obtain ⟨T1, X1, e1, st1⟩ := initO X0 hx hZ hown (wd149 hw) (wd16 hw) (wd17 hw) e0 (g := (mkF m 1 #[.val (.ref o0), .val (.ref o1)] [(.ref o0)])) rfl (by rw [hml]; rfl) rfl (hb hby dr_1) (by decide) (W := 0) (by show 2 * 0 + _ ≤ _; exact Nat.le_of_eq rfl) (by decide)
  obtain ⟨T2, X2, e2, st2⟩ := own_getFR X1 hx hZ hown (wd150 hw) e1 F_o1_code (g := (mkF m 6 #[.val (.ref o0), .val (.ref o1)] [(.ref o1), (.ref o0)])) rfl rfl (hb hby dr_6)
  obtain ⟨T3, h3, X3, e3, W3, st3⟩ := putF X2 hx hZ hown (host := "") (Or.inl (wd151 hw)) Via.refl e2 F_o0_code E_o0 (Or.inr ⟨(wd152 hw), rfl, hnm⟩) (wd144 hw) (ty := (.object "java/lang/String")) (by decide) (own_nrO r_u2) (own_ftO r_u2) (g := (mkF m 9 #[.val (.ref o0), .val (.ref o1)] [u2, (.ref o0)])) rfl rfl (hb hby dr_9)
  have N3 := Fr.snoc X3 N0 g_o0
  have Z3 : n0 ≤ h3.size := by rw [W3.size]; exact Z0
  have K3 : Keep h0 h3 [o0] := ((Keep.refl h0 [o0]).wr W3 (Or.inl (List.mem_of_getElem? (i := 0) rfl)))
  have Fw3 := F_o0_code.same W3
  have f4 := (F_o1_message.other W3 (Or.inl ne_o1_o0))
  obtain ⟨T5, X5, e5, st5⟩ := own_getFR X3 hx hZ hown (wd153 hw) e3 f4 (g := (mkF m 14 #[.val (.ref o0), .val (.ref o1)] [(.ref o1), (.ref o0)])) rfl rfl (hb hby dr_14)
  have f6 := (E_o0.wr W3)
  have f7 := (F_o0_message.other W3 (Or.inr (slot_ne (Or.inr (wd155 hw)) (Or.inr (wd152 hw)) (by decide) (t := (.object "java/lang/String")) (t' := (.object "java/lang/String")) (by decide) (by decide))))
  obtain ⟨T8, h8, X8, e8, W8, st8⟩ := putF X5 hx hZ hown (host := "") (Or.inl (wd154 hw)) Via.refl e5 f7 f6 (Or.inr ⟨(wd155 hw), rfl, hnm⟩) (wd144 hw) (ty := (.object "java/lang/String")) (by decide) (own_nrO r_u3) (own_ftO r_u3) (g := (mkF m 17 #[.val (.ref o0), .val (.ref o1)] [u3, (.ref o0)])) rfl rfl (hb hby dr_17)
  have N8 := Fr.snoc X8 N3 g_o0
  have Z8 : n0 ≤ h8.size := by rw [W8.size]; exact Z3
  have K8 : Keep h0 h8 [o0] := (K3.wr W8 (Or.inl (List.mem_of_getElem? (i := 0) rfl)))
  have Fw8 := f7.same W8
  have f9 := ((F_o1_type.other W3 (Or.inl ne_o1_o0)).other W8 (Or.inl ne_o1_o0))
  obtain ⟨T10, X10, e10, st10⟩ := own_getFR X8 hx hZ hown (wd156 hw) e8 f9 (g := (mkF m 22 #[.val (.ref o0), .val (.ref o1)] [(.ref o1), (.ref o0)])) rfl rfl (hb hby dr_22)
  have f11 := (f6.wr W8)
  have f12 := ((F_o0_type.other W3 (Or.inr (slot_ne (Or.inr (wd159 hw)) (Or.inr (wd152 hw)) (by decide) (t := (.object "java/lang/String")) (t' := (.object "java/lang/String")) (by decide) (by decide)))).other W8 (Or.inr (slot_ne (Or.inr (wd159 hw)) (Or.inr (wd155 hw)) (by decide) (t := (.object "java/lang/String")) (t' := (.object "java/lang/String")) (by decide) (by decide))))
  obtain ⟨T13, h13, X13, e13, W13, st13⟩ := putF X10 hx hZ hown (host := "") (Or.inl (wd158 hw)) Via.refl e10 f12 f11 (Or.inr ⟨(wd159 hw), rfl, hnm⟩) (wd144 hw) (ty := (.object "java/lang/String")) (by decide) rfl rfl (g := (mkF m 25 #[.val (.ref o0), .val (.ref o1)] [.null, (.ref o0)])) rfl rfl (hb hby dr_25)
  have N13 := Fr.snoc X13 N8 g_o0
  have Z13 : n0 ≤ h13.size := by rw [W13.size]; exact Z8
  have K13 : Keep h0 h13 [o0] := (K8.wr W13 (Or.inl (List.mem_of_getElem? (i := 0) rfl)))
  have Fw13 := f12.same W13
  have f14 := (((F_o1_target.other W3 (Or.inl ne_o1_o0)).other W8 (Or.inl ne_o1_o0)).other W13 (Or.inl ne_o1_o0))
  obtain ⟨T15, X15, e15, st15⟩ := own_getFR X13 hx hZ hown (wd160 hw) e13 f14 (g := (mkF m 30 #[.val (.ref o0), .val (.ref o1)] [(.ref o1), (.ref o0)])) rfl rfl (hb hby dr_30)
  have f16 := (f11.wr W13)
  have f17 := (((F_o0_target.other W3 (Or.inr (slot_ne (Or.inr (wd162 hw)) (Or.inr (wd152 hw)) (by decide) (t := (.object cn14)) (t' := (.object "java/lang/String")) (by decide) (by decide)))).other W8 (Or.inr (slot_ne (Or.inr (wd162 hw)) (Or.inr (wd155 hw)) (by decide) (t := (.object cn14)) (t' := (.object "java/lang/String")) (by decide) (by decide)))).other W13 (Or.inr (slot_ne (Or.inr (wd162 hw)) (Or.inr (wd159 hw)) (by decide) (t := (.object cn14)) (t' := (.object "java/lang/String")) (by decide) (by decide))))
  obtain ⟨T18, h18, X18, e18, W18, st18⟩ := putF X15 hx hZ hown (host := "") (Or.inl (wd161 hw)) Via.refl e15 f17 f16 (Or.inr ⟨(wd162 hw), rfl, hnm⟩) (wd144 hw) (ty := (.object cn14)) (by decide) rfl rfl (g := (mkF m 33 #[.val (.ref o0), .val (.ref o1)] [.null, (.ref o0)])) rfl rfl (hb hby dr_33)
  have N18 := Fr.snoc X18 N13 g_o0
  have Z18 : n0 ≤ h18.size := by rw [W18.size]; exact Z13
  have K18 : Keep h0 h18 [o0] := (K13.wr W18 (Or.inl (List.mem_of_getElem? (i := 0) rfl)))
  have Fw18 := f17.same W18
  have f19 := ((((F_o1_moreInfo.other W3 (Or.inl ne_o1_o0)).other W8 (Or.inl ne_o1_o0)).other W13 (Or.inl ne_o1_o0)).other W18 (Or.inl ne_o1_o0))
  obtain ⟨T20, X20, e20, st20⟩ := own_getFR X18 hx hZ hown (wd163 hw) e18 f19 (g := (mkF m 38 #[.val (.ref o0), .val (.ref o1)] [(.ref o1), (.ref o0)])) rfl rfl (hb hby dr_38)
  have f21 := (f16.wr W18)
  have f22 := ((((F_o0_moreInfo.other W3 (Or.inr (slot_ne (Or.inr (wd165 hw)) (Or.inr (wd152 hw)) (by decide) (t := (.object "java/lang/String")) (t' := (.object "java/lang/String")) (by decide) (by decide)))).other W8 (Or.inr (slot_ne (Or.inr (wd165 hw)) (Or.inr (wd155 hw)) (by decide) (t := (.object "java/lang/String")) (t' := (.object "java/lang/String")) (by decide) (by decide)))).other W13 (Or.inr (slot_ne (Or.inr (wd165 hw)) (Or.inr (wd159 hw)) (by decide) (t := (.object "java/lang/String")) (t' := (.object "java/lang/String")) (by decide) (by decide)))).other W18 (Or.inr (slot_ne (Or.inr (wd165 hw)) (Or.inr (wd162 hw)) (by decide) (t := (.object "java/lang/String")) (t' := (.object cn14)) (by decide) (by decide))))
  obtain ⟨T23, h23, X23, e23, W23, st23⟩ := putF X20 hx hZ hown (host := "") (Or.inl (wd164 hw)) Via.refl e20 f22 f21 (Or.inr ⟨(wd165 hw), rfl, hnm⟩) (wd144 hw) (ty := (.object "java/lang/String")) (by decide) (own_nrO r_u4) (own_ftO r_u4) (g := (mkF m 41 #[.val (.ref o0), .val (.ref o1)] [u4, (.ref o0)])) rfl rfl (hb hby dr_41)
  have N23 := Fr.snoc X23 N18 g_o0
  have Z23 : n0 ≤ h23.size := by rw [W23.size]; exact Z18
  have K23 : Keep h0 h23 [o0] := (K18.wr W23 (Or.inl (List.mem_of_getElem? (i := 0) rfl)))
  have Fw23 := f22.same W23
  have f24 := (((((F_o1_constraint.other W3 (Or.inl ne_o1_o0)).other W8 (Or.inl ne_o1_o0)).other W13 (Or.inl ne_o1_o0)).other W18 (Or.inl ne_o1_o0)).other W23 (Or.inl ne_o1_o0))
  obtain ⟨T25, X25, e25, st25⟩ := own_getFR X23 hx hZ hown (wd166 hw) e23 f24 (g := (mkF m 46 #[.val (.ref o0), .val (.ref o1)] [(.ref o1), (.ref o0)])) rfl rfl (hb hby dr_46)
  have f26 := (f21.wr W23)
  have f27 := (((((F_o0_constraint.other W3 (Or.inr (slot_ne (Or.inr (wd169 hw)) (Or.inr (wd152 hw)) (by decide) (t := (.object cn9)) (t' := (.object "java/lang/String")) (by decide) (by decide)))).other W8 (Or.inr (slot_ne (Or.inr (wd169 hw)) (Or.inr (wd155 hw)) (by decide) (t := (.object cn9)) (t' := (.object "java/lang/String")) (by decide) (by decide)))).other W13 (Or.inr (slot_ne (Or.inr (wd169 hw)) (Or.inr (wd159 hw)) (by decide) (t := (.object cn9)) (t' := (.object "java/lang/String")) (by decide) (by decide)))).other W18 (Or.inr (slot_ne (Or.inr (wd169 hw)) (Or.inr (wd162 hw)) (by decide) (t := (.object cn9)) (t' := (.object cn14)) (by decide) (by decide)))).other W23 (Or.inr (slot_ne (Or.inr (wd169 hw)) (Or.inr (wd165 hw)) (by decide) (t := (.object cn9)) (t' := (.object "java/lang/String")) (by decide) (by decide))))
  obtain ⟨T28, h28, X28, e28, W28, st28⟩ := putF X25 hx hZ hown (host := "") (Or.inl (wd168 hw)) Via.refl e25 f27 f26 (Or.inr ⟨(wd169 hw), rfl, hnm⟩) (wd144 hw) (ty := (.object cn9)) (by decide) rfl rfl (g := (mkF m 49 #[.val (.ref o0), .val (.ref o1)] [.null, (.ref o0)])) rfl rfl (hb hby dr_49)
  have N28 := Fr.snoc X28 N23 g_o0
  have Z28 : n0 ≤ h28.size := by rw [W28.size]; exact Z23
  have K28 : Keep h0 h28 [o0] := (K23.wr W28 (Or.inl (List.mem_of_getElem? (i := 0) rfl)))
  have Fw28 := f27.same W28
  have f29 := (f26.wr W28)
  have f30 := (((((Fw3.other W8 (Or.inr (slot_ne (Or.inr (wd152 hw)) (Or.inr (wd155 hw)) (by decide) (t := (.object "java/lang/String")) (t' := (.object "java/lang/String")) (by decide) (by decide)))).other W13 (Or.inr (slot_ne (Or.inr (wd152 hw)) (Or.inr (wd159 hw)) (by decide) (t := (.object "java/lang/String")) (t' := (.object "java/lang/String")) (by decide) (by decide)))).other W18 (Or.inr (slot_ne (Or.inr (wd152 hw)) (Or.inr (wd162 hw)) (by decide) (t := (.object "java/lang/String")) (t' := (.object cn14)) (by decide) (by decide)))).other W23 (Or.inr (slot_ne (Or.inr (wd152 hw)) (Or.inr (wd165 hw)) (by decide) (t := (.object "java/lang/String")) (t' := (.object "java/lang/String")) (by decide) (by decide)))).other W28 (Or.inr (slot_ne (Or.inr (wd152 hw)) (Or.inr (wd169 hw)) (by decide) (t := (.object "java/lang/String")) (t' := (.object cn9)) (by decide) (by decide))))
  have f31 := ((((Fw8.other W13 (Or.inr (slot_ne (Or.inr (wd155 hw)) (Or.inr (wd159 hw)) (by decide) (t := (.object "java/lang/String")) (t' := (.object "java/lang/String")) (by decide) (by decide)))).other W18 (Or.inr (slot_ne (Or.inr (wd155 hw)) (Or.inr (wd162 hw)) (by decide) (t := (.object "java/lang/String")) (t' := (.object cn14)) (by decide) (by decide)))).other W23 (Or.inr (slot_ne (Or.inr (wd155 hw)) (Or.inr (wd165 hw)) (by decide) (t := (.object "java/lang/String")) (t' := (.object "java/lang/String")) (by decide) (by decide)))).other W28 (Or.inr (slot_ne (Or.inr (wd155 hw)) (Or.inr (wd169 hw)) (by decide) (t := (.object "java/lang/String")) (t' := (.object cn9)) (by decide) (by decide))))
  have f32 := (((Fw13.other W18 (Or.inr (slot_ne (Or.inr (wd159 hw)) (Or.inr (wd162 hw)) (by decide) (t := (.object "java/lang/String")) (t' := (.object cn14)) (by decide) (by decide)))).other W23 (Or.inr (slot_ne (Or.inr (wd159 hw)) (Or.inr (wd165 hw)) (by decide) (t := (.object "java/lang/String")) (t' := (.object "java/lang/String")) (by decide) (by decide)))).other W28 (Or.inr (slot_ne (Or.inr (wd159 hw)) (Or.inr (wd169 hw)) (by decide) (t := (.object "java/lang/String")) (t' := (.object cn9)) (by decide) (by decide))))
  have f33 := ((Fw18.other W23 (Or.inr (slot_ne (Or.inr (wd162 hw)) (Or.inr (wd165 hw)) (by decide) (t := (.object cn14)) (t' := (.object "java/lang/String")) (by decide) (by decide)))).other W28 (Or.inr (slot_ne (Or.inr (wd162 hw)) (Or.inr (wd169 hw)) (by decide) (t := (.object cn14)) (t' := (.object cn9)) (by decide) (by decide))))
  have f34 := (Fw23.other W28 (Or.inr (slot_ne (Or.inr (wd165 hw)) (Or.inr (wd169 hw)) (by decide) (t := (.object "java/lang/String")) (t' := (.object cn9)) (by decide) (by decide))))
  obtain ⟨lfs, lhr, lhrun, lhended, lhW, lhsame⟩ := X28.leave (v := none) (fun _ => rfl)
  refine ⟨_, _, pre0 _ ?_, lhrun, lhended, _, _, rfl, ?_, ⟨_, rfl⟩, lhW, lhsame.mono (by decide) (by decide)⟩
  · skip
    show Steps p.tables e below (s₁.setTop (mkF m 0 #[.val (.ref o0), .val (.ref o1)] [])) _
    refine XS.aloadN X0.here hx rfl (hb hby dr_0) rfl rfl ?_
    show Steps p.tables e below (s₁.setTop (mkF m 1 #[.val (.ref o0), .val (.ref o1)] [(.ref o0)])) _
    refine st1 _ ?_
    show Steps p.tables e below (T1.setTop (mkF m 4 #[.val (.ref o0), .val (.ref o1)] [])) _
    refine XS.aloadN X1.here hx rfl (hb hby dr_4) rfl rfl ?_
    show Steps p.tables e below (T1.setTop (mkF m 5 #[.val (.ref o0), .val (.ref o1)] [(.ref o0)])) _
    refine XS.aloadN X1.here hx rfl (hb hby dr_5) rfl rfl ?_
    show Steps p.tables e below (T1.setTop (mkF m 6 #[.val (.ref o0), .val (.ref o1)] [(.ref o1), (.ref o0)])) _
    refine st2 _ ?_
    show Steps p.tables e below (T2.setTop (mkF m 9 #[.val (.ref o0), .val (.ref o1)] [u2, (.ref o0)])) _
    refine st3 _ ?_
    show Steps p.tables e below (T3.setTop (mkF m 12 #[.val (.ref o0), .val (.ref o1)] [])) _
    refine XS.aloadN X3.here hx rfl (hb hby dr_12) rfl rfl ?_
    show Steps p.tables e below (T3.setTop (mkF m 13 #[.val (.ref o0), .val (.ref o1)] [(.ref o0)])) _
    refine XS.aloadN X3.here hx rfl (hb hby dr_13) rfl rfl ?_
    show Steps p.tables e below (T3.setTop (mkF m 14 #[.val (.ref o0), .val (.ref o1)] [(.ref o1), (.ref o0)])) _
    refine st5 _ ?_
    show Steps p.tables e below (T5.setTop (mkF m 17 #[.val (.ref o0), .val (.ref o1)] [u3, (.ref o0)])) _
    refine st8 _ ?_
    show Steps p.tables e below (T8.setTop (mkF m 20 #[.val (.ref o0), .val (.ref o1)] [])) _
    refine XS.aloadN X8.here hx rfl (hb hby dr_20) rfl rfl ?_
    show Steps p.tables e below (T8.setTop (mkF m 21 #[.val (.ref o0), .val (.ref o1)] [(.ref o0)])) _
    refine XS.aloadN X8.here hx rfl (hb hby dr_21) rfl rfl ?_
    show Steps p.tables e below (T8.setTop (mkF m 22 #[.val (.ref o0), .val (.ref o1)] [(.ref o1), (.ref o0)])) _
    refine st10 _ ?_
    show Steps p.tables e below (T10.setTop (mkF m 25 #[.val (.ref o0), .val (.ref o1)] [.null, (.ref o0)])) _
    refine st13 _ ?_
    show Steps p.tables e below (T13.setTop (mkF m 28 #[.val (.ref o0), .val (.ref o1)] [])) _
    refine XS.aloadN X13.here hx rfl (hb hby dr_28) rfl rfl ?_
    show Steps p.tables e below (T13.setTop (mkF m 29 #[.val (.ref o0), .val (.ref o1)] [(.ref o0)])) _
    refine XS.aloadN X13.here hx rfl (hb hby dr_29) rfl rfl ?_
    show Steps p.tables e below (T13.setTop (mkF m 30 #[.val (.ref o0), .val (.ref o1)] [(.ref o1), (.ref o0)])) _
    refine st15 _ ?_
    show Steps p.tables e below (T15.setTop (mkF m 33 #[.val (.ref o0), .val (.ref o1)] [.null, (.ref o0)])) _
    refine st18 _ ?_
    show Steps p.tables e below (T18.setTop (mkF m 36 #[.val (.ref o0), .val (.ref o1)] [])) _
    refine XS.aloadN X18.here hx rfl (hb hby dr_36) rfl rfl ?_
    show Steps p.tables e below (T18.setTop (mkF m 37 #[.val (.ref o0), .val (.ref o1)] [(.ref o0)])) _
    refine XS.aloadN X18.here hx rfl (hb hby dr_37) rfl rfl ?_
    show Steps p.tables e below (T18.setTop (mkF m 38 #[.val (.ref o0), .val (.ref o1)] [(.ref o1), (.ref o0)])) _
    refine st20 _ ?_
    show Steps p.tables e below (T20.setTop (mkF m 41 #[.val (.ref o0), .val (.ref o1)] [u4, (.ref o0)])) _
    refine st23 _ ?_
    show Steps p.tables e below (T23.setTop (mkF m 44 #[.val (.ref o0), .val (.ref o1)] [])) _
    refine XS.aloadN X23.here hx rfl (hb hby dr_44) rfl rfl ?_
    show Steps p.tables e below (T23.setTop (mkF m 45 #[.val (.ref o0), .val (.ref o1)] [(.ref o0)])) _
    refine XS.aloadN X23.here hx rfl (hb hby dr_45) rfl rfl ?_
    show Steps p.tables e below (T23.setTop (mkF m 46 #[.val (.ref o0), .val (.ref o1)] [(.ref o1), (.ref o0)])) _
    refine st25 _ ?_
    show Steps p.tables e below (T25.setTop (mkF m 49 #[.val (.ref o0), .val (.ref o1)] [.null, (.ref o0)])) _
    refine st28 _ ?_
    show Steps p.tables e below (T28.setTop (mkF m 52 #[.val (.ref o0), .val (.ref o1)] [])) _
    exact X28.returnOut hx Bd.returns (hb hby dr_52) lhr
  · skip
    show QA40 Z o0 o1 u2 u3 u4 h0 n0 _ T28.heap _
    rw [e28]
    exact ⟨rfl, N28, K28, f29, f30, f31, f32, f33, f34, Fw28⟩
theorem dz_8 : decode prog_8_method_8_code 8 = .ok (.areturn, 1) := by decide +kernel
def QA39 (Z : State) (o0 : Addr) (u1 : Value) (u2 : Value) (u3 : Value) (h0 : Heap) (n0 : Nat) (v : Option Value) (h : Heap) (L : List Loc) : Prop := ∃ (b1 : Addr), v = some (.ref b1) ∧ Fr n0 L ∧ Keep h0 h [] ∧ h0.size ≤ b1 ∧ Exa Z h b1 cn13 ∧ Fld Z h b1 cn13 "code" "Ljava/lang/String;" u1 ∧ Fld Z h b1 cn13 "message" "Ljava/lang/String;" u2 ∧ Fld Z h b1 cn13 "type" "Ljava/lang/String;" .null ∧ Fld Z h b1 cn13 "target" cn11 .null ∧ Fld Z h b1 cn13 "moreInfo" "Ljava/lang/String;" u3 ∧ Fld Z h b1 cn13 "constraint" cn7 .null
set_option maxRecDepth 65536 in
set_option maxHeartbeats 40000000 in
theorem rmA39 (l : Launch) (Z : State) (a0 : Array Value) (hw : ∀ d ∈ tables_1, d.before a0 Z = true) (ws : List Jvm.Cond) (o0 : Addr) (u1 : Value) (u2 : Value) (u3 : Value) (h0 : Heap) (n0 : Nat) (Z0 : n0 ≤ h0.size) (F_o0_code : Fld Z h0 o0 cn6 "code" "Ljava/lang/String;" u1) (F_o0_message : Fld Z h0 o0 cn6 "message" "Ljava/lang/String;" u2) (F_o0_type : Fld Z h0 o0 cn6 "type" "Ljava/lang/String;" .null) (F_o0_target : Fld Z h0 o0 cn6 "target" cn11 .null) (F_o0_moreInfo : Fld Z h0 o0 cn6 "moreInfo" "Ljava/lang/String;" u3) (F_o0_constraint : Fld Z h0 o0 cn6 "constraint" cn7 .null) (r_u1 : u1.isRef = true) (r_u2 : u2.isRef = true) (r_u3 : u3.isRef = true) :
    MetFree l mn8 (head1 (Jvm.Cond.code mn8 prog_8_method_8_code 1 (some (.object cn13)) :: ws) ({ frames := 2, cells := 1, slots := 6, locals := 26 } : Room)) (fun a U => a = #[(.ref o0)] ∧ Z.Warmed39 U.vm ∧ U.heap = h0) (fun _ _ _ _ _ => True) (fun _ U oc_ U' => ∃ v L, oc_ = .returned v ∧ QA39 Z o0 u1 u2 u3 h0 n0 v U'.heap L ∧ FrameEnd U oc_ U' L ({ frames := 2, cells := 1, slots := 6, locals := 26 } : Room).cells ({ frames := 2, cells := 1, slots := 6, locals := 26 } : Room).slots) := by
  refine MetFree.of_bodySF (plainFor_of_name pn_com_example_typed_api_errors_typedapierrors_error_Detail_Builder) hisR ?_
  intro p e s m args below meth c s₁ Bd hml0 hP hK
  obtain ⟨rfl, hZ, hh⟩ := hP
  have hx := Bd.exec
  have hby := Bd.bytes
  have hml : c.maxLocals = 1 := hml0
  have hown : s.vm.findClass cn6 = some m.cls := findClass_of_methodNamed Bd.named
  have hnm := (name_of_methodNamed Bd.named Bd.method).1
  have X0 : Stand p l e ({ frames := 2, cells := 1, slots := 6, locals := 26 } : Room) s m #[(.ref o0)] below meth c s₁ [] 0 0 := Stand.of_body Bd
  have e0 : s₁.heap = h0 := by rw [← hh, Bd.state]; rfl
  have N0 := Fr.nil n0
  have pre0 : ∀ t, Steps p.tables e below (s₁.setTop (mkF m 0 #[.val (.ref o0)] [])) t → Steps p.tables e below (s₁.setTop (entryFrame m #[(.ref o0)] 1)) t := fun t k => castTop (efa_prog_8_method_8_code_v m o0) k
  obtain ⟨T1, h1, X1, e1, E1, A1, D1, -, st1⟩ := newO X0 hx hZ hown (wd143 hw) (wd144 hw) (wd145 hw) e0 (g := (mkF m 0 #[.val (.ref o0)] [])) rfl (hb hby dz_0) (by decide) (by decide)
  obtain ⟨b1, g1⟩ : ∃ z, z = h0.size := ⟨_, rfl⟩
  rw [← g1] at A1 D1 st1
  have ge_b1 : n0 ≤ b1 := Nat.le_trans Z0 (Nat.le_of_eq g1.symm)
  have sz_b1 : h0.size ≤ b1 := Nat.le_trans (Nat.le_refl _) (Nat.le_of_eq g1.symm)
  have Z1 : n0 ≤ h1.size := Nat.le_trans Z0 E1.1
  have K1 : Keep h0 h1 [] := ((Keep.refl h0 []).ext E1)
  have F1_code : Fld Z h1 b1 cn13 "code" "Ljava/lang/String;" .null := D1 (Or.inr (wd152 hw)) (ty := (.object "java/lang/String")) (by decide)
  have F1_message : Fld Z h1 b1 cn13 "message" "Ljava/lang/String;" .null := D1 (Or.inr (wd155 hw)) (ty := (.object "java/lang/String")) (by decide)
  have F1_type : Fld Z h1 b1 cn13 "type" "Ljava/lang/String;" .null := D1 (Or.inr (wd159 hw)) (ty := (.object "java/lang/String")) (by decide)
  have F1_target : Fld Z h1 b1 cn13 "target" cn11 .null := D1 (Or.inr (wd162 hw)) (ty := (.object cn14)) (by decide)
  have F1_moreInfo : Fld Z h1 b1 cn13 "moreInfo" "Ljava/lang/String;" .null := D1 (Or.inr (wd165 hw)) (ty := (.object "java/lang/String")) (by decide)
  have F1_constraint : Fld Z h1 b1 cn13 "constraint" cn7 .null := D1 (Or.inr (wd169 hw)) (ty := (.object cn9)) (by decide)
  have f2 := (F_o0_code.ext E1)
  have f3 := (F_o0_message.ext E1)
  have f4 := (F_o0_type.ext E1)
  have f5 := (F_o0_target.ext E1)
  have f6 := (F_o0_moreInfo.ext E1)
  have f7 := (F_o0_constraint.ext E1)
  obtain ⟨_, _, ⟨T8, L8, kc8, ks8⟩, -, X8, ⟨Lc8, hQ8, l8, y8, z8⟩, st8⟩ := X1.specialBackNest hx (y := mn0) rfl hown (Cond.methodLinkNest_wide hZ (wd146 hw) :) (mvT hZ (wd147 hw)) (mvT hZ (wd148 hw)) (by decide) (backOf (W := 1) (rmA40 l Z a0 hw [] b1 o0 u1 u2 u3 h1 n0 Z1 f2 A1 F1_code r_u1 ge_b1 f3 (Nat.ne_of_lt (Nat.lt_of_lt_of_le F_o0_code.lt sz_b1)) F1_message r_u2 f4 F1_type f5 F1_target f6 F1_moreInfo r_u3 f7 F1_constraint) hZ (wd148 hw) (wd145 hw) (by decide) (by decide)) (g := (mkF m 5 #[.val (.ref o0)] [(.ref o0), (.ref b1), (.ref b1)])) rfl (by rw [hml]; rfl) (Steps.refl _) (a := b1) (argsL := [(.ref o0)]) (rest := [(.ref b1)]) (lenOf pd__Lcom_example_typed_api_errors_typedapierrors_error_Detail_Builder__V rfl) rfl (by show 2 * 0 + _ ≤ _; exact Nat.le_of_eq rfl) (hb hby dz_5) (fun _ _ => ⟨rfl, e1, (by decide : 1 + 0 ≤ _), (by decide : 6 + 0 ≤ _)⟩)
  dsimp only [Pt.U, Pt.locs, Pt.cells, Pt.slots] at X8 l8 y8 z8 st8 hQ8
  subst l8 y8 z8
  obtain ⟨rfl, Nq8, Kq8, g8_0, g8_1, g8_2, g8_3, g8_4, g8_5, g8_6⟩ := hQ8
  have N8 := Fr.app N0 Nq8
  have Z8 : n0 ≤ T8.heap.size := Nat.le_trans Z1 Kq8.1
  have K8 : Keep h0 T8.heap [] := Keep.trans K1 Kq8 (allS (Or.inr sz_b1) all0)
  obtain ⟨lfs, lhr, lhrun, lhended, lhW, lhsame⟩ := X8.leave (v := some (.ref b1)) (fun h => by rw [Bd.returns] at h; cases h)
  refine ⟨_, _, pre0 _ ?_, lhrun, lhended, _, _, rfl, ?_, ⟨_, rfl⟩, lhW, lhsame.mono (by decide) (by decide)⟩
  · skip
    show Steps p.tables e below (s₁.setTop (mkF m 0 #[.val (.ref o0)] [])) _
    refine st1 _ ?_
    show Steps p.tables e below (T1.setTop (mkF m 3 #[.val (.ref o0)] [(.ref b1)])) _
    refine XS.dup X1.here hx rfl (hb hby dz_3) rfl rfl ?_
    refine XS.aloadN X1.here hx rfl (hb hby dz_4) rfl rfl ?_
    show Steps p.tables e below (T1.setTop (mkF m 5 #[.val (.ref o0)] [(.ref o0), (.ref b1), (.ref b1)])) _
    refine st8.trans ?_
    show Steps p.tables e below (T8.setTop (mkF m 8 #[.val (.ref o0)] [(.ref b1)])) _
    exact retOut X8 hx Bd.returns rfl (Or.inr (Or.inr (Or.inr (Or.inr ⟨rfl, rfl, rfl⟩)))) (hb hby dz_8) lhr
  · skip
    show QA39 Z o0 u1 u2 u3 h0 n0 _ T8.heap _
    skip
    exact ⟨b1, rfl, N8, K8, sz_b1, g8_0, g8_1, g8_2, g8_3, g8_4, g8_5, g8_6⟩
theorem dy_56 : decode prog_9_method_3_code 56 = .ok (.areturn, 1) := by decide +kernel
def QA32 (Z : State) (o0 : Addr) (o1 : Addr) (u2 : Value) (u3 : Value) (o4 : Addr) (u5 : Value) (o6 : Addr) (h0 : Heap) (n0 : Nat) (v : Option Value) (h : Heap) (L : List Loc) : Prop := ∃ (b1 : Addr) (b28_0 : Addr), v = some (.ref b28_0) ∧ Fr n0 L ∧ Keep h0 h [] ∧ h0.size ≤ b1 ∧ h0.size ≤ b28_0 ∧ b1 ≠ b28_0 ∧ Exa Z h b1 cn6 ∧ Fld Z h b1 cn6 "code" "Ljava/lang/String;" u2 ∧ Fld Z h b1 cn6 "message" "Ljava/lang/String;" u3 ∧ Fld Z h b1 cn6 "moreInfo" "Ljava/lang/String;" u5 ∧ Fld Z h b1 cn6 "target" cn11 .null ∧ Fld Z h b1 cn6 "type" "Ljava/lang/String;" .null ∧ Fld Z h b1 cn6 "constraint" cn7 .null ∧ Exa Z h b28_0 cn13 ∧ Fld Z h b28_0 cn13 "code" "Ljava/lang/String;" u2 ∧ Fld Z h b28_0 cn13 "message" "Ljava/lang/String;" u3 ∧ Fld Z h b28_0 cn13 "type" "Ljava/lang/String;" .null ∧ Fld Z h b28_0 cn13 "target" cn11 .null ∧ Fld Z h b28_0 cn13 "moreInfo" "Ljava/lang/String;" u5 ∧ Fld Z h b28_0 cn13 "constraint" cn7 .null
set_option maxRecDepth 65536 in
set_option maxHeartbeats 40000000 in
theorem rmA32 (l : Launch) (Z : State) (a0 : Array Value) (hw : ∀ d ∈ tables_1, d.before a0 Z = true) (ws : List Jvm.Cond) (o0 : Addr) (o1 : Addr) (u2 : Value) (u3 : Value) (o4 : Addr) (u5 : Value) (o6 : Addr) (h0 : Heap) (n0 : Nat) (Z0 : n0 ≤ h0.size) (F_o0_code : Fld Z h0 o0 cn10 "code" "Ljava/lang/String;" u2) (r_u2 : u2.isRef = true) (F_o1_value : Fld Z h0 o1 "java/util/Optional" "value" "Ljava/lang/Object;" u3) (r_u3 : u3.isRef = true) (E_o1 : Exa Z h0 o1 "java/util/Optional") (vi_u3 : ∀ a, u3 = .ref a → Exa Z h0 a "java/lang/String") (F_o0_moreInfo : Fld Z h0 o0 cn10 "moreInfo" "Ljava/util/Optional;" (.ref o4)) (F_o4_value : Fld Z h0 o4 "java/util/Optional" "value" "Ljava/lang/Object;" u5) (r_u5 : u5.isRef = true) (E_o4 : Exa Z h0 o4 "java/util/Optional") (vi_u5 : ∀ a, u5 = .ref a → Exa Z h0 a "java/lang/String") (F_o0_target : Fld Z h0 o0 cn10 "target" "Ljava/util/Optional;" (.ref o6)) (F_o6_value : Fld Z h0 o6 "java/util/Optional" "value" "Ljava/lang/Object;" .null) (E_o6 : Exa Z h0 o6 "java/util/Optional") :
    MetFree l mn14 (head1 (Jvm.Cond.code mn14 prog_9_method_3_code 2 (some (.object cn13)) :: ws) ({ frames := 3, cells := 2, slots := 12, locals := 38 } : Room)) (fun a U => a = #[(.ref o0), (.ref o1)] ∧ Z.Warmed39 U.vm ∧ U.heap = h0) (fun _ _ _ _ _ => True) (fun _ U oc_ U' => ∃ v L, oc_ = .returned v ∧ QA32 Z o0 o1 u2 u3 o4 u5 o6 h0 n0 v U'.heap L ∧ FrameEnd U oc_ U' L ({ frames := 3, cells := 2, slots := 12, locals := 38 } : Room).cells ({ frames := 3, cells := 2, slots := 12, locals := 38 } : Room).slots) := by
  refine MetFree.of_bodySF (plainFor_of_name pn_com_example_typed_api_errors_typedapierrors_error_Occurrence) hisR ?_
  intro p e s m args below meth c s₁ Bd hml0 hP hK
  obtain ⟨rfl, hZ, hh⟩ := hP
  have hx := Bd.exec
  have hby := Bd.bytes
  have hml : c.maxLocals = 2 := hml0
  have hown : s.vm.findClass cn10 = some m.cls := findClass_of_methodNamed Bd.named
  have hnm := (name_of_methodNamed Bd.named Bd.method).1
  have X0 : Stand p l e ({ frames := 3, cells := 2, slots := 12, locals := 38 } : Room) s m #[(.ref o0), (.ref o1)] below meth c s₁ [] 0 0 := Stand.of_body Bd
  have e0 : s₁.heap = h0 := by rw [← hh, Bd.state]; rfl
  have N0 := Fr.nil n0
  have pre0 : ∀ t, Steps p.tables e below (s₁.setTop (mkF m 0 #[.val (.ref o0), .val (.ref o1)] [])) t → Steps p.tables e below (s₁.setTop (entryFrame m #[(.ref o0), (.ref o1)] 2)) t := fun t k => castTop (efa_prog_9_method_3_code_vv m o0 o1) k
  obtain ⟨T1, h1, X1, e1, E1, A1, D1, -, st1⟩ := newO X0 hx hZ hown (wd96 hw) (wd97 hw) (wd98 hw) e0 (g := (mkF m 0 #[.val (.ref o0), .val (.ref o1)] [])) rfl (hb hby dy_0) (by decide) (by decide)
  obtain ⟨b1, g1⟩ : ∃ z, z = h0.size := ⟨_, rfl⟩
  rw [← g1] at A1 D1 st1
  have ge_b1 : n0 ≤ b1 := Nat.le_trans Z0 (Nat.le_of_eq g1.symm)
  have sz_b1 : h0.size ≤ b1 := Nat.le_trans (Nat.le_refl _) (Nat.le_of_eq g1.symm)
  have Z1 : n0 ≤ h1.size := Nat.le_trans Z0 E1.1
  have K1 : Keep h0 h1 [] := ((Keep.refl h0 []).ext E1)
  have F1_code : Fld Z h1 b1 cn6 "code" "Ljava/lang/String;" .null := D1 (Or.inl (wd109 hw)) (ty := (.object "java/lang/String")) (by decide)
  have F1_message : Fld Z h1 b1 cn6 "message" "Ljava/lang/String;" .null := D1 (Or.inl (wd123 hw)) (ty := (.object "java/lang/String")) (by decide)
  have F1_moreInfo : Fld Z h1 b1 cn6 "moreInfo" "Ljava/lang/String;" .null := D1 (Or.inl (wd130 hw)) (ty := (.object "java/lang/String")) (by decide)
  have F1_target : Fld Z h1 b1 cn6 "target" cn11 .null := D1 (Or.inl (wd137 hw)) (ty := (.object cn14)) (by decide)
  have F1_type : Fld Z h1 b1 cn6 "type" "Ljava/lang/String;" .null := D1 (Or.inl (wd157 hw)) (ty := (.object "java/lang/String")) (by decide)
  have F1_constraint : Fld Z h1 b1 cn6 "constraint" cn7 .null := D1 (Or.inl (wd167 hw)) (ty := (.object cn9)) (by decide)
  obtain ⟨_, _, ⟨T2, L2, kc2, ks2⟩, -, X2, ⟨Lc2, hQ2, l2, y2, z2⟩, st2⟩ := X1.specialBack hx (y := mn7) rfl hown (mvT hZ (wd99 hw)) (mvT hZ (wd100 hw)) (mvT hZ (wd101 hw)) (by decide) (backOf (W := 1) (rmA33 l Z a0 hw [] b1 h1 n0 Z1 ) hZ (wd101 hw) (wd98 hw) (by decide) (by decide)) (g := (mkF m 4 #[.val (.ref o0), .val (.ref o1)] [(.ref b1), (.ref b1)])) rfl (by rw [hml]; rfl) (Steps.refl _) (a := b1) (argsL := []) (rest := [(.ref b1)]) (lenOf pd___V rfl) rfl (by show 2 * 0 + _ ≤ _; exact Nat.le_of_eq rfl) (hb hby dy_4) (fun _ _ => ⟨rfl, e1, (by decide : 1 + 0 ≤ _), (by decide : 6 + 0 ≤ _)⟩)
  dsimp only [Pt.U, Pt.locs, Pt.cells, Pt.slots] at X2 l2 y2 z2 st2 hQ2
  subst l2 y2 z2
  obtain ⟨rfl, Nq2, eq2⟩ := hQ2
  have N2 := Fr.app N0 Nq2
  have f3 := (F_o0_code.ext E1)
  obtain ⟨T4, X4, e4, st4⟩ := getF X2 hx hZ hown (host := "") (Or.inl (wd75 hw)) Via.refl eq2 f3 (g := (mkF m 8 #[.val (.ref o0), .val (.ref o1)] [(.ref o0), (.ref b1)])) rfl rfl (hb hby dy_8)
  obtain ⟨cq5, kq5, q5a, q5b, q5c⟩ := isOf hZ e4 A1
  obtain ⟨_, _, ⟨T5, L5, kc5, ks5⟩, -, X5, ⟨Lc5, hQ5, l5, y5, z5⟩, st5⟩ := X4.virtualBack hx (y := mn9) (z := mn9) hown (mvT hZ (wd103 hw)) (mvT hZ (wd104 hw)) (notFace_of_selects (args := #[]) (mvT hZ (wd106 hw))) (mvT hZ (wd106 hw)) (mvT hZ (wd105 hw)) (by decide) (backOf (W := 0) (rmA34 l Z a0 hw [] b1 u2 .null .null .null .null .null h1 n0 Z1 r_u2 A1 F1_code ge_b1 F1_message F1_moreInfo F1_target F1_type F1_constraint) hZ (wd107 hw) (wd98 hw) (by decide) (by decide)) q5a q5c (g := (mkF m 11 #[.val (.ref o0), .val (.ref o1)] [u2, (.ref b1)])) rfl (by rw [hml]; rfl) (Steps.refl _) (argsL := [u2]) (rest := []) (lenOf pd__Ljava_lang_String__Lcom_example_typed_api_errors_typedapierrors_error_Detail_Builder_ rfl) rfl (by show 2 * 0 + _ ≤ _; exact Nat.le_of_eq rfl) (hb hby dy_11) (fun _ _ => ⟨rfl, e4, (by decide : 1 + 0 ≤ _), (by decide : 6 + 0 ≤ _)⟩)
  dsimp only [Pt.U, Pt.locs, Pt.cells, Pt.slots] at X5 l5 y5 z5 st5 hQ5
  subst l5 y5 z5
  obtain ⟨rfl, Nq5, Kq5, g5_0, g5_1, g5_2, g5_3, g5_4, g5_5, g5_6⟩ := hQ5
  have N5 := Fr.app N2 Nq5
  have Z5 : n0 ≤ T5.heap.size := Nat.le_trans Z1 Kq5.1
  have K5 : Keep h0 T5.heap [] := Keep.trans K1 Kq5 (allS (Or.inr sz_b1) all0)
  have f6 := ((F_o1_value.ext E1).keep Kq5 (ninS (Nat.ne_of_lt (Nat.lt_of_lt_of_le F_o1_value.lt sz_b1)) nin0))
  have f8 := ((E_o1.ext E1).keep Kq5)
  obtain ⟨cq7, kq7, q7a, q7b, q7c⟩ := isOf hZ rfl f8
  obtain ⟨_, _, ⟨T7, L7, kc7, ks7⟩, -, X7, ⟨Lc7, hQ7, l7, y7, z7⟩, st7⟩ := X5.virtualBack hx (y := mn32) (z := mn32) hown (mvT hZ (wd110 hw)) (mvT hZ (wd111 hw)) (notFace_of_selects (args := #[]) (mvT hZ (wd113 hw))) (mvT hZ (wd113 hw)) (mvT hZ (wd112 hw)) (by decide) (backOf (W := 1) (rmOrE l Z a0 hw [] o1 u3 T5.heap n0 Z5 f6 r_u3) hZ (wd114 hw) (wd36 hw) (by decide) (by decide)) q7a q7c (g := (mkF m 16 #[.val (.ref o0), .val (.ref o1)] [.null, (.ref o1), (.ref b1)])) rfl (by rw [hml]; rfl) (Steps.refl _) (argsL := [.null]) (rest := [(.ref b1)]) (lenOf pd__Ljava_lang_Object__Ljava_lang_Object_ rfl) rfl (by show 2 * 0 + _ ≤ _; exact Nat.le_of_eq rfl) (hb hby dy_16) (fun _ _ => ⟨rfl, rfl, (by decide : 1 + 0 ≤ _), (by decide : 6 + 0 ≤ _)⟩)
  dsimp only [Pt.U, Pt.locs, Pt.cells, Pt.slots] at X7 l7 y7 z7 st7 hQ7
  subst l7 y7 z7
  obtain ⟨rfl, Nq7, eq7⟩ := hQ7
  have N7 := Fr.app N5 Nq7
  obtain ⟨T9, X9, e9, st9⟩ := own_castV X7 hx hZ hown (wd235 hw) eq7 r_u3 (fun a q => Ins.self ((vi_u3 a q).keep K5)) (g := (mkF m 19 #[.val (.ref o0), .val (.ref o1)] [u3, (.ref b1)])) rfl rfl (hb hby dy_19)
  obtain ⟨cq10, kq10, q10a, q10b, q10c⟩ := isOf hZ e9 g5_0
  obtain ⟨_, _, ⟨T10, L10, kc10, ks10⟩, -, X10, ⟨Lc10, hQ10, l10, y10, z10⟩, st10⟩ := X9.virtualBack hx (y := mn10) (z := mn10) hown (mvT hZ (wd117 hw)) (mvT hZ (wd118 hw)) (notFace_of_selects (args := #[]) (mvT hZ (wd120 hw))) (mvT hZ (wd120 hw)) (mvT hZ (wd119 hw)) (by decide) (backOf (W := 0) (rmA35 l Z a0 hw [] b1 u3 u2 .null .null .null .null T5.heap n0 Z5 r_u3 g5_0 g5_2 ge_b1 g5_1 g5_3 g5_4 g5_5 g5_6) hZ (wd121 hw) (wd98 hw) (by decide) (by decide)) q10a q10c (g := (mkF m 22 #[.val (.ref o0), .val (.ref o1)] [u3, (.ref b1)])) rfl (by rw [hml]; rfl) (Steps.refl _) (argsL := [u3]) (rest := []) (lenOf pd__Ljava_lang_String__Lcom_example_typed_api_errors_typedapierrors_error_Detail_Builder_ rfl) rfl (by show 2 * 0 + _ ≤ _; exact Nat.le_of_eq rfl) (hb hby dy_22) (fun _ _ => ⟨rfl, e9, (by decide : 1 + 0 ≤ _), (by decide : 6 + 0 ≤ _)⟩)
  dsimp only [Pt.U, Pt.locs, Pt.cells, Pt.slots] at X10 l10 y10 z10 st10 hQ10
  subst l10 y10 z10
  obtain ⟨rfl, Nq10, Kq10, g10_0, g10_1, g10_2, g10_3, g10_4, g10_5, g10_6⟩ := hQ10
  have N10 := Fr.app N7 Nq10
  have Z10 : n0 ≤ T10.heap.size := Nat.le_trans Z5 Kq10.1
  have K10 : Keep h0 T10.heap [] := Keep.trans K5 Kq10 (allS (Or.inr sz_b1) all0)
  have f11 := (((F_o0_moreInfo.ext E1).keep Kq5 (ninS (Nat.ne_of_lt (Nat.lt_of_lt_of_le F_o0_code.lt sz_b1)) nin0)).keep Kq10 (ninS (Nat.ne_of_lt (Nat.lt_of_lt_of_le F_o0_code.lt sz_b1)) nin0))
  obtain ⟨T12, X12, e12, st12⟩ := getF X10 hx hZ hown (host := "") (Or.inl (wd85 hw)) Via.refl rfl f11 (g := (mkF m 26 #[.val (.ref o0), .val (.ref o1)] [(.ref o0), (.ref b1)])) rfl rfl (hb hby dy_26)
  have f13 := (((F_o4_value.ext E1).keep Kq5 (ninS (Nat.ne_of_lt (Nat.lt_of_lt_of_le F_o4_value.lt sz_b1)) nin0)).keep Kq10 (ninS (Nat.ne_of_lt (Nat.lt_of_lt_of_le F_o4_value.lt sz_b1)) nin0))
  have f15 := (((E_o4.ext E1).keep Kq5).keep Kq10)
  obtain ⟨cq14, kq14, q14a, q14b, q14c⟩ := isOf hZ e12 f15
  obtain ⟨_, _, ⟨T14, L14, kc14, ks14⟩, -, X14, ⟨Lc14, hQ14, l14, y14, z14⟩, st14⟩ := X12.virtualBack hx (y := mn32) (z := mn32) hown (mvT hZ (wd110 hw)) (mvT hZ (wd111 hw)) (notFace_of_selects (args := #[]) (mvT hZ (wd113 hw))) (mvT hZ (wd113 hw)) (mvT hZ (wd112 hw)) (by decide) (backOf (W := 1) (rmOrE l Z a0 hw [] o4 u5 T10.heap n0 Z10 f13 r_u5) hZ (wd114 hw) (wd36 hw) (by decide) (by decide)) q14a q14c (g := (mkF m 30 #[.val (.ref o0), .val (.ref o1)] [.null, (.ref o4), (.ref b1)])) rfl (by rw [hml]; rfl) (Steps.refl _) (argsL := [.null]) (rest := [(.ref b1)]) (lenOf pd__Ljava_lang_Object__Ljava_lang_Object_ rfl) rfl (by show 2 * 0 + _ ≤ _; exact Nat.le_of_eq rfl) (hb hby dy_30) (fun _ _ => ⟨rfl, e12, (by decide : 1 + 0 ≤ _), (by decide : 6 + 0 ≤ _)⟩)
  dsimp only [Pt.U, Pt.locs, Pt.cells, Pt.slots] at X14 l14 y14 z14 st14 hQ14
  subst l14 y14 z14
  obtain ⟨rfl, Nq14, eq14⟩ := hQ14
  have N14 := Fr.app N10 Nq14
  obtain ⟨T16, X16, e16, st16⟩ := own_castV X14 hx hZ hown (wd235 hw) eq14 r_u5 (fun a q => Ins.self ((vi_u5 a q).keep K10)) (g := (mkF m 33 #[.val (.ref o0), .val (.ref o1)] [u5, (.ref b1)])) rfl rfl (hb hby dy_33)
  obtain ⟨cq17, kq17, q17a, q17b, q17c⟩ := isOf hZ e16 g10_0
  obtain ⟨_, _, ⟨T17, L17, kc17, ks17⟩, -, X17, ⟨Lc17, hQ17, l17, y17, z17⟩, st17⟩ := X16.virtualBack hx (y := mn11) (z := mn11) hown (mvT hZ (wd124 hw)) (mvT hZ (wd125 hw)) (notFace_of_selects (args := #[]) (mvT hZ (wd127 hw))) (mvT hZ (wd127 hw)) (mvT hZ (wd126 hw)) (by decide) (backOf (W := 0) (rmA36 l Z a0 hw [] b1 u5 u2 u3 .null .null .null T10.heap n0 Z10 r_u5 g10_0 g10_3 ge_b1 g10_2 g10_1 g10_4 g10_5 g10_6) hZ (wd128 hw) (wd98 hw) (by decide) (by decide)) q17a q17c (g := (mkF m 36 #[.val (.ref o0), .val (.ref o1)] [u5, (.ref b1)])) rfl (by rw [hml]; rfl) (Steps.refl _) (argsL := [u5]) (rest := []) (lenOf pd__Ljava_lang_String__Lcom_example_typed_api_errors_typedapierrors_error_Detail_Builder_ rfl) rfl (by show 2 * 0 + _ ≤ _; exact Nat.le_of_eq rfl) (hb hby dy_36) (fun _ _ => ⟨rfl, e16, (by decide : 1 + 0 ≤ _), (by decide : 6 + 0 ≤ _)⟩)
  dsimp only [Pt.U, Pt.locs, Pt.cells, Pt.slots] at X17 l17 y17 z17 st17 hQ17
  subst l17 y17 z17
  obtain ⟨rfl, Nq17, Kq17, g17_0, g17_1, g17_2, g17_3, g17_4, g17_5, g17_6⟩ := hQ17
  have N17 := Fr.app N14 Nq17
  have Z17 : n0 ≤ T17.heap.size := Nat.le_trans Z10 Kq17.1
  have K17 : Keep h0 T17.heap [] := Keep.trans K10 Kq17 (allS (Or.inr sz_b1) all0)
  have f18 := ((((F_o0_target.ext E1).keep Kq5 (ninS (Nat.ne_of_lt (Nat.lt_of_lt_of_le F_o0_code.lt sz_b1)) nin0)).keep Kq10 (ninS (Nat.ne_of_lt (Nat.lt_of_lt_of_le F_o0_code.lt sz_b1)) nin0)).keep Kq17 (ninS (Nat.ne_of_lt (Nat.lt_of_lt_of_le F_o0_code.lt sz_b1)) nin0))
  obtain ⟨T19, X19, e19, st19⟩ := getF X17 hx hZ hown (host := "") (Or.inl (wd87 hw)) Via.refl rfl f18 (g := (mkF m 40 #[.val (.ref o0), .val (.ref o1)] [(.ref o0), (.ref b1)])) rfl rfl (hb hby dy_40)
  have f20 := ((((F_o6_value.ext E1).keep Kq5 (ninS (Nat.ne_of_lt (Nat.lt_of_lt_of_le F_o6_value.lt sz_b1)) nin0)).keep Kq10 (ninS (Nat.ne_of_lt (Nat.lt_of_lt_of_le F_o6_value.lt sz_b1)) nin0)).keep Kq17 (ninS (Nat.ne_of_lt (Nat.lt_of_lt_of_le F_o6_value.lt sz_b1)) nin0))
  have f22 := ((((E_o6.ext E1).keep Kq5).keep Kq10).keep Kq17)
  obtain ⟨cq21, kq21, q21a, q21b, q21c⟩ := isOf hZ e19 f22
  obtain ⟨_, _, ⟨T21, L21, kc21, ks21⟩, -, X21, ⟨Lc21, hQ21, l21, y21, z21⟩, st21⟩ := X19.virtualBack hx (y := mn32) (z := mn32) hown (mvT hZ (wd110 hw)) (mvT hZ (wd111 hw)) (notFace_of_selects (args := #[]) (mvT hZ (wd113 hw))) (mvT hZ (wd113 hw)) (mvT hZ (wd112 hw)) (by decide) (backOf (W := 1) (rmA37 l Z a0 hw [] o6 T17.heap n0 Z17 f20) hZ (wd114 hw) (wd36 hw) (by decide) (by decide)) q21a q21c (g := (mkF m 44 #[.val (.ref o0), .val (.ref o1)] [.null, (.ref o6), (.ref b1)])) rfl (by rw [hml]; rfl) (Steps.refl _) (argsL := [.null]) (rest := [(.ref b1)]) (lenOf pd__Ljava_lang_Object__Ljava_lang_Object_ rfl) rfl (by show 2 * 0 + _ ≤ _; exact Nat.le_of_eq rfl) (hb hby dy_44) (fun _ _ => ⟨rfl, e19, (by decide : 1 + 0 ≤ _), (by decide : 6 + 0 ≤ _)⟩)
  dsimp only [Pt.U, Pt.locs, Pt.cells, Pt.slots] at X21 l21 y21 z21 st21 hQ21
  subst l21 y21 z21
  obtain ⟨rfl, Nq21, eq21⟩ := hQ21
  have N21 := Fr.app N17 Nq21
  obtain ⟨cq23, kq23, q23a, q23b, q23c⟩ := isOf hZ eq21 g17_0
  obtain ⟨_, _, ⟨T23, L23, kc23, ks23⟩, -, X23, ⟨Lc23, hQ23, l23, y23, z23⟩, st23⟩ := X21.virtualBack hx (y := mn12) (z := mn12) hown (mvT hZ (wd131 hw)) (mvT hZ (wd132 hw)) (notFace_of_selects (args := #[]) (mvT hZ (wd134 hw))) (mvT hZ (wd134 hw)) (mvT hZ (wd133 hw)) (by decide) (backOf (W := 0) (rmA38 l Z a0 hw [] b1 u2 u3 u5 .null .null T17.heap n0 Z17 g17_0 g17_4 ge_b1 g17_2 g17_3 g17_1 g17_5 g17_6) hZ (wd135 hw) (wd98 hw) (by decide) (by decide)) q23a q23c (g := (mkF m 50 #[.val (.ref o0), .val (.ref o1)] [.null, (.ref b1)])) rfl (by rw [hml]; rfl) (Steps.refl _) (argsL := [.null]) (rest := []) (lenOf pd__Lcom_example_typed_api_errors_typedapierrors_error_Target__Lcom_example_typed_api_errors_typedapierrors_error_Detail_Builder_ rfl) rfl (by show 2 * 0 + _ ≤ _; exact Nat.le_of_eq rfl) (hb hby dy_50) (fun _ _ => ⟨rfl, eq21, (by decide : 1 + 0 ≤ _), (by decide : 6 + 0 ≤ _)⟩)
  dsimp only [Pt.U, Pt.locs, Pt.cells, Pt.slots] at X23 l23 y23 z23 st23 hQ23
  subst l23 y23 z23
  obtain ⟨rfl, Nq23, Kq23, g23_0, g23_1, g23_2, g23_3, g23_4, g23_5, g23_6⟩ := hQ23
  have N23 := Fr.app N21 Nq23
  have Z23 : n0 ≤ T23.heap.size := Nat.le_trans Z17 Kq23.1
  have K23 : Keep h0 T23.heap [] := Keep.trans K17 Kq23 (allS (Or.inr sz_b1) all0)
  have f24 := ((((f3.keep Kq5 (ninS (Nat.ne_of_lt (Nat.lt_of_lt_of_le F_o0_code.lt sz_b1)) nin0)).keep Kq10 (ninS (Nat.ne_of_lt (Nat.lt_of_lt_of_le F_o0_code.lt sz_b1)) nin0)).keep Kq17 (ninS (Nat.ne_of_lt (Nat.lt_of_lt_of_le F_o0_code.lt sz_b1)) nin0)).keep Kq23 (ninS (Nat.ne_of_lt (Nat.lt_of_lt_of_le F_o0_code.lt sz_b1)) nin0))
  have f25 := (((f6.keep Kq10 (ninS (Nat.ne_of_lt (Nat.lt_of_lt_of_le F_o1_value.lt sz_b1)) nin0)).keep Kq17 (ninS (Nat.ne_of_lt (Nat.lt_of_lt_of_le F_o1_value.lt sz_b1)) nin0)).keep Kq23 (ninS (Nat.ne_of_lt (Nat.lt_of_lt_of_le F_o1_value.lt sz_b1)) nin0))
  have f26 := ((f13.keep Kq17 (ninS (Nat.ne_of_lt (Nat.lt_of_lt_of_le F_o4_value.lt sz_b1)) nin0)).keep Kq23 (ninS (Nat.ne_of_lt (Nat.lt_of_lt_of_le F_o4_value.lt sz_b1)) nin0))
  have f27 := (f20.keep Kq23 (ninS (Nat.ne_of_lt (Nat.lt_of_lt_of_le F_o6_value.lt sz_b1)) nin0))
  obtain ⟨cq28, kq28, q28a, q28b, q28c⟩ := isOf hZ rfl g23_0
  obtain ⟨_, _, ⟨T28, L28, kc28, ks28⟩, -, X28, ⟨Lc28, hQ28, l28, y28, z28⟩, st28⟩ := X23.virtualBack hx (y := mn8) (z := mn8) hown (mvT hZ (wd138 hw)) (mvT hZ (wd139 hw)) (notFace_of_selects (args := #[]) (mvT hZ (wd141 hw))) (mvT hZ (wd141 hw)) (mvT hZ (wd140 hw)) (by decide) (backOf (W := 0) (rmA39 l Z a0 hw [] b1 u2 u3 u5 T23.heap n0 Z23 g23_2 g23_3 g23_5 g23_1 g23_4 g23_6 r_u2 r_u3 r_u5) hZ (wd142 hw) (wd98 hw) (by decide) (by decide)) q28a q28c (g := (mkF m 53 #[.val (.ref o0), .val (.ref o1)] [(.ref b1)])) rfl (by rw [hml]; rfl) (Steps.refl _) (argsL := []) (rest := []) (lenOf pd___Lcom_example_typed_api_errors_typedapierrors_error_Detail_ rfl) rfl (by show 2 * 0 + _ ≤ _; exact Nat.le_of_eq rfl) (hb hby dy_53) (fun _ _ => ⟨rfl, rfl, (by decide : 1 + 1 ≤ _), (by decide : 6 + 6 ≤ _)⟩)
  dsimp only [Pt.U, Pt.locs, Pt.cells, Pt.slots] at X28 l28 y28 z28 st28 hQ28
  subst l28 y28 z28
  obtain ⟨b28_0, rfl, Nq28, Kq28, sz28_0, g28_0, g28_1, g28_2, g28_3, g28_4, g28_5, g28_6⟩ := hQ28
  have N28 := Fr.app N23 Nq28
  have Z28 : n0 ≤ T28.heap.size := Nat.le_trans Z23 Kq28.1
  have K28 : Keep h0 T28.heap [] := Keep.trans K23 Kq28 all0
  have ne_b1_b28_0 : b1 ≠ b28_0 := Nat.ne_of_lt (Nat.lt_of_lt_of_le g23_0.lt sz28_0)
  have ne_o0_b28_0 : o0 ≠ b28_0 := Nat.ne_of_lt (Nat.lt_of_lt_of_le f24.lt sz28_0)
  have ne_o1_b28_0 : o1 ≠ b28_0 := Nat.ne_of_lt (Nat.lt_of_lt_of_le f25.lt sz28_0)
  have ne_o4_b28_0 : o4 ≠ b28_0 := Nat.ne_of_lt (Nat.lt_of_lt_of_le f26.lt sz28_0)
  have ne_o6_b28_0 : o6 ≠ b28_0 := Nat.ne_of_lt (Nat.lt_of_lt_of_le f27.lt sz28_0)
  have ge_b28_0 : n0 ≤ b28_0 := Nat.le_trans Z23 sz28_0
  have sz_b28_0 : h0.size ≤ b28_0 := Nat.le_trans K23.1 sz28_0
  have f29 := (g23_0.keep Kq28)
  have f30 := (g23_2.keep Kq28 nin0)
  have f31 := (g23_3.keep Kq28 nin0)
  have f32 := (g23_4.keep Kq28 nin0)
  have f33 := (g23_1.keep Kq28 nin0)
  have f34 := (g23_5.keep Kq28 nin0)
  have f35 := (g23_6.keep Kq28 nin0)
  obtain ⟨lfs, lhr, lhrun, lhended, lhW, lhsame⟩ := X28.leave (v := some (.ref b28_0)) (fun h => by rw [Bd.returns] at h; cases h)
  refine ⟨_, _, pre0 _ ?_, lhrun, lhended, _, _, rfl, ?_, ⟨_, rfl⟩, lhW, lhsame.mono (by decide) (by decide)⟩
  · skip
    show Steps p.tables e below (s₁.setTop (mkF m 0 #[.val (.ref o0), .val (.ref o1)] [])) _
    refine st1 _ ?_
    show Steps p.tables e below (T1.setTop (mkF m 3 #[.val (.ref o0), .val (.ref o1)] [(.ref b1)])) _
    refine XS.dup X1.here hx rfl (hb hby dy_3) rfl rfl ?_
    show Steps p.tables e below (T1.setTop (mkF m 4 #[.val (.ref o0), .val (.ref o1)] [(.ref b1), (.ref b1)])) _
    refine st2.trans ?_
    show Steps p.tables e below (T2.setTop (mkF m 7 #[.val (.ref o0), .val (.ref o1)] [(.ref b1)])) _
    refine XS.aloadN X2.here hx rfl (hb hby dy_7) rfl rfl ?_
    show Steps p.tables e below (T2.setTop (mkF m 8 #[.val (.ref o0), .val (.ref o1)] [(.ref o0), (.ref b1)])) _
    refine st4 _ ?_
    show Steps p.tables e below (T4.setTop (mkF m 11 #[.val (.ref o0), .val (.ref o1)] [u2, (.ref b1)])) _
    refine st5.trans ?_
    show Steps p.tables e below (T5.setTop (mkF m 14 #[.val (.ref o0), .val (.ref o1)] [(.ref b1)])) _
    refine XS.aloadN X5.here hx rfl (hb hby dy_14) rfl rfl ?_
    show Steps p.tables e below (T5.setTop (mkF m 15 #[.val (.ref o0), .val (.ref o1)] [(.ref o1), (.ref b1)])) _
    refine XS.aconstNull X5.here hx rfl (hb hby dy_15) ?_
    show Steps p.tables e below (T5.setTop (mkF m 16 #[.val (.ref o0), .val (.ref o1)] [.null, (.ref o1), (.ref b1)])) _
    refine st7.trans ?_
    show Steps p.tables e below (T7.setTop (mkF m 19 #[.val (.ref o0), .val (.ref o1)] [u3, (.ref b1)])) _
    refine st9 _ ?_
    show Steps p.tables e below (T9.setTop (mkF m 22 #[.val (.ref o0), .val (.ref o1)] [u3, (.ref b1)])) _
    refine st10.trans ?_
    show Steps p.tables e below (T10.setTop (mkF m 25 #[.val (.ref o0), .val (.ref o1)] [(.ref b1)])) _
    refine XS.aloadN X10.here hx rfl (hb hby dy_25) rfl rfl ?_
    show Steps p.tables e below (T10.setTop (mkF m 26 #[.val (.ref o0), .val (.ref o1)] [(.ref o0), (.ref b1)])) _
    refine st12 _ ?_
    show Steps p.tables e below (T12.setTop (mkF m 29 #[.val (.ref o0), .val (.ref o1)] [(.ref o4), (.ref b1)])) _
    refine XS.aconstNull X12.here hx rfl (hb hby dy_29) ?_
    show Steps p.tables e below (T12.setTop (mkF m 30 #[.val (.ref o0), .val (.ref o1)] [.null, (.ref o4), (.ref b1)])) _
    refine st14.trans ?_
    show Steps p.tables e below (T14.setTop (mkF m 33 #[.val (.ref o0), .val (.ref o1)] [u5, (.ref b1)])) _
    refine st16 _ ?_
    show Steps p.tables e below (T16.setTop (mkF m 36 #[.val (.ref o0), .val (.ref o1)] [u5, (.ref b1)])) _
    refine st17.trans ?_
    show Steps p.tables e below (T17.setTop (mkF m 39 #[.val (.ref o0), .val (.ref o1)] [(.ref b1)])) _
    refine XS.aloadN X17.here hx rfl (hb hby dy_39) rfl rfl ?_
    show Steps p.tables e below (T17.setTop (mkF m 40 #[.val (.ref o0), .val (.ref o1)] [(.ref o0), (.ref b1)])) _
    refine st19 _ ?_
    show Steps p.tables e below (T19.setTop (mkF m 43 #[.val (.ref o0), .val (.ref o1)] [(.ref o6), (.ref b1)])) _
    refine XS.aconstNull X19.here hx rfl (hb hby dy_43) ?_
    show Steps p.tables e below (T19.setTop (mkF m 44 #[.val (.ref o0), .val (.ref o1)] [.null, (.ref o6), (.ref b1)])) _
    refine st21.trans ?_
    show Steps p.tables e below (T21.setTop (mkF m 47 #[.val (.ref o0), .val (.ref o1)] [.null, (.ref b1)])) _
    refine X21.checkcastNull hx (g := (mkF m 47 #[.val (.ref o0), .val (.ref o1)] [.null, (.ref b1)])) rfl rfl (hb hby dy_47) _ ?_
    show Steps p.tables e below (T21.setTop (mkF m 50 #[.val (.ref o0), .val (.ref o1)] [.null, (.ref b1)])) _
    refine st23.trans ?_
    show Steps p.tables e below (T23.setTop (mkF m 53 #[.val (.ref o0), .val (.ref o1)] [(.ref b1)])) _
    refine st28.trans ?_
    show Steps p.tables e below (T28.setTop (mkF m 56 #[.val (.ref o0), .val (.ref o1)] [(.ref b28_0)])) _
    exact retOut X28 hx Bd.returns rfl (Or.inr (Or.inr (Or.inr (Or.inr ⟨rfl, rfl, rfl⟩)))) (hb hby dy_56) lhr
  · skip
    show QA32 Z o0 o1 u2 u3 o4 u5 o6 h0 n0 _ T28.heap _
    skip
    exact ⟨b1, b28_0, rfl, N28, K28, sz_b1, sz_b28_0, ne_b1_b28_0, f29, f30, f31, f32, f33, f34, f35, g28_0, g28_1, g28_2, g28_3, g28_4, g28_5, g28_6⟩
theorem efa_prog_7_method_2_code_v (m : MethodId) (x0 : Addr) : entryFrame m #[(.ref x0)] 1 = mkF m 0 #[.val (.ref x0)] [] := by first | (simp [entryFrame, mkF, argsToLocals, Value.category]; done) | rfl
theorem dc_1_0 : decode prog_7_method_2_code 0 = .ok (.aload_n 0, 1) := by decide +kernel
theorem dc_1_1 : decode prog_7_method_2_code 1 = .ok (.getfield 13, 3) := by decide +kernel
theorem dc_1_4 : decode prog_7_method_2_code 4 = .ok (.invokestatic 38, 3) := by decide +kernel
theorem dc_1_7 : decode prog_7_method_2_code 7 = .ok (.areturn, 1) := by decide +kernel
def QA41 (Z : State) (o0 : Addr) (u1 : Value) (o2 : Addr) (h0 : Heap) (n0 : Nat) (v : Option Value) (h : Heap) (L : List Loc) : Prop := ∃ (c2 : Addr), v = some (.ref c2) ∧ Fr n0 L ∧ Keep h0 h [] ∧ Exa Z h c2 "java/util/Optional" ∧ Fld Z h c2 "java/util/Optional" "value" "Ljava/lang/Object;" u1
set_option maxRecDepth 65536 in
set_option maxHeartbeats 40000000 in
theorem rmA41 (l : Launch) (Z : State) (a0 : Array Value) (hw : ∀ d ∈ tables_1, d.before a0 Z = true) (ws : List Jvm.Cond) (o0 : Addr) (u1 : Value) (o2 : Addr) (h0 : Heap) (n0 : Nat) (Z0 : n0 ≤ h0.size) (F_o0_code : Fld Z h0 o0 cn13 "code" "Ljava/lang/String;" u1) (SZ_EMPTY : Sta Z Z.heap "java/util/Optional" "EMPTY" "Ljava/util/Optional;" (.ref o2)) (X00 : Old Z n0 h0) (E_o2 : Exa Z h0 o2 "java/util/Optional") (F_o2_value : Fld Z h0 o2 "java/util/Optional" "value" "Ljava/lang/Object;" .null) (r_u1 : u1.isRef = true) :
    MetFree l mn1 (head1 (Jvm.Cond.code mn1 prog_7_method_2_code 1 (some (.object "java/util/Optional")) :: ws) ({ frames := 3, cells := 1, slots := 1, locals := 41 } : Room)) (fun a U => a = #[(.ref o0)] ∧ Z.Warmed39 U.vm ∧ U.heap = h0) (fun _ _ _ _ _ => True) (fun _ U oc_ U' => ∃ v L, oc_ = .returned v ∧ QA41 Z o0 u1 o2 h0 n0 v U'.heap L ∧ FrameEnd U oc_ U' L ({ frames := 3, cells := 1, slots := 1, locals := 41 } : Room).cells ({ frames := 3, cells := 1, slots := 1, locals := 41 } : Room).slots) := by
  refine MetFree.of_bodySF (plainFor_of_name pn_com_example_typed_api_errors_typedapierrors_error_Detail) hisR ?_
  intro p e s m args below meth c s₁ Bd hml0 hP hK
  obtain ⟨rfl, hZ, hh⟩ := hP
  have hx := Bd.exec
  have hby := Bd.bytes
  have hml : c.maxLocals = 1 := hml0
  have hown : s.vm.findClass cn13 = some m.cls := findClass_of_methodNamed Bd.named
  have hnm := (name_of_methodNamed Bd.named Bd.method).1
  have X0 : Stand p l e ({ frames := 3, cells := 1, slots := 1, locals := 41 } : Room) s m #[(.ref o0)] below meth c s₁ [] 0 0 := Stand.of_body Bd
  have e0 : s₁.heap = h0 := by rw [← hh, Bd.state]; rfl
  have N0 := Fr.nil n0
  have pre0 : ∀ t, Steps p.tables e below (s₁.setTop (mkF m 0 #[.val (.ref o0)] [])) t → Steps p.tables e below (s₁.setTop (entryFrame m #[(.ref o0)] 1)) t := fun t k => castTop (efa_prog_7_method_2_code_v m o0) k
  obtain ⟨T1, X1, e1, st1⟩ := getF X0 hx hZ hown (host := "") (Or.inl (wd151 hw)) Via.refl e0 F_o0_code (g := (mkF m 1 #[.val (.ref o0)] [(.ref o0)])) rfl rfl (hb hby dc_1_1)
  obtain ⟨_, _, ⟨T2, L2, kc2, ks2⟩, -, X2, ⟨Lc2, hQ2, l2, y2, z2⟩, st2⟩ := Jvm.LawKit.callS X1 hx (y := mn31) hown (mvT hZ (wd175 hw)) (mvT hZ (wd176 hw)) (mvT hZ (wd36 hw)) (mvT hZ (wd177 hw)) (by decide) (backOf (W := 0) (rmOfN l Z a0 hw [] u1 o2 h0 n0 Z0 (SZ_EMPTY.ext X00.2) E_o2 F_o2_value r_u1) hZ (wd177 hw) (wd36 hw) (by decide) (by decide)) (g := (mkF m 4 #[.val (.ref o0)] [u1])) rfl (by rw [hml]; rfl) (argsL := [u1]) (rest := []) (lenOf pd__Ljava_lang_Object__Ljava_util_Optional_ rfl) rfl (by show 2 * 0 + _ ≤ _; exact Nat.le_of_eq rfl) (hb hby dc_1_4) (fun _ _ => ⟨rfl, e1, (by decide : 0 + 1 ≤ _), (by decide : 0 + 1 ≤ _)⟩)
  dsimp only [Pt.U, Pt.locs, Pt.cells, Pt.slots] at X2 l2 y2 z2 st2 hQ2
  subst l2 y2 z2
  obtain ⟨c2, rfl, Nq2, Kq2, gE2, gF2⟩ := hQ2
  have N2 := Fr.app N0 Nq2
  have Z2 : n0 ≤ T2.heap.size := Nat.le_trans Z0 Kq2.1
  have K2 : Keep h0 T2.heap [] := Keep.trans (Keep.refl h0 []) Kq2 all0
  obtain ⟨lfs, lhr, lhrun, lhended, lhW, lhsame⟩ := X2.leave (v := some (.ref c2)) (fun h => by rw [Bd.returns] at h; cases h)
  refine ⟨_, _, pre0 _ ?_, lhrun, lhended, _, _, rfl, ?_, ⟨_, rfl⟩, lhW, lhsame.mono (by decide) (by decide)⟩
  · skip
    show Steps p.tables e below (s₁.setTop (mkF m 0 #[.val (.ref o0)] [])) _
    refine XS.aloadN X0.here hx rfl (hb hby dc_1_0) rfl rfl ?_
    show Steps p.tables e below (s₁.setTop (mkF m 1 #[.val (.ref o0)] [(.ref o0)])) _
    refine st1 _ ?_
    show Steps p.tables e below (T1.setTop (mkF m 4 #[.val (.ref o0)] [u1])) _
    refine st2 _ ?_
    show Steps p.tables e below (T2.setTop (mkF m 7 #[.val (.ref o0)] [(.ref c2)])) _
    exact retOut X2 hx Bd.returns rfl (Or.inr (Or.inr (Or.inr (Or.inr ⟨rfl, rfl, rfl⟩)))) (hb hby dc_1_7) lhr
  · skip
    show QA41 Z o0 u1 o2 h0 n0 _ T2.heap _
    skip
    exact ⟨c2, rfl, N2, K2, gE2, gF2⟩
theorem efa_prog_7_method_3_code_v (m : MethodId) (x0 : Addr) : entryFrame m #[(.ref x0)] 1 = mkF m 0 #[.val (.ref x0)] [] := by first | (simp [entryFrame, mkF, argsToLocals, Value.category]; done) | rfl
theorem dq_0 : decode prog_7_method_3_code 0 = .ok (.aload_n 0, 1) := by decide +kernel
theorem dq_1 : decode prog_7_method_3_code 1 = .ok (.getfield 19, 3) := by decide +kernel
theorem dq_4 : decode prog_7_method_3_code 4 = .ok (.invokestatic 38, 3) := by decide +kernel
theorem dq_7 : decode prog_7_method_3_code 7 = .ok (.areturn, 1) := by decide +kernel
def QA42 (Z : State) (o0 : Addr) (u1 : Value) (o2 : Addr) (h0 : Heap) (n0 : Nat) (v : Option Value) (h : Heap) (L : List Loc) : Prop := ∃ (c2 : Addr), v = some (.ref c2) ∧ Fr n0 L ∧ Keep h0 h [] ∧ Exa Z h c2 "java/util/Optional" ∧ Fld Z h c2 "java/util/Optional" "value" "Ljava/lang/Object;" u1
set_option maxRecDepth 65536 in
set_option maxHeartbeats 40000000 in
theorem rmA42 (l : Launch) (Z : State) (a0 : Array Value) (hw : ∀ d ∈ tables_1, d.before a0 Z = true) (ws : List Jvm.Cond) (o0 : Addr) (u1 : Value) (o2 : Addr) (h0 : Heap) (n0 : Nat) (Z0 : n0 ≤ h0.size) (F_o0_message : Fld Z h0 o0 cn13 "message" "Ljava/lang/String;" u1) (SZ_EMPTY : Sta Z Z.heap "java/util/Optional" "EMPTY" "Ljava/util/Optional;" (.ref o2)) (X00 : Old Z n0 h0) (E_o2 : Exa Z h0 o2 "java/util/Optional") (F_o2_value : Fld Z h0 o2 "java/util/Optional" "value" "Ljava/lang/Object;" .null) (r_u1 : u1.isRef = true) :
    MetFree l mn3 (head1 (Jvm.Cond.code mn3 prog_7_method_3_code 1 (some (.object "java/util/Optional")) :: ws) ({ frames := 3, cells := 1, slots := 1, locals := 41 } : Room)) (fun a U => a = #[(.ref o0)] ∧ Z.Warmed39 U.vm ∧ U.heap = h0) (fun _ _ _ _ _ => True) (fun _ U oc_ U' => ∃ v L, oc_ = .returned v ∧ QA42 Z o0 u1 o2 h0 n0 v U'.heap L ∧ FrameEnd U oc_ U' L ({ frames := 3, cells := 1, slots := 1, locals := 41 } : Room).cells ({ frames := 3, cells := 1, slots := 1, locals := 41 } : Room).slots) := by
  refine MetFree.of_bodySF (plainFor_of_name pn_com_example_typed_api_errors_typedapierrors_error_Detail) hisR ?_
  intro p e s m args below meth c s₁ Bd hml0 hP hK
  obtain ⟨rfl, hZ, hh⟩ := hP
  have hx := Bd.exec
  have hby := Bd.bytes
  have hml : c.maxLocals = 1 := hml0
  have hown : s.vm.findClass cn13 = some m.cls := findClass_of_methodNamed Bd.named
  have hnm := (name_of_methodNamed Bd.named Bd.method).1
  have X0 : Stand p l e ({ frames := 3, cells := 1, slots := 1, locals := 41 } : Room) s m #[(.ref o0)] below meth c s₁ [] 0 0 := Stand.of_body Bd
  have e0 : s₁.heap = h0 := by rw [← hh, Bd.state]; rfl
  have N0 := Fr.nil n0
  have pre0 : ∀ t, Steps p.tables e below (s₁.setTop (mkF m 0 #[.val (.ref o0)] [])) t → Steps p.tables e below (s₁.setTop (entryFrame m #[(.ref o0)] 1)) t := fun t k => castTop (efa_prog_7_method_3_code_v m o0) k
  obtain ⟨T1, X1, e1, st1⟩ := getF X0 hx hZ hown (host := "") (Or.inl (wd154 hw)) Via.refl e0 F_o0_message (g := (mkF m 1 #[.val (.ref o0)] [(.ref o0)])) rfl rfl (hb hby dq_1)
  obtain ⟨_, _, ⟨T2, L2, kc2, ks2⟩, -, X2, ⟨Lc2, hQ2, l2, y2, z2⟩, st2⟩ := Jvm.LawKit.callS X1 hx (y := mn31) hown (mvT hZ (wd175 hw)) (mvT hZ (wd176 hw)) (mvT hZ (wd36 hw)) (mvT hZ (wd177 hw)) (by decide) (backOf (W := 0) (rmOfN l Z a0 hw [] u1 o2 h0 n0 Z0 (SZ_EMPTY.ext X00.2) E_o2 F_o2_value r_u1) hZ (wd177 hw) (wd36 hw) (by decide) (by decide)) (g := (mkF m 4 #[.val (.ref o0)] [u1])) rfl (by rw [hml]; rfl) (argsL := [u1]) (rest := []) (lenOf pd__Ljava_lang_Object__Ljava_util_Optional_ rfl) rfl (by show 2 * 0 + _ ≤ _; exact Nat.le_of_eq rfl) (hb hby dq_4) (fun _ _ => ⟨rfl, e1, (by decide : 0 + 1 ≤ _), (by decide : 0 + 1 ≤ _)⟩)
  dsimp only [Pt.U, Pt.locs, Pt.cells, Pt.slots] at X2 l2 y2 z2 st2 hQ2
  subst l2 y2 z2
  obtain ⟨c2, rfl, Nq2, Kq2, gE2, gF2⟩ := hQ2
  have N2 := Fr.app N0 Nq2
  have Z2 : n0 ≤ T2.heap.size := Nat.le_trans Z0 Kq2.1
  have K2 : Keep h0 T2.heap [] := Keep.trans (Keep.refl h0 []) Kq2 all0
  obtain ⟨lfs, lhr, lhrun, lhended, lhW, lhsame⟩ := X2.leave (v := some (.ref c2)) (fun h => by rw [Bd.returns] at h; cases h)
  refine ⟨_, _, pre0 _ ?_, lhrun, lhended, _, _, rfl, ?_, ⟨_, rfl⟩, lhW, lhsame.mono (by decide) (by decide)⟩
  · skip
    show Steps p.tables e below (s₁.setTop (mkF m 0 #[.val (.ref o0)] [])) _
    refine XS.aloadN X0.here hx rfl (hb hby dq_0) rfl rfl ?_
    show Steps p.tables e below (s₁.setTop (mkF m 1 #[.val (.ref o0)] [(.ref o0)])) _
    refine st1 _ ?_
    show Steps p.tables e below (T1.setTop (mkF m 4 #[.val (.ref o0)] [u1])) _
    refine st2 _ ?_
    show Steps p.tables e below (T2.setTop (mkF m 7 #[.val (.ref o0)] [(.ref c2)])) _
    exact retOut X2 hx Bd.returns rfl (Or.inr (Or.inr (Or.inr (Or.inr ⟨rfl, rfl, rfl⟩)))) (hb hby dq_7) lhr
  · skip
    show QA42 Z o0 u1 o2 h0 n0 _ T2.heap _
    skip
    exact ⟨c2, rfl, N2, K2, gE2, gF2⟩
theorem efa_prog_7_method_6_code_v (m : MethodId) (x0 : Addr) : entryFrame m #[(.ref x0)] 1 = mkF m 0 #[.val (.ref x0)] [] := by first | (simp [entryFrame, mkF, argsToLocals, Value.category]; done) | rfl
theorem di_0 : decode prog_7_method_6_code 0 = .ok (.aload_n 0, 1) := by decide +kernel
theorem di_1 : decode prog_7_method_6_code 1 = .ok (.getfield 32, 3) := by decide +kernel
theorem di_4 : decode prog_7_method_6_code 4 = .ok (.invokestatic 38, 3) := by decide +kernel
theorem di_7 : decode prog_7_method_6_code 7 = .ok (.areturn, 1) := by decide +kernel
def QA43 (Z : State) (o0 : Addr) (u1 : Value) (o2 : Addr) (h0 : Heap) (n0 : Nat) (v : Option Value) (h : Heap) (L : List Loc) : Prop := ∃ (c2 : Addr), v = some (.ref c2) ∧ Fr n0 L ∧ Keep h0 h [] ∧ Exa Z h c2 "java/util/Optional" ∧ Fld Z h c2 "java/util/Optional" "value" "Ljava/lang/Object;" u1
set_option maxRecDepth 65536 in
set_option maxHeartbeats 40000000 in
theorem rmA43 (l : Launch) (Z : State) (a0 : Array Value) (hw : ∀ d ∈ tables_1, d.before a0 Z = true) (ws : List Jvm.Cond) (o0 : Addr) (u1 : Value) (o2 : Addr) (h0 : Heap) (n0 : Nat) (Z0 : n0 ≤ h0.size) (F_o0_moreInfo : Fld Z h0 o0 cn13 "moreInfo" "Ljava/lang/String;" u1) (SZ_EMPTY : Sta Z Z.heap "java/util/Optional" "EMPTY" "Ljava/util/Optional;" (.ref o2)) (X00 : Old Z n0 h0) (E_o2 : Exa Z h0 o2 "java/util/Optional") (F_o2_value : Fld Z h0 o2 "java/util/Optional" "value" "Ljava/lang/Object;" .null) (r_u1 : u1.isRef = true) :
    MetFree l mn4 (head1 (Jvm.Cond.code mn4 prog_7_method_6_code 1 (some (.object "java/util/Optional")) :: ws) ({ frames := 3, cells := 1, slots := 1, locals := 41 } : Room)) (fun a U => a = #[(.ref o0)] ∧ Z.Warmed39 U.vm ∧ U.heap = h0) (fun _ _ _ _ _ => True) (fun _ U oc_ U' => ∃ v L, oc_ = .returned v ∧ QA43 Z o0 u1 o2 h0 n0 v U'.heap L ∧ FrameEnd U oc_ U' L ({ frames := 3, cells := 1, slots := 1, locals := 41 } : Room).cells ({ frames := 3, cells := 1, slots := 1, locals := 41 } : Room).slots) := by
  refine MetFree.of_bodySF (plainFor_of_name pn_com_example_typed_api_errors_typedapierrors_error_Detail) hisR ?_
  intro p e s m args below meth c s₁ Bd hml0 hP hK
  obtain ⟨rfl, hZ, hh⟩ := hP
  have hx := Bd.exec
  have hby := Bd.bytes
  have hml : c.maxLocals = 1 := hml0
  have hown : s.vm.findClass cn13 = some m.cls := findClass_of_methodNamed Bd.named
  have hnm := (name_of_methodNamed Bd.named Bd.method).1
  have X0 : Stand p l e ({ frames := 3, cells := 1, slots := 1, locals := 41 } : Room) s m #[(.ref o0)] below meth c s₁ [] 0 0 := Stand.of_body Bd
  have e0 : s₁.heap = h0 := by rw [← hh, Bd.state]; rfl
  have N0 := Fr.nil n0
  have pre0 : ∀ t, Steps p.tables e below (s₁.setTop (mkF m 0 #[.val (.ref o0)] [])) t → Steps p.tables e below (s₁.setTop (entryFrame m #[(.ref o0)] 1)) t := fun t k => castTop (efa_prog_7_method_6_code_v m o0) k
  obtain ⟨T1, X1, e1, st1⟩ := getF X0 hx hZ hown (host := "") (Or.inl (wd164 hw)) Via.refl e0 F_o0_moreInfo (g := (mkF m 1 #[.val (.ref o0)] [(.ref o0)])) rfl rfl (hb hby di_1)
  obtain ⟨_, _, ⟨T2, L2, kc2, ks2⟩, -, X2, ⟨Lc2, hQ2, l2, y2, z2⟩, st2⟩ := Jvm.LawKit.callS X1 hx (y := mn31) hown (mvT hZ (wd175 hw)) (mvT hZ (wd176 hw)) (mvT hZ (wd36 hw)) (mvT hZ (wd177 hw)) (by decide) (backOf (W := 0) (rmOfN l Z a0 hw [] u1 o2 h0 n0 Z0 (SZ_EMPTY.ext X00.2) E_o2 F_o2_value r_u1) hZ (wd177 hw) (wd36 hw) (by decide) (by decide)) (g := (mkF m 4 #[.val (.ref o0)] [u1])) rfl (by rw [hml]; rfl) (argsL := [u1]) (rest := []) (lenOf pd__Ljava_lang_Object__Ljava_util_Optional_ rfl) rfl (by show 2 * 0 + _ ≤ _; exact Nat.le_of_eq rfl) (hb hby di_4) (fun _ _ => ⟨rfl, e1, (by decide : 0 + 1 ≤ _), (by decide : 0 + 1 ≤ _)⟩)
  dsimp only [Pt.U, Pt.locs, Pt.cells, Pt.slots] at X2 l2 y2 z2 st2 hQ2
  subst l2 y2 z2
  obtain ⟨c2, rfl, Nq2, Kq2, gE2, gF2⟩ := hQ2
  have N2 := Fr.app N0 Nq2
  have Z2 : n0 ≤ T2.heap.size := Nat.le_trans Z0 Kq2.1
  have K2 : Keep h0 T2.heap [] := Keep.trans (Keep.refl h0 []) Kq2 all0
  obtain ⟨lfs, lhr, lhrun, lhended, lhW, lhsame⟩ := X2.leave (v := some (.ref c2)) (fun h => by rw [Bd.returns] at h; cases h)
  refine ⟨_, _, pre0 _ ?_, lhrun, lhended, _, _, rfl, ?_, ⟨_, rfl⟩, lhW, lhsame.mono (by decide) (by decide)⟩
  · skip
    show Steps p.tables e below (s₁.setTop (mkF m 0 #[.val (.ref o0)] [])) _
    refine XS.aloadN X0.here hx rfl (hb hby di_0) rfl rfl ?_
    show Steps p.tables e below (s₁.setTop (mkF m 1 #[.val (.ref o0)] [(.ref o0)])) _
    refine st1 _ ?_
    show Steps p.tables e below (T1.setTop (mkF m 4 #[.val (.ref o0)] [u1])) _
    refine st2 _ ?_
    show Steps p.tables e below (T2.setTop (mkF m 7 #[.val (.ref o0)] [(.ref c2)])) _
    exact retOut X2 hx Bd.returns rfl (Or.inr (Or.inr (Or.inr (Or.inr ⟨rfl, rfl, rfl⟩)))) (hb hby di_7) lhr
  · skip
    show QA43 Z o0 u1 o2 h0 n0 _ T2.heap _
    skip
    exact ⟨c2, rfl, N2, K2, gE2, gF2⟩
theorem efa_prog_7_method_5_code_v (m : MethodId) (x0 : Addr) : entryFrame m #[(.ref x0)] 1 = mkF m 0 #[.val (.ref x0)] [] := by first | (simp [entryFrame, mkF, argsToLocals, Value.category]; done) | rfl
theorem dp_0 : decode prog_7_method_5_code 0 = .ok (.aload_n 0, 1) := by decide +kernel
theorem dp_1 : decode prog_7_method_5_code 1 = .ok (.getfield 28, 3) := by decide +kernel
theorem dp_4 : decode prog_7_method_5_code 4 = .ok (.invokestatic 38, 3) := by decide +kernel
theorem efa_jdk_32_method_4_code_n (m : MethodId)  : entryFrame m #[.null] 1 = mkF m 0 #[.val .null] [] := by first | (simp [entryFrame, mkF, argsToLocals, Value.category]; done) | rfl
def QA45 (Z : State) (o0 : Addr) (h0 : Heap) (n0 : Nat) (v : Option Value) (h : Heap) (L : List Loc) : Prop := v = some (.ref o0) ∧ Fr n0 L ∧ h = h0
set_option maxRecDepth 65536 in
set_option maxHeartbeats 40000000 in
theorem rmA45 (l : Launch) (Z : State) (a0 : Array Value) (hw : ∀ d ∈ tables_1, d.before a0 Z = true) (ws : List Jvm.Cond) (o0 : Addr) (h0 : Heap) (n0 : Nat) (Z0 : n0 ≤ h0.size) (SZ_EMPTY : Sta Z Z.heap "java/util/Optional" "EMPTY" "Ljava/util/Optional;" (.ref o0)) (X00 : Old Z n0 h0) :
    MetFree l mn31 (head1 (Jvm.Cond.code mn31 jdk_32_method_4_code 1 (some (.object "java/util/Optional")) :: ws) ({ frames := 0, cells := 0, slots := 0, locals := 0 } : Room)) (fun a U => a = #[.null] ∧ Z.Warmed39 U.vm ∧ U.heap = h0) (fun _ _ _ _ _ => True) (fun _ U oc_ U' => ∃ v L, oc_ = .returned v ∧ QA45 Z o0 h0 n0 v U'.heap L ∧ FrameEnd U oc_ U' L ({ frames := 0, cells := 0, slots := 0, locals := 0 } : Room).cells ({ frames := 0, cells := 0, slots := 0, locals := 0 } : Room).slots) := by
  refine MetFree.of_bodySF (plainFor_of_name pn_java_util_Optional) hisR ?_
  intro p e s m args below meth c s₁ Bd hml0 hP hK
  obtain ⟨rfl, hZ, hh⟩ := hP
  have hx := Bd.exec
  have hby := Bd.bytes
  have hml : c.maxLocals = 1 := hml0
  have hown : s.vm.findClass "java/util/Optional" = some m.cls := findClass_of_methodNamed Bd.named
  have hnm := (name_of_methodNamed Bd.named Bd.method).1
  have X0 : Stand p l e ({ frames := 0, cells := 0, slots := 0, locals := 0 } : Room) s m #[.null] below meth c s₁ [] 0 0 := Stand.of_body Bd
  have e0 : s₁.heap = h0 := by rw [← hh, Bd.state]; rfl
  have N0 := Fr.nil n0
  have pre0 : ∀ t, Steps p.tables e below (s₁.setTop (mkF m 0 #[.val .null] [])) t → Steps p.tables e below (s₁.setTop (entryFrame m #[.null] 1)) t := fun t k => castTop (efa_jdk_32_method_4_code_n m ) k
  obtain ⟨T1, X1, e1, st1⟩ := getS2 X0 hx hZ hown (host := "") (Or.inl (wd38 hw)) Via.refl e0 (SZ_EMPTY.ext X00.2) (g := (mkF m 4 #[.val .null] [])) rfl (hb hby do_4)
  obtain ⟨lfs, lhr, lhrun, lhended, lhW, lhsame⟩ := X1.leave (v := some (.ref o0)) (fun h => by rw [Bd.returns] at h; cases h)
  refine ⟨_, _, pre0 _ ?_, lhrun, lhended, _, _, rfl, ?_, ⟨_, rfl⟩, lhW, lhsame.mono (by decide) (by decide)⟩
  · skip
    show Steps p.tables e below (s₁.setTop (mkF m 0 #[.val .null] [])) _
    refine XS.aloadN X0.here hx rfl (hb hby do_0) rfl rfl ?_
    refine XS.ifnonnullNo X0.here hx rfl (hb hby do_1) rfl ?_
    show Steps p.tables e below (s₁.setTop (mkF m 4 #[.val .null] [])) _
    refine st1 _ ?_
    show Steps p.tables e below (T1.setTop (mkF m 7 #[.val .null] [(.ref o0)])) _
    refine XS.goto X1.here hx rfl (pc0 := 7) (pc' := 18) rfl (hb hby do_7) (by decide) (by decide) ?_
    show Steps p.tables e below (T1.setTop (mkF m 18 #[.val .null] [(.ref o0)])) _
    exact retOut X1 hx Bd.returns rfl (Or.inr (Or.inr (Or.inr (Or.inr ⟨rfl, rfl, rfl⟩)))) (hb hby do_18) lhr
  · skip
    show QA45 Z o0 h0 n0 _ T1.heap _
    rw [e1]
    exact ⟨rfl, N0, rfl⟩
theorem dp_7 : decode prog_7_method_5_code 7 = .ok (.areturn, 1) := by decide +kernel
def QA44 (Z : State) (o0 : Addr) (o1 : Addr) (h0 : Heap) (n0 : Nat) (v : Option Value) (h : Heap) (L : List Loc) : Prop := v = some (.ref o1) ∧ Fr n0 L ∧ h = h0
set_option maxRecDepth 65536 in
set_option maxHeartbeats 40000000 in
theorem rmA44 (l : Launch) (Z : State) (a0 : Array Value) (hw : ∀ d ∈ tables_1, d.before a0 Z = true) (ws : List Jvm.Cond) (o0 : Addr) (o1 : Addr) (h0 : Heap) (n0 : Nat) (Z0 : n0 ≤ h0.size) (F_o0_target : Fld Z h0 o0 cn13 "target" cn11 .null) (SZ_EMPTY : Sta Z Z.heap "java/util/Optional" "EMPTY" "Ljava/util/Optional;" (.ref o1)) (X00 : Old Z n0 h0) :
    MetFree l mn5 (head1 (Jvm.Cond.code mn5 prog_7_method_5_code 1 (some (.object "java/util/Optional")) :: ws) ({ frames := 1, cells := 0, slots := 0, locals := 12 } : Room)) (fun a U => a = #[(.ref o0)] ∧ Z.Warmed39 U.vm ∧ U.heap = h0) (fun _ _ _ _ _ => True) (fun _ U oc_ U' => ∃ v L, oc_ = .returned v ∧ QA44 Z o0 o1 h0 n0 v U'.heap L ∧ FrameEnd U oc_ U' L ({ frames := 1, cells := 0, slots := 0, locals := 12 } : Room).cells ({ frames := 1, cells := 0, slots := 0, locals := 12 } : Room).slots) := by
  refine MetFree.of_bodySF (plainFor_of_name pn_com_example_typed_api_errors_typedapierrors_error_Detail) hisR ?_
  intro p e s m args below meth c s₁ Bd hml0 hP hK
  obtain ⟨rfl, hZ, hh⟩ := hP
  have hx := Bd.exec
  have hby := Bd.bytes
  have hml : c.maxLocals = 1 := hml0
  have hown : s.vm.findClass cn13 = some m.cls := findClass_of_methodNamed Bd.named
  have hnm := (name_of_methodNamed Bd.named Bd.method).1
  have X0 : Stand p l e ({ frames := 1, cells := 0, slots := 0, locals := 12 } : Room) s m #[(.ref o0)] below meth c s₁ [] 0 0 := Stand.of_body Bd
  have e0 : s₁.heap = h0 := by rw [← hh, Bd.state]; rfl
  have N0 := Fr.nil n0
  have pre0 : ∀ t, Steps p.tables e below (s₁.setTop (mkF m 0 #[.val (.ref o0)] [])) t → Steps p.tables e below (s₁.setTop (entryFrame m #[(.ref o0)] 1)) t := fun t k => castTop (efa_prog_7_method_5_code_v m o0) k
  obtain ⟨T1, X1, e1, st1⟩ := getF X0 hx hZ hown (host := "") (Or.inl (wd161 hw)) Via.refl e0 F_o0_target (g := (mkF m 1 #[.val (.ref o0)] [(.ref o0)])) rfl rfl (hb hby dp_1)
  obtain ⟨_, _, ⟨T2, L2, kc2, ks2⟩, -, X2, ⟨Lc2, hQ2, l2, y2, z2⟩, st2⟩ := Jvm.LawKit.callS X1 hx (y := mn31) hown (mvT hZ (wd175 hw)) (mvT hZ (wd176 hw)) (mvT hZ (wd36 hw)) (mvT hZ (wd177 hw)) (by decide) (backOf (W := 0) (rmA45 l Z a0 hw [] o1 h0 n0 Z0 SZ_EMPTY X00) hZ (wd177 hw) (wd36 hw) (by decide) (by decide)) (g := (mkF m 4 #[.val (.ref o0)] [.null])) rfl (by rw [hml]; rfl) (argsL := [.null]) (rest := []) (lenOf pd__Ljava_lang_Object__Ljava_util_Optional_ rfl) rfl (by show 2 * 0 + _ ≤ _; exact Nat.le_of_eq rfl) (hb hby dp_4) (fun _ _ => ⟨rfl, e1, (by decide : 0 + 0 ≤ _), (by decide : 0 + 0 ≤ _)⟩)
  dsimp only [Pt.U, Pt.locs, Pt.cells, Pt.slots] at X2 l2 y2 z2 st2 hQ2
  subst l2 y2 z2
  obtain ⟨rfl, Nq2, eq2⟩ := hQ2
  have N2 := Fr.app N0 Nq2
  obtain ⟨lfs, lhr, lhrun, lhended, lhW, lhsame⟩ := X2.leave (v := some (.ref o1)) (fun h => by rw [Bd.returns] at h; cases h)
  refine ⟨_, _, pre0 _ ?_, lhrun, lhended, _, _, rfl, ?_, ⟨_, rfl⟩, lhW, lhsame.mono (by decide) (by decide)⟩
  · skip
    show Steps p.tables e below (s₁.setTop (mkF m 0 #[.val (.ref o0)] [])) _
    refine XS.aloadN X0.here hx rfl (hb hby dp_0) rfl rfl ?_
    show Steps p.tables e below (s₁.setTop (mkF m 1 #[.val (.ref o0)] [(.ref o0)])) _
    refine st1 _ ?_
    show Steps p.tables e below (T1.setTop (mkF m 4 #[.val (.ref o0)] [.null])) _
    refine st2 _ ?_
    show Steps p.tables e below (T2.setTop (mkF m 7 #[.val (.ref o0)] [(.ref o1)])) _
    exact retOut X2 hx Bd.returns rfl (Or.inr (Or.inr (Or.inr (Or.inr ⟨rfl, rfl, rfl⟩)))) (hb hby dp_7) lhr
  · skip
    show QA44 Z o0 o1 h0 n0 _ T2.heap _
    rw [eq2]
    exact ⟨rfl, N2, rfl⟩
theorem efa_prog_7_method_4_code_v (m : MethodId) (x0 : Addr) : entryFrame m #[(.ref x0)] 1 = mkF m 0 #[.val (.ref x0)] [] := by first | (simp [entryFrame, mkF, argsToLocals, Value.category]; done) | rfl
theorem dt_0 : decode prog_7_method_4_code 0 = .ok (.aload_n 0, 1) := by decide +kernel
theorem dt_1 : decode prog_7_method_4_code 1 = .ok (.getfield 23, 3) := by decide +kernel
theorem dt_4 : decode prog_7_method_4_code 4 = .ok (.invokestatic 38, 3) := by decide +kernel
theorem dt_7 : decode prog_7_method_4_code 7 = .ok (.areturn, 1) := by decide +kernel
def QA46 (Z : State) (o0 : Addr) (o1 : Addr) (h0 : Heap) (n0 : Nat) (v : Option Value) (h : Heap) (L : List Loc) : Prop := v = some (.ref o1) ∧ Fr n0 L ∧ h = h0
set_option maxRecDepth 65536 in
set_option maxHeartbeats 40000000 in
theorem rmA46 (l : Launch) (Z : State) (a0 : Array Value) (hw : ∀ d ∈ tables_1, d.before a0 Z = true) (ws : List Jvm.Cond) (o0 : Addr) (o1 : Addr) (h0 : Heap) (n0 : Nat) (Z0 : n0 ≤ h0.size) (F_o0_type : Fld Z h0 o0 cn13 "type" "Ljava/lang/String;" .null) (SZ_EMPTY : Sta Z Z.heap "java/util/Optional" "EMPTY" "Ljava/util/Optional;" (.ref o1)) (X00 : Old Z n0 h0) :
    MetFree l mn6 (head1 (Jvm.Cond.code mn6 prog_7_method_4_code 1 (some (.object "java/util/Optional")) :: ws) ({ frames := 1, cells := 0, slots := 0, locals := 12 } : Room)) (fun a U => a = #[(.ref o0)] ∧ Z.Warmed39 U.vm ∧ U.heap = h0) (fun _ _ _ _ _ => True) (fun _ U oc_ U' => ∃ v L, oc_ = .returned v ∧ QA46 Z o0 o1 h0 n0 v U'.heap L ∧ FrameEnd U oc_ U' L ({ frames := 1, cells := 0, slots := 0, locals := 12 } : Room).cells ({ frames := 1, cells := 0, slots := 0, locals := 12 } : Room).slots) := by
  refine MetFree.of_bodySF (plainFor_of_name pn_com_example_typed_api_errors_typedapierrors_error_Detail) hisR ?_
  intro p e s m args below meth c s₁ Bd hml0 hP hK
  obtain ⟨rfl, hZ, hh⟩ := hP
  have hx := Bd.exec
  have hby := Bd.bytes
  have hml : c.maxLocals = 1 := hml0
  have hown : s.vm.findClass cn13 = some m.cls := findClass_of_methodNamed Bd.named
  have hnm := (name_of_methodNamed Bd.named Bd.method).1
  have X0 : Stand p l e ({ frames := 1, cells := 0, slots := 0, locals := 12 } : Room) s m #[(.ref o0)] below meth c s₁ [] 0 0 := Stand.of_body Bd
  have e0 : s₁.heap = h0 := by rw [← hh, Bd.state]; rfl
  have N0 := Fr.nil n0
  have pre0 : ∀ t, Steps p.tables e below (s₁.setTop (mkF m 0 #[.val (.ref o0)] [])) t → Steps p.tables e below (s₁.setTop (entryFrame m #[(.ref o0)] 1)) t := fun t k => castTop (efa_prog_7_method_4_code_v m o0) k
  obtain ⟨T1, X1, e1, st1⟩ := getF X0 hx hZ hown (host := "") (Or.inl (wd158 hw)) Via.refl e0 F_o0_type (g := (mkF m 1 #[.val (.ref o0)] [(.ref o0)])) rfl rfl (hb hby dt_1)
  obtain ⟨_, _, ⟨T2, L2, kc2, ks2⟩, -, X2, ⟨Lc2, hQ2, l2, y2, z2⟩, st2⟩ := Jvm.LawKit.callS X1 hx (y := mn31) hown (mvT hZ (wd175 hw)) (mvT hZ (wd176 hw)) (mvT hZ (wd36 hw)) (mvT hZ (wd177 hw)) (by decide) (backOf (W := 0) (rmA45 l Z a0 hw [] o1 h0 n0 Z0 SZ_EMPTY X00) hZ (wd177 hw) (wd36 hw) (by decide) (by decide)) (g := (mkF m 4 #[.val (.ref o0)] [.null])) rfl (by rw [hml]; rfl) (argsL := [.null]) (rest := []) (lenOf pd__Ljava_lang_Object__Ljava_util_Optional_ rfl) rfl (by show 2 * 0 + _ ≤ _; exact Nat.le_of_eq rfl) (hb hby dt_4) (fun _ _ => ⟨rfl, e1, (by decide : 0 + 0 ≤ _), (by decide : 0 + 0 ≤ _)⟩)
  dsimp only [Pt.U, Pt.locs, Pt.cells, Pt.slots] at X2 l2 y2 z2 st2 hQ2
  subst l2 y2 z2
  obtain ⟨rfl, Nq2, eq2⟩ := hQ2
  have N2 := Fr.app N0 Nq2
  obtain ⟨lfs, lhr, lhrun, lhended, lhW, lhsame⟩ := X2.leave (v := some (.ref o1)) (fun h => by rw [Bd.returns] at h; cases h)
  refine ⟨_, _, pre0 _ ?_, lhrun, lhended, _, _, rfl, ?_, ⟨_, rfl⟩, lhW, lhsame.mono (by decide) (by decide)⟩
  · skip
    show Steps p.tables e below (s₁.setTop (mkF m 0 #[.val (.ref o0)] [])) _
    refine XS.aloadN X0.here hx rfl (hb hby dt_0) rfl rfl ?_
    show Steps p.tables e below (s₁.setTop (mkF m 1 #[.val (.ref o0)] [(.ref o0)])) _
    refine st1 _ ?_
    show Steps p.tables e below (T1.setTop (mkF m 4 #[.val (.ref o0)] [.null])) _
    refine st2 _ ?_
    show Steps p.tables e below (T2.setTop (mkF m 7 #[.val (.ref o0)] [(.ref o1)])) _
    exact retOut X2 hx Bd.returns rfl (Or.inr (Or.inr (Or.inr (Or.inr ⟨rfl, rfl, rfl⟩)))) (hb hby dt_7) lhr
  · skip
    show QA46 Z o0 o1 h0 n0 _ T2.heap _
    rw [eq2]
    exact ⟨rfl, N2, rfl⟩
theorem efa_prog_7_method_7_code_v (m : MethodId) (x0 : Addr) : entryFrame m #[(.ref x0)] 1 = mkF m 0 #[.val (.ref x0)] [] := by first | (simp [entryFrame, mkF, argsToLocals, Value.category]; done) | rfl
theorem dx_0 : decode prog_7_method_7_code 0 = .ok (.aload_n 0, 1) := by decide +kernel
theorem dx_1 : decode prog_7_method_7_code 1 = .ok (.getfield 37, 3) := by decide +kernel
theorem dx_4 : decode prog_7_method_7_code 4 = .ok (.invokestatic 38, 3) := by decide +kernel
theorem dx_7 : decode prog_7_method_7_code 7 = .ok (.areturn, 1) := by decide +kernel
def QA48 (Z : State) (o0 : Addr) (o1 : Addr) (h0 : Heap) (n0 : Nat) (v : Option Value) (h : Heap) (L : List Loc) : Prop := v = some (.ref o1) ∧ Fr n0 L ∧ h = h0
set_option maxRecDepth 65536 in
set_option maxHeartbeats 40000000 in
theorem rmA48 (l : Launch) (Z : State) (a0 : Array Value) (hw : ∀ d ∈ tables_1, d.before a0 Z = true) (ws : List Jvm.Cond) (o0 : Addr) (o1 : Addr) (h0 : Heap) (n0 : Nat) (Z0 : n0 ≤ h0.size) (F_o0_constraint : Fld Z h0 o0 cn13 "constraint" cn7 .null) (SZ_EMPTY : Sta Z Z.heap "java/util/Optional" "EMPTY" "Ljava/util/Optional;" (.ref o1)) (X00 : Old Z n0 h0) :
    MetFree l mn2 (head1 (Jvm.Cond.code mn2 prog_7_method_7_code 1 (some (.object "java/util/Optional")) :: ws) ({ frames := 1, cells := 0, slots := 0, locals := 12 } : Room)) (fun a U => a = #[(.ref o0)] ∧ Z.Warmed39 U.vm ∧ U.heap = h0) (fun _ _ _ _ _ => True) (fun _ U oc_ U' => ∃ v L, oc_ = .returned v ∧ QA48 Z o0 o1 h0 n0 v U'.heap L ∧ FrameEnd U oc_ U' L ({ frames := 1, cells := 0, slots := 0, locals := 12 } : Room).cells ({ frames := 1, cells := 0, slots := 0, locals := 12 } : Room).slots) := by
  refine MetFree.of_bodySF (plainFor_of_name pn_com_example_typed_api_errors_typedapierrors_error_Detail) hisR ?_
  intro p e s m args below meth c s₁ Bd hml0 hP hK
  obtain ⟨rfl, hZ, hh⟩ := hP
  have hx := Bd.exec
  have hby := Bd.bytes
  have hml : c.maxLocals = 1 := hml0
  have hown : s.vm.findClass cn13 = some m.cls := findClass_of_methodNamed Bd.named
  have hnm := (name_of_methodNamed Bd.named Bd.method).1
  have X0 : Stand p l e ({ frames := 1, cells := 0, slots := 0, locals := 12 } : Room) s m #[(.ref o0)] below meth c s₁ [] 0 0 := Stand.of_body Bd
  have e0 : s₁.heap = h0 := by rw [← hh, Bd.state]; rfl
  have N0 := Fr.nil n0
  have pre0 : ∀ t, Steps p.tables e below (s₁.setTop (mkF m 0 #[.val (.ref o0)] [])) t → Steps p.tables e below (s₁.setTop (entryFrame m #[(.ref o0)] 1)) t := fun t k => castTop (efa_prog_7_method_7_code_v m o0) k
  obtain ⟨T1, X1, e1, st1⟩ := getF X0 hx hZ hown (host := "") (Or.inl (wd168 hw)) Via.refl e0 F_o0_constraint (g := (mkF m 1 #[.val (.ref o0)] [(.ref o0)])) rfl rfl (hb hby dx_1)
  obtain ⟨_, _, ⟨T2, L2, kc2, ks2⟩, -, X2, ⟨Lc2, hQ2, l2, y2, z2⟩, st2⟩ := Jvm.LawKit.callS X1 hx (y := mn31) hown (mvT hZ (wd175 hw)) (mvT hZ (wd176 hw)) (mvT hZ (wd36 hw)) (mvT hZ (wd177 hw)) (by decide) (backOf (W := 0) (rmA45 l Z a0 hw [] o1 h0 n0 Z0 SZ_EMPTY X00) hZ (wd177 hw) (wd36 hw) (by decide) (by decide)) (g := (mkF m 4 #[.val (.ref o0)] [.null])) rfl (by rw [hml]; rfl) (argsL := [.null]) (rest := []) (lenOf pd__Ljava_lang_Object__Ljava_util_Optional_ rfl) rfl (by show 2 * 0 + _ ≤ _; exact Nat.le_of_eq rfl) (hb hby dx_4) (fun _ _ => ⟨rfl, e1, (by decide : 0 + 0 ≤ _), (by decide : 0 + 0 ≤ _)⟩)
  dsimp only [Pt.U, Pt.locs, Pt.cells, Pt.slots] at X2 l2 y2 z2 st2 hQ2
  subst l2 y2 z2
  obtain ⟨rfl, Nq2, eq2⟩ := hQ2
  have N2 := Fr.app N0 Nq2
  obtain ⟨lfs, lhr, lhrun, lhended, lhW, lhsame⟩ := X2.leave (v := some (.ref o1)) (fun h => by rw [Bd.returns] at h; cases h)
  refine ⟨_, _, pre0 _ ?_, lhrun, lhended, _, _, rfl, ?_, ⟨_, rfl⟩, lhW, lhsame.mono (by decide) (by decide)⟩
  · skip
    show Steps p.tables e below (s₁.setTop (mkF m 0 #[.val (.ref o0)] [])) _
    refine XS.aloadN X0.here hx rfl (hb hby dx_0) rfl rfl ?_
    show Steps p.tables e below (s₁.setTop (mkF m 1 #[.val (.ref o0)] [(.ref o0)])) _
    refine st1 _ ?_
    show Steps p.tables e below (T1.setTop (mkF m 4 #[.val (.ref o0)] [.null])) _
    refine st2 _ ?_
    show Steps p.tables e below (T2.setTop (mkF m 7 #[.val (.ref o0)] [(.ref o1)])) _
    exact retOut X2 hx Bd.returns rfl (Or.inr (Or.inr (Or.inr (Or.inr ⟨rfl, rfl, rfl⟩)))) (hb hby dx_7) lhr
  · skip
    show QA48 Z o0 o1 h0 n0 _ T2.heap _
    rw [eq2]
    exact ⟨rfl, N2, rfl⟩
theorem efa_prog_13_method_1_code_vvvn (m : MethodId) (x0 : Addr) (x1 : Addr) (x2 : Addr) : entryFrame m #[(.ref x0), (.ref x1), (.ref x2), .null] 4 = mkF m 0 #[.val (.ref x0), .val (.ref x1), .val (.ref x2), .val .null] [] := by first | (simp [entryFrame, mkF, argsToLocals, Value.category]; done) | rfl
theorem dc_0 : decode prog_13_method_1_code 0 = .ok (.aload_n 0, 1) := by decide +kernel
theorem dc_1 : decode prog_13_method_1_code 1 = .ok (.invokespecial 1, 3) := by decide +kernel
theorem dc_4 : decode prog_13_method_1_code 4 = .ok (.aload_n 0, 1) := by decide +kernel
theorem dc_5 : decode prog_13_method_1_code 5 = .ok (.aload_n 1, 1) := by decide +kernel
theorem dc_6 : decode prog_13_method_1_code 6 = .ok (.ldc 7, 2) := by decide +kernel
theorem dc_8 : decode prog_13_method_1_code 8 = .ok (.invokestatic 9, 3) := by decide +kernel
theorem efa_jdk_31_method_11_code_vv (m : MethodId) (x0 : Addr) (x1 : Addr) : entryFrame m #[(.ref x0), (.ref x1)] 2 = mkF m 0 #[.val (.ref x0), .val (.ref x1)] [] := by first | (simp [entryFrame, mkF, argsToLocals, Value.category]; done) | rfl
theorem db_0 : decode jdk_31_method_11_code 0 = .ok (.aload_n 0, 1) := by decide +kernel
theorem db_1 : decode jdk_31_method_11_code 1 = .ok (.ifnonnull 12, 3) := by decide +kernel
theorem db_13 : decode jdk_31_method_11_code 13 = .ok (.aload_n 0, 1) := by decide +kernel
theorem db_14 : decode jdk_31_method_11_code 14 = .ok (.areturn, 1) := by decide +kernel
def QA55 (Z : State) (o0 : Addr) (o1 : Addr) (h0 : Heap) (n0 : Nat) (v : Option Value) (h : Heap) (L : List Loc) : Prop := v = some (.ref o0) ∧ Fr n0 L ∧ h = h0
set_option maxRecDepth 65536 in
set_option maxHeartbeats 40000000 in
theorem rmA55 (l : Launch) (Z : State) (a0 : Array Value) (hw : ∀ d ∈ tables_1, d.before a0 Z = true) (ws : List Jvm.Cond) (o0 : Addr) (o1 : Addr) (h0 : Heap) (n0 : Nat) (Z0 : n0 ≤ h0.size) :
    MetFree l mn25 (head1 (Jvm.Cond.code mn25 jdk_31_method_11_code 2 (some (.object "java/lang/Object")) :: ws) ({ frames := 0, cells := 0, slots := 0, locals := 0 } : Room)) (fun a U => a = #[(.ref o0), (.ref o1)] ∧ Z.Warmed39 U.vm ∧ U.heap = h0) (fun _ _ _ _ _ => True) (fun _ U oc_ U' => ∃ v L, oc_ = .returned v ∧ QA55 Z o0 o1 h0 n0 v U'.heap L ∧ FrameEnd U oc_ U' L ({ frames := 0, cells := 0, slots := 0, locals := 0 } : Room).cells ({ frames := 0, cells := 0, slots := 0, locals := 0 } : Room).slots) := by
  refine MetFree.of_bodySF (plainFor_of_name pn_java_util_Objects) hisR ?_
  intro p e s m args below meth c s₁ Bd hml0 hP hK
  obtain ⟨rfl, hZ, hh⟩ := hP
  have hx := Bd.exec
  have hby := Bd.bytes
  have hml : c.maxLocals = 2 := hml0
  have hown : s.vm.findClass "java/util/Objects" = some m.cls := findClass_of_methodNamed Bd.named
  have hnm := (name_of_methodNamed Bd.named Bd.method).1
  have X0 : Stand p l e ({ frames := 0, cells := 0, slots := 0, locals := 0 } : Room) s m #[(.ref o0), (.ref o1)] below meth c s₁ [] 0 0 := Stand.of_body Bd
  have e0 : s₁.heap = h0 := by rw [← hh, Bd.state]; rfl
  have N0 := Fr.nil n0
  have pre0 : ∀ t, Steps p.tables e below (s₁.setTop (mkF m 0 #[.val (.ref o0), .val (.ref o1)] [])) t → Steps p.tables e below (s₁.setTop (entryFrame m #[(.ref o0), (.ref o1)] 2)) t := fun t k => castTop (efa_jdk_31_method_11_code_vv m o0 o1) k
  obtain ⟨lfs, lhr, lhrun, lhended, lhW, lhsame⟩ := X0.leave (v := some (.ref o0)) (fun h => by rw [Bd.returns] at h; cases h)
  refine ⟨_, _, pre0 _ ?_, lhrun, lhended, _, _, rfl, ?_, ⟨_, rfl⟩, lhW, lhsame.mono (by decide) (by decide)⟩
  · skip
    show Steps p.tables e below (s₁.setTop (mkF m 0 #[.val (.ref o0), .val (.ref o1)] [])) _
    refine XS.aloadN X0.here hx rfl (hb hby db_0) rfl rfl ?_
    refine XS.ifnonnullYes X0.here hx rfl (pc0 := 1) (pc' := 13) rfl (hb hby db_1) rfl (by decide) (by decide) ?_
    refine XS.aloadN X0.here hx rfl (hb hby db_13) rfl rfl ?_
    show Steps p.tables e below (s₁.setTop (mkF m 14 #[.val (.ref o0), .val (.ref o1)] [(.ref o0)])) _
    exact retOut X0 hx Bd.returns rfl (Or.inr (Or.inr (Or.inr (Or.inr ⟨rfl, rfl, rfl⟩)))) (hb hby db_14) lhr
  · skip
    show QA55 Z o0 o1 h0 n0 _ s₁.heap _
    rw [e0]
    exact ⟨rfl, N0, rfl⟩
theorem dc_11 : decode prog_13_method_1_code 11 = .ok (.checkcast 15, 3) := by decide +kernel
theorem dc_14 : decode prog_13_method_1_code 14 = .ok (.putfield 17, 3) := by decide +kernel
theorem dc_17 : decode prog_13_method_1_code 17 = .ok (.aload_n 0, 1) := by decide +kernel
theorem dc_18 : decode prog_13_method_1_code 18 = .ok (.aload_n 2, 1) := by decide +kernel
theorem dc_19 : decode prog_13_method_1_code 19 = .ok (.putfield 22, 3) := by decide +kernel
theorem dc_22 : decode prog_13_method_1_code 22 = .ok (.aload_n 0, 1) := by decide +kernel
theorem dc_23 : decode prog_13_method_1_code 23 = .ok (.aload_n 3, 1) := by decide +kernel
theorem dc_24 : decode prog_13_method_1_code 24 = .ok (.putfield 25, 3) := by decide +kernel
theorem dc_27 : decode prog_13_method_1_code 27 = .ok (.return_, 1) := by decide +kernel
def QA54 (Z : State) (o0 : Addr) (o1 : Addr) (o2 : Addr) (h0 : Heap) (n0 : Nat) (v : Option Value) (h : Heap) (L : List Loc) : Prop := v = none ∧ Fr n0 L ∧ Keep h0 h [o0] ∧ Exa Z h o0 cn14 ∧ Fld Z h o0 cn14 "name" "Ljava/lang/String;" (.ref o1) ∧ Fld Z h o0 cn14 "type" "Ljava/lang/String;" (.ref o2) ∧ Fld Z h o0 cn14 "value" "Ljava/lang/String;" .null
set_option maxRecDepth 65536 in
set_option maxHeartbeats 40000000 in
theorem rmA54 (l : Launch) (Z : State) (a0 : Array Value) (hw : ∀ d ∈ tables_1, d.before a0 Z = true) (ws : List Jvm.Cond) (o0 : Addr) (o1 : Addr) (o2 : Addr) (h0 : Heap) (n0 : Nat) (Z0 : n0 ≤ h0.size) (E_o1 : Exa Z h0 o1 "java/lang/String") (E_o0 : Exa Z h0 o0 cn14) (F_o0_name : Fld Z h0 o0 cn14 "name" "Ljava/lang/String;" .null) (g_o0 : n0 ≤ o0) (F_o0_type : Fld Z h0 o0 cn14 "type" "Ljava/lang/String;" .null) (F_o0_value : Fld Z h0 o0 cn14 "value" "Ljava/lang/String;" .null) :
    MetFree l mn17 (head1 (Jvm.Cond.code mn17 prog_13_method_1_code 4 none :: ws) ({ frames := 1, cells := 2, slots := 20, locals := 14 } : Room)) (fun a U => a = #[(.ref o0), (.ref o1), (.ref o2), .null] ∧ Z.Warmed39 U.vm ∧ U.heap = h0 ∧ CHv Z own_EL U.vm h0 ∧ ∀ x ∈ ([] : List Addr), Safe Z own_EL U.vm h0 x) (fun _ _ _ _ _ => True) (fun _ U oc_ U' => ∃ v L, oc_ = .returned v ∧ QA54 Z o0 o1 o2 h0 n0 v U'.heap L ∧ CHr Z own_EL U.vm U.heap U'.vm U'.heap ∧ ReturnedEndW U oc_ U' L ({ frames := 1, cells := 2, slots := 20, locals := 14 } : Room).cells ({ frames := 1, cells := 2, slots := 20, locals := 14 } : Room).slots) := by
  refine MetFree.of_bodySF (plainFor_of_name pn_com_example_typed_api_errors_typedapierrors_error_Target) hisR ?_
  intro p e s m args below meth c s₁ Bd hml0 hP hK
  obtain ⟨rfl, hZ, hh, hCH, hSS⟩ := hP
  have hx := Bd.exec
  have hby := Bd.bytes
  have hml : c.maxLocals = 4 := hml0
  have hown : s.vm.findClass cn14 = some m.cls := findClass_of_methodNamed Bd.named
  have hnm := (name_of_methodNamed Bd.named Bd.method).1
  have X0 : Stand p l e ({ frames := 1, cells := 2, slots := 20, locals := 14 } : Room) s m #[(.ref o0), (.ref o1), (.ref o2), .null] below meth c s₁ [] 0 0 := Stand.of_body Bd
  have e0 : s₁.heap = h0 := by rw [← hh, Bd.state]; rfl
  have N0 := Fr.nil n0
  have pre0 : ∀ t, Steps p.tables e below (s₁.setTop (mkF m 0 #[.val (.ref o0), .val (.ref o1), .val (.ref o2), .val .null] [])) t → Steps p.tables e below (s₁.setTop (entryFrame m #[(.ref o0), (.ref o1), (.ref o2), .null] 4)) t := fun t k => castTop (efa_prog_13_method_1_code_vvvn m o0 o1 o2) k
  have X0 : Stand p l e ({ frames := 1, cells := 2, slots := 20, locals := 14 } : Room) (s.setVm s.vm) m #[(.ref o0), (.ref o1), (.ref o2), .null] below meth c s₁ [] 0 0 := X0
  have hS0 : s.Since s.vm 0 := own_since0 s
  have hk0 : 0 ≤ h0.size := Nat.zero_le _
  have CR0 : CHr Z own_EL s.vm h0 s.vm h0 := CHr.refl hCH
  have hEL := own_EW a0 Z hw
  have wS : ∀ a ∈ Bundle.stringAtoms, a.before a0 Z = true := fun d hd => hw d ((by decide +kernel : ∀ d ∈ Bundle.stringAtoms, d ∈ tables_1) d hd)
  obtain ⟨T1, X1, e1, st1⟩ := initO X0 hx hZ hown (wd242 hw) (wd16 hw) (wd17 hw) e0 (g := (mkF m 1 #[.val (.ref o0), .val (.ref o1), .val (.ref o2), .val .null] [(.ref o0)])) rfl (by rw [hml]; rfl) rfl (hb hby dc_1) (by decide) (W := 0) (by show 2 * 0 + _ ≤ _; exact Nat.le_of_eq rfl) (by decide)
  obtain ⟨a2, T2, h2, kk2, X2, e2, E2, hS2, hk2, hZ2, hown2, CS2, LL2, st2⟩ := ldcOH (s := s) (vm0 := s.vm) (EL := own_EL) X1 hx hZ hown (wd243 hw) wS e1 hS0 hk0 hEL CR0.1 (g := (mkF m 6 #[.val (.ref o0), .val (.ref o1), .val (.ref o2), .val .null] [(.ref o1), (.ref o0)])) rfl (hb hby dc_6) (n := 16) (by decide +kernel) (by decide) (by decide) (by decide)
  have CR2 := CR0.trans CS2
  have Z2 : n0 ≤ h2.size := Nat.le_trans Z0 E2.1
  have K2 : Keep h0 h2 [o0] := ((Keep.refl h0 [o0]).ext E2)
  obtain ⟨_, _, ⟨T3, L3, kc3, ks3⟩, -, X3, ⟨Lc3, hQ3, l3, y3, z3⟩, st3⟩ := Jvm.LawKit.callS X2 hx (y := mn25) hown2 (mvT hZ2 (wd246 hw)) (mvT hZ2 (wd247 hw)) (mvT hZ2 (wd233 hw)) (mvT hZ2 (wd248 hw)) (by decide) (backOf (W := 1) (rmA55 l Z a0 hw [] o1 a2 h2 n0 Z2 ) hZ2 (wd248 hw) (wd233 hw) (by decide) (by decide)) (g := (mkF m 8 #[.val (.ref o0), .val (.ref o1), .val (.ref o2), .val .null] [(.ref a2), (.ref o1), (.ref o0)])) rfl (by rw [hml]; rfl) (argsL := [(.ref o1), (.ref a2)]) (rest := [(.ref o0)]) (lenOf pd__Ljava_lang_Object_Ljava_lang_String__Ljava_lang_Object_ rfl) rfl (by show 2 * 0 + _ ≤ _; exact Nat.le_of_eq rfl) (hb hby dc_8) (fun _ _ => ⟨rfl, e2, (by decide : 2 + 0 ≤ _), (by decide : 20 + 0 ≤ _)⟩)
  dsimp only [Pt.U, Pt.locs, Pt.cells, Pt.slots] at X3 l3 y3 z3 st3 hQ3
  subst l3 y3 z3
  obtain ⟨rfl, Nq3, eq3⟩ := hQ3
  have N3 := Fr.app N0 Nq3
  have f4 := (E_o1.ext E2)
  obtain ⟨T5, X5, e5, st5⟩ := castY X3 hx hZ2 hown2 (wd249 hw) eq3 (Ins.self f4) (g := (mkF m 11 #[.val (.ref o0), .val (.ref o1), .val (.ref o2), .val .null] [(.ref o1), (.ref o0)])) rfl rfl (hb hby dc_11)
  have f6 := (E_o0.ext E2)
  have f7 := (F_o0_name.ext E2)
  obtain ⟨T8, h8, X8, e8, W8, st8⟩ := putF X5 hx hZ2 hown2 (host := "") (Or.inl (wd250 hw)) Via.refl e5 f7 f6 (Or.inr ⟨(wd251 hw), rfl, hnm⟩) (wd237 hw) (ty := (.object "java/lang/String")) (by decide) rfl rfl (g := (mkF m 14 #[.val (.ref o0), .val (.ref o1), .val (.ref o2), .val .null] [(.ref o1), (.ref o0)])) rfl rfl (hb hby dc_14)
  have CS8 := CHr.wr W8 (Safe.exa hZ2.alike f6 (by decide) (by decide)) CR2.1
  have CR8 := CR2.trans CS8
  have hk8 : _ ≤ h8.size := Nat.le_trans hk2 (Nat.le_of_eq W8.size.symm)
  have N8 := Fr.snoc X8 N3 g_o0
  have Z8 : n0 ≤ h8.size := by rw [W8.size]; exact Z2
  have K8 : Keep h0 h8 [o0] := (K2.wr W8 (Or.inl (List.mem_of_getElem? (i := 0) rfl)))
  have Fw8 := f7.same W8
  have f9 := (f6.wr W8)
  have f10 := ((F_o0_type.ext E2).other W8 (Or.inr (slot_ne (Or.inr (wd253 hw)) (Or.inr (wd251 hw)) (by decide) (t := (.object "java/lang/String")) (t' := (.object "java/lang/String")) (by decide) (by decide))))
  obtain ⟨T11, h11, X11, e11, W11, st11⟩ := putF X8 hx hZ2 hown2 (host := "") (Or.inl (wd252 hw)) Via.refl e8 f10 f9 (Or.inr ⟨(wd253 hw), rfl, hnm⟩) (wd237 hw) (ty := (.object "java/lang/String")) (by decide) rfl rfl (g := (mkF m 19 #[.val (.ref o0), .val (.ref o1), .val (.ref o2), .val .null] [(.ref o2), (.ref o0)])) rfl rfl (hb hby dc_19)
  have CS11 := CHr.wr W11 (Safe.exa hZ2.alike f9 (by decide) (by decide)) CR8.1
  have CR11 := CR8.trans CS11
  have hk11 : _ ≤ h11.size := Nat.le_trans hk8 (Nat.le_of_eq W11.size.symm)
  have N11 := Fr.snoc X11 N8 g_o0
  have Z11 : n0 ≤ h11.size := by rw [W11.size]; exact Z8
  have K11 : Keep h0 h11 [o0] := (K8.wr W11 (Or.inl (List.mem_of_getElem? (i := 0) rfl)))
  have Fw11 := f10.same W11
  have f12 := (f9.wr W11)
  have f13 := (((F_o0_value.ext E2).other W8 (Or.inr (slot_ne (Or.inr (wd255 hw)) (Or.inr (wd251 hw)) (by decide) (t := (.object "java/lang/String")) (t' := (.object "java/lang/String")) (by decide) (by decide)))).other W11 (Or.inr (slot_ne (Or.inr (wd255 hw)) (Or.inr (wd253 hw)) (by decide) (t := (.object "java/lang/String")) (t' := (.object "java/lang/String")) (by decide) (by decide))))
  obtain ⟨T14, h14, X14, e14, W14, st14⟩ := putF X11 hx hZ2 hown2 (host := "") (Or.inl (wd254 hw)) Via.refl e11 f13 f12 (Or.inr ⟨(wd255 hw), rfl, hnm⟩) (wd237 hw) (ty := (.object "java/lang/String")) (by decide) rfl rfl (g := (mkF m 24 #[.val (.ref o0), .val (.ref o1), .val (.ref o2), .val .null] [.null, (.ref o0)])) rfl rfl (hb hby dc_24)
  have CS14 := CHr.wr W14 (Safe.exa hZ2.alike f12 (by decide) (by decide)) CR11.1
  have CR14 := CR11.trans CS14
  have hk14 : _ ≤ h14.size := Nat.le_trans hk11 (Nat.le_of_eq W14.size.symm)
  have N14 := Fr.snoc X14 N11 g_o0
  have Z14 : n0 ≤ h14.size := by rw [W14.size]; exact Z11
  have K14 : Keep h0 h14 [o0] := (K11.wr W14 (Or.inl (List.mem_of_getElem? (i := 0) rfl)))
  have Fw14 := f13.same W14
  have f15 := (f12.wr W14)
  have f16 := ((Fw8.other W11 (Or.inr (slot_ne (Or.inr (wd251 hw)) (Or.inr (wd253 hw)) (by decide) (t := (.object "java/lang/String")) (t' := (.object "java/lang/String")) (by decide) (by decide)))).other W14 (Or.inr (slot_ne (Or.inr (wd251 hw)) (Or.inr (wd255 hw)) (by decide) (t := (.object "java/lang/String")) (t' := (.object "java/lang/String")) (by decide) (by decide))))
  have f17 := (Fw11.other W14 (Or.inr (slot_ne (Or.inr (wd253 hw)) (Or.inr (wd255 hw)) (by decide) (t := (.object "java/lang/String")) (t' := (.object "java/lang/String")) (by decide) (by decide))))
  obtain ⟨lfs, lhr, lhrun, lhended, lhE⟩ := X14.leaveW hS2 (by rw [e14]; exact hk14) (v := none) (fun _ => rfl)
  refine ⟨_, _, pre0 _ ?_, lhrun, lhended, _, _, rfl, ?_, ?_, lhE.1, lhE.2.1, lhE.2.2.1, lhE.2.2.2.mono (by decide) (by decide)⟩
  · skip
    show Steps p.tables e below (s₁.setTop (mkF m 0 #[.val (.ref o0), .val (.ref o1), .val (.ref o2), .val .null] [])) _
    refine XS.aloadN X0.here hx rfl (hb hby dc_0) rfl rfl ?_
    show Steps p.tables e below (s₁.setTop (mkF m 1 #[.val (.ref o0), .val (.ref o1), .val (.ref o2), .val .null] [(.ref o0)])) _
    refine st1 _ ?_
    show Steps p.tables e below (T1.setTop (mkF m 4 #[.val (.ref o0), .val (.ref o1), .val (.ref o2), .val .null] [])) _
    refine XS.aloadN X1.here hx rfl (hb hby dc_4) rfl rfl ?_
    show Steps p.tables e below (T1.setTop (mkF m 5 #[.val (.ref o0), .val (.ref o1), .val (.ref o2), .val .null] [(.ref o0)])) _
    refine XS.aloadN X1.here hx rfl (hb hby dc_5) rfl rfl ?_
    show Steps p.tables e below (T1.setTop (mkF m 6 #[.val (.ref o0), .val (.ref o1), .val (.ref o2), .val .null] [(.ref o1), (.ref o0)])) _
    refine st2 _ ?_
    show Steps p.tables e below (T2.setTop (mkF m 8 #[.val (.ref o0), .val (.ref o1), .val (.ref o2), .val .null] [(.ref a2), (.ref o1), (.ref o0)])) _
    refine st3 _ ?_
    show Steps p.tables e below (T3.setTop (mkF m 11 #[.val (.ref o0), .val (.ref o1), .val (.ref o2), .val .null] [(.ref o1), (.ref o0)])) _
    refine st5 _ ?_
    show Steps p.tables e below (T5.setTop (mkF m 14 #[.val (.ref o0), .val (.ref o1), .val (.ref o2), .val .null] [(.ref o1), (.ref o0)])) _
    refine st8 _ ?_
    show Steps p.tables e below (T8.setTop (mkF m 17 #[.val (.ref o0), .val (.ref o1), .val (.ref o2), .val .null] [])) _
    refine XS.aloadN X8.here hx rfl (hb hby dc_17) rfl rfl ?_
    refine XS.aloadN X8.here hx rfl (hb hby dc_18) rfl rfl ?_
    show Steps p.tables e below (T8.setTop (mkF m 19 #[.val (.ref o0), .val (.ref o1), .val (.ref o2), .val .null] [(.ref o2), (.ref o0)])) _
    refine st11 _ ?_
    show Steps p.tables e below (T11.setTop (mkF m 22 #[.val (.ref o0), .val (.ref o1), .val (.ref o2), .val .null] [])) _
    refine XS.aloadN X11.here hx rfl (hb hby dc_22) rfl rfl ?_
    refine XS.aloadN X11.here hx rfl (hb hby dc_23) rfl rfl ?_
    show Steps p.tables e below (T11.setTop (mkF m 24 #[.val (.ref o0), .val (.ref o1), .val (.ref o2), .val .null] [.null, (.ref o0)])) _
    refine st14 _ ?_
    show Steps p.tables e below (T14.setTop (mkF m 27 #[.val (.ref o0), .val (.ref o1), .val (.ref o2), .val .null] [])) _
    exact X14.returnOut hx Bd.returns (hb hby dc_27) lhr
  · skip
    show QA54 Z o0 o1 o2 h0 n0 _ T14.heap _
    rw [e14]
    exact ⟨rfl, N14, K14, f15, f16, f17, Fw14⟩
  · skip
    show CHr Z own_EL s.vm s.heap T14.vm T14.heap
    rw [hh]
    rw [e14]
    exact CR14.trans (CHv.at X14 hZ2 hEL CR14.1)
def QA69 (Z : State) (o0 : Addr) (o1 : Addr) (h0 : Heap) (n0 : Nat) (v : Option Value) (h : Heap) (L : List Loc) : Prop := v = some (.ref o1) ∧ Fr n0 L ∧ h = h0
set_option maxRecDepth 65536 in
set_option maxHeartbeats 40000000 in
theorem rmA69 (l : Launch) (Z : State) (a0 : Array Value) (hw : ∀ d ∈ tables_1, d.before a0 Z = true) (ws : List Jvm.Cond) (o0 : Addr) (o1 : Addr) (h0 : Heap) (n0 : Nat) (Z0 : n0 ≤ h0.size) (F_o0_value : Fld Z h0 o0 "java/util/Optional" "value" "Ljava/lang/Object;" (.ref o1)) :
    MetFree l mn32 (head1 (Jvm.Cond.code mn32 jdk_32_method_15_code 2 (some (.object "java/lang/Object")) :: ws) ({ frames := 0, cells := 0, slots := 0, locals := 0 } : Room)) (fun a U => a = #[(.ref o0), .null] ∧ Z.Warmed39 U.vm ∧ U.heap = h0) (fun _ _ _ _ _ => True) (fun _ U oc_ U' => ∃ v L, oc_ = .returned v ∧ QA69 Z o0 o1 h0 n0 v U'.heap L ∧ FrameEnd U oc_ U' L ({ frames := 0, cells := 0, slots := 0, locals := 0 } : Room).cells ({ frames := 0, cells := 0, slots := 0, locals := 0 } : Room).slots) := by
  refine MetFree.of_bodySF (plainFor_of_name pn_java_util_Optional) hisR ?_
  intro p e s m args below meth c s₁ Bd hml0 hP hK
  obtain ⟨rfl, hZ, hh⟩ := hP
  have hx := Bd.exec
  have hby := Bd.bytes
  have hml : c.maxLocals = 2 := hml0
  have hown : s.vm.findClass "java/util/Optional" = some m.cls := findClass_of_methodNamed Bd.named
  have hnm := (name_of_methodNamed Bd.named Bd.method).1
  have X0 : Stand p l e ({ frames := 0, cells := 0, slots := 0, locals := 0 } : Room) s m #[(.ref o0), .null] below meth c s₁ [] 0 0 := Stand.of_body Bd
  have e0 : s₁.heap = h0 := by rw [← hh, Bd.state]; rfl
  have N0 := Fr.nil n0
  have pre0 : ∀ t, Steps p.tables e below (s₁.setTop (mkF m 0 #[.val (.ref o0), .val .null] [])) t → Steps p.tables e below (s₁.setTop (entryFrame m #[(.ref o0), .null] 2)) t := fun t k => castTop (efa_jdk_32_method_15_code_vn m o0) k
  obtain ⟨T1, X1, e1, st1⟩ := getF X0 hx hZ hown (host := "") (Or.inl (wd115 hw)) Via.refl e0 F_o0_value (g := (mkF m 1 #[.val (.ref o0), .val .null] [(.ref o0)])) rfl rfl (hb hby da_1)
  obtain ⟨T2, X2, e2, st2⟩ := getF X1 hx hZ hown (host := "") (Or.inl (wd115 hw)) Via.refl e1 F_o0_value (g := (mkF m 8 #[.val (.ref o0), .val .null] [(.ref o0)])) rfl rfl (hb hby da_8)
  obtain ⟨lfs, lhr, lhrun, lhended, lhW, lhsame⟩ := X2.leave (v := some (.ref o1)) (fun h => by rw [Bd.returns] at h; cases h)
  refine ⟨_, _, pre0 _ ?_, lhrun, lhended, _, _, rfl, ?_, ⟨_, rfl⟩, lhW, lhsame.mono (by decide) (by decide)⟩
  · skip
    show Steps p.tables e below (s₁.setTop (mkF m 0 #[.val (.ref o0), .val .null] [])) _
    refine XS.aloadN X0.here hx rfl (hb hby da_0) rfl rfl ?_
    show Steps p.tables e below (s₁.setTop (mkF m 1 #[.val (.ref o0), .val .null] [(.ref o0)])) _
    refine st1 _ ?_
    show Steps p.tables e below (T1.setTop (mkF m 4 #[.val (.ref o0), .val .null] [(.ref o1)])) _
    refine XS.ifnullNo X1.here hx rfl (hb hby da_4) rfl ?_
    show Steps p.tables e below (T1.setTop (mkF m 7 #[.val (.ref o0), .val .null] [])) _
    refine XS.aloadN X1.here hx rfl (hb hby da_7) rfl rfl ?_
    show Steps p.tables e below (T1.setTop (mkF m 8 #[.val (.ref o0), .val .null] [(.ref o0)])) _
    refine st2 _ ?_
    show Steps p.tables e below (T2.setTop (mkF m 11 #[.val (.ref o0), .val .null] [(.ref o1)])) _
    refine XS.goto X2.here hx rfl (pc0 := 11) (pc' := 15) rfl (hb hby da_11) (by decide) (by decide) ?_
    show Steps p.tables e below (T2.setTop (mkF m 15 #[.val (.ref o0), .val .null] [(.ref o1)])) _
    exact retOut X2 hx Bd.returns rfl (Or.inr (Or.inr (Or.inr (Or.inr ⟨rfl, rfl, rfl⟩)))) (hb hby da_15) lhr
  · skip
    show QA69 Z o0 o1 h0 n0 _ T2.heap _
    rw [e2]
    exact ⟨rfl, N0, rfl⟩
theorem efa_prog_8_method_5_code_vv (m : MethodId) (x0 : Addr) (x1 : Addr) : entryFrame m #[(.ref x0), (.ref x1)] 2 = mkF m 0 #[.val (.ref x0), .val (.ref x1)] [] := by first | (simp [entryFrame, mkF, argsToLocals, Value.category]; done) | rfl
def QA70 (Z : State) (o0 : Addr) (o1 : Addr) (u100 : Value) (u101 : Value) (u102 : Value) (u103 : Value) (u104 : Value) (h0 : Heap) (n0 : Nat) (v : Option Value) (h : Heap) (L : List Loc) : Prop := v = some (.ref o0) ∧ Fr n0 L ∧ Keep h0 h [o0] ∧ Exa Z h o0 cn6 ∧ Fld Z h o0 cn6 "target" cn11 (.ref o1) ∧ Fld Z h o0 cn6 "code" "Ljava/lang/String;" u100 ∧ Fld Z h o0 cn6 "message" "Ljava/lang/String;" u101 ∧ Fld Z h o0 cn6 "moreInfo" "Ljava/lang/String;" u102 ∧ Fld Z h o0 cn6 "type" "Ljava/lang/String;" u103 ∧ Fld Z h o0 cn6 "constraint" cn7 u104
set_option maxRecDepth 65536 in
set_option maxHeartbeats 40000000 in
theorem rmA70 (l : Launch) (Z : State) (a0 : Array Value) (hw : ∀ d ∈ tables_1, d.before a0 Z = true) (ws : List Jvm.Cond) (o0 : Addr) (o1 : Addr) (u100 : Value) (u101 : Value) (u102 : Value) (u103 : Value) (u104 : Value) (h0 : Heap) (n0 : Nat) (Z0 : n0 ≤ h0.size) (E_o0 : Exa Z h0 o0 cn6) (F_o0_target : Fld Z h0 o0 cn6 "target" cn11 .null) (g_o0 : n0 ≤ o0) (F_o0_code : Fld Z h0 o0 cn6 "code" "Ljava/lang/String;" u100) (F_o0_message : Fld Z h0 o0 cn6 "message" "Ljava/lang/String;" u101) (F_o0_moreInfo : Fld Z h0 o0 cn6 "moreInfo" "Ljava/lang/String;" u102) (F_o0_type : Fld Z h0 o0 cn6 "type" "Ljava/lang/String;" u103) (F_o0_constraint : Fld Z h0 o0 cn6 "constraint" cn7 u104) :
    MetFree l mn12 (head1 (Jvm.Cond.code mn12 prog_8_method_5_code 2 (some (.object cn6)) :: ws) ({ frames := 0, cells := 0, slots := 0, locals := 0 } : Room)) (fun a U => a = #[(.ref o0), (.ref o1)] ∧ Z.Warmed39 U.vm ∧ U.heap = h0) (fun _ _ _ _ _ => True) (fun _ U oc_ U' => ∃ v L, oc_ = .returned v ∧ QA70 Z o0 o1 u100 u101 u102 u103 u104 h0 n0 v U'.heap L ∧ FrameEnd U oc_ U' L ({ frames := 0, cells := 0, slots := 0, locals := 0 } : Room).cells ({ frames := 0, cells := 0, slots := 0, locals := 0 } : Room).slots) := by
  refine MetFree.of_bodySF (plainFor_of_name pn_com_example_typed_api_errors_typedapierrors_error_Detail_Builder) hisR ?_
  intro p e s m args below meth c s₁ Bd hml0 hP hK
  obtain ⟨rfl, hZ, hh⟩ := hP
  have hx := Bd.exec
  have hby := Bd.bytes
  have hml : c.maxLocals = 2 := hml0
  have hown : s.vm.findClass cn6 = some m.cls := findClass_of_methodNamed Bd.named
  have hnm := (name_of_methodNamed Bd.named Bd.method).1
  have X0 : Stand p l e ({ frames := 0, cells := 0, slots := 0, locals := 0 } : Room) s m #[(.ref o0), (.ref o1)] below meth c s₁ [] 0 0 := Stand.of_body Bd
  have e0 : s₁.heap = h0 := by rw [← hh, Bd.state]; rfl
  have N0 := Fr.nil n0
  have pre0 : ∀ t, Steps p.tables e below (s₁.setTop (mkF m 0 #[.val (.ref o0), .val (.ref o1)] [])) t → Steps p.tables e below (s₁.setTop (entryFrame m #[(.ref o0), (.ref o1)] 2)) t := fun t k => castTop (efa_prog_8_method_5_code_vv m o0 o1) k
  obtain ⟨T1, h1, X1, e1, W1, st1⟩ := putF X0 hx hZ hown (host := "") (Or.inl (wd136 hw)) Via.refl e0 F_o0_target E_o0 (Or.inl (wd137 hw)) (wd97 hw) (ty := (.object cn14)) (by decide) rfl rfl (g := (mkF m 2 #[.val (.ref o0), .val (.ref o1)] [(.ref o1), (.ref o0)])) rfl rfl (hb hby dd_1_2)
  have N1 := Fr.snoc X1 N0 g_o0
  have Z1 : n0 ≤ h1.size := by rw [W1.size]; exact Z0
  have K1 : Keep h0 h1 [o0] := ((Keep.refl h0 [o0]).wr W1 (Or.inl (List.mem_of_getElem? (i := 0) rfl)))
  have Fw1 := F_o0_target.same W1
  have f2 := (E_o0.wr W1)
  have f3 := (F_o0_code.other W1 (Or.inr (slot_ne (Or.inl (wd109 hw)) (Or.inl (wd137 hw)) (by decide) (t := (.object "java/lang/String")) (t' := (.object cn14)) (by decide) (by decide))))
  have f4 := (F_o0_message.other W1 (Or.inr (slot_ne (Or.inl (wd123 hw)) (Or.inl (wd137 hw)) (by decide) (t := (.object "java/lang/String")) (t' := (.object cn14)) (by decide) (by decide))))
  have f5 := (F_o0_moreInfo.other W1 (Or.inr (slot_ne (Or.inl (wd130 hw)) (Or.inl (wd137 hw)) (by decide) (t := (.object "java/lang/String")) (t' := (.object cn14)) (by decide) (by decide))))
  have f6 := (F_o0_type.other W1 (Or.inr (slot_ne (Or.inl (wd157 hw)) (Or.inl (wd137 hw)) (by decide) (t := (.object "java/lang/String")) (t' := (.object cn14)) (by decide) (by decide))))
  have f7 := (F_o0_constraint.other W1 (Or.inr (slot_ne (Or.inl (wd167 hw)) (Or.inl (wd137 hw)) (by decide) (t := (.object cn9)) (t' := (.object cn14)) (by decide) (by decide))))
  obtain ⟨lfs, lhr, lhrun, lhended, lhW, lhsame⟩ := X1.leave (v := some (.ref o0)) (fun h => by rw [Bd.returns] at h; cases h)
  refine ⟨_, _, pre0 _ ?_, lhrun, lhended, _, _, rfl, ?_, ⟨_, rfl⟩, lhW, lhsame.mono (by decide) (by decide)⟩
  · skip
    show Steps p.tables e below (s₁.setTop (mkF m 0 #[.val (.ref o0), .val (.ref o1)] [])) _
    refine XS.aloadN X0.here hx rfl (hb hby dd_1_0) rfl rfl ?_
    refine XS.aloadN X0.here hx rfl (hb hby dd_1_1) rfl rfl ?_
    show Steps p.tables e below (s₁.setTop (mkF m 2 #[.val (.ref o0), .val (.ref o1)] [(.ref o1), (.ref o0)])) _
    refine st1 _ ?_
    show Steps p.tables e below (T1.setTop (mkF m 5 #[.val (.ref o0), .val (.ref o1)] [])) _
    refine XS.aloadN X1.here hx rfl (hb hby dd_1_5) rfl rfl ?_
    show Steps p.tables e below (T1.setTop (mkF m 6 #[.val (.ref o0), .val (.ref o1)] [(.ref o0)])) _
    exact retOut X1 hx Bd.returns rfl (Or.inr (Or.inr (Or.inr (Or.inr ⟨rfl, rfl, rfl⟩)))) (hb hby dd_1_6) lhr
  · skip
    show QA70 Z o0 o1 u100 u101 u102 u103 u104 h0 n0 _ T1.heap _
    rw [e1]
    exact ⟨rfl, N1, K1, f2, Fw1, f3, f4, f5, f6, f7⟩
def QA72 (Z : State) (o0 : Addr) (o1 : Addr) (u2 : Value) (u3 : Value) (o4 : Addr) (u5 : Value) (h0 : Heap) (n0 : Nat) (v : Option Value) (h : Heap) (L : List Loc) : Prop := v = none ∧ Fr n0 L ∧ Keep h0 h [o0] ∧ Exa Z h o0 cn13 ∧ Fld Z h o0 cn13 "code" "Ljava/lang/String;" u2 ∧ Fld Z h o0 cn13 "message" "Ljava/lang/String;" u3 ∧ Fld Z h o0 cn13 "type" "Ljava/lang/String;" .null ∧ Fld Z h o0 cn13 "target" cn11 (.ref o4) ∧ Fld Z h o0 cn13 "moreInfo" "Ljava/lang/String;" u5 ∧ Fld Z h o0 cn13 "constraint" cn7 .null
set_option maxRecDepth 65536 in
set_option maxHeartbeats 40000000 in
theorem rmA72 (l : Launch) (Z : State) (a0 : Array Value) (hw : ∀ d ∈ tables_1, d.before a0 Z = true) (ws : List Jvm.Cond) (o0 : Addr) (o1 : Addr) (u2 : Value) (u3 : Value) (o4 : Addr) (u5 : Value) (h0 : Heap) (n0 : Nat) (Z0 : n0 ≤ h0.size) (F_o1_code : Fld Z h0 o1 cn6 "code" "Ljava/lang/String;" u2) (E_o0 : Exa Z h0 o0 cn13) (F_o0_code : Fld Z h0 o0 cn13 "code" "Ljava/lang/String;" .null) (r_u2 : u2.isRef = true) (g_o0 : n0 ≤ o0) (F_o1_message : Fld Z h0 o1 cn6 "message" "Ljava/lang/String;" u3) (ne_o1_o0 : o1 ≠ o0) (F_o0_message : Fld Z h0 o0 cn13 "message" "Ljava/lang/String;" .null) (r_u3 : u3.isRef = true) (F_o1_type : Fld Z h0 o1 cn6 "type" "Ljava/lang/String;" .null) (F_o0_type : Fld Z h0 o0 cn13 "type" "Ljava/lang/String;" .null) (F_o1_target : Fld Z h0 o1 cn6 "target" cn11 (.ref o4)) (F_o0_target : Fld Z h0 o0 cn13 "target" cn11 .null) (F_o1_moreInfo : Fld Z h0 o1 cn6 "moreInfo" "Ljava/lang/String;" u5) (F_o0_moreInfo : Fld Z h0 o0 cn13 "moreInfo" "Ljava/lang/String;" .null) (r_u5 : u5.isRef = true) (F_o1_constraint : Fld Z h0 o1 cn6 "constraint" cn7 .null) (F_o0_constraint : Fld Z h0 o0 cn13 "constraint" cn7 .null) :
    MetFree l mn0 (head1 (Jvm.Cond.code mn0 prog_7_method_1_code 2 none :: ws) ({ frames := 1, cells := 0, slots := 0, locals := 12 } : Room)) (fun a U => a = #[(.ref o0), (.ref o1)] ∧ Z.Warmed39 U.vm ∧ U.heap = h0) (fun _ _ _ _ _ => True) (fun _ U oc_ U' => ∃ v L, oc_ = .returned v ∧ QA72 Z o0 o1 u2 u3 o4 u5 h0 n0 v U'.heap L ∧ FrameEnd U oc_ U' L ({ frames := 1, cells := 0, slots := 0, locals := 12 } : Room).cells ({ frames := 1, cells := 0, slots := 0, locals := 12 } : Room).slots) := by
  refine MetFree.of_bodySF (plainFor_of_name pn_com_example_typed_api_errors_typedapierrors_error_Detail) hisR ?_
  intro p e s m args below meth c s₁ Bd hml0 hP hK
  obtain ⟨rfl, hZ, hh⟩ := hP
  have hx := Bd.exec
  have hby := Bd.bytes
  have hml : c.maxLocals = 2 := hml0
  have hown : s.vm.findClass cn13 = some m.cls := findClass_of_methodNamed Bd.named
  have hnm := (name_of_methodNamed Bd.named Bd.method).1
  have X0 : Stand p l e ({ frames := 1, cells := 0, slots := 0, locals := 12 } : Room) s m #[(.ref o0), (.ref o1)] below meth c s₁ [] 0 0 := Stand.of_body Bd
  have e0 : s₁.heap = h0 := by rw [← hh, Bd.state]; rfl
  have N0 := Fr.nil n0
  have pre0 : ∀ t, Steps p.tables e below (s₁.setTop (mkF m 0 #[.val (.ref o0), .val (.ref o1)] [])) t → Steps p.tables e below (s₁.setTop (entryFrame m #[(.ref o0), (.ref o1)] 2)) t := fun t k => castTop (efa_prog_7_method_1_code_vv m o0 o1) k
  obtain ⟨T1, X1, e1, st1⟩ := initO X0 hx hZ hown (wd149 hw) (wd16 hw) (wd17 hw) e0 (g := (mkF m 1 #[.val (.ref o0), .val (.ref o1)] [(.ref o0)])) rfl (by rw [hml]; rfl) rfl (hb hby dr_1) (by decide) (W := 0) (by show 2 * 0 + _ ≤ _; exact Nat.le_of_eq rfl) (by decide)
  obtain ⟨T2, X2, e2, st2⟩ := own_getFR X1 hx hZ hown (wd150 hw) e1 F_o1_code (g := (mkF m 6 #[.val (.ref o0), .val (.ref o1)] [(.ref o1), (.ref o0)])) rfl rfl (hb hby dr_6)
  obtain ⟨T3, h3, X3, e3, W3, st3⟩ := putF X2 hx hZ hown (host := "") (Or.inl (wd151 hw)) Via.refl e2 F_o0_code E_o0 (Or.inr ⟨(wd152 hw), rfl, hnm⟩) (wd144 hw) (ty := (.object "java/lang/String")) (by decide) (own_nrO r_u2) (own_ftO r_u2) (g := (mkF m 9 #[.val (.ref o0), .val (.ref o1)] [u2, (.ref o0)])) rfl rfl (hb hby dr_9)
  have N3 := Fr.snoc X3 N0 g_o0
  have Z3 : n0 ≤ h3.size := by rw [W3.size]; exact Z0
  have K3 : Keep h0 h3 [o0] := ((Keep.refl h0 [o0]).wr W3 (Or.inl (List.mem_of_getElem? (i := 0) rfl)))
  have Fw3 := F_o0_code.same W3
  have f4 := (F_o1_message.other W3 (Or.inl ne_o1_o0))
  obtain ⟨T5, X5, e5, st5⟩ := own_getFR X3 hx hZ hown (wd153 hw) e3 f4 (g := (mkF m 14 #[.val (.ref o0), .val (.ref o1)] [(.ref o1), (.ref o0)])) rfl rfl (hb hby dr_14)
  have f6 := (E_o0.wr W3)
  have f7 := (F_o0_message.other W3 (Or.inr (slot_ne (Or.inr (wd155 hw)) (Or.inr (wd152 hw)) (by decide) (t := (.object "java/lang/String")) (t' := (.object "java/lang/String")) (by decide) (by decide))))
  obtain ⟨T8, h8, X8, e8, W8, st8⟩ := putF X5 hx hZ hown (host := "") (Or.inl (wd154 hw)) Via.refl e5 f7 f6 (Or.inr ⟨(wd155 hw), rfl, hnm⟩) (wd144 hw) (ty := (.object "java/lang/String")) (by decide) (own_nrO r_u3) (own_ftO r_u3) (g := (mkF m 17 #[.val (.ref o0), .val (.ref o1)] [u3, (.ref o0)])) rfl rfl (hb hby dr_17)
  have N8 := Fr.snoc X8 N3 g_o0
  have Z8 : n0 ≤ h8.size := by rw [W8.size]; exact Z3
  have K8 : Keep h0 h8 [o0] := (K3.wr W8 (Or.inl (List.mem_of_getElem? (i := 0) rfl)))
  have Fw8 := f7.same W8
  have f9 := ((F_o1_type.other W3 (Or.inl ne_o1_o0)).other W8 (Or.inl ne_o1_o0))
  obtain ⟨T10, X10, e10, st10⟩ := own_getFR X8 hx hZ hown (wd156 hw) e8 f9 (g := (mkF m 22 #[.val (.ref o0), .val (.ref o1)] [(.ref o1), (.ref o0)])) rfl rfl (hb hby dr_22)
  have f11 := (f6.wr W8)
  have f12 := ((F_o0_type.other W3 (Or.inr (slot_ne (Or.inr (wd159 hw)) (Or.inr (wd152 hw)) (by decide) (t := (.object "java/lang/String")) (t' := (.object "java/lang/String")) (by decide) (by decide)))).other W8 (Or.inr (slot_ne (Or.inr (wd159 hw)) (Or.inr (wd155 hw)) (by decide) (t := (.object "java/lang/String")) (t' := (.object "java/lang/String")) (by decide) (by decide))))
  obtain ⟨T13, h13, X13, e13, W13, st13⟩ := putF X10 hx hZ hown (host := "") (Or.inl (wd158 hw)) Via.refl e10 f12 f11 (Or.inr ⟨(wd159 hw), rfl, hnm⟩) (wd144 hw) (ty := (.object "java/lang/String")) (by decide) rfl rfl (g := (mkF m 25 #[.val (.ref o0), .val (.ref o1)] [.null, (.ref o0)])) rfl rfl (hb hby dr_25)
  have N13 := Fr.snoc X13 N8 g_o0
  have Z13 : n0 ≤ h13.size := by rw [W13.size]; exact Z8
  have K13 : Keep h0 h13 [o0] := (K8.wr W13 (Or.inl (List.mem_of_getElem? (i := 0) rfl)))
  have Fw13 := f12.same W13
  have f14 := (((F_o1_target.other W3 (Or.inl ne_o1_o0)).other W8 (Or.inl ne_o1_o0)).other W13 (Or.inl ne_o1_o0))
  obtain ⟨T15, X15, e15, st15⟩ := own_getFR X13 hx hZ hown (wd160 hw) e13 f14 (g := (mkF m 30 #[.val (.ref o0), .val (.ref o1)] [(.ref o1), (.ref o0)])) rfl rfl (hb hby dr_30)
  have f16 := (f11.wr W13)
  have f17 := (((F_o0_target.other W3 (Or.inr (slot_ne (Or.inr (wd162 hw)) (Or.inr (wd152 hw)) (by decide) (t := (.object cn14)) (t' := (.object "java/lang/String")) (by decide) (by decide)))).other W8 (Or.inr (slot_ne (Or.inr (wd162 hw)) (Or.inr (wd155 hw)) (by decide) (t := (.object cn14)) (t' := (.object "java/lang/String")) (by decide) (by decide)))).other W13 (Or.inr (slot_ne (Or.inr (wd162 hw)) (Or.inr (wd159 hw)) (by decide) (t := (.object cn14)) (t' := (.object "java/lang/String")) (by decide) (by decide))))
  obtain ⟨T18, h18, X18, e18, W18, st18⟩ := putF X15 hx hZ hown (host := "") (Or.inl (wd161 hw)) Via.refl e15 f17 f16 (Or.inr ⟨(wd162 hw), rfl, hnm⟩) (wd144 hw) (ty := (.object cn14)) (by decide) rfl rfl (g := (mkF m 33 #[.val (.ref o0), .val (.ref o1)] [(.ref o4), (.ref o0)])) rfl rfl (hb hby dr_33)
  have N18 := Fr.snoc X18 N13 g_o0
  have Z18 : n0 ≤ h18.size := by rw [W18.size]; exact Z13
  have K18 : Keep h0 h18 [o0] := (K13.wr W18 (Or.inl (List.mem_of_getElem? (i := 0) rfl)))
  have Fw18 := f17.same W18
  have f19 := ((((F_o1_moreInfo.other W3 (Or.inl ne_o1_o0)).other W8 (Or.inl ne_o1_o0)).other W13 (Or.inl ne_o1_o0)).other W18 (Or.inl ne_o1_o0))
  obtain ⟨T20, X20, e20, st20⟩ := own_getFR X18 hx hZ hown (wd163 hw) e18 f19 (g := (mkF m 38 #[.val (.ref o0), .val (.ref o1)] [(.ref o1), (.ref o0)])) rfl rfl (hb hby dr_38)
  have f21 := (f16.wr W18)
  have f22 := ((((F_o0_moreInfo.other W3 (Or.inr (slot_ne (Or.inr (wd165 hw)) (Or.inr (wd152 hw)) (by decide) (t := (.object "java/lang/String")) (t' := (.object "java/lang/String")) (by decide) (by decide)))).other W8 (Or.inr (slot_ne (Or.inr (wd165 hw)) (Or.inr (wd155 hw)) (by decide) (t := (.object "java/lang/String")) (t' := (.object "java/lang/String")) (by decide) (by decide)))).other W13 (Or.inr (slot_ne (Or.inr (wd165 hw)) (Or.inr (wd159 hw)) (by decide) (t := (.object "java/lang/String")) (t' := (.object "java/lang/String")) (by decide) (by decide)))).other W18 (Or.inr (slot_ne (Or.inr (wd165 hw)) (Or.inr (wd162 hw)) (by decide) (t := (.object "java/lang/String")) (t' := (.object cn14)) (by decide) (by decide))))
  obtain ⟨T23, h23, X23, e23, W23, st23⟩ := putF X20 hx hZ hown (host := "") (Or.inl (wd164 hw)) Via.refl e20 f22 f21 (Or.inr ⟨(wd165 hw), rfl, hnm⟩) (wd144 hw) (ty := (.object "java/lang/String")) (by decide) (own_nrO r_u5) (own_ftO r_u5) (g := (mkF m 41 #[.val (.ref o0), .val (.ref o1)] [u5, (.ref o0)])) rfl rfl (hb hby dr_41)
  have N23 := Fr.snoc X23 N18 g_o0
  have Z23 : n0 ≤ h23.size := by rw [W23.size]; exact Z18
  have K23 : Keep h0 h23 [o0] := (K18.wr W23 (Or.inl (List.mem_of_getElem? (i := 0) rfl)))
  have Fw23 := f22.same W23
  have f24 := (((((F_o1_constraint.other W3 (Or.inl ne_o1_o0)).other W8 (Or.inl ne_o1_o0)).other W13 (Or.inl ne_o1_o0)).other W18 (Or.inl ne_o1_o0)).other W23 (Or.inl ne_o1_o0))
  obtain ⟨T25, X25, e25, st25⟩ := own_getFR X23 hx hZ hown (wd166 hw) e23 f24 (g := (mkF m 46 #[.val (.ref o0), .val (.ref o1)] [(.ref o1), (.ref o0)])) rfl rfl (hb hby dr_46)
  have f26 := (f21.wr W23)
  have f27 := (((((F_o0_constraint.other W3 (Or.inr (slot_ne (Or.inr (wd169 hw)) (Or.inr (wd152 hw)) (by decide) (t := (.object cn9)) (t' := (.object "java/lang/String")) (by decide) (by decide)))).other W8 (Or.inr (slot_ne (Or.inr (wd169 hw)) (Or.inr (wd155 hw)) (by decide) (t := (.object cn9)) (t' := (.object "java/lang/String")) (by decide) (by decide)))).other W13 (Or.inr (slot_ne (Or.inr (wd169 hw)) (Or.inr (wd159 hw)) (by decide) (t := (.object cn9)) (t' := (.object "java/lang/String")) (by decide) (by decide)))).other W18 (Or.inr (slot_ne (Or.inr (wd169 hw)) (Or.inr (wd162 hw)) (by decide) (t := (.object cn9)) (t' := (.object cn14)) (by decide) (by decide)))).other W23 (Or.inr (slot_ne (Or.inr (wd169 hw)) (Or.inr (wd165 hw)) (by decide) (t := (.object cn9)) (t' := (.object "java/lang/String")) (by decide) (by decide))))
  obtain ⟨T28, h28, X28, e28, W28, st28⟩ := putF X25 hx hZ hown (host := "") (Or.inl (wd168 hw)) Via.refl e25 f27 f26 (Or.inr ⟨(wd169 hw), rfl, hnm⟩) (wd144 hw) (ty := (.object cn9)) (by decide) rfl rfl (g := (mkF m 49 #[.val (.ref o0), .val (.ref o1)] [.null, (.ref o0)])) rfl rfl (hb hby dr_49)
  have N28 := Fr.snoc X28 N23 g_o0
  have Z28 : n0 ≤ h28.size := by rw [W28.size]; exact Z23
  have K28 : Keep h0 h28 [o0] := (K23.wr W28 (Or.inl (List.mem_of_getElem? (i := 0) rfl)))
  have Fw28 := f27.same W28
  have f29 := (f26.wr W28)
  have f30 := (((((Fw3.other W8 (Or.inr (slot_ne (Or.inr (wd152 hw)) (Or.inr (wd155 hw)) (by decide) (t := (.object "java/lang/String")) (t' := (.object "java/lang/String")) (by decide) (by decide)))).other W13 (Or.inr (slot_ne (Or.inr (wd152 hw)) (Or.inr (wd159 hw)) (by decide) (t := (.object "java/lang/String")) (t' := (.object "java/lang/String")) (by decide) (by decide)))).other W18 (Or.inr (slot_ne (Or.inr (wd152 hw)) (Or.inr (wd162 hw)) (by decide) (t := (.object "java/lang/String")) (t' := (.object cn14)) (by decide) (by decide)))).other W23 (Or.inr (slot_ne (Or.inr (wd152 hw)) (Or.inr (wd165 hw)) (by decide) (t := (.object "java/lang/String")) (t' := (.object "java/lang/String")) (by decide) (by decide)))).other W28 (Or.inr (slot_ne (Or.inr (wd152 hw)) (Or.inr (wd169 hw)) (by decide) (t := (.object "java/lang/String")) (t' := (.object cn9)) (by decide) (by decide))))
  have f31 := ((((Fw8.other W13 (Or.inr (slot_ne (Or.inr (wd155 hw)) (Or.inr (wd159 hw)) (by decide) (t := (.object "java/lang/String")) (t' := (.object "java/lang/String")) (by decide) (by decide)))).other W18 (Or.inr (slot_ne (Or.inr (wd155 hw)) (Or.inr (wd162 hw)) (by decide) (t := (.object "java/lang/String")) (t' := (.object cn14)) (by decide) (by decide)))).other W23 (Or.inr (slot_ne (Or.inr (wd155 hw)) (Or.inr (wd165 hw)) (by decide) (t := (.object "java/lang/String")) (t' := (.object "java/lang/String")) (by decide) (by decide)))).other W28 (Or.inr (slot_ne (Or.inr (wd155 hw)) (Or.inr (wd169 hw)) (by decide) (t := (.object "java/lang/String")) (t' := (.object cn9)) (by decide) (by decide))))
  have f32 := (((Fw13.other W18 (Or.inr (slot_ne (Or.inr (wd159 hw)) (Or.inr (wd162 hw)) (by decide) (t := (.object "java/lang/String")) (t' := (.object cn14)) (by decide) (by decide)))).other W23 (Or.inr (slot_ne (Or.inr (wd159 hw)) (Or.inr (wd165 hw)) (by decide) (t := (.object "java/lang/String")) (t' := (.object "java/lang/String")) (by decide) (by decide)))).other W28 (Or.inr (slot_ne (Or.inr (wd159 hw)) (Or.inr (wd169 hw)) (by decide) (t := (.object "java/lang/String")) (t' := (.object cn9)) (by decide) (by decide))))
  have f33 := ((Fw18.other W23 (Or.inr (slot_ne (Or.inr (wd162 hw)) (Or.inr (wd165 hw)) (by decide) (t := (.object cn14)) (t' := (.object "java/lang/String")) (by decide) (by decide)))).other W28 (Or.inr (slot_ne (Or.inr (wd162 hw)) (Or.inr (wd169 hw)) (by decide) (t := (.object cn14)) (t' := (.object cn9)) (by decide) (by decide))))
  have f34 := (Fw23.other W28 (Or.inr (slot_ne (Or.inr (wd165 hw)) (Or.inr (wd169 hw)) (by decide) (t := (.object "java/lang/String")) (t' := (.object cn9)) (by decide) (by decide))))
  obtain ⟨lfs, lhr, lhrun, lhended, lhW, lhsame⟩ := X28.leave (v := none) (fun _ => rfl)
  refine ⟨_, _, pre0 _ ?_, lhrun, lhended, _, _, rfl, ?_, ⟨_, rfl⟩, lhW, lhsame.mono (by decide) (by decide)⟩
  · skip
    show Steps p.tables e below (s₁.setTop (mkF m 0 #[.val (.ref o0), .val (.ref o1)] [])) _
    refine XS.aloadN X0.here hx rfl (hb hby dr_0) rfl rfl ?_
    show Steps p.tables e below (s₁.setTop (mkF m 1 #[.val (.ref o0), .val (.ref o1)] [(.ref o0)])) _
    refine st1 _ ?_
    show Steps p.tables e below (T1.setTop (mkF m 4 #[.val (.ref o0), .val (.ref o1)] [])) _
    refine XS.aloadN X1.here hx rfl (hb hby dr_4) rfl rfl ?_
    show Steps p.tables e below (T1.setTop (mkF m 5 #[.val (.ref o0), .val (.ref o1)] [(.ref o0)])) _
    refine XS.aloadN X1.here hx rfl (hb hby dr_5) rfl rfl ?_
    show Steps p.tables e below (T1.setTop (mkF m 6 #[.val (.ref o0), .val (.ref o1)] [(.ref o1), (.ref o0)])) _
    refine st2 _ ?_
    show Steps p.tables e below (T2.setTop (mkF m 9 #[.val (.ref o0), .val (.ref o1)] [u2, (.ref o0)])) _
    refine st3 _ ?_
    show Steps p.tables e below (T3.setTop (mkF m 12 #[.val (.ref o0), .val (.ref o1)] [])) _
    refine XS.aloadN X3.here hx rfl (hb hby dr_12) rfl rfl ?_
    show Steps p.tables e below (T3.setTop (mkF m 13 #[.val (.ref o0), .val (.ref o1)] [(.ref o0)])) _
    refine XS.aloadN X3.here hx rfl (hb hby dr_13) rfl rfl ?_
    show Steps p.tables e below (T3.setTop (mkF m 14 #[.val (.ref o0), .val (.ref o1)] [(.ref o1), (.ref o0)])) _
    refine st5 _ ?_
    show Steps p.tables e below (T5.setTop (mkF m 17 #[.val (.ref o0), .val (.ref o1)] [u3, (.ref o0)])) _
    refine st8 _ ?_
    show Steps p.tables e below (T8.setTop (mkF m 20 #[.val (.ref o0), .val (.ref o1)] [])) _
    refine XS.aloadN X8.here hx rfl (hb hby dr_20) rfl rfl ?_
    show Steps p.tables e below (T8.setTop (mkF m 21 #[.val (.ref o0), .val (.ref o1)] [(.ref o0)])) _
    refine XS.aloadN X8.here hx rfl (hb hby dr_21) rfl rfl ?_
    show Steps p.tables e below (T8.setTop (mkF m 22 #[.val (.ref o0), .val (.ref o1)] [(.ref o1), (.ref o0)])) _
    refine st10 _ ?_
    show Steps p.tables e below (T10.setTop (mkF m 25 #[.val (.ref o0), .val (.ref o1)] [.null, (.ref o0)])) _
    refine st13 _ ?_
    show Steps p.tables e below (T13.setTop (mkF m 28 #[.val (.ref o0), .val (.ref o1)] [])) _
    refine XS.aloadN X13.here hx rfl (hb hby dr_28) rfl rfl ?_
    show Steps p.tables e below (T13.setTop (mkF m 29 #[.val (.ref o0), .val (.ref o1)] [(.ref o0)])) _
    refine XS.aloadN X13.here hx rfl (hb hby dr_29) rfl rfl ?_
    show Steps p.tables e below (T13.setTop (mkF m 30 #[.val (.ref o0), .val (.ref o1)] [(.ref o1), (.ref o0)])) _
    refine st15 _ ?_
    show Steps p.tables e below (T15.setTop (mkF m 33 #[.val (.ref o0), .val (.ref o1)] [(.ref o4), (.ref o0)])) _
    refine st18 _ ?_
    show Steps p.tables e below (T18.setTop (mkF m 36 #[.val (.ref o0), .val (.ref o1)] [])) _
    refine XS.aloadN X18.here hx rfl (hb hby dr_36) rfl rfl ?_
    show Steps p.tables e below (T18.setTop (mkF m 37 #[.val (.ref o0), .val (.ref o1)] [(.ref o0)])) _
    refine XS.aloadN X18.here hx rfl (hb hby dr_37) rfl rfl ?_
    show Steps p.tables e below (T18.setTop (mkF m 38 #[.val (.ref o0), .val (.ref o1)] [(.ref o1), (.ref o0)])) _
    refine st20 _ ?_
    show Steps p.tables e below (T20.setTop (mkF m 41 #[.val (.ref o0), .val (.ref o1)] [u5, (.ref o0)])) _
    refine st23 _ ?_
    show Steps p.tables e below (T23.setTop (mkF m 44 #[.val (.ref o0), .val (.ref o1)] [])) _
    refine XS.aloadN X23.here hx rfl (hb hby dr_44) rfl rfl ?_
    show Steps p.tables e below (T23.setTop (mkF m 45 #[.val (.ref o0), .val (.ref o1)] [(.ref o0)])) _
    refine XS.aloadN X23.here hx rfl (hb hby dr_45) rfl rfl ?_
    show Steps p.tables e below (T23.setTop (mkF m 46 #[.val (.ref o0), .val (.ref o1)] [(.ref o1), (.ref o0)])) _
    refine st25 _ ?_
    show Steps p.tables e below (T25.setTop (mkF m 49 #[.val (.ref o0), .val (.ref o1)] [.null, (.ref o0)])) _
    refine st28 _ ?_
    show Steps p.tables e below (T28.setTop (mkF m 52 #[.val (.ref o0), .val (.ref o1)] [])) _
    exact X28.returnOut hx Bd.returns (hb hby dr_52) lhr
  · skip
    show QA72 Z o0 o1 u2 u3 o4 u5 h0 n0 _ T28.heap _
    rw [e28]
    exact ⟨rfl, N28, K28, f29, f30, f31, f32, f33, f34, Fw28⟩
def QA71 (Z : State) (o0 : Addr) (u1 : Value) (u2 : Value) (o3 : Addr) (u4 : Value) (h0 : Heap) (n0 : Nat) (v : Option Value) (h : Heap) (L : List Loc) : Prop := ∃ (b1 : Addr), v = some (.ref b1) ∧ Fr n0 L ∧ Keep h0 h [] ∧ h0.size ≤ b1 ∧ Exa Z h b1 cn13 ∧ Fld Z h b1 cn13 "code" "Ljava/lang/String;" u1 ∧ Fld Z h b1 cn13 "message" "Ljava/lang/String;" u2 ∧ Fld Z h b1 cn13 "type" "Ljava/lang/String;" .null ∧ Fld Z h b1 cn13 "target" cn11 (.ref o3) ∧ Fld Z h b1 cn13 "moreInfo" "Ljava/lang/String;" u4 ∧ Fld Z h b1 cn13 "constraint" cn7 .null
set_option maxRecDepth 65536 in
set_option maxHeartbeats 40000000 in
theorem rmA71 (l : Launch) (Z : State) (a0 : Array Value) (hw : ∀ d ∈ tables_1, d.before a0 Z = true) (ws : List Jvm.Cond) (o0 : Addr) (u1 : Value) (u2 : Value) (o3 : Addr) (u4 : Value) (h0 : Heap) (n0 : Nat) (Z0 : n0 ≤ h0.size) (F_o0_code : Fld Z h0 o0 cn6 "code" "Ljava/lang/String;" u1) (F_o0_message : Fld Z h0 o0 cn6 "message" "Ljava/lang/String;" u2) (F_o0_type : Fld Z h0 o0 cn6 "type" "Ljava/lang/String;" .null) (F_o0_target : Fld Z h0 o0 cn6 "target" cn11 (.ref o3)) (F_o0_moreInfo : Fld Z h0 o0 cn6 "moreInfo" "Ljava/lang/String;" u4) (F_o0_constraint : Fld Z h0 o0 cn6 "constraint" cn7 .null) (r_u1 : u1.isRef = true) (r_u2 : u2.isRef = true) (r_u4 : u4.isRef = true) :
    MetFree l mn8 (head1 (Jvm.Cond.code mn8 prog_8_method_8_code 1 (some (.object cn13)) :: ws) ({ frames := 2, cells := 1, slots := 6, locals := 26 } : Room)) (fun a U => a = #[(.ref o0)] ∧ Z.Warmed39 U.vm ∧ U.heap = h0) (fun _ _ _ _ _ => True) (fun _ U oc_ U' => ∃ v L, oc_ = .returned v ∧ QA71 Z o0 u1 u2 o3 u4 h0 n0 v U'.heap L ∧ FrameEnd U oc_ U' L ({ frames := 2, cells := 1, slots := 6, locals := 26 } : Room).cells ({ frames := 2, cells := 1, slots := 6, locals := 26 } : Room).slots) := by
  refine MetFree.of_bodySF (plainFor_of_name pn_com_example_typed_api_errors_typedapierrors_error_Detail_Builder) hisR ?_
  intro p e s m args below meth c s₁ Bd hml0 hP hK
  obtain ⟨rfl, hZ, hh⟩ := hP
  have hx := Bd.exec
  have hby := Bd.bytes
  have hml : c.maxLocals = 1 := hml0
  have hown : s.vm.findClass cn6 = some m.cls := findClass_of_methodNamed Bd.named
  have hnm := (name_of_methodNamed Bd.named Bd.method).1
  have X0 : Stand p l e ({ frames := 2, cells := 1, slots := 6, locals := 26 } : Room) s m #[(.ref o0)] below meth c s₁ [] 0 0 := Stand.of_body Bd
  have e0 : s₁.heap = h0 := by rw [← hh, Bd.state]; rfl
  have N0 := Fr.nil n0
  have pre0 : ∀ t, Steps p.tables e below (s₁.setTop (mkF m 0 #[.val (.ref o0)] [])) t → Steps p.tables e below (s₁.setTop (entryFrame m #[(.ref o0)] 1)) t := fun t k => castTop (efa_prog_8_method_8_code_v m o0) k
  obtain ⟨T1, h1, X1, e1, E1, A1, D1, -, st1⟩ := newO X0 hx hZ hown (wd143 hw) (wd144 hw) (wd145 hw) e0 (g := (mkF m 0 #[.val (.ref o0)] [])) rfl (hb hby dz_0) (by decide) (by decide)
  obtain ⟨b1, g1⟩ : ∃ z, z = h0.size := ⟨_, rfl⟩
  rw [← g1] at A1 D1 st1
  have ge_b1 : n0 ≤ b1 := Nat.le_trans Z0 (Nat.le_of_eq g1.symm)
  have sz_b1 : h0.size ≤ b1 := Nat.le_trans (Nat.le_refl _) (Nat.le_of_eq g1.symm)
  have Z1 : n0 ≤ h1.size := Nat.le_trans Z0 E1.1
  have K1 : Keep h0 h1 [] := ((Keep.refl h0 []).ext E1)
  have F1_code : Fld Z h1 b1 cn13 "code" "Ljava/lang/String;" .null := D1 (Or.inr (wd152 hw)) (ty := (.object "java/lang/String")) (by decide)
  have F1_message : Fld Z h1 b1 cn13 "message" "Ljava/lang/String;" .null := D1 (Or.inr (wd155 hw)) (ty := (.object "java/lang/String")) (by decide)
  have F1_type : Fld Z h1 b1 cn13 "type" "Ljava/lang/String;" .null := D1 (Or.inr (wd159 hw)) (ty := (.object "java/lang/String")) (by decide)
  have F1_target : Fld Z h1 b1 cn13 "target" cn11 .null := D1 (Or.inr (wd162 hw)) (ty := (.object cn14)) (by decide)
  have F1_moreInfo : Fld Z h1 b1 cn13 "moreInfo" "Ljava/lang/String;" .null := D1 (Or.inr (wd165 hw)) (ty := (.object "java/lang/String")) (by decide)
  have F1_constraint : Fld Z h1 b1 cn13 "constraint" cn7 .null := D1 (Or.inr (wd169 hw)) (ty := (.object cn9)) (by decide)
  have f2 := (F_o0_code.ext E1)
  have f3 := (F_o0_message.ext E1)
  have f4 := (F_o0_type.ext E1)
  have f5 := (F_o0_target.ext E1)
  have f6 := (F_o0_moreInfo.ext E1)
  have f7 := (F_o0_constraint.ext E1)
  obtain ⟨_, _, ⟨T8, L8, kc8, ks8⟩, -, X8, ⟨Lc8, hQ8, l8, y8, z8⟩, st8⟩ := X1.specialBackNest hx (y := mn0) rfl hown (Cond.methodLinkNest_wide hZ (wd146 hw) :) (mvT hZ (wd147 hw)) (mvT hZ (wd148 hw)) (by decide) (backOf (W := 1) (rmA72 l Z a0 hw [] b1 o0 u1 u2 o3 u4 h1 n0 Z1 f2 A1 F1_code r_u1 ge_b1 f3 (Nat.ne_of_lt (Nat.lt_of_lt_of_le F_o0_code.lt sz_b1)) F1_message r_u2 f4 F1_type f5 F1_target f6 F1_moreInfo r_u4 f7 F1_constraint) hZ (wd148 hw) (wd145 hw) (by decide) (by decide)) (g := (mkF m 5 #[.val (.ref o0)] [(.ref o0), (.ref b1), (.ref b1)])) rfl (by rw [hml]; rfl) (Steps.refl _) (a := b1) (argsL := [(.ref o0)]) (rest := [(.ref b1)]) (lenOf pd__Lcom_example_typed_api_errors_typedapierrors_error_Detail_Builder__V rfl) rfl (by show 2 * 0 + _ ≤ _; exact Nat.le_of_eq rfl) (hb hby dz_5) (fun _ _ => ⟨rfl, e1, (by decide : 1 + 0 ≤ _), (by decide : 6 + 0 ≤ _)⟩)
  dsimp only [Pt.U, Pt.locs, Pt.cells, Pt.slots] at X8 l8 y8 z8 st8 hQ8
  subst l8 y8 z8
  obtain ⟨rfl, Nq8, Kq8, g8_0, g8_1, g8_2, g8_3, g8_4, g8_5, g8_6⟩ := hQ8
  have N8 := Fr.app N0 Nq8
  have Z8 : n0 ≤ T8.heap.size := Nat.le_trans Z1 Kq8.1
  have K8 : Keep h0 T8.heap [] := Keep.trans K1 Kq8 (allS (Or.inr sz_b1) all0)
  obtain ⟨lfs, lhr, lhrun, lhended, lhW, lhsame⟩ := X8.leave (v := some (.ref b1)) (fun h => by rw [Bd.returns] at h; cases h)
  refine ⟨_, _, pre0 _ ?_, lhrun, lhended, _, _, rfl, ?_, ⟨_, rfl⟩, lhW, lhsame.mono (by decide) (by decide)⟩
  · skip
    show Steps p.tables e below (s₁.setTop (mkF m 0 #[.val (.ref o0)] [])) _
    refine st1 _ ?_
    show Steps p.tables e below (T1.setTop (mkF m 3 #[.val (.ref o0)] [(.ref b1)])) _
    refine XS.dup X1.here hx rfl (hb hby dz_3) rfl rfl ?_
    refine XS.aloadN X1.here hx rfl (hb hby dz_4) rfl rfl ?_
    show Steps p.tables e below (T1.setTop (mkF m 5 #[.val (.ref o0)] [(.ref o0), (.ref b1), (.ref b1)])) _
    refine st8.trans ?_
    show Steps p.tables e below (T8.setTop (mkF m 8 #[.val (.ref o0)] [(.ref b1)])) _
    exact retOut X8 hx Bd.returns rfl (Or.inr (Or.inr (Or.inr (Or.inr ⟨rfl, rfl, rfl⟩)))) (hb hby dz_8) lhr
  · skip
    show QA71 Z o0 u1 u2 o3 u4 h0 n0 _ T8.heap _
    skip
    exact ⟨b1, rfl, N8, K8, sz_b1, g8_0, g8_1, g8_2, g8_3, g8_4, g8_5, g8_6⟩
def QA64 (Z : State) (o0 : Addr) (o1 : Addr) (u2 : Value) (u3 : Value) (o4 : Addr) (u5 : Value) (o6 : Addr) (o7 : Addr) (h0 : Heap) (n0 : Nat) (v : Option Value) (h : Heap) (L : List Loc) : Prop := ∃ (b1 : Addr) (b31_0 : Addr), v = some (.ref b31_0) ∧ Fr n0 L ∧ Keep h0 h [] ∧ h0.size ≤ b1 ∧ h0.size ≤ b31_0 ∧ b1 ≠ b31_0 ∧ Exa Z h b1 cn6 ∧ Fld Z h b1 cn6 "code" "Ljava/lang/String;" u2 ∧ Fld Z h b1 cn6 "message" "Ljava/lang/String;" u3 ∧ Fld Z h b1 cn6 "moreInfo" "Ljava/lang/String;" u5 ∧ Fld Z h b1 cn6 "target" cn11 (.ref o7) ∧ Fld Z h b1 cn6 "type" "Ljava/lang/String;" .null ∧ Fld Z h b1 cn6 "constraint" cn7 .null ∧ Exa Z h b31_0 cn13 ∧ Fld Z h b31_0 cn13 "code" "Ljava/lang/String;" u2 ∧ Fld Z h b31_0 cn13 "message" "Ljava/lang/String;" u3 ∧ Fld Z h b31_0 cn13 "type" "Ljava/lang/String;" .null ∧ Fld Z h b31_0 cn13 "target" cn11 (.ref o7) ∧ Fld Z h b31_0 cn13 "moreInfo" "Ljava/lang/String;" u5 ∧ Fld Z h b31_0 cn13 "constraint" cn7 .null
set_option maxRecDepth 65536 in
set_option maxHeartbeats 40000000 in
theorem rmA64 (l : Launch) (Z : State) (a0 : Array Value) (hw : ∀ d ∈ tables_1, d.before a0 Z = true) (ws : List Jvm.Cond) (o0 : Addr) (o1 : Addr) (u2 : Value) (u3 : Value) (o4 : Addr) (u5 : Value) (o6 : Addr) (o7 : Addr) (h0 : Heap) (n0 : Nat) (Z0 : n0 ≤ h0.size) (F_o0_code : Fld Z h0 o0 cn10 "code" "Ljava/lang/String;" u2) (r_u2 : u2.isRef = true) (F_o1_value : Fld Z h0 o1 "java/util/Optional" "value" "Ljava/lang/Object;" u3) (r_u3 : u3.isRef = true) (E_o1 : Exa Z h0 o1 "java/util/Optional") (vi_u3 : ∀ a, u3 = .ref a → Exa Z h0 a "java/lang/String") (F_o0_moreInfo : Fld Z h0 o0 cn10 "moreInfo" "Ljava/util/Optional;" (.ref o4)) (F_o4_value : Fld Z h0 o4 "java/util/Optional" "value" "Ljava/lang/Object;" u5) (r_u5 : u5.isRef = true) (E_o4 : Exa Z h0 o4 "java/util/Optional") (vi_u5 : ∀ a, u5 = .ref a → Exa Z h0 a "java/lang/String") (F_o0_target : Fld Z h0 o0 cn10 "target" "Ljava/util/Optional;" (.ref o6)) (F_o6_value : Fld Z h0 o6 "java/util/Optional" "value" "Ljava/lang/Object;" (.ref o7)) (E_o6 : Exa Z h0 o6 "java/util/Optional") (E_o7 : Exa Z h0 o7 cn14) :
    MetFree l mn14 (head1 (Jvm.Cond.code mn14 prog_9_method_3_code 2 (some (.object cn13)) :: ws) ({ frames := 3, cells := 2, slots := 12, locals := 38 } : Room)) (fun a U => a = #[(.ref o0), (.ref o1)] ∧ Z.Warmed39 U.vm ∧ U.heap = h0) (fun _ _ _ _ _ => True) (fun _ U oc_ U' => ∃ v L, oc_ = .returned v ∧ QA64 Z o0 o1 u2 u3 o4 u5 o6 o7 h0 n0 v U'.heap L ∧ FrameEnd U oc_ U' L ({ frames := 3, cells := 2, slots := 12, locals := 38 } : Room).cells ({ frames := 3, cells := 2, slots := 12, locals := 38 } : Room).slots) := by
  refine MetFree.of_bodySF (plainFor_of_name pn_com_example_typed_api_errors_typedapierrors_error_Occurrence) hisR ?_
  intro p e s m args below meth c s₁ Bd hml0 hP hK
  obtain ⟨rfl, hZ, hh⟩ := hP
  have hx := Bd.exec
  have hby := Bd.bytes
  have hml : c.maxLocals = 2 := hml0
  have hown : s.vm.findClass cn10 = some m.cls := findClass_of_methodNamed Bd.named
  have hnm := (name_of_methodNamed Bd.named Bd.method).1
  have X0 : Stand p l e ({ frames := 3, cells := 2, slots := 12, locals := 38 } : Room) s m #[(.ref o0), (.ref o1)] below meth c s₁ [] 0 0 := Stand.of_body Bd
  have e0 : s₁.heap = h0 := by rw [← hh, Bd.state]; rfl
  have N0 := Fr.nil n0
  have pre0 : ∀ t, Steps p.tables e below (s₁.setTop (mkF m 0 #[.val (.ref o0), .val (.ref o1)] [])) t → Steps p.tables e below (s₁.setTop (entryFrame m #[(.ref o0), (.ref o1)] 2)) t := fun t k => castTop (efa_prog_9_method_3_code_vv m o0 o1) k
  obtain ⟨T1, h1, X1, e1, E1, A1, D1, -, st1⟩ := newO X0 hx hZ hown (wd96 hw) (wd97 hw) (wd98 hw) e0 (g := (mkF m 0 #[.val (.ref o0), .val (.ref o1)] [])) rfl (hb hby dy_0) (by decide) (by decide)
  obtain ⟨b1, g1⟩ : ∃ z, z = h0.size := ⟨_, rfl⟩
  rw [← g1] at A1 D1 st1
  have ge_b1 : n0 ≤ b1 := Nat.le_trans Z0 (Nat.le_of_eq g1.symm)
  have sz_b1 : h0.size ≤ b1 := Nat.le_trans (Nat.le_refl _) (Nat.le_of_eq g1.symm)
  have Z1 : n0 ≤ h1.size := Nat.le_trans Z0 E1.1
  have K1 : Keep h0 h1 [] := ((Keep.refl h0 []).ext E1)
  have F1_code : Fld Z h1 b1 cn6 "code" "Ljava/lang/String;" .null := D1 (Or.inl (wd109 hw)) (ty := (.object "java/lang/String")) (by decide)
  have F1_message : Fld Z h1 b1 cn6 "message" "Ljava/lang/String;" .null := D1 (Or.inl (wd123 hw)) (ty := (.object "java/lang/String")) (by decide)
  have F1_moreInfo : Fld Z h1 b1 cn6 "moreInfo" "Ljava/lang/String;" .null := D1 (Or.inl (wd130 hw)) (ty := (.object "java/lang/String")) (by decide)
  have F1_target : Fld Z h1 b1 cn6 "target" cn11 .null := D1 (Or.inl (wd137 hw)) (ty := (.object cn14)) (by decide)
  have F1_type : Fld Z h1 b1 cn6 "type" "Ljava/lang/String;" .null := D1 (Or.inl (wd157 hw)) (ty := (.object "java/lang/String")) (by decide)
  have F1_constraint : Fld Z h1 b1 cn6 "constraint" cn7 .null := D1 (Or.inl (wd167 hw)) (ty := (.object cn9)) (by decide)
  obtain ⟨_, _, ⟨T2, L2, kc2, ks2⟩, -, X2, ⟨Lc2, hQ2, l2, y2, z2⟩, st2⟩ := X1.specialBack hx (y := mn7) rfl hown (mvT hZ (wd99 hw)) (mvT hZ (wd100 hw)) (mvT hZ (wd101 hw)) (by decide) (backOf (W := 1) (rmA33 l Z a0 hw [] b1 h1 n0 Z1 ) hZ (wd101 hw) (wd98 hw) (by decide) (by decide)) (g := (mkF m 4 #[.val (.ref o0), .val (.ref o1)] [(.ref b1), (.ref b1)])) rfl (by rw [hml]; rfl) (Steps.refl _) (a := b1) (argsL := []) (rest := [(.ref b1)]) (lenOf pd___V rfl) rfl (by show 2 * 0 + _ ≤ _; exact Nat.le_of_eq rfl) (hb hby dy_4) (fun _ _ => ⟨rfl, e1, (by decide : 1 + 0 ≤ _), (by decide : 6 + 0 ≤ _)⟩)
  dsimp only [Pt.U, Pt.locs, Pt.cells, Pt.slots] at X2 l2 y2 z2 st2 hQ2
  subst l2 y2 z2
  obtain ⟨rfl, Nq2, eq2⟩ := hQ2
  have N2 := Fr.app N0 Nq2
  have f3 := (F_o0_code.ext E1)
  obtain ⟨T4, X4, e4, st4⟩ := getF X2 hx hZ hown (host := "") (Or.inl (wd75 hw)) Via.refl eq2 f3 (g := (mkF m 8 #[.val (.ref o0), .val (.ref o1)] [(.ref o0), (.ref b1)])) rfl rfl (hb hby dy_8)
  obtain ⟨cq5, kq5, q5a, q5b, q5c⟩ := isOf hZ e4 A1
  obtain ⟨_, _, ⟨T5, L5, kc5, ks5⟩, -, X5, ⟨Lc5, hQ5, l5, y5, z5⟩, st5⟩ := X4.virtualBack hx (y := mn9) (z := mn9) hown (mvT hZ (wd103 hw)) (mvT hZ (wd104 hw)) (notFace_of_selects (args := #[]) (mvT hZ (wd106 hw))) (mvT hZ (wd106 hw)) (mvT hZ (wd105 hw)) (by decide) (backOf (W := 0) (rmA34 l Z a0 hw [] b1 u2 .null .null .null .null .null h1 n0 Z1 r_u2 A1 F1_code ge_b1 F1_message F1_moreInfo F1_target F1_type F1_constraint) hZ (wd107 hw) (wd98 hw) (by decide) (by decide)) q5a q5c (g := (mkF m 11 #[.val (.ref o0), .val (.ref o1)] [u2, (.ref b1)])) rfl (by rw [hml]; rfl) (Steps.refl _) (argsL := [u2]) (rest := []) (lenOf pd__Ljava_lang_String__Lcom_example_typed_api_errors_typedapierrors_error_Detail_Builder_ rfl) rfl (by show 2 * 0 + _ ≤ _; exact Nat.le_of_eq rfl) (hb hby dy_11) (fun _ _ => ⟨rfl, e4, (by decide : 1 + 0 ≤ _), (by decide : 6 + 0 ≤ _)⟩)
  dsimp only [Pt.U, Pt.locs, Pt.cells, Pt.slots] at X5 l5 y5 z5 st5 hQ5
  subst l5 y5 z5
  obtain ⟨rfl, Nq5, Kq5, g5_0, g5_1, g5_2, g5_3, g5_4, g5_5, g5_6⟩ := hQ5
  have N5 := Fr.app N2 Nq5
  have Z5 : n0 ≤ T5.heap.size := Nat.le_trans Z1 Kq5.1
  have K5 : Keep h0 T5.heap [] := Keep.trans K1 Kq5 (allS (Or.inr sz_b1) all0)
  have f6 := ((F_o1_value.ext E1).keep Kq5 (ninS (Nat.ne_of_lt (Nat.lt_of_lt_of_le F_o1_value.lt sz_b1)) nin0))
  have f8 := ((E_o1.ext E1).keep Kq5)
  obtain ⟨cq7, kq7, q7a, q7b, q7c⟩ := isOf hZ rfl f8
  obtain ⟨_, _, ⟨T7, L7, kc7, ks7⟩, -, X7, ⟨Lc7, hQ7, l7, y7, z7⟩, st7⟩ := X5.virtualBack hx (y := mn32) (z := mn32) hown (mvT hZ (wd110 hw)) (mvT hZ (wd111 hw)) (notFace_of_selects (args := #[]) (mvT hZ (wd113 hw))) (mvT hZ (wd113 hw)) (mvT hZ (wd112 hw)) (by decide) (backOf (W := 1) (rmOrE l Z a0 hw [] o1 u3 T5.heap n0 Z5 f6 r_u3) hZ (wd114 hw) (wd36 hw) (by decide) (by decide)) q7a q7c (g := (mkF m 16 #[.val (.ref o0), .val (.ref o1)] [.null, (.ref o1), (.ref b1)])) rfl (by rw [hml]; rfl) (Steps.refl _) (argsL := [.null]) (rest := [(.ref b1)]) (lenOf pd__Ljava_lang_Object__Ljava_lang_Object_ rfl) rfl (by show 2 * 0 + _ ≤ _; exact Nat.le_of_eq rfl) (hb hby dy_16) (fun _ _ => ⟨rfl, rfl, (by decide : 1 + 0 ≤ _), (by decide : 6 + 0 ≤ _)⟩)
  dsimp only [Pt.U, Pt.locs, Pt.cells, Pt.slots] at X7 l7 y7 z7 st7 hQ7
  subst l7 y7 z7
  obtain ⟨rfl, Nq7, eq7⟩ := hQ7
  have N7 := Fr.app N5 Nq7
  obtain ⟨T9, X9, e9, st9⟩ := own_castV X7 hx hZ hown (wd235 hw) eq7 r_u3 (fun a q => Ins.self ((vi_u3 a q).keep K5)) (g := (mkF m 19 #[.val (.ref o0), .val (.ref o1)] [u3, (.ref b1)])) rfl rfl (hb hby dy_19)
  obtain ⟨cq10, kq10, q10a, q10b, q10c⟩ := isOf hZ e9 g5_0
  obtain ⟨_, _, ⟨T10, L10, kc10, ks10⟩, -, X10, ⟨Lc10, hQ10, l10, y10, z10⟩, st10⟩ := X9.virtualBack hx (y := mn10) (z := mn10) hown (mvT hZ (wd117 hw)) (mvT hZ (wd118 hw)) (notFace_of_selects (args := #[]) (mvT hZ (wd120 hw))) (mvT hZ (wd120 hw)) (mvT hZ (wd119 hw)) (by decide) (backOf (W := 0) (rmA35 l Z a0 hw [] b1 u3 u2 .null .null .null .null T5.heap n0 Z5 r_u3 g5_0 g5_2 ge_b1 g5_1 g5_3 g5_4 g5_5 g5_6) hZ (wd121 hw) (wd98 hw) (by decide) (by decide)) q10a q10c (g := (mkF m 22 #[.val (.ref o0), .val (.ref o1)] [u3, (.ref b1)])) rfl (by rw [hml]; rfl) (Steps.refl _) (argsL := [u3]) (rest := []) (lenOf pd__Ljava_lang_String__Lcom_example_typed_api_errors_typedapierrors_error_Detail_Builder_ rfl) rfl (by show 2 * 0 + _ ≤ _; exact Nat.le_of_eq rfl) (hb hby dy_22) (fun _ _ => ⟨rfl, e9, (by decide : 1 + 0 ≤ _), (by decide : 6 + 0 ≤ _)⟩)
  dsimp only [Pt.U, Pt.locs, Pt.cells, Pt.slots] at X10 l10 y10 z10 st10 hQ10
  subst l10 y10 z10
  obtain ⟨rfl, Nq10, Kq10, g10_0, g10_1, g10_2, g10_3, g10_4, g10_5, g10_6⟩ := hQ10
  have N10 := Fr.app N7 Nq10
  have Z10 : n0 ≤ T10.heap.size := Nat.le_trans Z5 Kq10.1
  have K10 : Keep h0 T10.heap [] := Keep.trans K5 Kq10 (allS (Or.inr sz_b1) all0)
  have f11 := (((F_o0_moreInfo.ext E1).keep Kq5 (ninS (Nat.ne_of_lt (Nat.lt_of_lt_of_le F_o0_code.lt sz_b1)) nin0)).keep Kq10 (ninS (Nat.ne_of_lt (Nat.lt_of_lt_of_le F_o0_code.lt sz_b1)) nin0))
  obtain ⟨T12, X12, e12, st12⟩ := getF X10 hx hZ hown (host := "") (Or.inl (wd85 hw)) Via.refl rfl f11 (g := (mkF m 26 #[.val (.ref o0), .val (.ref o1)] [(.ref o0), (.ref b1)])) rfl rfl (hb hby dy_26)
  have f13 := (((F_o4_value.ext E1).keep Kq5 (ninS (Nat.ne_of_lt (Nat.lt_of_lt_of_le F_o4_value.lt sz_b1)) nin0)).keep Kq10 (ninS (Nat.ne_of_lt (Nat.lt_of_lt_of_le F_o4_value.lt sz_b1)) nin0))
  have f15 := (((E_o4.ext E1).keep Kq5).keep Kq10)
  obtain ⟨cq14, kq14, q14a, q14b, q14c⟩ := isOf hZ e12 f15
  obtain ⟨_, _, ⟨T14, L14, kc14, ks14⟩, -, X14, ⟨Lc14, hQ14, l14, y14, z14⟩, st14⟩ := X12.virtualBack hx (y := mn32) (z := mn32) hown (mvT hZ (wd110 hw)) (mvT hZ (wd111 hw)) (notFace_of_selects (args := #[]) (mvT hZ (wd113 hw))) (mvT hZ (wd113 hw)) (mvT hZ (wd112 hw)) (by decide) (backOf (W := 1) (rmOrE l Z a0 hw [] o4 u5 T10.heap n0 Z10 f13 r_u5) hZ (wd114 hw) (wd36 hw) (by decide) (by decide)) q14a q14c (g := (mkF m 30 #[.val (.ref o0), .val (.ref o1)] [.null, (.ref o4), (.ref b1)])) rfl (by rw [hml]; rfl) (Steps.refl _) (argsL := [.null]) (rest := [(.ref b1)]) (lenOf pd__Ljava_lang_Object__Ljava_lang_Object_ rfl) rfl (by show 2 * 0 + _ ≤ _; exact Nat.le_of_eq rfl) (hb hby dy_30) (fun _ _ => ⟨rfl, e12, (by decide : 1 + 0 ≤ _), (by decide : 6 + 0 ≤ _)⟩)
  dsimp only [Pt.U, Pt.locs, Pt.cells, Pt.slots] at X14 l14 y14 z14 st14 hQ14
  subst l14 y14 z14
  obtain ⟨rfl, Nq14, eq14⟩ := hQ14
  have N14 := Fr.app N10 Nq14
  obtain ⟨T16, X16, e16, st16⟩ := own_castV X14 hx hZ hown (wd235 hw) eq14 r_u5 (fun a q => Ins.self ((vi_u5 a q).keep K10)) (g := (mkF m 33 #[.val (.ref o0), .val (.ref o1)] [u5, (.ref b1)])) rfl rfl (hb hby dy_33)
  obtain ⟨cq17, kq17, q17a, q17b, q17c⟩ := isOf hZ e16 g10_0
  obtain ⟨_, _, ⟨T17, L17, kc17, ks17⟩, -, X17, ⟨Lc17, hQ17, l17, y17, z17⟩, st17⟩ := X16.virtualBack hx (y := mn11) (z := mn11) hown (mvT hZ (wd124 hw)) (mvT hZ (wd125 hw)) (notFace_of_selects (args := #[]) (mvT hZ (wd127 hw))) (mvT hZ (wd127 hw)) (mvT hZ (wd126 hw)) (by decide) (backOf (W := 0) (rmA36 l Z a0 hw [] b1 u5 u2 u3 .null .null .null T10.heap n0 Z10 r_u5 g10_0 g10_3 ge_b1 g10_2 g10_1 g10_4 g10_5 g10_6) hZ (wd128 hw) (wd98 hw) (by decide) (by decide)) q17a q17c (g := (mkF m 36 #[.val (.ref o0), .val (.ref o1)] [u5, (.ref b1)])) rfl (by rw [hml]; rfl) (Steps.refl _) (argsL := [u5]) (rest := []) (lenOf pd__Ljava_lang_String__Lcom_example_typed_api_errors_typedapierrors_error_Detail_Builder_ rfl) rfl (by show 2 * 0 + _ ≤ _; exact Nat.le_of_eq rfl) (hb hby dy_36) (fun _ _ => ⟨rfl, e16, (by decide : 1 + 0 ≤ _), (by decide : 6 + 0 ≤ _)⟩)
  dsimp only [Pt.U, Pt.locs, Pt.cells, Pt.slots] at X17 l17 y17 z17 st17 hQ17
  subst l17 y17 z17
  obtain ⟨rfl, Nq17, Kq17, g17_0, g17_1, g17_2, g17_3, g17_4, g17_5, g17_6⟩ := hQ17
  have N17 := Fr.app N14 Nq17
  have Z17 : n0 ≤ T17.heap.size := Nat.le_trans Z10 Kq17.1
  have K17 : Keep h0 T17.heap [] := Keep.trans K10 Kq17 (allS (Or.inr sz_b1) all0)
  have f18 := ((((F_o0_target.ext E1).keep Kq5 (ninS (Nat.ne_of_lt (Nat.lt_of_lt_of_le F_o0_code.lt sz_b1)) nin0)).keep Kq10 (ninS (Nat.ne_of_lt (Nat.lt_of_lt_of_le F_o0_code.lt sz_b1)) nin0)).keep Kq17 (ninS (Nat.ne_of_lt (Nat.lt_of_lt_of_le F_o0_code.lt sz_b1)) nin0))
  obtain ⟨T19, X19, e19, st19⟩ := getF X17 hx hZ hown (host := "") (Or.inl (wd87 hw)) Via.refl rfl f18 (g := (mkF m 40 #[.val (.ref o0), .val (.ref o1)] [(.ref o0), (.ref b1)])) rfl rfl (hb hby dy_40)
  have f20 := ((((F_o6_value.ext E1).keep Kq5 (ninS (Nat.ne_of_lt (Nat.lt_of_lt_of_le F_o6_value.lt sz_b1)) nin0)).keep Kq10 (ninS (Nat.ne_of_lt (Nat.lt_of_lt_of_le F_o6_value.lt sz_b1)) nin0)).keep Kq17 (ninS (Nat.ne_of_lt (Nat.lt_of_lt_of_le F_o6_value.lt sz_b1)) nin0))
  have f22 := ((((E_o6.ext E1).keep Kq5).keep Kq10).keep Kq17)
  obtain ⟨cq21, kq21, q21a, q21b, q21c⟩ := isOf hZ e19 f22
  obtain ⟨_, _, ⟨T21, L21, kc21, ks21⟩, -, X21, ⟨Lc21, hQ21, l21, y21, z21⟩, st21⟩ := X19.virtualBack hx (y := mn32) (z := mn32) hown (mvT hZ (wd110 hw)) (mvT hZ (wd111 hw)) (notFace_of_selects (args := #[]) (mvT hZ (wd113 hw))) (mvT hZ (wd113 hw)) (mvT hZ (wd112 hw)) (by decide) (backOf (W := 1) (rmA69 l Z a0 hw [] o6 o7 T17.heap n0 Z17 f20) hZ (wd114 hw) (wd36 hw) (by decide) (by decide)) q21a q21c (g := (mkF m 44 #[.val (.ref o0), .val (.ref o1)] [.null, (.ref o6), (.ref b1)])) rfl (by rw [hml]; rfl) (Steps.refl _) (argsL := [.null]) (rest := [(.ref b1)]) (lenOf pd__Ljava_lang_Object__Ljava_lang_Object_ rfl) rfl (by show 2 * 0 + _ ≤ _; exact Nat.le_of_eq rfl) (hb hby dy_44) (fun _ _ => ⟨rfl, e19, (by decide : 1 + 0 ≤ _), (by decide : 6 + 0 ≤ _)⟩)
  dsimp only [Pt.U, Pt.locs, Pt.cells, Pt.slots] at X21 l21 y21 z21 st21 hQ21
  subst l21 y21 z21
  obtain ⟨rfl, Nq21, eq21⟩ := hQ21
  have N21 := Fr.app N17 Nq21
  have f23 := ((((E_o7.ext E1).keep Kq5).keep Kq10).keep Kq17)
  obtain ⟨T24, X24, e24, st24⟩ := castY X21 hx hZ hown (wd256 hw) eq21 (Ins.self f23) (g := (mkF m 47 #[.val (.ref o0), .val (.ref o1)] [(.ref o7), (.ref b1)])) rfl rfl (hb hby dy_47)
  obtain ⟨cq25, kq25, q25a, q25b, q25c⟩ := isOf hZ e24 g17_0
  obtain ⟨_, _, ⟨T25, L25, kc25, ks25⟩, -, X25, ⟨Lc25, hQ25, l25, y25, z25⟩, st25⟩ := X24.virtualBack hx (y := mn12) (z := mn12) hown (mvT hZ (wd131 hw)) (mvT hZ (wd132 hw)) (notFace_of_selects (args := #[]) (mvT hZ (wd134 hw))) (mvT hZ (wd134 hw)) (mvT hZ (wd133 hw)) (by decide) (backOf (W := 0) (rmA70 l Z a0 hw [] b1 o7 u2 u3 u5 .null .null T17.heap n0 Z17 g17_0 g17_4 ge_b1 g17_2 g17_3 g17_1 g17_5 g17_6) hZ (wd135 hw) (wd98 hw) (by decide) (by decide)) q25a q25c (g := (mkF m 50 #[.val (.ref o0), .val (.ref o1)] [(.ref o7), (.ref b1)])) rfl (by rw [hml]; rfl) (Steps.refl _) (argsL := [(.ref o7)]) (rest := []) (lenOf pd__Lcom_example_typed_api_errors_typedapierrors_error_Target__Lcom_example_typed_api_errors_typedapierrors_error_Detail_Builder_ rfl) rfl (by show 2 * 0 + _ ≤ _; exact Nat.le_of_eq rfl) (hb hby dy_50) (fun _ _ => ⟨rfl, e24, (by decide : 1 + 0 ≤ _), (by decide : 6 + 0 ≤ _)⟩)
  dsimp only [Pt.U, Pt.locs, Pt.cells, Pt.slots] at X25 l25 y25 z25 st25 hQ25
  subst l25 y25 z25
  obtain ⟨rfl, Nq25, Kq25, g25_0, g25_1, g25_2, g25_3, g25_4, g25_5, g25_6⟩ := hQ25
  have N25 := Fr.app N21 Nq25
  have Z25 : n0 ≤ T25.heap.size := Nat.le_trans Z17 Kq25.1
  have K25 : Keep h0 T25.heap [] := Keep.trans K17 Kq25 (allS (Or.inr sz_b1) all0)
  have f26 := ((((f3.keep Kq5 (ninS (Nat.ne_of_lt (Nat.lt_of_lt_of_le F_o0_code.lt sz_b1)) nin0)).keep Kq10 (ninS (Nat.ne_of_lt (Nat.lt_of_lt_of_le F_o0_code.lt sz_b1)) nin0)).keep Kq17 (ninS (Nat.ne_of_lt (Nat.lt_of_lt_of_le F_o0_code.lt sz_b1)) nin0)).keep Kq25 (ninS (Nat.ne_of_lt (Nat.lt_of_lt_of_le F_o0_code.lt sz_b1)) nin0))
  have f27 := (((f6.keep Kq10 (ninS (Nat.ne_of_lt (Nat.lt_of_lt_of_le F_o1_value.lt sz_b1)) nin0)).keep Kq17 (ninS (Nat.ne_of_lt (Nat.lt_of_lt_of_le F_o1_value.lt sz_b1)) nin0)).keep Kq25 (ninS (Nat.ne_of_lt (Nat.lt_of_lt_of_le F_o1_value.lt sz_b1)) nin0))
  have f28 := ((f13.keep Kq17 (ninS (Nat.ne_of_lt (Nat.lt_of_lt_of_le F_o4_value.lt sz_b1)) nin0)).keep Kq25 (ninS (Nat.ne_of_lt (Nat.lt_of_lt_of_le F_o4_value.lt sz_b1)) nin0))
  have f29 := (f20.keep Kq25 (ninS (Nat.ne_of_lt (Nat.lt_of_lt_of_le F_o6_value.lt sz_b1)) nin0))
  have f30 := (f23.keep Kq25)
  obtain ⟨cq31, kq31, q31a, q31b, q31c⟩ := isOf hZ rfl g25_0
  obtain ⟨_, _, ⟨T31, L31, kc31, ks31⟩, -, X31, ⟨Lc31, hQ31, l31, y31, z31⟩, st31⟩ := X25.virtualBack hx (y := mn8) (z := mn8) hown (mvT hZ (wd138 hw)) (mvT hZ (wd139 hw)) (notFace_of_selects (args := #[]) (mvT hZ (wd141 hw))) (mvT hZ (wd141 hw)) (mvT hZ (wd140 hw)) (by decide) (backOf (W := 0) (rmA71 l Z a0 hw [] b1 u2 u3 o7 u5 T25.heap n0 Z25 g25_2 g25_3 g25_5 g25_1 g25_4 g25_6 r_u2 r_u3 r_u5) hZ (wd142 hw) (wd98 hw) (by decide) (by decide)) q31a q31c (g := (mkF m 53 #[.val (.ref o0), .val (.ref o1)] [(.ref b1)])) rfl (by rw [hml]; rfl) (Steps.refl _) (argsL := []) (rest := []) (lenOf pd___Lcom_example_typed_api_errors_typedapierrors_error_Detail_ rfl) rfl (by show 2 * 0 + _ ≤ _; exact Nat.le_of_eq rfl) (hb hby dy_53) (fun _ _ => ⟨rfl, rfl, (by decide : 1 + 1 ≤ _), (by decide : 6 + 6 ≤ _)⟩)
  dsimp only [Pt.U, Pt.locs, Pt.cells, Pt.slots] at X31 l31 y31 z31 st31 hQ31
  subst l31 y31 z31
  obtain ⟨b31_0, rfl, Nq31, Kq31, sz31_0, g31_0, g31_1, g31_2, g31_3, g31_4, g31_5, g31_6⟩ := hQ31
  have N31 := Fr.app N25 Nq31
  have Z31 : n0 ≤ T31.heap.size := Nat.le_trans Z25 Kq31.1
  have K31 : Keep h0 T31.heap [] := Keep.trans K25 Kq31 all0
  have ne_b1_b31_0 : b1 ≠ b31_0 := Nat.ne_of_lt (Nat.lt_of_lt_of_le g25_0.lt sz31_0)
  have ne_o0_b31_0 : o0 ≠ b31_0 := Nat.ne_of_lt (Nat.lt_of_lt_of_le f26.lt sz31_0)
  have ne_o1_b31_0 : o1 ≠ b31_0 := Nat.ne_of_lt (Nat.lt_of_lt_of_le f27.lt sz31_0)
  have ne_o4_b31_0 : o4 ≠ b31_0 := Nat.ne_of_lt (Nat.lt_of_lt_of_le f28.lt sz31_0)
  have ne_o6_b31_0 : o6 ≠ b31_0 := Nat.ne_of_lt (Nat.lt_of_lt_of_le f29.lt sz31_0)
  have ne_o7_b31_0 : o7 ≠ b31_0 := Nat.ne_of_lt (Nat.lt_of_lt_of_le f30.lt sz31_0)
  have ge_b31_0 : n0 ≤ b31_0 := Nat.le_trans Z25 sz31_0
  have sz_b31_0 : h0.size ≤ b31_0 := Nat.le_trans K25.1 sz31_0
  have f32 := (g25_0.keep Kq31)
  have f33 := (g25_2.keep Kq31 nin0)
  have f34 := (g25_3.keep Kq31 nin0)
  have f35 := (g25_4.keep Kq31 nin0)
  have f36 := (g25_1.keep Kq31 nin0)
  have f37 := (g25_5.keep Kq31 nin0)
  have f38 := (g25_6.keep Kq31 nin0)
  obtain ⟨lfs, lhr, lhrun, lhended, lhW, lhsame⟩ := X31.leave (v := some (.ref b31_0)) (fun h => by rw [Bd.returns] at h; cases h)
  refine ⟨_, _, pre0 _ ?_, lhrun, lhended, _, _, rfl, ?_, ⟨_, rfl⟩, lhW, lhsame.mono (by decide) (by decide)⟩
  · skip
    show Steps p.tables e below (s₁.setTop (mkF m 0 #[.val (.ref o0), .val (.ref o1)] [])) _
    refine st1 _ ?_
    show Steps p.tables e below (T1.setTop (mkF m 3 #[.val (.ref o0), .val (.ref o1)] [(.ref b1)])) _
    refine XS.dup X1.here hx rfl (hb hby dy_3) rfl rfl ?_
    show Steps p.tables e below (T1.setTop (mkF m 4 #[.val (.ref o0), .val (.ref o1)] [(.ref b1), (.ref b1)])) _
    refine st2.trans ?_
    show Steps p.tables e below (T2.setTop (mkF m 7 #[.val (.ref o0), .val (.ref o1)] [(.ref b1)])) _
    refine XS.aloadN X2.here hx rfl (hb hby dy_7) rfl rfl ?_
    show Steps p.tables e below (T2.setTop (mkF m 8 #[.val (.ref o0), .val (.ref o1)] [(.ref o0), (.ref b1)])) _
    refine st4 _ ?_
    show Steps p.tables e below (T4.setTop (mkF m 11 #[.val (.ref o0), .val (.ref o1)] [u2, (.ref b1)])) _
    refine st5.trans ?_
    show Steps p.tables e below (T5.setTop (mkF m 14 #[.val (.ref o0), .val (.ref o1)] [(.ref b1)])) _
    refine XS.aloadN X5.here hx rfl (hb hby dy_14) rfl rfl ?_
    show Steps p.tables e below (T5.setTop (mkF m 15 #[.val (.ref o0), .val (.ref o1)] [(.ref o1), (.ref b1)])) _
    refine XS.aconstNull X5.here hx rfl (hb hby dy_15) ?_
    show Steps p.tables e below (T5.setTop (mkF m 16 #[.val (.ref o0), .val (.ref o1)] [.null, (.ref o1), (.ref b1)])) _
    refine st7.trans ?_
    show Steps p.tables e below (T7.setTop (mkF m 19 #[.val (.ref o0), .val (.ref o1)] [u3, (.ref b1)])) _
    refine st9 _ ?_
    show Steps p.tables e below (T9.setTop (mkF m 22 #[.val (.ref o0), .val (.ref o1)] [u3, (.ref b1)])) _
    refine st10.trans ?_
    show Steps p.tables e below (T10.setTop (mkF m 25 #[.val (.ref o0), .val (.ref o1)] [(.ref b1)])) _
    refine XS.aloadN X10.here hx rfl (hb hby dy_25) rfl rfl ?_
    show Steps p.tables e below (T10.setTop (mkF m 26 #[.val (.ref o0), .val (.ref o1)] [(.ref o0), (.ref b1)])) _
    refine st12 _ ?_
    show Steps p.tables e below (T12.setTop (mkF m 29 #[.val (.ref o0), .val (.ref o1)] [(.ref o4), (.ref b1)])) _
    refine XS.aconstNull X12.here hx rfl (hb hby dy_29) ?_
    show Steps p.tables e below (T12.setTop (mkF m 30 #[.val (.ref o0), .val (.ref o1)] [.null, (.ref o4), (.ref b1)])) _
    refine st14.trans ?_
    show Steps p.tables e below (T14.setTop (mkF m 33 #[.val (.ref o0), .val (.ref o1)] [u5, (.ref b1)])) _
    refine st16 _ ?_
    show Steps p.tables e below (T16.setTop (mkF m 36 #[.val (.ref o0), .val (.ref o1)] [u5, (.ref b1)])) _
    refine st17.trans ?_
    show Steps p.tables e below (T17.setTop (mkF m 39 #[.val (.ref o0), .val (.ref o1)] [(.ref b1)])) _
    refine XS.aloadN X17.here hx rfl (hb hby dy_39) rfl rfl ?_
    show Steps p.tables e below (T17.setTop (mkF m 40 #[.val (.ref o0), .val (.ref o1)] [(.ref o0), (.ref b1)])) _
    refine st19 _ ?_
    show Steps p.tables e below (T19.setTop (mkF m 43 #[.val (.ref o0), .val (.ref o1)] [(.ref o6), (.ref b1)])) _
    refine XS.aconstNull X19.here hx rfl (hb hby dy_43) ?_
    show Steps p.tables e below (T19.setTop (mkF m 44 #[.val (.ref o0), .val (.ref o1)] [.null, (.ref o6), (.ref b1)])) _
    refine st21.trans ?_
    show Steps p.tables e below (T21.setTop (mkF m 47 #[.val (.ref o0), .val (.ref o1)] [(.ref o7), (.ref b1)])) _
    refine st24 _ ?_
    show Steps p.tables e below (T24.setTop (mkF m 50 #[.val (.ref o0), .val (.ref o1)] [(.ref o7), (.ref b1)])) _
    refine st25.trans ?_
    show Steps p.tables e below (T25.setTop (mkF m 53 #[.val (.ref o0), .val (.ref o1)] [(.ref b1)])) _
    refine st31.trans ?_
    show Steps p.tables e below (T31.setTop (mkF m 56 #[.val (.ref o0), .val (.ref o1)] [(.ref b31_0)])) _
    exact retOut X31 hx Bd.returns rfl (Or.inr (Or.inr (Or.inr (Or.inr ⟨rfl, rfl, rfl⟩)))) (hb hby dy_56) lhr
  · skip
    show QA64 Z o0 o1 u2 u3 o4 u5 o6 o7 h0 n0 _ T31.heap _
    skip
    exact ⟨b1, b31_0, rfl, N31, K31, sz_b1, sz_b31_0, ne_b1_b31_0, f32, f33, f34, f35, f36, f37, f38, g31_0, g31_1, g31_2, g31_3, g31_4, g31_5, g31_6⟩
theorem efa_jdk_32_method_4_code_v (m : MethodId) (x0 : Addr) : entryFrame m #[(.ref x0)] 1 = mkF m 0 #[.val (.ref x0)] [] := by first | (simp [entryFrame, mkF, argsToLocals, Value.category]; done) | rfl
def QA77 (Z : State) (o0 : Addr) (h0 : Heap) (n0 : Nat) (v : Option Value) (h : Heap) (L : List Loc) : Prop := ∃ (b1 : Addr), v = some (.ref b1) ∧ Fr n0 L ∧ Keep h0 h [] ∧ h0.size ≤ b1 ∧ Exa Z h b1 "java/util/Optional" ∧ Fld Z h b1 "java/util/Optional" "value" "Ljava/lang/Object;" (.ref o0)
set_option maxRecDepth 65536 in
set_option maxHeartbeats 40000000 in
theorem rmA77 (l : Launch) (Z : State) (a0 : Array Value) (hw : ∀ d ∈ tables_1, d.before a0 Z = true) (ws : List Jvm.Cond) (o0 : Addr) (h0 : Heap) (n0 : Nat) (Z0 : n0 ≤ h0.size) :
    MetFree l mn31 (head1 (Jvm.Cond.code mn31 jdk_32_method_4_code 1 (some (.object "java/util/Optional")) :: ws) ({ frames := 2, cells := 1, slots := 1, locals := 26 } : Room)) (fun a U => a = #[(.ref o0)] ∧ Z.Warmed39 U.vm ∧ U.heap = h0) (fun _ _ _ _ _ => True) (fun _ U oc_ U' => ∃ v L, oc_ = .returned v ∧ QA77 Z o0 h0 n0 v U'.heap L ∧ FrameEnd U oc_ U' L ({ frames := 2, cells := 1, slots := 1, locals := 26 } : Room).cells ({ frames := 2, cells := 1, slots := 1, locals := 26 } : Room).slots) := by
  refine MetFree.of_bodySF (plainFor_of_name pn_java_util_Optional) hisR ?_
  intro p e s m args below meth c s₁ Bd hml0 hP hK
  obtain ⟨rfl, hZ, hh⟩ := hP
  have hx := Bd.exec
  have hby := Bd.bytes
  have hml : c.maxLocals = 1 := hml0
  have hown : s.vm.findClass "java/util/Optional" = some m.cls := findClass_of_methodNamed Bd.named
  have hnm := (name_of_methodNamed Bd.named Bd.method).1
  have X0 : Stand p l e ({ frames := 2, cells := 1, slots := 1, locals := 26 } : Room) s m #[(.ref o0)] below meth c s₁ [] 0 0 := Stand.of_body Bd
  have e0 : s₁.heap = h0 := by rw [← hh, Bd.state]; rfl
  have N0 := Fr.nil n0
  have pre0 : ∀ t, Steps p.tables e below (s₁.setTop (mkF m 0 #[.val (.ref o0)] [])) t → Steps p.tables e below (s₁.setTop (entryFrame m #[(.ref o0)] 1)) t := fun t k => castTop (efa_jdk_32_method_4_code_v m o0) k
  obtain ⟨T1, h1, X1, e1, E1, A1, D1, -, st1⟩ := newO X0 hx hZ hown (wd178 hw) (wd179 hw) (wd36 hw) e0 (g := (mkF m 10 #[.val (.ref o0)] [])) rfl (hb hby do_10) (by decide) (by decide)
  obtain ⟨b1, g1⟩ : ∃ z, z = h0.size := ⟨_, rfl⟩
  rw [← g1] at A1 D1 st1
  have ge_b1 : n0 ≤ b1 := Nat.le_trans Z0 (Nat.le_of_eq g1.symm)
  have sz_b1 : h0.size ≤ b1 := Nat.le_trans (Nat.le_refl _) (Nat.le_of_eq g1.symm)
  have Z1 : n0 ≤ h1.size := Nat.le_trans Z0 E1.1
  have K1 : Keep h0 h1 [] := ((Keep.refl h0 []).ext E1)
  have F1_value : Fld Z h1 b1 "java/util/Optional" "value" "Ljava/lang/Object;" .null := D1 (Or.inr (wd116 hw)) (ty := (.object "java/lang/Object")) (by decide)
  obtain ⟨_, _, ⟨T2, L2, kc2, ks2⟩, -, X2, ⟨Lc2, hQ2, l2, y2, z2⟩, st2⟩ := X1.specialBack hx (y := mn26) rfl hown (mvT hZ (wd180 hw)) (mvT hZ (wd181 hw)) (mvT hZ (wd183 hw)) (by decide) (backOf (W := 1) (rmA1 l Z a0 hw [] b1 o0 h1 n0 Z1 A1 F1_value ge_b1) hZ (wd183 hw) (wd36 hw) (by decide) (by decide)) (g := (mkF m 15 #[.val (.ref o0)] [(.ref o0), (.ref b1), (.ref b1)])) rfl (by rw [hml]; rfl) (Steps.refl _) (a := b1) (argsL := [(.ref o0)]) (rest := [(.ref b1)]) (lenOf pd__Ljava_lang_Object__V rfl) rfl (by show 2 * 0 + _ ≤ _; exact Nat.le_of_eq rfl) (hb hby do_15) (fun _ _ => ⟨rfl, e1, (by decide : 1 + 0 ≤ _), (by decide : 1 + 0 ≤ _)⟩)
  dsimp only [Pt.U, Pt.locs, Pt.cells, Pt.slots] at X2 l2 y2 z2 st2 hQ2
  subst l2 y2 z2
  obtain ⟨rfl, Nq2, Kq2, g2_0, g2_1⟩ := hQ2
  have N2 := Fr.app N0 Nq2
  have Z2 : n0 ≤ T2.heap.size := Nat.le_trans Z1 Kq2.1
  have K2 : Keep h0 T2.heap [] := Keep.trans K1 Kq2 (allS (Or.inr sz_b1) all0)
  obtain ⟨lfs, lhr, lhrun, lhended, lhW, lhsame⟩ := X2.leave (v := some (.ref b1)) (fun h => by rw [Bd.returns] at h; cases h)
  refine ⟨_, _, pre0 _ ?_, lhrun, lhended, _, _, rfl, ?_, ⟨_, rfl⟩, lhW, lhsame.mono (by decide) (by decide)⟩
  · skip
    show Steps p.tables e below (s₁.setTop (mkF m 0 #[.val (.ref o0)] [])) _
    refine XS.aloadN X0.here hx rfl (hb hby do_0) rfl rfl ?_
    refine XS.ifnonnullYes X0.here hx rfl (pc0 := 1) (pc' := 10) rfl (hb hby do_1) rfl (by decide) (by decide) ?_
    show Steps p.tables e below (s₁.setTop (mkF m 10 #[.val (.ref o0)] [])) _
    refine st1 _ ?_
    show Steps p.tables e below (T1.setTop (mkF m 13 #[.val (.ref o0)] [(.ref b1)])) _
    refine XS.dup X1.here hx rfl (hb hby do_13) rfl rfl ?_
    refine XS.aloadN X1.here hx rfl (hb hby do_14) rfl rfl ?_
    show Steps p.tables e below (T1.setTop (mkF m 15 #[.val (.ref o0)] [(.ref o0), (.ref b1), (.ref b1)])) _
    refine st2.trans ?_
    show Steps p.tables e below (T2.setTop (mkF m 18 #[.val (.ref o0)] [(.ref b1)])) _
    exact retOut X2 hx Bd.returns rfl (Or.inr (Or.inr (Or.inr (Or.inr ⟨rfl, rfl, rfl⟩)))) (hb hby do_18) lhr
  · skip
    show QA77 Z o0 h0 n0 _ T2.heap _
    skip
    exact ⟨b1, rfl, N2, K2, sz_b1, g2_0, g2_1⟩
def QA76 (Z : State) (o0 : Addr) (o1 : Addr) (h0 : Heap) (n0 : Nat) (v : Option Value) (h : Heap) (L : List Loc) : Prop := ∃ (b2_0 : Addr), v = some (.ref b2_0) ∧ Fr n0 L ∧ Keep h0 h [] ∧ h0.size ≤ b2_0 ∧ Exa Z h b2_0 "java/util/Optional" ∧ Fld Z h b2_0 "java/util/Optional" "value" "Ljava/lang/Object;" (.ref o1)
set_option maxRecDepth 65536 in
set_option maxHeartbeats 40000000 in
theorem rmA76 (l : Launch) (Z : State) (a0 : Array Value) (hw : ∀ d ∈ tables_1, d.before a0 Z = true) (ws : List Jvm.Cond) (o0 : Addr) (o1 : Addr) (h0 : Heap) (n0 : Nat) (Z0 : n0 ≤ h0.size) (F_o0_target : Fld Z h0 o0 cn13 "target" cn11 (.ref o1)) :
    MetFree l mn5 (head1 (Jvm.Cond.code mn5 prog_7_method_5_code 1 (some (.object "java/util/Optional")) :: ws) ({ frames := 3, cells := 1, slots := 1, locals := 38 } : Room)) (fun a U => a = #[(.ref o0)] ∧ Z.Warmed39 U.vm ∧ U.heap = h0) (fun _ _ _ _ _ => True) (fun _ U oc_ U' => ∃ v L, oc_ = .returned v ∧ QA76 Z o0 o1 h0 n0 v U'.heap L ∧ FrameEnd U oc_ U' L ({ frames := 3, cells := 1, slots := 1, locals := 38 } : Room).cells ({ frames := 3, cells := 1, slots := 1, locals := 38 } : Room).slots) := by
  refine MetFree.of_bodySF (plainFor_of_name pn_com_example_typed_api_errors_typedapierrors_error_Detail) hisR ?_
  intro p e s m args below meth c s₁ Bd hml0 hP hK
  obtain ⟨rfl, hZ, hh⟩ := hP
  have hx := Bd.exec
  have hby := Bd.bytes
  have hml : c.maxLocals = 1 := hml0
  have hown : s.vm.findClass cn13 = some m.cls := findClass_of_methodNamed Bd.named
  have hnm := (name_of_methodNamed Bd.named Bd.method).1
  have X0 : Stand p l e ({ frames := 3, cells := 1, slots := 1, locals := 38 } : Room) s m #[(.ref o0)] below meth c s₁ [] 0 0 := Stand.of_body Bd
  have e0 : s₁.heap = h0 := by rw [← hh, Bd.state]; rfl
  have N0 := Fr.nil n0
  have pre0 : ∀ t, Steps p.tables e below (s₁.setTop (mkF m 0 #[.val (.ref o0)] [])) t → Steps p.tables e below (s₁.setTop (entryFrame m #[(.ref o0)] 1)) t := fun t k => castTop (efa_prog_7_method_5_code_v m o0) k
  obtain ⟨T1, X1, e1, st1⟩ := getF X0 hx hZ hown (host := "") (Or.inl (wd161 hw)) Via.refl e0 F_o0_target (g := (mkF m 1 #[.val (.ref o0)] [(.ref o0)])) rfl rfl (hb hby dp_1)
  obtain ⟨_, _, ⟨T2, L2, kc2, ks2⟩, -, X2, ⟨Lc2, hQ2, l2, y2, z2⟩, st2⟩ := Jvm.LawKit.callS X1 hx (y := mn31) hown (mvT hZ (wd175 hw)) (mvT hZ (wd176 hw)) (mvT hZ (wd36 hw)) (mvT hZ (wd177 hw)) (by decide) (backOf (W := 0) (rmA77 l Z a0 hw [] o1 h0 n0 Z0 ) hZ (wd177 hw) (wd36 hw) (by decide) (by decide)) (g := (mkF m 4 #[.val (.ref o0)] [(.ref o1)])) rfl (by rw [hml]; rfl) (argsL := [(.ref o1)]) (rest := []) (lenOf pd__Ljava_lang_Object__Ljava_util_Optional_ rfl) rfl (by show 2 * 0 + _ ≤ _; exact Nat.le_of_eq rfl) (hb hby dp_4) (fun _ _ => ⟨rfl, e1, (by decide : 0 + 1 ≤ _), (by decide : 0 + 1 ≤ _)⟩)
  dsimp only [Pt.U, Pt.locs, Pt.cells, Pt.slots] at X2 l2 y2 z2 st2 hQ2
  subst l2 y2 z2
  obtain ⟨b2_0, rfl, Nq2, Kq2, sz2_0, g2_0, g2_1⟩ := hQ2
  have N2 := Fr.app N0 Nq2
  have Z2 : n0 ≤ T2.heap.size := Nat.le_trans Z0 Kq2.1
  have K2 : Keep h0 T2.heap [] := Keep.trans (Keep.refl h0 []) Kq2 all0
  have ne_o0_b2_0 : o0 ≠ b2_0 := Nat.ne_of_lt (Nat.lt_of_lt_of_le F_o0_target.lt sz2_0)
  have ge_b2_0 : n0 ≤ b2_0 := Nat.le_trans Z0 sz2_0
  have sz_b2_0 : h0.size ≤ b2_0 := Nat.le_trans (Nat.le_refl _) sz2_0
  obtain ⟨lfs, lhr, lhrun, lhended, lhW, lhsame⟩ := X2.leave (v := some (.ref b2_0)) (fun h => by rw [Bd.returns] at h; cases h)
  refine ⟨_, _, pre0 _ ?_, lhrun, lhended, _, _, rfl, ?_, ⟨_, rfl⟩, lhW, lhsame.mono (by decide) (by decide)⟩
  · skip
    show Steps p.tables e below (s₁.setTop (mkF m 0 #[.val (.ref o0)] [])) _
    refine XS.aloadN X0.here hx rfl (hb hby dp_0) rfl rfl ?_
    show Steps p.tables e below (s₁.setTop (mkF m 1 #[.val (.ref o0)] [(.ref o0)])) _
    refine st1 _ ?_
    show Steps p.tables e below (T1.setTop (mkF m 4 #[.val (.ref o0)] [(.ref o1)])) _
    refine st2 _ ?_
    show Steps p.tables e below (T2.setTop (mkF m 7 #[.val (.ref o0)] [(.ref b2_0)])) _
    exact retOut X2 hx Bd.returns rfl (Or.inr (Or.inr (Or.inr (Or.inr ⟨rfl, rfl, rfl⟩)))) (hb hby dp_7) lhr
  · skip
    show QA76 Z o0 o1 h0 n0 _ T2.heap _
    skip
    exact ⟨b2_0, rfl, N2, K2, sz_b2_0, g2_0, g2_1⟩
theorem ef_0 (m : MethodId) (x0 : Int32) (x1 : Int32) (x2 : Int32) (x3 : Int32) (x4 : Int32) (x5 : Int32) : entryFrame m #[(.int x0), (.int x1), (.int x2), (.int x3), (.int x4), (.int x5)] maxLocals = mkF m 0 #[.val (.int x0), .val (.int x1), .val (.int x2), .val (.int x3), .val (.int x4), .val (.int x5), .unset, .unset, .unset, .unset, .unset, .unset, .unset, .unset, .unset, .unset, .unset, .unset, .unset, .unset, .unset, .unset, .unset, .unset, .unset, .unset, .unset, .unset, .unset, .unset, .unset, .unset, .unset, .unset, .unset, .unset, .unset, .unset, .unset, .unset, .unset, .unset, .unset, .unset] [] := by first | (simp [entryFrame, mkF, argsToLocals, Value.category, maxLocals]; done) | rfl
def Q0 (Z : State) (x0 : Int32) (x1 : Int32) (x2 : Int32) (x3 : Int32) (x4 : Int32) (x5 : Int32) (G1 : Int32) (wE : Addr) (wD : Addr) (h0 : Heap) (n0 : Nat) (v : Option Value) (h : Heap) (L : List Loc) : Prop := v = some (.int 1) ∧ Fr n0 L
set_option maxRecDepth 65536 in
set_option maxHeartbeats 40000000 in
theorem rm0 (l : Launch) (Z : State) (a0 : Array Value) (hw : ∀ d ∈ tables_1, d.before a0 Z = true) (ws : List Jvm.Cond) (x0 : Int32) (x1 : Int32) (x2 : Int32) (x3 : Int32) (x4 : Int32) (x5 : Int32) (G1 : Int32) (wE : Addr) (wD : Addr) (h0 : Heap) (n0 : Nat) (Z0 : n0 ≤ h0.size) (O2 : Sta Z Z.heap "java/lang/String" "COMPACT_STRINGS" "Z" (.int G1)) (P5 : ¬ (G1 = (0 : Int32))) (X00 : Old Z n0 h0) (S_E : Sta Z Z.heap "java/util/Optional" "EMPTY" "Ljava/util/Optional;" (.ref wE)) (E_w : Exa Z Z.heap wE "java/util/Optional") (F_w : Fld Z Z.heap wE "java/util/Optional" "value" "Ljava/lang/Object;" .null) (S_D : Sta Z Z.heap "java/util/ArrayList" "DEFAULTCAPACITY_EMPTY_ELEMENTDATA" "[Ljava/lang/Object;" (.ref wD)) :
    MetFree l x (head1 (Jvm.Cond.code x code maxLocals ret :: ws) room_1) (fun a U => a = #[(.int x0), (.int x1), (.int x2), (.int x3), (.int x4), (.int x5)] ∧ Z.Warmed39 U.vm ∧ U.heap = h0 ∧ CHv Z own_EL U.vm h0 ∧ ∀ x ∈ ([] : List Addr), Safe Z own_EL U.vm h0 x) (fun _ _ _ _ _ => True) (fun _ U oc_ U' => ∃ v L, oc_ = .returned v ∧ Q0 Z x0 x1 x2 x3 x4 x5 G1 wE wD h0 n0 v U'.heap L ∧ CHr Z own_EL U.vm U.heap U'.vm U'.heap ∧ ReturnedEndW U oc_ U' L 88 1344) := by
  refine MetFree.of_bodySF (plainFor_of_name pn_com_example_typed_api_errors_typedapierrors_error_OccurrenceAsItemPinLaw) hisR ?_
  intro p e s m args below meth c s₁ Bd hml0 hP hK
  obtain ⟨rfl, hZ, hh, hCH, hSS⟩ := hP
  have hx := Bd.exec
  have hby := Bd.bytes
  have hml : c.maxLocals = 44 := hml0
  have hown : s.vm.findClass cn4 = some m.cls := findClass_of_methodNamed Bd.named
  have hnm := (name_of_methodNamed Bd.named Bd.method).1
  have X0 : Stand p l e room_1 s m #[(.int x0), (.int x1), (.int x2), (.int x3), (.int x4), (.int x5)] below meth c s₁ [] 0 0 := Stand.of_body Bd
  have e0 : s₁.heap = h0 := by rw [← hh, Bd.state]; rfl
  have N0 := Fr.nil n0
  have pre0 : ∀ t, Steps p.tables e below (s₁.setTop (mkF m 0 #[.val (.int x0), .val (.int x1), .val (.int x2), .val (.int x3), .val (.int x4), .val (.int x5), .unset, .unset, .unset, .unset, .unset, .unset, .unset, .unset, .unset, .unset, .unset, .unset, .unset, .unset, .unset, .unset, .unset, .unset, .unset, .unset, .unset, .unset, .unset, .unset, .unset, .unset, .unset, .unset, .unset, .unset, .unset, .unset, .unset, .unset, .unset, .unset, .unset, .unset] [])) t → Steps p.tables e below (s₁.setTop (entryFrame m #[(.int x0), (.int x1), (.int x2), (.int x3), (.int x4), (.int x5)] maxLocals)) t := fun t k => castTop (ef_0 m x0 x1 x2 x3 x4 x5) k
  have X0 : Stand p l e room_1 (s.setVm s.vm) m #[(.int x0), (.int x1), (.int x2), (.int x3), (.int x4), (.int x5)] below meth c s₁ [] 0 0 := X0
  have hS0 : s.Since s.vm 0 := own_since0 s
  have hk0 : 0 ≤ h0.size := Nat.zero_le _
  have CR0 : CHr Z own_EL s.vm h0 s.vm h0 := CHr.refl hCH
  have hEL := own_EW a0 Z hw
  have wS : ∀ a ∈ Bundle.stringAtoms, a.before a0 Z = true := fun d hd => hw d ((by decide +kernel : ∀ d ∈ Bundle.stringAtoms, d ∈ tables_1) d hd)
  have hws : ∀ d ∈ StrChars.Road.words, d.before a0 Z = true := fun d hd => hw d ((by decide +kernel : ∀ d ∈ StrChars.Road.words, d ∈ tables_1) d hd)
  have k1 : ∀ t, Steps p.tables e below (s₁.setTop (mkF m 3 #[.val (.int x0), .val (.int x1), .val (.int x2), .val (.int x3), .val (.int x4), .val (.int x5), .unset, .unset, .unset, .unset, .unset, .unset, .unset, .unset, .unset, .unset, .unset, .unset, .unset, .unset, .unset, .unset, .unset, .unset, .unset, .unset, .unset, .unset, .unset, .unset, .unset, .unset, .unset, .unset, .unset, .unset, .unset, .unset, .unset, .unset, .unset, .unset, .unset, .unset] [(.int (x0 &&& (1 : Int32)))])) t → Steps p.tables e below (s₁.setTop (entryFrame m #[(.int x0), (.int x1), (.int x2), (.int x3), (.int x4), (.int x5)] maxLocals)) t := by
    intro t kt
    refine pre0 t ?_
    show Steps p.tables e below (s₁.setTop (mkF m 0 #[.val (.int x0), .val (.int x1), .val (.int x2), .val (.int x3), .val (.int x4), .val (.int x5), .unset, .unset, .unset, .unset, .unset, .unset, .unset, .unset, .unset, .unset, .unset, .unset, .unset, .unset, .unset, .unset, .unset, .unset, .unset, .unset, .unset, .unset, .unset, .unset, .unset, .unset, .unset, .unset, .unset, .unset, .unset, .unset, .unset, .unset, .unset, .unset, .unset, .unset] [])) _
    refine XS.iloadN X0.here hx rfl (hb hby at_0) rfl ?_
    refine XS.iconst X0.here hx rfl (hb hby at_1) ?_
    refine XS.iand X0.here hx rfl (hb hby at_2) rfl ?_
    exact kt
  obtain ⟨fm, hj2, k2⟩ : ∃ (fm : Int32), (fm = (0 : Int32) ∨ fm = (1 : Int32)) ∧ ∀ t, Steps p.tables e below (s₁.setTop (mkF m 11 #[.val (.int x0), .val (.int x1), .val (.int x2), .val (.int x3), .val (.int x4), .val (.int x5), .unset, .unset, .unset, .unset, .unset, .unset, .unset, .unset, .unset, .unset, .unset, .unset, .unset, .unset, .unset, .unset, .unset, .unset, .unset, .unset, .unset, .unset, .unset, .unset, .unset, .unset, .unset, .unset, .unset, .unset, .unset, .unset, .unset, .unset, .unset, .unset, .unset, .unset] [(.int fm)])) t → Steps p.tables e below (s₁.setTop (entryFrame m #[(.int x0), (.int x1), (.int x2), (.int x3), (.int x4), (.int x5)] maxLocals)) t := by
    by_cases hc3 : (x0 &&& (1 : Int32)) = (0 : Int32)
    · skip
      have k4 : ∀ t, Steps p.tables e below (s₁.setTop (mkF m 11 #[.val (.int x0), .val (.int x1), .val (.int x2), .val (.int x3), .val (.int x4), .val (.int x5), .unset, .unset, .unset, .unset, .unset, .unset, .unset, .unset, .unset, .unset, .unset, .unset, .unset, .unset, .unset, .unset, .unset, .unset, .unset, .unset, .unset, .unset, .unset, .unset, .unset, .unset, .unset, .unset, .unset, .unset, .unset, .unset, .unset, .unset, .unset, .unset, .unset, .unset] [(.int (0 : Int32))])) t → Steps p.tables e below (s₁.setTop (entryFrame m #[(.int x0), (.int x1), (.int x2), (.int x3), (.int x4), (.int x5)] maxLocals)) t := by
        intro t kt
        refine k1 t ?_
        show Steps p.tables e below (s₁.setTop (mkF m 3 #[.val (.int x0), .val (.int x1), .val (.int x2), .val (.int x3), .val (.int x4), .val (.int x5), .unset, .unset, .unset, .unset, .unset, .unset, .unset, .unset, .unset, .unset, .unset, .unset, .unset, .unset, .unset, .unset, .unset, .unset, .unset, .unset, .unset, .unset, .unset, .unset, .unset, .unset, .unset, .unset, .unset, .unset, .unset, .unset, .unset, .unset, .unset, .unset, .unset, .unset] [(.int (x0 &&& (1 : Int32)))])) _
        refine XS.ifYes X0.here hx rfl (pc0 := 3) (pc' := 10) rfl (hb hby at_3) rfl ((if0 _ _).trans (teq hc3).1) (by decide) (by decide) ?_
        refine XS.iconst X0.here hx rfl (hb hby at_10) ?_
        exact kt
      exact ⟨(0 : Int32), (Or.inl rfl), k4⟩
    · skip
      have k5 : ∀ t, Steps p.tables e below (s₁.setTop (mkF m 11 #[.val (.int x0), .val (.int x1), .val (.int x2), .val (.int x3), .val (.int x4), .val (.int x5), .unset, .unset, .unset, .unset, .unset, .unset, .unset, .unset, .unset, .unset, .unset, .unset, .unset, .unset, .unset, .unset, .unset, .unset, .unset, .unset, .unset, .unset, .unset, .unset, .unset, .unset, .unset, .unset, .unset, .unset, .unset, .unset, .unset, .unset, .unset, .unset, .unset, .unset] [(.int (1 : Int32))])) t → Steps p.tables e below (s₁.setTop (entryFrame m #[(.int x0), (.int x1), (.int x2), (.int x3), (.int x4), (.int x5)] maxLocals)) t := by
        intro t kt
        refine k1 t ?_
        show Steps p.tables e below (s₁.setTop (mkF m 3 #[.val (.int x0), .val (.int x1), .val (.int x2), .val (.int x3), .val (.int x4), .val (.int x5), .unset, .unset, .unset, .unset, .unset, .unset, .unset, .unset, .unset, .unset, .unset, .unset, .unset, .unset, .unset, .unset, .unset, .unset, .unset, .unset, .unset, .unset, .unset, .unset, .unset, .unset, .unset, .unset, .unset, .unset, .unset, .unset, .unset, .unset, .unset, .unset, .unset, .unset] [(.int (x0 &&& (1 : Int32)))])) _
        refine XS.ifNo X0.here hx rfl (hb hby at_3) rfl ((if0 _ _).trans (feq hc3).1) ?_
        refine XS.iconst X0.here hx rfl (hb hby at_6) ?_
        refine XS.goto X0.here hx rfl (pc0 := 7) (pc' := 11) rfl (hb hby at_7) (by decide) (by decide) ?_
        exact kt
      exact ⟨(1 : Int32), (Or.inr rfl), k5⟩
  have k6 : ∀ t, Steps p.tables e below (s₁.setTop (mkF m 16 #[.val (.int x0), .val (.int x1), .val (.int x2), .val (.int x3), .val (.int x4), .val (.int x5), .val (.int fm), .unset, .unset, .unset, .unset, .unset, .unset, .unset, .unset, .unset, .unset, .unset, .unset, .unset, .unset, .unset, .unset, .unset, .unset, .unset, .unset, .unset, .unset, .unset, .unset, .unset, .unset, .unset, .unset, .unset, .unset, .unset, .unset, .unset, .unset, .unset, .unset, .unset] [(.int (x0 &&& (2 : Int32)))])) t → Steps p.tables e below (s₁.setTop (entryFrame m #[(.int x0), (.int x1), (.int x2), (.int x3), (.int x4), (.int x5)] maxLocals)) t := by
    intro t kt
    refine k2 t ?_
    show Steps p.tables e below (s₁.setTop (mkF m 11 #[.val (.int x0), .val (.int x1), .val (.int x2), .val (.int x3), .val (.int x4), .val (.int x5), .unset, .unset, .unset, .unset, .unset, .unset, .unset, .unset, .unset, .unset, .unset, .unset, .unset, .unset, .unset, .unset, .unset, .unset, .unset, .unset, .unset, .unset, .unset, .unset, .unset, .unset, .unset, .unset, .unset, .unset, .unset, .unset, .unset, .unset, .unset, .unset, .unset, .unset] [(.int fm)])) _
    refine XS.istore X0.here hx rfl (hb hby at_11) rfl (l' := #[.val (.int x0), .val (.int x1), .val (.int x2), .val (.int x3), .val (.int x4), .val (.int x5), .val (.int fm), .unset, .unset, .unset, .unset, .unset, .unset, .unset, .unset, .unset, .unset, .unset, .unset, .unset, .unset, .unset, .unset, .unset, .unset, .unset, .unset, .unset, .unset, .unset, .unset, .unset, .unset, .unset, .unset, .unset, .unset, .unset, .unset, .unset, .unset, .unset, .unset, .unset]) rfl ?_
    refine XS.iloadN X0.here hx rfl (hb hby at_13) rfl ?_
    refine XS.iconst X0.here hx rfl (hb hby at_14) ?_
    refine XS.iand X0.here hx rfl (hb hby at_15) rfl ?_
    exact kt
  obtain ⟨fo, hj7, k7⟩ : ∃ (fo : Int32), (fo = (0 : Int32) ∨ fo = (1 : Int32)) ∧ ∀ t, Steps p.tables e below (s₁.setTop (mkF m 24 #[.val (.int x0), .val (.int x1), .val (.int x2), .val (.int x3), .val (.int x4), .val (.int x5), .val (.int fm), .unset, .unset, .unset, .unset, .unset, .unset, .unset, .unset, .unset, .unset, .unset, .unset, .unset, .unset, .unset, .unset, .unset, .unset, .unset, .unset, .unset, .unset, .unset, .unset, .unset, .unset, .unset, .unset, .unset, .unset, .unset, .unset, .unset, .unset, .unset, .unset, .unset] [(.int fo)])) t → Steps p.tables e below (s₁.setTop (entryFrame m #[(.int x0), (.int x1), (.int x2), (.int x3), (.int x4), (.int x5)] maxLocals)) t := by
    by_cases hc8 : (x0 &&& (2 : Int32)) = (0 : Int32)
    · skip
      have k9 : ∀ t, Steps p.tables e below (s₁.setTop (mkF m 24 #[.val (.int x0), .val (.int x1), .val (.int x2), .val (.int x3), .val (.int x4), .val (.int x5), .val (.int fm), .unset, .unset, .unset, .unset, .unset, .unset, .unset, .unset, .unset, .unset, .unset, .unset, .unset, .unset, .unset, .unset, .unset, .unset, .unset, .unset, .unset, .unset, .unset, .unset, .unset, .unset, .unset, .unset, .unset, .unset, .unset, .unset, .unset, .unset, .unset, .unset, .unset] [(.int (0 : Int32))])) t → Steps p.tables e below (s₁.setTop (entryFrame m #[(.int x0), (.int x1), (.int x2), (.int x3), (.int x4), (.int x5)] maxLocals)) t := by
        intro t kt
        refine k6 t ?_
        show Steps p.tables e below (s₁.setTop (mkF m 16 #[.val (.int x0), .val (.int x1), .val (.int x2), .val (.int x3), .val (.int x4), .val (.int x5), .val (.int fm), .unset, .unset, .unset, .unset, .unset, .unset, .unset, .unset, .unset, .unset, .unset, .unset, .unset, .unset, .unset, .unset, .unset, .unset, .unset, .unset, .unset, .unset, .unset, .unset, .unset, .unset, .unset, .unset, .unset, .unset, .unset, .unset, .unset, .unset, .unset, .unset, .unset] [(.int (x0 &&& (2 : Int32)))])) _
        refine XS.ifYes X0.here hx rfl (pc0 := 16) (pc' := 23) rfl (hb hby at_16) rfl ((if0 _ _).trans (teq hc8).1) (by decide) (by decide) ?_
        refine XS.iconst X0.here hx rfl (hb hby at_23) ?_
        exact kt
      exact ⟨(0 : Int32), (Or.inl rfl), k9⟩
    · skip
      have k10 : ∀ t, Steps p.tables e below (s₁.setTop (mkF m 24 #[.val (.int x0), .val (.int x1), .val (.int x2), .val (.int x3), .val (.int x4), .val (.int x5), .val (.int fm), .unset, .unset, .unset, .unset, .unset, .unset, .unset, .unset, .unset, .unset, .unset, .unset, .unset, .unset, .unset, .unset, .unset, .unset, .unset, .unset, .unset, .unset, .unset, .unset, .unset, .unset, .unset, .unset, .unset, .unset, .unset, .unset, .unset, .unset, .unset, .unset, .unset] [(.int (1 : Int32))])) t → Steps p.tables e below (s₁.setTop (entryFrame m #[(.int x0), (.int x1), (.int x2), (.int x3), (.int x4), (.int x5)] maxLocals)) t := by
        intro t kt
        refine k6 t ?_
        show Steps p.tables e below (s₁.setTop (mkF m 16 #[.val (.int x0), .val (.int x1), .val (.int x2), .val (.int x3), .val (.int x4), .val (.int x5), .val (.int fm), .unset, .unset, .unset, .unset, .unset, .unset, .unset, .unset, .unset, .unset, .unset, .unset, .unset, .unset, .unset, .unset, .unset, .unset, .unset, .unset, .unset, .unset, .unset, .unset, .unset, .unset, .unset, .unset, .unset, .unset, .unset, .unset, .unset, .unset, .unset, .unset, .unset] [(.int (x0 &&& (2 : Int32)))])) _
        refine XS.ifNo X0.here hx rfl (hb hby at_16) rfl ((if0 _ _).trans (feq hc8).1) ?_
        refine XS.iconst X0.here hx rfl (hb hby at_19) ?_
        refine XS.goto X0.here hx rfl (pc0 := 20) (pc' := 24) rfl (hb hby at_20) (by decide) (by decide) ?_
        exact kt
      exact ⟨(1 : Int32), (Or.inr rfl), k10⟩
  have k11 : ∀ t, Steps p.tables e below (s₁.setTop (mkF m 29 #[.val (.int x0), .val (.int x1), .val (.int x2), .val (.int x3), .val (.int x4), .val (.int x5), .val (.int fm), .val (.int fo), .unset, .unset, .unset, .unset, .unset, .unset, .unset, .unset, .unset, .unset, .unset, .unset, .unset, .unset, .unset, .unset, .unset, .unset, .unset, .unset, .unset, .unset, .unset, .unset, .unset, .unset, .unset, .unset, .unset, .unset, .unset, .unset, .unset, .unset, .unset, .unset] [(.int (x0 &&& (4 : Int32)))])) t → Steps p.tables e below (s₁.setTop (entryFrame m #[(.int x0), (.int x1), (.int x2), (.int x3), (.int x4), (.int x5)] maxLocals)) t := by
    intro t kt
    refine k7 t ?_
    show Steps p.tables e below (s₁.setTop (mkF m 24 #[.val (.int x0), .val (.int x1), .val (.int x2), .val (.int x3), .val (.int x4), .val (.int x5), .val (.int fm), .unset, .unset, .unset, .unset, .unset, .unset, .unset, .unset, .unset, .unset, .unset, .unset, .unset, .unset, .unset, .unset, .unset, .unset, .unset, .unset, .unset, .unset, .unset, .unset, .unset, .unset, .unset, .unset, .unset, .unset, .unset, .unset, .unset, .unset, .unset, .unset, .unset] [(.int fo)])) _
    refine XS.istore X0.here hx rfl (hb hby at_24) rfl (l' := #[.val (.int x0), .val (.int x1), .val (.int x2), .val (.int x3), .val (.int x4), .val (.int x5), .val (.int fm), .val (.int fo), .unset, .unset, .unset, .unset, .unset, .unset, .unset, .unset, .unset, .unset, .unset, .unset, .unset, .unset, .unset, .unset, .unset, .unset, .unset, .unset, .unset, .unset, .unset, .unset, .unset, .unset, .unset, .unset, .unset, .unset, .unset, .unset, .unset, .unset, .unset, .unset]) rfl ?_
    refine XS.iloadN X0.here hx rfl (hb hby at_26) rfl ?_
    refine XS.iconst X0.here hx rfl (hb hby at_27) ?_
    refine XS.iand X0.here hx rfl (hb hby at_28) rfl ?_
    exact kt
  obtain ⟨fc, hj12, k12⟩ : ∃ (fc : Int32), (fc = (0 : Int32) ∨ fc = (1 : Int32)) ∧ ∀ t, Steps p.tables e below (s₁.setTop (mkF m 37 #[.val (.int x0), .val (.int x1), .val (.int x2), .val (.int x3), .val (.int x4), .val (.int x5), .val (.int fm), .val (.int fo), .unset, .unset, .unset, .unset, .unset, .unset, .unset, .unset, .unset, .unset, .unset, .unset, .unset, .unset, .unset, .unset, .unset, .unset, .unset, .unset, .unset, .unset, .unset, .unset, .unset, .unset, .unset, .unset, .unset, .unset, .unset, .unset, .unset, .unset, .unset, .unset] [(.int fc)])) t → Steps p.tables e below (s₁.setTop (entryFrame m #[(.int x0), (.int x1), (.int x2), (.int x3), (.int x4), (.int x5)] maxLocals)) t := by
    by_cases hc13 : (x0 &&& (4 : Int32)) = (0 : Int32)
    · skip
      have k14 : ∀ t, Steps p.tables e below (s₁.setTop (mkF m 37 #[.val (.int x0), .val (.int x1), .val (.int x2), .val (.int x3), .val (.int x4), .val (.int x5), .val (.int fm), .val (.int fo), .unset, .unset, .unset, .unset, .unset, .unset, .unset, .unset, .unset, .unset, .unset, .unset, .unset, .unset, .unset, .unset, .unset, .unset, .unset, .unset, .unset, .unset, .unset, .unset, .unset, .unset, .unset, .unset, .unset, .unset, .unset, .unset, .unset, .unset, .unset, .unset] [(.int (0 : Int32))])) t → Steps p.tables e below (s₁.setTop (entryFrame m #[(.int x0), (.int x1), (.int x2), (.int x3), (.int x4), (.int x5)] maxLocals)) t := by
        intro t kt
        refine k11 t ?_
        show Steps p.tables e below (s₁.setTop (mkF m 29 #[.val (.int x0), .val (.int x1), .val (.int x2), .val (.int x3), .val (.int x4), .val (.int x5), .val (.int fm), .val (.int fo), .unset, .unset, .unset, .unset, .unset, .unset, .unset, .unset, .unset, .unset, .unset, .unset, .unset, .unset, .unset, .unset, .unset, .unset, .unset, .unset, .unset, .unset, .unset, .unset, .unset, .unset, .unset, .unset, .unset, .unset, .unset, .unset, .unset, .unset, .unset, .unset] [(.int (x0 &&& (4 : Int32)))])) _
        refine XS.ifYes X0.here hx rfl (pc0 := 29) (pc' := 36) rfl (hb hby at_29) rfl ((if0 _ _).trans (teq hc13).1) (by decide) (by decide) ?_
        refine XS.iconst X0.here hx rfl (hb hby at_36) ?_
        exact kt
      exact ⟨(0 : Int32), (Or.inl rfl), k14⟩
    · skip
      have k15 : ∀ t, Steps p.tables e below (s₁.setTop (mkF m 37 #[.val (.int x0), .val (.int x1), .val (.int x2), .val (.int x3), .val (.int x4), .val (.int x5), .val (.int fm), .val (.int fo), .unset, .unset, .unset, .unset, .unset, .unset, .unset, .unset, .unset, .unset, .unset, .unset, .unset, .unset, .unset, .unset, .unset, .unset, .unset, .unset, .unset, .unset, .unset, .unset, .unset, .unset, .unset, .unset, .unset, .unset, .unset, .unset, .unset, .unset, .unset, .unset] [(.int (1 : Int32))])) t → Steps p.tables e below (s₁.setTop (entryFrame m #[(.int x0), (.int x1), (.int x2), (.int x3), (.int x4), (.int x5)] maxLocals)) t := by
        intro t kt
        refine k11 t ?_
        show Steps p.tables e below (s₁.setTop (mkF m 29 #[.val (.int x0), .val (.int x1), .val (.int x2), .val (.int x3), .val (.int x4), .val (.int x5), .val (.int fm), .val (.int fo), .unset, .unset, .unset, .unset, .unset, .unset, .unset, .unset, .unset, .unset, .unset, .unset, .unset, .unset, .unset, .unset, .unset, .unset, .unset, .unset, .unset, .unset, .unset, .unset, .unset, .unset, .unset, .unset, .unset, .unset, .unset, .unset, .unset, .unset, .unset, .unset] [(.int (x0 &&& (4 : Int32)))])) _
        refine XS.ifNo X0.here hx rfl (hb hby at_29) rfl ((if0 _ _).trans (feq hc13).1) ?_
        refine XS.iconst X0.here hx rfl (hb hby at_32) ?_
        refine XS.goto X0.here hx rfl (pc0 := 33) (pc' := 37) rfl (hb hby at_33) (by decide) (by decide) ?_
        exact kt
      exact ⟨(1 : Int32), (Or.inr rfl), k15⟩
  have k16 : ∀ t, Steps p.tables e below (s₁.setTop (mkF m 43 #[.val (.int x0), .val (.int x1), .val (.int x2), .val (.int x3), .val (.int x4), .val (.int x5), .val (.int fm), .val (.int fo), .val (.int fc), .unset, .unset, .unset, .unset, .unset, .unset, .unset, .unset, .unset, .unset, .unset, .unset, .unset, .unset, .unset, .unset, .unset, .unset, .unset, .unset, .unset, .unset, .unset, .unset, .unset, .unset, .unset, .unset, .unset, .unset, .unset, .unset, .unset, .unset, .unset] [(.int (x0 &&& (8 : Int32)))])) t → Steps p.tables e below (s₁.setTop (entryFrame m #[(.int x0), (.int x1), (.int x2), (.int x3), (.int x4), (.int x5)] maxLocals)) t := by
    intro t kt
    refine k12 t ?_
    show Steps p.tables e below (s₁.setTop (mkF m 37 #[.val (.int x0), .val (.int x1), .val (.int x2), .val (.int x3), .val (.int x4), .val (.int x5), .val (.int fm), .val (.int fo), .unset, .unset, .unset, .unset, .unset, .unset, .unset, .unset, .unset, .unset, .unset, .unset, .unset, .unset, .unset, .unset, .unset, .unset, .unset, .unset, .unset, .unset, .unset, .unset, .unset, .unset, .unset, .unset, .unset, .unset, .unset, .unset, .unset, .unset, .unset, .unset] [(.int fc)])) _
    refine XS.istore X0.here hx rfl (hb hby at_37) rfl (l' := #[.val (.int x0), .val (.int x1), .val (.int x2), .val (.int x3), .val (.int x4), .val (.int x5), .val (.int fm), .val (.int fo), .val (.int fc), .unset, .unset, .unset, .unset, .unset, .unset, .unset, .unset, .unset, .unset, .unset, .unset, .unset, .unset, .unset, .unset, .unset, .unset, .unset, .unset, .unset, .unset, .unset, .unset, .unset, .unset, .unset, .unset, .unset, .unset, .unset, .unset, .unset, .unset, .unset]) rfl ?_
    refine XS.iloadN X0.here hx rfl (hb hby at_39) rfl ?_
    refine XS.bipush X0.here hx rfl (hb hby at_40) ?_
    refine XS.iand X0.here hx rfl (hb hby at_42) rfl ?_
    exact kt
  obtain ⟨ft, hj17, k17⟩ : ∃ (ft : Int32), (ft = (0 : Int32) ∨ ft = (1 : Int32)) ∧ ∀ t, Steps p.tables e below (s₁.setTop (mkF m 51 #[.val (.int x0), .val (.int x1), .val (.int x2), .val (.int x3), .val (.int x4), .val (.int x5), .val (.int fm), .val (.int fo), .val (.int fc), .unset, .unset, .unset, .unset, .unset, .unset, .unset, .unset, .unset, .unset, .unset, .unset, .unset, .unset, .unset, .unset, .unset, .unset, .unset, .unset, .unset, .unset, .unset, .unset, .unset, .unset, .unset, .unset, .unset, .unset, .unset, .unset, .unset, .unset, .unset] [(.int ft)])) t → Steps p.tables e below (s₁.setTop (entryFrame m #[(.int x0), (.int x1), (.int x2), (.int x3), (.int x4), (.int x5)] maxLocals)) t := by
    by_cases hc18 : (x0 &&& (8 : Int32)) = (0 : Int32)
    · skip
      have k19 : ∀ t, Steps p.tables e below (s₁.setTop (mkF m 51 #[.val (.int x0), .val (.int x1), .val (.int x2), .val (.int x3), .val (.int x4), .val (.int x5), .val (.int fm), .val (.int fo), .val (.int fc), .unset, .unset, .unset, .unset, .unset, .unset, .unset, .unset, .unset, .unset, .unset, .unset, .unset, .unset, .unset, .unset, .unset, .unset, .unset, .unset, .unset, .unset, .unset, .unset, .unset, .unset, .unset, .unset, .unset, .unset, .unset, .unset, .unset, .unset, .unset] [(.int (0 : Int32))])) t → Steps p.tables e below (s₁.setTop (entryFrame m #[(.int x0), (.int x1), (.int x2), (.int x3), (.int x4), (.int x5)] maxLocals)) t := by
        intro t kt
        refine k16 t ?_
        show Steps p.tables e below (s₁.setTop (mkF m 43 #[.val (.int x0), .val (.int x1), .val (.int x2), .val (.int x3), .val (.int x4), .val (.int x5), .val (.int fm), .val (.int fo), .val (.int fc), .unset, .unset, .unset, .unset, .unset, .unset, .unset, .unset, .unset, .unset, .unset, .unset, .unset, .unset, .unset, .unset, .unset, .unset, .unset, .unset, .unset, .unset, .unset, .unset, .unset, .unset, .unset, .unset, .unset, .unset, .unset, .unset, .unset, .unset, .unset] [(.int (x0 &&& (8 : Int32)))])) _
        refine XS.ifYes X0.here hx rfl (pc0 := 43) (pc' := 50) rfl (hb hby at_43) rfl ((if0 _ _).trans (teq hc18).1) (by decide) (by decide) ?_
        refine XS.iconst X0.here hx rfl (hb hby at_50) ?_
        exact kt
      exact ⟨(0 : Int32), (Or.inl rfl), k19⟩
    · skip
      have k20 : ∀ t, Steps p.tables e below (s₁.setTop (mkF m 51 #[.val (.int x0), .val (.int x1), .val (.int x2), .val (.int x3), .val (.int x4), .val (.int x5), .val (.int fm), .val (.int fo), .val (.int fc), .unset, .unset, .unset, .unset, .unset, .unset, .unset, .unset, .unset, .unset, .unset, .unset, .unset, .unset, .unset, .unset, .unset, .unset, .unset, .unset, .unset, .unset, .unset, .unset, .unset, .unset, .unset, .unset, .unset, .unset, .unset, .unset, .unset, .unset, .unset] [(.int (1 : Int32))])) t → Steps p.tables e below (s₁.setTop (entryFrame m #[(.int x0), (.int x1), (.int x2), (.int x3), (.int x4), (.int x5)] maxLocals)) t := by
        intro t kt
        refine k16 t ?_
        show Steps p.tables e below (s₁.setTop (mkF m 43 #[.val (.int x0), .val (.int x1), .val (.int x2), .val (.int x3), .val (.int x4), .val (.int x5), .val (.int fm), .val (.int fo), .val (.int fc), .unset, .unset, .unset, .unset, .unset, .unset, .unset, .unset, .unset, .unset, .unset, .unset, .unset, .unset, .unset, .unset, .unset, .unset, .unset, .unset, .unset, .unset, .unset, .unset, .unset, .unset, .unset, .unset, .unset, .unset, .unset, .unset, .unset, .unset, .unset] [(.int (x0 &&& (8 : Int32)))])) _
        refine XS.ifNo X0.here hx rfl (hb hby at_43) rfl ((if0 _ _).trans (feq hc18).1) ?_
        refine XS.iconst X0.here hx rfl (hb hby at_46) ?_
        refine XS.goto X0.here hx rfl (pc0 := 47) (pc' := 51) rfl (hb hby at_47) (by decide) (by decide) ?_
        exact kt
      exact ⟨(1 : Int32), (Or.inr rfl), k20⟩
  have k21 : ∀ t, Steps p.tables e below (s₁.setTop (mkF m 57 #[.val (.int x0), .val (.int x1), .val (.int x2), .val (.int x3), .val (.int x4), .val (.int x5), .val (.int fm), .val (.int fo), .val (.int fc), .val (.int ft), .unset, .unset, .unset, .unset, .unset, .unset, .unset, .unset, .unset, .unset, .unset, .unset, .unset, .unset, .unset, .unset, .unset, .unset, .unset, .unset, .unset, .unset, .unset, .unset, .unset, .unset, .unset, .unset, .unset, .unset, .unset, .unset, .unset, .unset] [(.int (x0 &&& (16 : Int32)))])) t → Steps p.tables e below (s₁.setTop (entryFrame m #[(.int x0), (.int x1), (.int x2), (.int x3), (.int x4), (.int x5)] maxLocals)) t := by
    intro t kt
    refine k17 t ?_
    show Steps p.tables e below (s₁.setTop (mkF m 51 #[.val (.int x0), .val (.int x1), .val (.int x2), .val (.int x3), .val (.int x4), .val (.int x5), .val (.int fm), .val (.int fo), .val (.int fc), .unset, .unset, .unset, .unset, .unset, .unset, .unset, .unset, .unset, .unset, .unset, .unset, .unset, .unset, .unset, .unset, .unset, .unset, .unset, .unset, .unset, .unset, .unset, .unset, .unset, .unset, .unset, .unset, .unset, .unset, .unset, .unset, .unset, .unset, .unset] [(.int ft)])) _
    refine XS.istore X0.here hx rfl (hb hby at_51) rfl (l' := #[.val (.int x0), .val (.int x1), .val (.int x2), .val (.int x3), .val (.int x4), .val (.int x5), .val (.int fm), .val (.int fo), .val (.int fc), .val (.int ft), .unset, .unset, .unset, .unset, .unset, .unset, .unset, .unset, .unset, .unset, .unset, .unset, .unset, .unset, .unset, .unset, .unset, .unset, .unset, .unset, .unset, .unset, .unset, .unset, .unset, .unset, .unset, .unset, .unset, .unset, .unset, .unset, .unset, .unset]) rfl ?_
    refine XS.iloadN X0.here hx rfl (hb hby at_53) rfl ?_
    refine XS.bipush X0.here hx rfl (hb hby at_54) ?_
    refine XS.iand X0.here hx rfl (hb hby at_56) rfl ?_
    exact kt
  obtain ⟨fi, hj22, k22⟩ : ∃ (fi : Int32), (fi = (0 : Int32) ∨ fi = (1 : Int32)) ∧ ∀ t, Steps p.tables e below (s₁.setTop (mkF m 65 #[.val (.int x0), .val (.int x1), .val (.int x2), .val (.int x3), .val (.int x4), .val (.int x5), .val (.int fm), .val (.int fo), .val (.int fc), .val (.int ft), .unset, .unset, .unset, .unset, .unset, .unset, .unset, .unset, .unset, .unset, .unset, .unset, .unset, .unset, .unset, .unset, .unset, .unset, .unset, .unset, .unset, .unset, .unset, .unset, .unset, .unset, .unset, .unset, .unset, .unset, .unset, .unset, .unset, .unset] [(.int fi)])) t → Steps p.tables e below (s₁.setTop (entryFrame m #[(.int x0), (.int x1), (.int x2), (.int x3), (.int x4), (.int x5)] maxLocals)) t := by
    by_cases hc23 : (x0 &&& (16 : Int32)) = (0 : Int32)
    · skip
      have k24 : ∀ t, Steps p.tables e below (s₁.setTop (mkF m 65 #[.val (.int x0), .val (.int x1), .val (.int x2), .val (.int x3), .val (.int x4), .val (.int x5), .val (.int fm), .val (.int fo), .val (.int fc), .val (.int ft), .unset, .unset, .unset, .unset, .unset, .unset, .unset, .unset, .unset, .unset, .unset, .unset, .unset, .unset, .unset, .unset, .unset, .unset, .unset, .unset, .unset, .unset, .unset, .unset, .unset, .unset, .unset, .unset, .unset, .unset, .unset, .unset, .unset, .unset] [(.int (0 : Int32))])) t → Steps p.tables e below (s₁.setTop (entryFrame m #[(.int x0), (.int x1), (.int x2), (.int x3), (.int x4), (.int x5)] maxLocals)) t := by
        intro t kt
        refine k21 t ?_
        show Steps p.tables e below (s₁.setTop (mkF m 57 #[.val (.int x0), .val (.int x1), .val (.int x2), .val (.int x3), .val (.int x4), .val (.int x5), .val (.int fm), .val (.int fo), .val (.int fc), .val (.int ft), .unset, .unset, .unset, .unset, .unset, .unset, .unset, .unset, .unset, .unset, .unset, .unset, .unset, .unset, .unset, .unset, .unset, .unset, .unset, .unset, .unset, .unset, .unset, .unset, .unset, .unset, .unset, .unset, .unset, .unset, .unset, .unset, .unset, .unset] [(.int (x0 &&& (16 : Int32)))])) _
        refine XS.ifYes X0.here hx rfl (pc0 := 57) (pc' := 64) rfl (hb hby at_57) rfl ((if0 _ _).trans (teq hc23).1) (by decide) (by decide) ?_
        refine XS.iconst X0.here hx rfl (hb hby at_64) ?_
        exact kt
      exact ⟨(0 : Int32), (Or.inl rfl), k24⟩
    · skip
      have k25 : ∀ t, Steps p.tables e below (s₁.setTop (mkF m 65 #[.val (.int x0), .val (.int x1), .val (.int x2), .val (.int x3), .val (.int x4), .val (.int x5), .val (.int fm), .val (.int fo), .val (.int fc), .val (.int ft), .unset, .unset, .unset, .unset, .unset, .unset, .unset, .unset, .unset, .unset, .unset, .unset, .unset, .unset, .unset, .unset, .unset, .unset, .unset, .unset, .unset, .unset, .unset, .unset, .unset, .unset, .unset, .unset, .unset, .unset, .unset, .unset, .unset, .unset] [(.int (1 : Int32))])) t → Steps p.tables e below (s₁.setTop (entryFrame m #[(.int x0), (.int x1), (.int x2), (.int x3), (.int x4), (.int x5)] maxLocals)) t := by
        intro t kt
        refine k21 t ?_
        show Steps p.tables e below (s₁.setTop (mkF m 57 #[.val (.int x0), .val (.int x1), .val (.int x2), .val (.int x3), .val (.int x4), .val (.int x5), .val (.int fm), .val (.int fo), .val (.int fc), .val (.int ft), .unset, .unset, .unset, .unset, .unset, .unset, .unset, .unset, .unset, .unset, .unset, .unset, .unset, .unset, .unset, .unset, .unset, .unset, .unset, .unset, .unset, .unset, .unset, .unset, .unset, .unset, .unset, .unset, .unset, .unset, .unset, .unset, .unset, .unset] [(.int (x0 &&& (16 : Int32)))])) _
        refine XS.ifNo X0.here hx rfl (hb hby at_57) rfl ((if0 _ _).trans (feq hc23).1) ?_
        refine XS.iconst X0.here hx rfl (hb hby at_60) ?_
        refine XS.goto X0.here hx rfl (pc0 := 61) (pc' := 65) rfl (hb hby at_61) (by decide) (by decide) ?_
        exact kt
      exact ⟨(1 : Int32), (Or.inr rfl), k25⟩
  have k26 : ∀ t, Steps p.tables e below (s₁.setTop (mkF m 71 #[.val (.int x0), .val (.int x1), .val (.int x2), .val (.int x3), .val (.int x4), .val (.int x5), .val (.int fm), .val (.int fo), .val (.int fc), .val (.int ft), .val (.int fi), .unset, .unset, .unset, .unset, .unset, .unset, .unset, .unset, .unset, .unset, .unset, .unset, .unset, .unset, .unset, .unset, .unset, .unset, .unset, .unset, .unset, .unset, .unset, .unset, .unset, .unset, .unset, .unset, .unset, .unset, .unset, .unset, .unset] [(.int (x0 &&& (32 : Int32)))])) t → Steps p.tables e below (s₁.setTop (entryFrame m #[(.int x0), (.int x1), (.int x2), (.int x3), (.int x4), (.int x5)] maxLocals)) t := by
    intro t kt
    refine k22 t ?_
    show Steps p.tables e below (s₁.setTop (mkF m 65 #[.val (.int x0), .val (.int x1), .val (.int x2), .val (.int x3), .val (.int x4), .val (.int x5), .val (.int fm), .val (.int fo), .val (.int fc), .val (.int ft), .unset, .unset, .unset, .unset, .unset, .unset, .unset, .unset, .unset, .unset, .unset, .unset, .unset, .unset, .unset, .unset, .unset, .unset, .unset, .unset, .unset, .unset, .unset, .unset, .unset, .unset, .unset, .unset, .unset, .unset, .unset, .unset, .unset, .unset] [(.int fi)])) _
    refine XS.istore X0.here hx rfl (hb hby at_65) rfl (l' := #[.val (.int x0), .val (.int x1), .val (.int x2), .val (.int x3), .val (.int x4), .val (.int x5), .val (.int fm), .val (.int fo), .val (.int fc), .val (.int ft), .val (.int fi), .unset, .unset, .unset, .unset, .unset, .unset, .unset, .unset, .unset, .unset, .unset, .unset, .unset, .unset, .unset, .unset, .unset, .unset, .unset, .unset, .unset, .unset, .unset, .unset, .unset, .unset, .unset, .unset, .unset, .unset, .unset, .unset, .unset]) rfl ?_
    refine XS.iloadN X0.here hx rfl (hb hby at_67) rfl ?_
    refine XS.bipush X0.here hx rfl (hb hby at_68) ?_
    refine XS.iand X0.here hx rfl (hb hby at_70) rfl ?_
    exact kt
  obtain ⟨fg, hj27, k27⟩ : ∃ (fg : Int32), (fg = (0 : Int32) ∨ fg = (1 : Int32)) ∧ ∀ t, Steps p.tables e below (s₁.setTop (mkF m 79 #[.val (.int x0), .val (.int x1), .val (.int x2), .val (.int x3), .val (.int x4), .val (.int x5), .val (.int fm), .val (.int fo), .val (.int fc), .val (.int ft), .val (.int fi), .unset, .unset, .unset, .unset, .unset, .unset, .unset, .unset, .unset, .unset, .unset, .unset, .unset, .unset, .unset, .unset, .unset, .unset, .unset, .unset, .unset, .unset, .unset, .unset, .unset, .unset, .unset, .unset, .unset, .unset, .unset, .unset, .unset] [(.int fg)])) t → Steps p.tables e below (s₁.setTop (entryFrame m #[(.int x0), (.int x1), (.int x2), (.int x3), (.int x4), (.int x5)] maxLocals)) t := by
    by_cases hc28 : (x0 &&& (32 : Int32)) = (0 : Int32)
    · skip
      have k29 : ∀ t, Steps p.tables e below (s₁.setTop (mkF m 79 #[.val (.int x0), .val (.int x1), .val (.int x2), .val (.int x3), .val (.int x4), .val (.int x5), .val (.int fm), .val (.int fo), .val (.int fc), .val (.int ft), .val (.int fi), .unset, .unset, .unset, .unset, .unset, .unset, .unset, .unset, .unset, .unset, .unset, .unset, .unset, .unset, .unset, .unset, .unset, .unset, .unset, .unset, .unset, .unset, .unset, .unset, .unset, .unset, .unset, .unset, .unset, .unset, .unset, .unset, .unset] [(.int (0 : Int32))])) t → Steps p.tables e below (s₁.setTop (entryFrame m #[(.int x0), (.int x1), (.int x2), (.int x3), (.int x4), (.int x5)] maxLocals)) t := by
        intro t kt
        refine k26 t ?_
        show Steps p.tables e below (s₁.setTop (mkF m 71 #[.val (.int x0), .val (.int x1), .val (.int x2), .val (.int x3), .val (.int x4), .val (.int x5), .val (.int fm), .val (.int fo), .val (.int fc), .val (.int ft), .val (.int fi), .unset, .unset, .unset, .unset, .unset, .unset, .unset, .unset, .unset, .unset, .unset, .unset, .unset, .unset, .unset, .unset, .unset, .unset, .unset, .unset, .unset, .unset, .unset, .unset, .unset, .unset, .unset, .unset, .unset, .unset, .unset, .unset, .unset] [(.int (x0 &&& (32 : Int32)))])) _
        refine XS.ifYes X0.here hx rfl (pc0 := 71) (pc' := 78) rfl (hb hby at_71) rfl ((if0 _ _).trans (teq hc28).1) (by decide) (by decide) ?_
        refine XS.iconst X0.here hx rfl (hb hby at_78) ?_
        exact kt
      exact ⟨(0 : Int32), (Or.inl rfl), k29⟩
    · skip
      have k30 : ∀ t, Steps p.tables e below (s₁.setTop (mkF m 79 #[.val (.int x0), .val (.int x1), .val (.int x2), .val (.int x3), .val (.int x4), .val (.int x5), .val (.int fm), .val (.int fo), .val (.int fc), .val (.int ft), .val (.int fi), .unset, .unset, .unset, .unset, .unset, .unset, .unset, .unset, .unset, .unset, .unset, .unset, .unset, .unset, .unset, .unset, .unset, .unset, .unset, .unset, .unset, .unset, .unset, .unset, .unset, .unset, .unset, .unset, .unset, .unset, .unset, .unset, .unset] [(.int (1 : Int32))])) t → Steps p.tables e below (s₁.setTop (entryFrame m #[(.int x0), (.int x1), (.int x2), (.int x3), (.int x4), (.int x5)] maxLocals)) t := by
        intro t kt
        refine k26 t ?_
        show Steps p.tables e below (s₁.setTop (mkF m 71 #[.val (.int x0), .val (.int x1), .val (.int x2), .val (.int x3), .val (.int x4), .val (.int x5), .val (.int fm), .val (.int fo), .val (.int fc), .val (.int ft), .val (.int fi), .unset, .unset, .unset, .unset, .unset, .unset, .unset, .unset, .unset, .unset, .unset, .unset, .unset, .unset, .unset, .unset, .unset, .unset, .unset, .unset, .unset, .unset, .unset, .unset, .unset, .unset, .unset, .unset, .unset, .unset, .unset, .unset, .unset] [(.int (x0 &&& (32 : Int32)))])) _
        refine XS.ifNo X0.here hx rfl (hb hby at_71) rfl ((if0 _ _).trans (feq hc28).1) ?_
        refine XS.iconst X0.here hx rfl (hb hby at_74) ?_
        refine XS.goto X0.here hx rfl (pc0 := 75) (pc' := 79) rfl (hb hby at_75) (by decide) (by decide) ?_
        exact kt
      exact ⟨(1 : Int32), (Or.inr rfl), k30⟩
  have k31 : ∀ t, Steps p.tables e below (s₁.setTop (mkF m 85 #[.val (.int x0), .val (.int x1), .val (.int x2), .val (.int x3), .val (.int x4), .val (.int x5), .val (.int fm), .val (.int fo), .val (.int fc), .val (.int ft), .val (.int fi), .val (.int fg), .unset, .unset, .unset, .unset, .unset, .unset, .unset, .unset, .unset, .unset, .unset, .unset, .unset, .unset, .unset, .unset, .unset, .unset, .unset, .unset, .unset, .unset, .unset, .unset, .unset, .unset, .unset, .unset, .unset, .unset, .unset, .unset] [(.int (x0 &&& (64 : Int32)))])) t → Steps p.tables e below (s₁.setTop (entryFrame m #[(.int x0), (.int x1), (.int x2), (.int x3), (.int x4), (.int x5)] maxLocals)) t := by
    intro t kt
    refine k27 t ?_
    show Steps p.tables e below (s₁.setTop (mkF m 79 #[.val (.int x0), .val (.int x1), .val (.int x2), .val (.int x3), .val (.int x4), .val (.int x5), .val (.int fm), .val (.int fo), .val (.int fc), .val (.int ft), .val (.int fi), .unset, .unset, .unset, .unset, .unset, .unset, .unset, .unset, .unset, .unset, .unset, .unset, .unset, .unset, .unset, .unset, .unset, .unset, .unset, .unset, .unset, .unset, .unset, .unset, .unset, .unset, .unset, .unset, .unset, .unset, .unset, .unset, .unset] [(.int fg)])) _
    refine XS.istore X0.here hx rfl (hb hby at_79) rfl (l' := #[.val (.int x0), .val (.int x1), .val (.int x2), .val (.int x3), .val (.int x4), .val (.int x5), .val (.int fm), .val (.int fo), .val (.int fc), .val (.int ft), .val (.int fi), .val (.int fg), .unset, .unset, .unset, .unset, .unset, .unset, .unset, .unset, .unset, .unset, .unset, .unset, .unset, .unset, .unset, .unset, .unset, .unset, .unset, .unset, .unset, .unset, .unset, .unset, .unset, .unset, .unset, .unset, .unset, .unset, .unset, .unset]) rfl ?_
    refine XS.iloadN X0.here hx rfl (hb hby at_81) rfl ?_
    refine XS.bipush X0.here hx rfl (hb hby at_82) ?_
    refine XS.iand X0.here hx rfl (hb hby at_84) rfl ?_
    exact kt
  obtain ⟨fn, hj32, k32⟩ : ∃ (fn : Int32), (fn = (0 : Int32) ∨ fn = (1 : Int32)) ∧ ∀ t, Steps p.tables e below (s₁.setTop (mkF m 93 #[.val (.int x0), .val (.int x1), .val (.int x2), .val (.int x3), .val (.int x4), .val (.int x5), .val (.int fm), .val (.int fo), .val (.int fc), .val (.int ft), .val (.int fi), .val (.int fg), .unset, .unset, .unset, .unset, .unset, .unset, .unset, .unset, .unset, .unset, .unset, .unset, .unset, .unset, .unset, .unset, .unset, .unset, .unset, .unset, .unset, .unset, .unset, .unset, .unset, .unset, .unset, .unset, .unset, .unset, .unset, .unset] [(.int fn)])) t → Steps p.tables e below (s₁.setTop (entryFrame m #[(.int x0), (.int x1), (.int x2), (.int x3), (.int x4), (.int x5)] maxLocals)) t := by
    by_cases hc33 : (x0 &&& (64 : Int32)) = (0 : Int32)
    · skip
      have k34 : ∀ t, Steps p.tables e below (s₁.setTop (mkF m 93 #[.val (.int x0), .val (.int x1), .val (.int x2), .val (.int x3), .val (.int x4), .val (.int x5), .val (.int fm), .val (.int fo), .val (.int fc), .val (.int ft), .val (.int fi), .val (.int fg), .unset, .unset, .unset, .unset, .unset, .unset, .unset, .unset, .unset, .unset, .unset, .unset, .unset, .unset, .unset, .unset, .unset, .unset, .unset, .unset, .unset, .unset, .unset, .unset, .unset, .unset, .unset, .unset, .unset, .unset, .unset, .unset] [(.int (0 : Int32))])) t → Steps p.tables e below (s₁.setTop (entryFrame m #[(.int x0), (.int x1), (.int x2), (.int x3), (.int x4), (.int x5)] maxLocals)) t := by
        intro t kt
        refine k31 t ?_
        show Steps p.tables e below (s₁.setTop (mkF m 85 #[.val (.int x0), .val (.int x1), .val (.int x2), .val (.int x3), .val (.int x4), .val (.int x5), .val (.int fm), .val (.int fo), .val (.int fc), .val (.int ft), .val (.int fi), .val (.int fg), .unset, .unset, .unset, .unset, .unset, .unset, .unset, .unset, .unset, .unset, .unset, .unset, .unset, .unset, .unset, .unset, .unset, .unset, .unset, .unset, .unset, .unset, .unset, .unset, .unset, .unset, .unset, .unset, .unset, .unset, .unset, .unset] [(.int (x0 &&& (64 : Int32)))])) _
        refine XS.ifYes X0.here hx rfl (pc0 := 85) (pc' := 92) rfl (hb hby at_85) rfl ((if0 _ _).trans (teq hc33).1) (by decide) (by decide) ?_
        refine XS.iconst X0.here hx rfl (hb hby at_92) ?_
        exact kt
      exact ⟨(0 : Int32), (Or.inl rfl), k34⟩
    · skip
      have k35 : ∀ t, Steps p.tables e below (s₁.setTop (mkF m 93 #[.val (.int x0), .val (.int x1), .val (.int x2), .val (.int x3), .val (.int x4), .val (.int x5), .val (.int fm), .val (.int fo), .val (.int fc), .val (.int ft), .val (.int fi), .val (.int fg), .unset, .unset, .unset, .unset, .unset, .unset, .unset, .unset, .unset, .unset, .unset, .unset, .unset, .unset, .unset, .unset, .unset, .unset, .unset, .unset, .unset, .unset, .unset, .unset, .unset, .unset, .unset, .unset, .unset, .unset, .unset, .unset] [(.int (1 : Int32))])) t → Steps p.tables e below (s₁.setTop (entryFrame m #[(.int x0), (.int x1), (.int x2), (.int x3), (.int x4), (.int x5)] maxLocals)) t := by
        intro t kt
        refine k31 t ?_
        show Steps p.tables e below (s₁.setTop (mkF m 85 #[.val (.int x0), .val (.int x1), .val (.int x2), .val (.int x3), .val (.int x4), .val (.int x5), .val (.int fm), .val (.int fo), .val (.int fc), .val (.int ft), .val (.int fi), .val (.int fg), .unset, .unset, .unset, .unset, .unset, .unset, .unset, .unset, .unset, .unset, .unset, .unset, .unset, .unset, .unset, .unset, .unset, .unset, .unset, .unset, .unset, .unset, .unset, .unset, .unset, .unset, .unset, .unset, .unset, .unset, .unset, .unset] [(.int (x0 &&& (64 : Int32)))])) _
        refine XS.ifNo X0.here hx rfl (hb hby at_85) rfl ((if0 _ _).trans (feq hc33).1) ?_
        refine XS.iconst X0.here hx rfl (hb hby at_88) ?_
        refine XS.goto X0.here hx rfl (pc0 := 89) (pc' := 93) rfl (hb hby at_89) (by decide) (by decide) ?_
        exact kt
      exact ⟨(1 : Int32), (Or.inr rfl), k35⟩
  obtain ⟨_, _, ⟨T36, L36, kc36, ks36⟩, -, X36, ⟨Lc36, hQ36, l36, y36, z36⟩, st36⟩ := Jvm.LawKit.callS X0 hx (y := mn16) hown (mvT hZ (wd0 hw)) (mvT hZ (wd1 hw)) (mvT hZ (wd2 hw)) (mvT hZ (wd3 hw)) (by decide) (backOf (W := 0) (rmSt2 l Z a0 hw [] x1 (0 : Int32) G1 h0 n0 Z0 O2 P5 X00) hZ (wd3 hw) (wd2 hw) (by decide) (by decide)) (g := (mkF m 97 #[.val (.int x0), .val (.int x1), .val (.int x2), .val (.int x3), .val (.int x4), .val (.int x5), .val (.int fm), .val (.int fo), .val (.int fc), .val (.int ft), .val (.int fi), .val (.int fg), .val (.int fn), .unset, .unset, .unset, .unset, .unset, .unset, .unset, .unset, .unset, .unset, .unset, .unset, .unset, .unset, .unset, .unset, .unset, .unset, .unset, .unset, .unset, .unset, .unset, .unset, .unset, .unset, .unset, .unset, .unset, .unset, .unset] [(.int (0 : Int32)), (.int x1)])) rfl (by rw [hml]; rfl) (argsL := [(.int x1), (.int (0 : Int32))]) (rest := []) (lenOf pd__II_Ljava_lang_String_ rfl) rfl (by show 2 * 0 + _ ≤ _; exact Nat.le_of_eq rfl) (hb hby at_97) (fun _ _ => ⟨rfl, e0, (by decide : 0 + 4 ≤ _), (by decide : 0 + 16 ≤ _)⟩)
  dsimp only [Pt.U, Pt.locs, Pt.cells, Pt.slots] at X36 l36 y36 z36 st36 hQ36
  subst l36 y36 z36
  obtain ⟨b36, rfl, Nq36, Kq36, szb36, gE36⟩ := hQ36
  have N36 := Fr.app N0 Nq36
  have CS36 := CHr.keep Kq36 all0 CR0.1
  have CR36 := CR0.trans CS36
  have hk36 : _ ≤ T36.heap.size := Nat.le_trans hk0 Kq36.1
  have Z36 : n0 ≤ T36.heap.size := Nat.le_trans Z0 Kq36.1
  have K36 : Keep h0 T36.heap [] := Keep.trans (Keep.refl h0 []) Kq36 all0
  have ge_b36 : n0 ≤ b36 := Nat.le_trans Z0 szb36
  have sz_b36 : h0.size ≤ b36 := Nat.le_trans (Nat.le_refl _) szb36
  have f37 := (X00.keep Kq36 all0)
  obtain ⟨_, _, ⟨T38, L38, kc38, ks38⟩, -, X38, ⟨Lc38, hQ38, l38, y38, z38⟩, st38⟩ := Jvm.LawKit.callS X36 hx (y := mn16) hown (mvT hZ (wd0 hw)) (mvT hZ (wd1 hw)) (mvT hZ (wd2 hw)) (mvT hZ (wd3 hw)) (by decide) (backOf (W := 0) (rmSt2 l Z a0 hw [] x1 (16 : Int32) G1 T36.heap n0 Z36 O2 P5 f37) hZ (wd3 hw) (wd2 hw) (by decide) (by decide)) (g := (mkF m 105 #[.val (.int x0), .val (.int x1), .val (.int x2), .val (.int x3), .val (.int x4), .val (.int x5), .val (.int fm), .val (.int fo), .val (.int fc), .val (.int ft), .val (.int fi), .val (.int fg), .val (.int fn), .val (.ref b36), .unset, .unset, .unset, .unset, .unset, .unset, .unset, .unset, .unset, .unset, .unset, .unset, .unset, .unset, .unset, .unset, .unset, .unset, .unset, .unset, .unset, .unset, .unset, .unset, .unset, .unset, .unset, .unset, .unset, .unset] [(.int (16 : Int32)), (.int x1)])) rfl (by rw [hml]; rfl) (argsL := [(.int x1), (.int (16 : Int32))]) (rest := []) (lenOf pd__II_Ljava_lang_String_ rfl) rfl (by show 2 * 0 + _ ≤ _; exact Nat.le_of_eq rfl) (hb hby at_105) (fun _ _ => ⟨rfl, rfl, (by decide : 4 + 4 ≤ _), (by decide : 16 + 16 ≤ _)⟩)
  dsimp only [Pt.U, Pt.locs, Pt.cells, Pt.slots] at X38 l38 y38 z38 st38 hQ38
  subst l38 y38 z38
  obtain ⟨b38, rfl, Nq38, Kq38, szb38, gE38⟩ := hQ38
  have N38 := Fr.app N36 Nq38
  have CS38 := CHr.keep Kq38 all0 CR36.1
  have CR38 := CR36.trans CS38
  have hk38 : _ ≤ T38.heap.size := Nat.le_trans hk36 Kq38.1
  have Z38 : n0 ≤ T38.heap.size := Nat.le_trans Z36 Kq38.1
  have K38 : Keep h0 T38.heap [] := Keep.trans K36 Kq38 all0
  have ne_b36_b38 : b36 ≠ b38 := Nat.ne_of_lt (Nat.lt_of_lt_of_le gE36.lt szb38)
  have ge_b38 : n0 ≤ b38 := Nat.le_trans Z36 szb38
  have sz_b38 : h0.size ≤ b38 := Nat.le_trans K36.1 szb38
  have f39 := (gE36.keep Kq38)
  have f40 := (f37.keep Kq38 all0)
  obtain ⟨_, _, ⟨T41, L41, kc41, ks41⟩, -, X41, ⟨Lc41, hQ41, l41, y41, z41⟩, st41⟩ := Jvm.LawKit.callS X38 hx (y := mn16) hown (mvT hZ (wd0 hw)) (mvT hZ (wd1 hw)) (mvT hZ (wd2 hw)) (mvT hZ (wd3 hw)) (by decide) (backOf (W := 0) (rmSt2 l Z a0 hw [] x2 (0 : Int32) G1 T38.heap n0 Z38 O2 P5 f40) hZ (wd3 hw) (wd2 hw) (by decide) (by decide)) (g := (mkF m 112 #[.val (.int x0), .val (.int x1), .val (.int x2), .val (.int x3), .val (.int x4), .val (.int x5), .val (.int fm), .val (.int fo), .val (.int fc), .val (.int ft), .val (.int fi), .val (.int fg), .val (.int fn), .val (.ref b36), .val (.ref b38), .unset, .unset, .unset, .unset, .unset, .unset, .unset, .unset, .unset, .unset, .unset, .unset, .unset, .unset, .unset, .unset, .unset, .unset, .unset, .unset, .unset, .unset, .unset, .unset, .unset, .unset, .unset, .unset, .unset] [(.int (0 : Int32)), (.int x2)])) rfl (by rw [hml]; rfl) (argsL := [(.int x2), (.int (0 : Int32))]) (rest := []) (lenOf pd__II_Ljava_lang_String_ rfl) rfl (by show 2 * 0 + _ ≤ _; exact Nat.le_of_eq rfl) (hb hby at_112) (fun _ _ => ⟨rfl, rfl, (by decide : 8 + 4 ≤ _), (by decide : 32 + 16 ≤ _)⟩)
  dsimp only [Pt.U, Pt.locs, Pt.cells, Pt.slots] at X41 l41 y41 z41 st41 hQ41
  subst l41 y41 z41
  obtain ⟨b41, rfl, Nq41, Kq41, szb41, gE41⟩ := hQ41
  have N41 := Fr.app N38 Nq41
  have CS41 := CHr.keep Kq41 all0 CR38.1
  have CR41 := CR38.trans CS41
  have hk41 : _ ≤ T41.heap.size := Nat.le_trans hk38 Kq41.1
  have Z41 : n0 ≤ T41.heap.size := Nat.le_trans Z38 Kq41.1
  have K41 : Keep h0 T41.heap [] := Keep.trans K38 Kq41 all0
  have ne_b36_b41 : b36 ≠ b41 := Nat.ne_of_lt (Nat.lt_of_lt_of_le f39.lt szb41)
  have ne_b38_b41 : b38 ≠ b41 := Nat.ne_of_lt (Nat.lt_of_lt_of_le gE38.lt szb41)
  have ge_b41 : n0 ≤ b41 := Nat.le_trans Z38 szb41
  have sz_b41 : h0.size ≤ b41 := Nat.le_trans K38.1 szb41
  have f42 := (f39.keep Kq41)
  have f43 := (gE38.keep Kq41)
  have f44 := (f40.keep Kq41 all0)
  obtain ⟨_, _, ⟨T45, L45, kc45, ks45⟩, -, X45, ⟨Lc45, hQ45, l45, y45, z45⟩, st45⟩ := Jvm.LawKit.callS X41 hx (y := mn16) hown (mvT hZ (wd0 hw)) (mvT hZ (wd1 hw)) (mvT hZ (wd2 hw)) (mvT hZ (wd3 hw)) (by decide) (backOf (W := 0) (rmSt2 l Z a0 hw [] x2 (16 : Int32) G1 T41.heap n0 Z41 O2 P5 f44) hZ (wd3 hw) (wd2 hw) (by decide) (by decide)) (g := (mkF m 120 #[.val (.int x0), .val (.int x1), .val (.int x2), .val (.int x3), .val (.int x4), .val (.int x5), .val (.int fm), .val (.int fo), .val (.int fc), .val (.int ft), .val (.int fi), .val (.int fg), .val (.int fn), .val (.ref b36), .val (.ref b38), .val (.ref b41), .unset, .unset, .unset, .unset, .unset, .unset, .unset, .unset, .unset, .unset, .unset, .unset, .unset, .unset, .unset, .unset, .unset, .unset, .unset, .unset, .unset, .unset, .unset, .unset, .unset, .unset, .unset, .unset] [(.int (16 : Int32)), (.int x2)])) rfl (by rw [hml]; rfl) (argsL := [(.int x2), (.int (16 : Int32))]) (rest := []) (lenOf pd__II_Ljava_lang_String_ rfl) rfl (by show 2 * 0 + _ ≤ _; exact Nat.le_of_eq rfl) (hb hby at_120) (fun _ _ => ⟨rfl, rfl, (by decide : 12 + 4 ≤ _), (by decide : 48 + 16 ≤ _)⟩)
  dsimp only [Pt.U, Pt.locs, Pt.cells, Pt.slots] at X45 l45 y45 z45 st45 hQ45
  subst l45 y45 z45
  obtain ⟨b45, rfl, Nq45, Kq45, szb45, gE45⟩ := hQ45
  have N45 := Fr.app N41 Nq45
  have CS45 := CHr.keep Kq45 all0 CR41.1
  have CR45 := CR41.trans CS45
  have hk45 : _ ≤ T45.heap.size := Nat.le_trans hk41 Kq45.1
  have Z45 : n0 ≤ T45.heap.size := Nat.le_trans Z41 Kq45.1
  have K45 : Keep h0 T45.heap [] := Keep.trans K41 Kq45 all0
  have ne_b36_b45 : b36 ≠ b45 := Nat.ne_of_lt (Nat.lt_of_lt_of_le f42.lt szb45)
  have ne_b38_b45 : b38 ≠ b45 := Nat.ne_of_lt (Nat.lt_of_lt_of_le f43.lt szb45)
  have ne_b41_b45 : b41 ≠ b45 := Nat.ne_of_lt (Nat.lt_of_lt_of_le gE41.lt szb45)
  have ge_b45 : n0 ≤ b45 := Nat.le_trans Z41 szb45
  have sz_b45 : h0.size ≤ b45 := Nat.le_trans K41.1 szb45
  have f46 := (f42.keep Kq45)
  have f47 := (f43.keep Kq45)
  have f48 := (gE41.keep Kq45)
  have f49 := (f44.keep Kq45 all0)
  obtain ⟨_, _, ⟨T50, L50, kc50, ks50⟩, -, X50, ⟨Lc50, hQ50, l50, y50, z50⟩, st50⟩ := Jvm.LawKit.callS X45 hx (y := mn16) hown (mvT hZ (wd0 hw)) (mvT hZ (wd1 hw)) (mvT hZ (wd2 hw)) (mvT hZ (wd3 hw)) (by decide) (backOf (W := 0) (rmSt2 l Z a0 hw [] x3 (0 : Int32) G1 T45.heap n0 Z45 O2 P5 f49) hZ (wd3 hw) (wd2 hw) (by decide) (by decide)) (g := (mkF m 127 #[.val (.int x0), .val (.int x1), .val (.int x2), .val (.int x3), .val (.int x4), .val (.int x5), .val (.int fm), .val (.int fo), .val (.int fc), .val (.int ft), .val (.int fi), .val (.int fg), .val (.int fn), .val (.ref b36), .val (.ref b38), .val (.ref b41), .val (.ref b45), .unset, .unset, .unset, .unset, .unset, .unset, .unset, .unset, .unset, .unset, .unset, .unset, .unset, .unset, .unset, .unset, .unset, .unset, .unset, .unset, .unset, .unset, .unset, .unset, .unset, .unset, .unset] [(.int (0 : Int32)), (.int x3)])) rfl (by rw [hml]; rfl) (argsL := [(.int x3), (.int (0 : Int32))]) (rest := []) (lenOf pd__II_Ljava_lang_String_ rfl) rfl (by show 2 * 0 + _ ≤ _; exact Nat.le_of_eq rfl) (hb hby at_127) (fun _ _ => ⟨rfl, rfl, (by decide : 16 + 4 ≤ _), (by decide : 64 + 16 ≤ _)⟩)
  dsimp only [Pt.U, Pt.locs, Pt.cells, Pt.slots] at X50 l50 y50 z50 st50 hQ50
  subst l50 y50 z50
  obtain ⟨b50, rfl, Nq50, Kq50, szb50, gE50⟩ := hQ50
  have N50 := Fr.app N45 Nq50
  have CS50 := CHr.keep Kq50 all0 CR45.1
  have CR50 := CR45.trans CS50
  have hk50 : _ ≤ T50.heap.size := Nat.le_trans hk45 Kq50.1
  have Z50 : n0 ≤ T50.heap.size := Nat.le_trans Z45 Kq50.1
  have K50 : Keep h0 T50.heap [] := Keep.trans K45 Kq50 all0
  have ne_b36_b50 : b36 ≠ b50 := Nat.ne_of_lt (Nat.lt_of_lt_of_le f46.lt szb50)
  have ne_b38_b50 : b38 ≠ b50 := Nat.ne_of_lt (Nat.lt_of_lt_of_le f47.lt szb50)
  have ne_b41_b50 : b41 ≠ b50 := Nat.ne_of_lt (Nat.lt_of_lt_of_le f48.lt szb50)
  have ne_b45_b50 : b45 ≠ b50 := Nat.ne_of_lt (Nat.lt_of_lt_of_le gE45.lt szb50)
  have ge_b50 : n0 ≤ b50 := Nat.le_trans Z45 szb50
  have sz_b50 : h0.size ≤ b50 := Nat.le_trans K45.1 szb50
  have f51 := (f46.keep Kq50)
  have f52 := (f47.keep Kq50)
  have f53 := (f48.keep Kq50)
  have f54 := (gE45.keep Kq50)
  have f55 := (f49.keep Kq50 all0)
  obtain ⟨_, _, ⟨T56, L56, kc56, ks56⟩, -, X56, ⟨Lc56, hQ56, l56, y56, z56⟩, st56⟩ := Jvm.LawKit.callS X50 hx (y := mn16) hown (mvT hZ (wd0 hw)) (mvT hZ (wd1 hw)) (mvT hZ (wd2 hw)) (mvT hZ (wd3 hw)) (by decide) (backOf (W := 0) (rmSt2 l Z a0 hw [] x3 (16 : Int32) G1 T50.heap n0 Z50 O2 P5 f55) hZ (wd3 hw) (wd2 hw) (by decide) (by decide)) (g := (mkF m 135 #[.val (.int x0), .val (.int x1), .val (.int x2), .val (.int x3), .val (.int x4), .val (.int x5), .val (.int fm), .val (.int fo), .val (.int fc), .val (.int ft), .val (.int fi), .val (.int fg), .val (.int fn), .val (.ref b36), .val (.ref b38), .val (.ref b41), .val (.ref b45), .val (.ref b50), .unset, .unset, .unset, .unset, .unset, .unset, .unset, .unset, .unset, .unset, .unset, .unset, .unset, .unset, .unset, .unset, .unset, .unset, .unset, .unset, .unset, .unset, .unset, .unset, .unset, .unset] [(.int (16 : Int32)), (.int x3)])) rfl (by rw [hml]; rfl) (argsL := [(.int x3), (.int (16 : Int32))]) (rest := []) (lenOf pd__II_Ljava_lang_String_ rfl) rfl (by show 2 * 0 + _ ≤ _; exact Nat.le_of_eq rfl) (hb hby at_135) (fun _ _ => ⟨rfl, rfl, (by decide : 20 + 4 ≤ _), (by decide : 80 + 16 ≤ _)⟩)
  dsimp only [Pt.U, Pt.locs, Pt.cells, Pt.slots] at X56 l56 y56 z56 st56 hQ56
  subst l56 y56 z56
  obtain ⟨b56, rfl, Nq56, Kq56, szb56, gE56⟩ := hQ56
  have N56 := Fr.app N50 Nq56
  have CS56 := CHr.keep Kq56 all0 CR50.1
  have CR56 := CR50.trans CS56
  have hk56 : _ ≤ T56.heap.size := Nat.le_trans hk50 Kq56.1
  have Z56 : n0 ≤ T56.heap.size := Nat.le_trans Z50 Kq56.1
  have K56 : Keep h0 T56.heap [] := Keep.trans K50 Kq56 all0
  have ne_b36_b56 : b36 ≠ b56 := Nat.ne_of_lt (Nat.lt_of_lt_of_le f51.lt szb56)
  have ne_b38_b56 : b38 ≠ b56 := Nat.ne_of_lt (Nat.lt_of_lt_of_le f52.lt szb56)
  have ne_b41_b56 : b41 ≠ b56 := Nat.ne_of_lt (Nat.lt_of_lt_of_le f53.lt szb56)
  have ne_b45_b56 : b45 ≠ b56 := Nat.ne_of_lt (Nat.lt_of_lt_of_le f54.lt szb56)
  have ne_b50_b56 : b50 ≠ b56 := Nat.ne_of_lt (Nat.lt_of_lt_of_le gE50.lt szb56)
  have ge_b56 : n0 ≤ b56 := Nat.le_trans Z50 szb56
  have sz_b56 : h0.size ≤ b56 := Nat.le_trans K50.1 szb56
  have f57 := (f51.keep Kq56)
  have f58 := (f52.keep Kq56)
  have f59 := (f53.keep Kq56)
  have f60 := (f54.keep Kq56)
  have f61 := (gE50.keep Kq56)
  have f62 := (f55.keep Kq56 all0)
  obtain ⟨_, _, ⟨T63, L63, kc63, ks63⟩, -, X63, ⟨Lc63, hQ63, l63, y63, z63⟩, st63⟩ := Jvm.LawKit.callS X56 hx (y := mn16) hown (mvT hZ (wd0 hw)) (mvT hZ (wd1 hw)) (mvT hZ (wd2 hw)) (mvT hZ (wd3 hw)) (by decide) (backOf (W := 0) (rmSt2 l Z a0 hw [] x4 (0 : Int32) G1 T56.heap n0 Z56 O2 P5 f62) hZ (wd3 hw) (wd2 hw) (by decide) (by decide)) (g := (mkF m 143 #[.val (.int x0), .val (.int x1), .val (.int x2), .val (.int x3), .val (.int x4), .val (.int x5), .val (.int fm), .val (.int fo), .val (.int fc), .val (.int ft), .val (.int fi), .val (.int fg), .val (.int fn), .val (.ref b36), .val (.ref b38), .val (.ref b41), .val (.ref b45), .val (.ref b50), .val (.ref b56), .unset, .unset, .unset, .unset, .unset, .unset, .unset, .unset, .unset, .unset, .unset, .unset, .unset, .unset, .unset, .unset, .unset, .unset, .unset, .unset, .unset, .unset, .unset, .unset, .unset] [(.int (0 : Int32)), (.int x4)])) rfl (by rw [hml]; rfl) (argsL := [(.int x4), (.int (0 : Int32))]) (rest := []) (lenOf pd__II_Ljava_lang_String_ rfl) rfl (by show 2 * 0 + _ ≤ _; exact Nat.le_of_eq rfl) (hb hby at_143) (fun _ _ => ⟨rfl, rfl, (by decide : 24 + 4 ≤ _), (by decide : 96 + 16 ≤ _)⟩)
  dsimp only [Pt.U, Pt.locs, Pt.cells, Pt.slots] at X63 l63 y63 z63 st63 hQ63
  subst l63 y63 z63
  obtain ⟨b63, rfl, Nq63, Kq63, szb63, gE63⟩ := hQ63
  have N63 := Fr.app N56 Nq63
  have CS63 := CHr.keep Kq63 all0 CR56.1
  have CR63 := CR56.trans CS63
  have hk63 : _ ≤ T63.heap.size := Nat.le_trans hk56 Kq63.1
  have Z63 : n0 ≤ T63.heap.size := Nat.le_trans Z56 Kq63.1
  have K63 : Keep h0 T63.heap [] := Keep.trans K56 Kq63 all0
  have ne_b36_b63 : b36 ≠ b63 := Nat.ne_of_lt (Nat.lt_of_lt_of_le f57.lt szb63)
  have ne_b38_b63 : b38 ≠ b63 := Nat.ne_of_lt (Nat.lt_of_lt_of_le f58.lt szb63)
  have ne_b41_b63 : b41 ≠ b63 := Nat.ne_of_lt (Nat.lt_of_lt_of_le f59.lt szb63)
  have ne_b45_b63 : b45 ≠ b63 := Nat.ne_of_lt (Nat.lt_of_lt_of_le f60.lt szb63)
  have ne_b50_b63 : b50 ≠ b63 := Nat.ne_of_lt (Nat.lt_of_lt_of_le f61.lt szb63)
  have ne_b56_b63 : b56 ≠ b63 := Nat.ne_of_lt (Nat.lt_of_lt_of_le gE56.lt szb63)
  have ge_b63 : n0 ≤ b63 := Nat.le_trans Z56 szb63
  have sz_b63 : h0.size ≤ b63 := Nat.le_trans K56.1 szb63
  have f64 := (f57.keep Kq63)
  have f65 := (f58.keep Kq63)
  have f66 := (f59.keep Kq63)
  have f67 := (f60.keep Kq63)
  have f68 := (f61.keep Kq63)
  have f69 := (gE56.keep Kq63)
  have f70 := (f62.keep Kq63 all0)
  obtain ⟨_, _, ⟨T71, L71, kc71, ks71⟩, -, X71, ⟨Lc71, hQ71, l71, y71, z71⟩, st71⟩ := Jvm.LawKit.callS X63 hx (y := mn16) hown (mvT hZ (wd0 hw)) (mvT hZ (wd1 hw)) (mvT hZ (wd2 hw)) (mvT hZ (wd3 hw)) (by decide) (backOf (W := 0) (rmSt2 l Z a0 hw [] x4 (16 : Int32) G1 T63.heap n0 Z63 O2 P5 f70) hZ (wd3 hw) (wd2 hw) (by decide) (by decide)) (g := (mkF m 152 #[.val (.int x0), .val (.int x1), .val (.int x2), .val (.int x3), .val (.int x4), .val (.int x5), .val (.int fm), .val (.int fo), .val (.int fc), .val (.int ft), .val (.int fi), .val (.int fg), .val (.int fn), .val (.ref b36), .val (.ref b38), .val (.ref b41), .val (.ref b45), .val (.ref b50), .val (.ref b56), .val (.ref b63), .unset, .unset, .unset, .unset, .unset, .unset, .unset, .unset, .unset, .unset, .unset, .unset, .unset, .unset, .unset, .unset, .unset, .unset, .unset, .unset, .unset, .unset, .unset, .unset] [(.int (16 : Int32)), (.int x4)])) rfl (by rw [hml]; rfl) (argsL := [(.int x4), (.int (16 : Int32))]) (rest := []) (lenOf pd__II_Ljava_lang_String_ rfl) rfl (by show 2 * 0 + _ ≤ _; exact Nat.le_of_eq rfl) (hb hby at_152) (fun _ _ => ⟨rfl, rfl, (by decide : 28 + 4 ≤ _), (by decide : 112 + 16 ≤ _)⟩)
  dsimp only [Pt.U, Pt.locs, Pt.cells, Pt.slots] at X71 l71 y71 z71 st71 hQ71
  subst l71 y71 z71
  obtain ⟨b71, rfl, Nq71, Kq71, szb71, gE71⟩ := hQ71
  have N71 := Fr.app N63 Nq71
  have CS71 := CHr.keep Kq71 all0 CR63.1
  have CR71 := CR63.trans CS71
  have hk71 : _ ≤ T71.heap.size := Nat.le_trans hk63 Kq71.1
  have Z71 : n0 ≤ T71.heap.size := Nat.le_trans Z63 Kq71.1
  have K71 : Keep h0 T71.heap [] := Keep.trans K63 Kq71 all0
  have ne_b36_b71 : b36 ≠ b71 := Nat.ne_of_lt (Nat.lt_of_lt_of_le f64.lt szb71)
  have ne_b38_b71 : b38 ≠ b71 := Nat.ne_of_lt (Nat.lt_of_lt_of_le f65.lt szb71)
  have ne_b41_b71 : b41 ≠ b71 := Nat.ne_of_lt (Nat.lt_of_lt_of_le f66.lt szb71)
  have ne_b45_b71 : b45 ≠ b71 := Nat.ne_of_lt (Nat.lt_of_lt_of_le f67.lt szb71)
  have ne_b50_b71 : b50 ≠ b71 := Nat.ne_of_lt (Nat.lt_of_lt_of_le f68.lt szb71)
  have ne_b56_b71 : b56 ≠ b71 := Nat.ne_of_lt (Nat.lt_of_lt_of_le f69.lt szb71)
  have ne_b63_b71 : b63 ≠ b71 := Nat.ne_of_lt (Nat.lt_of_lt_of_le gE63.lt szb71)
  have ge_b71 : n0 ≤ b71 := Nat.le_trans Z63 szb71
  have sz_b71 : h0.size ≤ b71 := Nat.le_trans K63.1 szb71
  have k72 : ∀ t, Steps p.tables e below (T71.setTop (mkF m 159 #[.val (.int x0), .val (.int x1), .val (.int x2), .val (.int x3), .val (.int x4), .val (.int x5), .val (.int fm), .val (.int fo), .val (.int fc), .val (.int ft), .val (.int fi), .val (.int fg), .val (.int fn), .val (.ref b36), .val (.ref b38), .val (.ref b41), .val (.ref b45), .val (.ref b50), .val (.ref b56), .val (.ref b63), .val (.ref b71), .unset, .unset, .unset, .unset, .unset, .unset, .unset, .unset, .unset, .unset, .unset, .unset, .unset, .unset, .unset, .unset, .unset, .unset, .unset, .unset, .unset, .unset, .unset] [(.int fn)])) t → Steps p.tables e below (s₁.setTop (entryFrame m #[(.int x0), (.int x1), (.int x2), (.int x3), (.int x4), (.int x5)] maxLocals)) t := by
    intro t kt
    refine k32 t ?_
    show Steps p.tables e below (s₁.setTop (mkF m 93 #[.val (.int x0), .val (.int x1), .val (.int x2), .val (.int x3), .val (.int x4), .val (.int x5), .val (.int fm), .val (.int fo), .val (.int fc), .val (.int ft), .val (.int fi), .val (.int fg), .unset, .unset, .unset, .unset, .unset, .unset, .unset, .unset, .unset, .unset, .unset, .unset, .unset, .unset, .unset, .unset, .unset, .unset, .unset, .unset, .unset, .unset, .unset, .unset, .unset, .unset, .unset, .unset, .unset, .unset, .unset, .unset] [(.int fn)])) _
    refine XS.istore X0.here hx rfl (hb hby at_93) rfl (l' := #[.val (.int x0), .val (.int x1), .val (.int x2), .val (.int x3), .val (.int x4), .val (.int x5), .val (.int fm), .val (.int fo), .val (.int fc), .val (.int ft), .val (.int fi), .val (.int fg), .val (.int fn), .unset, .unset, .unset, .unset, .unset, .unset, .unset, .unset, .unset, .unset, .unset, .unset, .unset, .unset, .unset, .unset, .unset, .unset, .unset, .unset, .unset, .unset, .unset, .unset, .unset, .unset, .unset, .unset, .unset, .unset, .unset]) rfl ?_
    refine XS.iloadN X0.here hx rfl (hb hby at_95) rfl ?_
    refine XS.iconst X0.here hx rfl (hb hby at_96) ?_
    show Steps p.tables e below (s₁.setTop (mkF m 97 #[.val (.int x0), .val (.int x1), .val (.int x2), .val (.int x3), .val (.int x4), .val (.int x5), .val (.int fm), .val (.int fo), .val (.int fc), .val (.int ft), .val (.int fi), .val (.int fg), .val (.int fn), .unset, .unset, .unset, .unset, .unset, .unset, .unset, .unset, .unset, .unset, .unset, .unset, .unset, .unset, .unset, .unset, .unset, .unset, .unset, .unset, .unset, .unset, .unset, .unset, .unset, .unset, .unset, .unset, .unset, .unset, .unset] [(.int (0 : Int32)), (.int x1)])) _
    refine st36 _ ?_
    show Steps p.tables e below (T36.setTop (mkF m 100 #[.val (.int x0), .val (.int x1), .val (.int x2), .val (.int x3), .val (.int x4), .val (.int x5), .val (.int fm), .val (.int fo), .val (.int fc), .val (.int ft), .val (.int fi), .val (.int fg), .val (.int fn), .unset, .unset, .unset, .unset, .unset, .unset, .unset, .unset, .unset, .unset, .unset, .unset, .unset, .unset, .unset, .unset, .unset, .unset, .unset, .unset, .unset, .unset, .unset, .unset, .unset, .unset, .unset, .unset, .unset, .unset, .unset] [(.ref b36)])) _
    refine XS.astore X36.here hx rfl (hb hby at_100) rfl rfl (l' := #[.val (.int x0), .val (.int x1), .val (.int x2), .val (.int x3), .val (.int x4), .val (.int x5), .val (.int fm), .val (.int fo), .val (.int fc), .val (.int ft), .val (.int fi), .val (.int fg), .val (.int fn), .val (.ref b36), .unset, .unset, .unset, .unset, .unset, .unset, .unset, .unset, .unset, .unset, .unset, .unset, .unset, .unset, .unset, .unset, .unset, .unset, .unset, .unset, .unset, .unset, .unset, .unset, .unset, .unset, .unset, .unset, .unset, .unset]) rfl ?_
    refine XS.iloadN X36.here hx rfl (hb hby at_102) rfl ?_
    refine XS.bipush X36.here hx rfl (hb hby at_103) ?_
    show Steps p.tables e below (T36.setTop (mkF m 105 #[.val (.int x0), .val (.int x1), .val (.int x2), .val (.int x3), .val (.int x4), .val (.int x5), .val (.int fm), .val (.int fo), .val (.int fc), .val (.int ft), .val (.int fi), .val (.int fg), .val (.int fn), .val (.ref b36), .unset, .unset, .unset, .unset, .unset, .unset, .unset, .unset, .unset, .unset, .unset, .unset, .unset, .unset, .unset, .unset, .unset, .unset, .unset, .unset, .unset, .unset, .unset, .unset, .unset, .unset, .unset, .unset, .unset, .unset] [(.int (16 : Int32)), (.int x1)])) _
    refine st38 _ ?_
    show Steps p.tables e below (T38.setTop (mkF m 108 #[.val (.int x0), .val (.int x1), .val (.int x2), .val (.int x3), .val (.int x4), .val (.int x5), .val (.int fm), .val (.int fo), .val (.int fc), .val (.int ft), .val (.int fi), .val (.int fg), .val (.int fn), .val (.ref b36), .unset, .unset, .unset, .unset, .unset, .unset, .unset, .unset, .unset, .unset, .unset, .unset, .unset, .unset, .unset, .unset, .unset, .unset, .unset, .unset, .unset, .unset, .unset, .unset, .unset, .unset, .unset, .unset, .unset, .unset] [(.ref b38)])) _
    refine XS.astore X38.here hx rfl (hb hby at_108) rfl rfl (l' := #[.val (.int x0), .val (.int x1), .val (.int x2), .val (.int x3), .val (.int x4), .val (.int x5), .val (.int fm), .val (.int fo), .val (.int fc), .val (.int ft), .val (.int fi), .val (.int fg), .val (.int fn), .val (.ref b36), .val (.ref b38), .unset, .unset, .unset, .unset, .unset, .unset, .unset, .unset, .unset, .unset, .unset, .unset, .unset, .unset, .unset, .unset, .unset, .unset, .unset, .unset, .unset, .unset, .unset, .unset, .unset, .unset, .unset, .unset, .unset]) rfl ?_
    refine XS.iloadN X38.here hx rfl (hb hby at_110) rfl ?_
    refine XS.iconst X38.here hx rfl (hb hby at_111) ?_
    show Steps p.tables e below (T38.setTop (mkF m 112 #[.val (.int x0), .val (.int x1), .val (.int x2), .val (.int x3), .val (.int x4), .val (.int x5), .val (.int fm), .val (.int fo), .val (.int fc), .val (.int ft), .val (.int fi), .val (.int fg), .val (.int fn), .val (.ref b36), .val (.ref b38), .unset, .unset, .unset, .unset, .unset, .unset, .unset, .unset, .unset, .unset, .unset, .unset, .unset, .unset, .unset, .unset, .unset, .unset, .unset, .unset, .unset, .unset, .unset, .unset, .unset, .unset, .unset, .unset, .unset] [(.int (0 : Int32)), (.int x2)])) _
    refine st41 _ ?_
    show Steps p.tables e below (T41.setTop (mkF m 115 #[.val (.int x0), .val (.int x1), .val (.int x2), .val (.int x3), .val (.int x4), .val (.int x5), .val (.int fm), .val (.int fo), .val (.int fc), .val (.int ft), .val (.int fi), .val (.int fg), .val (.int fn), .val (.ref b36), .val (.ref b38), .unset, .unset, .unset, .unset, .unset, .unset, .unset, .unset, .unset, .unset, .unset, .unset, .unset, .unset, .unset, .unset, .unset, .unset, .unset, .unset, .unset, .unset, .unset, .unset, .unset, .unset, .unset, .unset, .unset] [(.ref b41)])) _
    refine XS.astore X41.here hx rfl (hb hby at_115) rfl rfl (l' := #[.val (.int x0), .val (.int x1), .val (.int x2), .val (.int x3), .val (.int x4), .val (.int x5), .val (.int fm), .val (.int fo), .val (.int fc), .val (.int ft), .val (.int fi), .val (.int fg), .val (.int fn), .val (.ref b36), .val (.ref b38), .val (.ref b41), .unset, .unset, .unset, .unset, .unset, .unset, .unset, .unset, .unset, .unset, .unset, .unset, .unset, .unset, .unset, .unset, .unset, .unset, .unset, .unset, .unset, .unset, .unset, .unset, .unset, .unset, .unset, .unset]) rfl ?_
    refine XS.iloadN X41.here hx rfl (hb hby at_117) rfl ?_
    refine XS.bipush X41.here hx rfl (hb hby at_118) ?_
    show Steps p.tables e below (T41.setTop (mkF m 120 #[.val (.int x0), .val (.int x1), .val (.int x2), .val (.int x3), .val (.int x4), .val (.int x5), .val (.int fm), .val (.int fo), .val (.int fc), .val (.int ft), .val (.int fi), .val (.int fg), .val (.int fn), .val (.ref b36), .val (.ref b38), .val (.ref b41), .unset, .unset, .unset, .unset, .unset, .unset, .unset, .unset, .unset, .unset, .unset, .unset, .unset, .unset, .unset, .unset, .unset, .unset, .unset, .unset, .unset, .unset, .unset, .unset, .unset, .unset, .unset, .unset] [(.int (16 : Int32)), (.int x2)])) _
    refine st45 _ ?_
    show Steps p.tables e below (T45.setTop (mkF m 123 #[.val (.int x0), .val (.int x1), .val (.int x2), .val (.int x3), .val (.int x4), .val (.int x5), .val (.int fm), .val (.int fo), .val (.int fc), .val (.int ft), .val (.int fi), .val (.int fg), .val (.int fn), .val (.ref b36), .val (.ref b38), .val (.ref b41), .unset, .unset, .unset, .unset, .unset, .unset, .unset, .unset, .unset, .unset, .unset, .unset, .unset, .unset, .unset, .unset, .unset, .unset, .unset, .unset, .unset, .unset, .unset, .unset, .unset, .unset, .unset, .unset] [(.ref b45)])) _
    refine XS.astore X45.here hx rfl (hb hby at_123) rfl rfl (l' := #[.val (.int x0), .val (.int x1), .val (.int x2), .val (.int x3), .val (.int x4), .val (.int x5), .val (.int fm), .val (.int fo), .val (.int fc), .val (.int ft), .val (.int fi), .val (.int fg), .val (.int fn), .val (.ref b36), .val (.ref b38), .val (.ref b41), .val (.ref b45), .unset, .unset, .unset, .unset, .unset, .unset, .unset, .unset, .unset, .unset, .unset, .unset, .unset, .unset, .unset, .unset, .unset, .unset, .unset, .unset, .unset, .unset, .unset, .unset, .unset, .unset, .unset]) rfl ?_
    refine XS.iloadN X45.here hx rfl (hb hby at_125) rfl ?_
    refine XS.iconst X45.here hx rfl (hb hby at_126) ?_
    show Steps p.tables e below (T45.setTop (mkF m 127 #[.val (.int x0), .val (.int x1), .val (.int x2), .val (.int x3), .val (.int x4), .val (.int x5), .val (.int fm), .val (.int fo), .val (.int fc), .val (.int ft), .val (.int fi), .val (.int fg), .val (.int fn), .val (.ref b36), .val (.ref b38), .val (.ref b41), .val (.ref b45), .unset, .unset, .unset, .unset, .unset, .unset, .unset, .unset, .unset, .unset, .unset, .unset, .unset, .unset, .unset, .unset, .unset, .unset, .unset, .unset, .unset, .unset, .unset, .unset, .unset, .unset, .unset] [(.int (0 : Int32)), (.int x3)])) _
    refine st50 _ ?_
    show Steps p.tables e below (T50.setTop (mkF m 130 #[.val (.int x0), .val (.int x1), .val (.int x2), .val (.int x3), .val (.int x4), .val (.int x5), .val (.int fm), .val (.int fo), .val (.int fc), .val (.int ft), .val (.int fi), .val (.int fg), .val (.int fn), .val (.ref b36), .val (.ref b38), .val (.ref b41), .val (.ref b45), .unset, .unset, .unset, .unset, .unset, .unset, .unset, .unset, .unset, .unset, .unset, .unset, .unset, .unset, .unset, .unset, .unset, .unset, .unset, .unset, .unset, .unset, .unset, .unset, .unset, .unset, .unset] [(.ref b50)])) _
    refine XS.astore X50.here hx rfl (hb hby at_130) rfl rfl (l' := #[.val (.int x0), .val (.int x1), .val (.int x2), .val (.int x3), .val (.int x4), .val (.int x5), .val (.int fm), .val (.int fo), .val (.int fc), .val (.int ft), .val (.int fi), .val (.int fg), .val (.int fn), .val (.ref b36), .val (.ref b38), .val (.ref b41), .val (.ref b45), .val (.ref b50), .unset, .unset, .unset, .unset, .unset, .unset, .unset, .unset, .unset, .unset, .unset, .unset, .unset, .unset, .unset, .unset, .unset, .unset, .unset, .unset, .unset, .unset, .unset, .unset, .unset, .unset]) rfl ?_
    refine XS.iloadN X50.here hx rfl (hb hby at_132) rfl ?_
    refine XS.bipush X50.here hx rfl (hb hby at_133) ?_
    show Steps p.tables e below (T50.setTop (mkF m 135 #[.val (.int x0), .val (.int x1), .val (.int x2), .val (.int x3), .val (.int x4), .val (.int x5), .val (.int fm), .val (.int fo), .val (.int fc), .val (.int ft), .val (.int fi), .val (.int fg), .val (.int fn), .val (.ref b36), .val (.ref b38), .val (.ref b41), .val (.ref b45), .val (.ref b50), .unset, .unset, .unset, .unset, .unset, .unset, .unset, .unset, .unset, .unset, .unset, .unset, .unset, .unset, .unset, .unset, .unset, .unset, .unset, .unset, .unset, .unset, .unset, .unset, .unset, .unset] [(.int (16 : Int32)), (.int x3)])) _
    refine st56 _ ?_
    show Steps p.tables e below (T56.setTop (mkF m 138 #[.val (.int x0), .val (.int x1), .val (.int x2), .val (.int x3), .val (.int x4), .val (.int x5), .val (.int fm), .val (.int fo), .val (.int fc), .val (.int ft), .val (.int fi), .val (.int fg), .val (.int fn), .val (.ref b36), .val (.ref b38), .val (.ref b41), .val (.ref b45), .val (.ref b50), .unset, .unset, .unset, .unset, .unset, .unset, .unset, .unset, .unset, .unset, .unset, .unset, .unset, .unset, .unset, .unset, .unset, .unset, .unset, .unset, .unset, .unset, .unset, .unset, .unset, .unset] [(.ref b56)])) _
    refine XS.astore X56.here hx rfl (hb hby at_138) rfl rfl (l' := #[.val (.int x0), .val (.int x1), .val (.int x2), .val (.int x3), .val (.int x4), .val (.int x5), .val (.int fm), .val (.int fo), .val (.int fc), .val (.int ft), .val (.int fi), .val (.int fg), .val (.int fn), .val (.ref b36), .val (.ref b38), .val (.ref b41), .val (.ref b45), .val (.ref b50), .val (.ref b56), .unset, .unset, .unset, .unset, .unset, .unset, .unset, .unset, .unset, .unset, .unset, .unset, .unset, .unset, .unset, .unset, .unset, .unset, .unset, .unset, .unset, .unset, .unset, .unset, .unset]) rfl ?_
    refine XS.iload X56.here hx rfl (hb hby at_140) rfl ?_
    refine XS.iconst X56.here hx rfl (hb hby at_142) ?_
    show Steps p.tables e below (T56.setTop (mkF m 143 #[.val (.int x0), .val (.int x1), .val (.int x2), .val (.int x3), .val (.int x4), .val (.int x5), .val (.int fm), .val (.int fo), .val (.int fc), .val (.int ft), .val (.int fi), .val (.int fg), .val (.int fn), .val (.ref b36), .val (.ref b38), .val (.ref b41), .val (.ref b45), .val (.ref b50), .val (.ref b56), .unset, .unset, .unset, .unset, .unset, .unset, .unset, .unset, .unset, .unset, .unset, .unset, .unset, .unset, .unset, .unset, .unset, .unset, .unset, .unset, .unset, .unset, .unset, .unset, .unset] [(.int (0 : Int32)), (.int x4)])) _
    refine st63 _ ?_
    show Steps p.tables e below (T63.setTop (mkF m 146 #[.val (.int x0), .val (.int x1), .val (.int x2), .val (.int x3), .val (.int x4), .val (.int x5), .val (.int fm), .val (.int fo), .val (.int fc), .val (.int ft), .val (.int fi), .val (.int fg), .val (.int fn), .val (.ref b36), .val (.ref b38), .val (.ref b41), .val (.ref b45), .val (.ref b50), .val (.ref b56), .unset, .unset, .unset, .unset, .unset, .unset, .unset, .unset, .unset, .unset, .unset, .unset, .unset, .unset, .unset, .unset, .unset, .unset, .unset, .unset, .unset, .unset, .unset, .unset, .unset] [(.ref b63)])) _
    refine XS.astore X63.here hx rfl (hb hby at_146) rfl rfl (l' := #[.val (.int x0), .val (.int x1), .val (.int x2), .val (.int x3), .val (.int x4), .val (.int x5), .val (.int fm), .val (.int fo), .val (.int fc), .val (.int ft), .val (.int fi), .val (.int fg), .val (.int fn), .val (.ref b36), .val (.ref b38), .val (.ref b41), .val (.ref b45), .val (.ref b50), .val (.ref b56), .val (.ref b63), .unset, .unset, .unset, .unset, .unset, .unset, .unset, .unset, .unset, .unset, .unset, .unset, .unset, .unset, .unset, .unset, .unset, .unset, .unset, .unset, .unset, .unset, .unset, .unset]) rfl ?_
    refine XS.iload X63.here hx rfl (hb hby at_148) rfl ?_
    refine XS.bipush X63.here hx rfl (hb hby at_150) ?_
    show Steps p.tables e below (T63.setTop (mkF m 152 #[.val (.int x0), .val (.int x1), .val (.int x2), .val (.int x3), .val (.int x4), .val (.int x5), .val (.int fm), .val (.int fo), .val (.int fc), .val (.int ft), .val (.int fi), .val (.int fg), .val (.int fn), .val (.ref b36), .val (.ref b38), .val (.ref b41), .val (.ref b45), .val (.ref b50), .val (.ref b56), .val (.ref b63), .unset, .unset, .unset, .unset, .unset, .unset, .unset, .unset, .unset, .unset, .unset, .unset, .unset, .unset, .unset, .unset, .unset, .unset, .unset, .unset, .unset, .unset, .unset, .unset] [(.int (16 : Int32)), (.int x4)])) _
    refine st71 _ ?_
    show Steps p.tables e below (T71.setTop (mkF m 155 #[.val (.int x0), .val (.int x1), .val (.int x2), .val (.int x3), .val (.int x4), .val (.int x5), .val (.int fm), .val (.int fo), .val (.int fc), .val (.int ft), .val (.int fi), .val (.int fg), .val (.int fn), .val (.ref b36), .val (.ref b38), .val (.ref b41), .val (.ref b45), .val (.ref b50), .val (.ref b56), .val (.ref b63), .unset, .unset, .unset, .unset, .unset, .unset, .unset, .unset, .unset, .unset, .unset, .unset, .unset, .unset, .unset, .unset, .unset, .unset, .unset, .unset, .unset, .unset, .unset, .unset] [(.ref b71)])) _
    refine XS.astore X71.here hx rfl (hb hby at_155) rfl rfl (l' := #[.val (.int x0), .val (.int x1), .val (.int x2), .val (.int x3), .val (.int x4), .val (.int x5), .val (.int fm), .val (.int fo), .val (.int fc), .val (.int ft), .val (.int fi), .val (.int fg), .val (.int fn), .val (.ref b36), .val (.ref b38), .val (.ref b41), .val (.ref b45), .val (.ref b50), .val (.ref b56), .val (.ref b63), .val (.ref b71), .unset, .unset, .unset, .unset, .unset, .unset, .unset, .unset, .unset, .unset, .unset, .unset, .unset, .unset, .unset, .unset, .unset, .unset, .unset, .unset, .unset, .unset, .unset]) rfl ?_
    refine XS.iload X71.here hx rfl (hb hby at_157) rfl ?_
    exact kt
  obtain ⟨cv, hj73, k73⟩ : ∃ (cv : Value), (((1 : Int32) - fn = (0 : Int32) ∧ False) ∨ (fn = (0 : Int32) ∧ cv = .ref b36) ∨ (¬ fn = (0 : Int32) ∧ cv = .null)) ∧ ∀ t, Steps p.tables e below (T71.setTop (mkF m 170 #[.val (.int x0), .val (.int x1), .val (.int x2), .val (.int x3), .val (.int x4), .val (.int x5), .val (.int fm), .val (.int fo), .val (.int fc), .val (.int ft), .val (.int fi), .val (.int fg), .val (.int fn), .val (.ref b36), .val (.ref b38), .val (.ref b41), .val (.ref b45), .val (.ref b50), .val (.ref b56), .val (.ref b63), .val (.ref b71), .val cv, .unset, .unset, .unset, .unset, .unset, .unset, .unset, .unset, .unset, .unset, .unset, .unset, .unset, .unset, .unset, .unset, .unset, .unset, .unset, .unset, .unset, .unset] [])) t → Steps p.tables e below (s₁.setTop (entryFrame m #[(.int x0), (.int x1), (.int x2), (.int x3), (.int x4), (.int x5)] maxLocals)) t := by
    by_cases hc74 : fn = (0 : Int32)
    · skip
      have k75 : ∀ t, Steps p.tables e below (T71.setTop (mkF m 170 #[.val (.int x0), .val (.int x1), .val (.int x2), .val (.int x3), .val (.int x4), .val (.int x5), .val (.int fm), .val (.int fo), .val (.int fc), .val (.int ft), .val (.int fi), .val (.int fg), .val (.int fn), .val (.ref b36), .val (.ref b38), .val (.ref b41), .val (.ref b45), .val (.ref b50), .val (.ref b56), .val (.ref b63), .val (.ref b71), .val (.ref b36), .unset, .unset, .unset, .unset, .unset, .unset, .unset, .unset, .unset, .unset, .unset, .unset, .unset, .unset, .unset, .unset, .unset, .unset, .unset, .unset, .unset, .unset] [])) t → Steps p.tables e below (s₁.setTop (entryFrame m #[(.int x0), (.int x1), (.int x2), (.int x3), (.int x4), (.int x5)] maxLocals)) t := by
        intro t kt
        refine k72 t ?_
        show Steps p.tables e below (T71.setTop (mkF m 159 #[.val (.int x0), .val (.int x1), .val (.int x2), .val (.int x3), .val (.int x4), .val (.int x5), .val (.int fm), .val (.int fo), .val (.int fc), .val (.int ft), .val (.int fi), .val (.int fg), .val (.int fn), .val (.ref b36), .val (.ref b38), .val (.ref b41), .val (.ref b45), .val (.ref b50), .val (.ref b56), .val (.ref b63), .val (.ref b71), .unset, .unset, .unset, .unset, .unset, .unset, .unset, .unset, .unset, .unset, .unset, .unset, .unset, .unset, .unset, .unset, .unset, .unset, .unset, .unset, .unset, .unset, .unset] [(.int fn)])) _
        refine XS.ifYes X71.here hx rfl (pc0 := 159) (pc' := 166) rfl (hb hby at_159) rfl ((if0 _ _).trans (teq hc74).1) (by decide) (by decide) ?_
        refine XS.aload X71.here hx rfl (hb hby at_166) rfl rfl ?_
        refine XS.astore X71.here hx rfl (hb hby at_168) rfl rfl (l' := #[.val (.int x0), .val (.int x1), .val (.int x2), .val (.int x3), .val (.int x4), .val (.int x5), .val (.int fm), .val (.int fo), .val (.int fc), .val (.int ft), .val (.int fi), .val (.int fg), .val (.int fn), .val (.ref b36), .val (.ref b38), .val (.ref b41), .val (.ref b45), .val (.ref b50), .val (.ref b56), .val (.ref b63), .val (.ref b71), .val (.ref b36), .unset, .unset, .unset, .unset, .unset, .unset, .unset, .unset, .unset, .unset, .unset, .unset, .unset, .unset, .unset, .unset, .unset, .unset, .unset, .unset, .unset, .unset]) rfl ?_
        exact kt
      exact ⟨(.ref b36), (Or.inr (Or.inl ⟨hc74, rfl⟩)), k75⟩
    · skip
      have k76 : ∀ t, Steps p.tables e below (T71.setTop (mkF m 170 #[.val (.int x0), .val (.int x1), .val (.int x2), .val (.int x3), .val (.int x4), .val (.int x5), .val (.int fm), .val (.int fo), .val (.int fc), .val (.int ft), .val (.int fi), .val (.int fg), .val (.int fn), .val (.ref b36), .val (.ref b38), .val (.ref b41), .val (.ref b45), .val (.ref b50), .val (.ref b56), .val (.ref b63), .val (.ref b71), .val .null, .unset, .unset, .unset, .unset, .unset, .unset, .unset, .unset, .unset, .unset, .unset, .unset, .unset, .unset, .unset, .unset, .unset, .unset, .unset, .unset, .unset, .unset] [])) t → Steps p.tables e below (s₁.setTop (entryFrame m #[(.int x0), (.int x1), (.int x2), (.int x3), (.int x4), (.int x5)] maxLocals)) t := by
        intro t kt
        refine k72 t ?_
        show Steps p.tables e below (T71.setTop (mkF m 159 #[.val (.int x0), .val (.int x1), .val (.int x2), .val (.int x3), .val (.int x4), .val (.int x5), .val (.int fm), .val (.int fo), .val (.int fc), .val (.int ft), .val (.int fi), .val (.int fg), .val (.int fn), .val (.ref b36), .val (.ref b38), .val (.ref b41), .val (.ref b45), .val (.ref b50), .val (.ref b56), .val (.ref b63), .val (.ref b71), .unset, .unset, .unset, .unset, .unset, .unset, .unset, .unset, .unset, .unset, .unset, .unset, .unset, .unset, .unset, .unset, .unset, .unset, .unset, .unset, .unset, .unset, .unset] [(.int fn)])) _
        refine XS.ifNo X71.here hx rfl (hb hby at_159) rfl ((if0 _ _).trans (feq hc74).1) ?_
        refine XS.aconstNull X71.here hx rfl (hb hby at_162) ?_
        refine XS.goto X71.here hx rfl (pc0 := 163) (pc' := 168) rfl (hb hby at_163) (by decide) (by decide) ?_
        refine XS.astore X71.here hx rfl (hb hby at_168) rfl rfl (l' := #[.val (.int x0), .val (.int x1), .val (.int x2), .val (.int x3), .val (.int x4), .val (.int x5), .val (.int fm), .val (.int fo), .val (.int fc), .val (.int ft), .val (.int fi), .val (.int fg), .val (.int fn), .val (.ref b36), .val (.ref b38), .val (.ref b41), .val (.ref b45), .val (.ref b50), .val (.ref b56), .val (.ref b63), .val (.ref b71), .val .null, .unset, .unset, .unset, .unset, .unset, .unset, .unset, .unset, .unset, .unset, .unset, .unset, .unset, .unset, .unset, .unset, .unset, .unset, .unset, .unset, .unset, .unset]) rfl ?_
        exact kt
      exact ⟨.null, (Or.inr (Or.inr ⟨hc74, rfl⟩)), k76⟩
  have r_cv : cv.isRef = true := by rcases hj73 with ⟨_, q⟩ | ⟨_, q⟩ | ⟨_, q⟩ <;> first | (exact q.elim) | (rw [q]; rfl)
  have k77 : ∀ t, Steps p.tables e below (T71.setTop (mkF m 172 #[.val (.int x0), .val (.int x1), .val (.int x2), .val (.int x3), .val (.int x4), .val (.int x5), .val (.int fm), .val (.int fo), .val (.int fc), .val (.int ft), .val (.int fi), .val (.int fg), .val (.int fn), .val (.ref b36), .val (.ref b38), .val (.ref b41), .val (.ref b45), .val (.ref b50), .val (.ref b56), .val (.ref b63), .val (.ref b71), .val cv, .unset, .unset, .unset, .unset, .unset, .unset, .unset, .unset, .unset, .unset, .unset, .unset, .unset, .unset, .unset, .unset, .unset, .unset, .unset, .unset, .unset, .unset] [(.int fm)])) t → Steps p.tables e below (s₁.setTop (entryFrame m #[(.int x0), (.int x1), (.int x2), (.int x3), (.int x4), (.int x5)] maxLocals)) t := by
    intro t kt
    refine k73 t ?_
    show Steps p.tables e below (T71.setTop (mkF m 170 #[.val (.int x0), .val (.int x1), .val (.int x2), .val (.int x3), .val (.int x4), .val (.int x5), .val (.int fm), .val (.int fo), .val (.int fc), .val (.int ft), .val (.int fi), .val (.int fg), .val (.int fn), .val (.ref b36), .val (.ref b38), .val (.ref b41), .val (.ref b45), .val (.ref b50), .val (.ref b56), .val (.ref b63), .val (.ref b71), .val cv, .unset, .unset, .unset, .unset, .unset, .unset, .unset, .unset, .unset, .unset, .unset, .unset, .unset, .unset, .unset, .unset, .unset, .unset, .unset, .unset, .unset, .unset] [])) _
    refine XS.iload X71.here hx rfl (hb hby at_170) rfl ?_
    exact kt
  obtain ⟨T78, h78, Lj78, w78, vv78, X78, e78, Nq78, Kq78, gE78, gF78, hv78, k78⟩ : ∃ (T' : State) (h' : Heap) (L' : List Loc) (w78 : Addr) (vv78 : Value), Stand p l e room_1 (s.setVm s.vm) m #[(.int x0), (.int x1), (.int x2), (.int x3), (.int x4), (.int x5)] below meth c T' L' 33 129 ∧ T'.heap = h' ∧ Fr n0 L' ∧ Keep T71.heap h' [] ∧ Exa Z h' w78 "java/util/Optional" ∧ Fld Z h' w78 "java/util/Optional" "value" "Ljava/lang/Object;" vv78 ∧ ((fm = (0 : Int32) ∧ vv78 = .null) ∨ (fm = (1 : Int32) ∧ vv78 = .ref b38)) ∧ ∀ t, Steps p.tables e below (T'.setTop (mkF m 186 #[.val (.int x0), .val (.int x1), .val (.int x2), .val (.int x3), .val (.int x4), .val (.int x5), .val (.int fm), .val (.int fo), .val (.int fc), .val (.int ft), .val (.int fi), .val (.int fg), .val (.int fn), .val (.ref b36), .val (.ref b38), .val (.ref b41), .val (.ref b45), .val (.ref b50), .val (.ref b56), .val (.ref b63), .val (.ref b71), .val cv, .unset, .unset, .unset, .unset, .unset, .unset, .unset, .unset, .unset, .unset, .unset, .unset, .unset, .unset, .unset, .unset, .unset, .unset, .unset, .unset, .unset, .unset] [(.ref w78)])) t → Steps p.tables e below (s₁.setTop (entryFrame m #[(.int x0), (.int x1), (.int x2), (.int x3), (.int x4), (.int x5)] maxLocals)) t := by
    by_cases hc79 : fm = (0 : Int32)
    · skip
      have f80 := (f70.keep Kq71 all0)
      obtain ⟨_, _, ⟨T81, L81, kc81, ks81⟩, -, X81, ⟨Lc81, hQ81, l81, y81, z81⟩, st81⟩ := Jvm.LawKit.callS X71 hx (y := mn27) hown (mvT hZ (wd34 hw)) (mvT hZ (wd35 hw)) (mvT hZ (wd36 hw)) (mvT hZ (wd37 hw)) (by decide) (backOf (W := 0) (rmA6 l Z a0 hw [] wE T71.heap n0 Z71 S_E f80) hZ (wd37 hw) (wd36 hw) (by decide) (by decide)) (g := (mkF m 183 #[.val (.int x0), .val (.int x1), .val (.int x2), .val (.int x3), .val (.int x4), .val (.int x5), .val (.int fm), .val (.int fo), .val (.int fc), .val (.int ft), .val (.int fi), .val (.int fg), .val (.int fn), .val (.ref b36), .val (.ref b38), .val (.ref b41), .val (.ref b45), .val (.ref b50), .val (.ref b56), .val (.ref b63), .val (.ref b71), .val cv, .unset, .unset, .unset, .unset, .unset, .unset, .unset, .unset, .unset, .unset, .unset, .unset, .unset, .unset, .unset, .unset, .unset, .unset, .unset, .unset, .unset, .unset] [])) rfl (by rw [hml]; rfl) (argsL := []) (rest := []) (lenOf pd___Ljava_util_Optional_ rfl) rfl (by show 2 * 0 + _ ≤ _; exact Nat.le_of_eq rfl) (hb hby at_183) (fun _ _ => ⟨rfl, rfl, (by decide : 32 + 0 ≤ _), (by decide : 128 + 0 ≤ _)⟩)
      dsimp only [Pt.U, Pt.locs, Pt.cells, Pt.slots] at X81 l81 y81 z81 st81 hQ81
      subst l81 y81 z81
      obtain ⟨rfl, Nq81, eq81⟩ := hQ81
      have N81 := Fr.app N71 Nq81
      have k82 : ∀ t, Steps p.tables e below (T81.setTop (mkF m 186 #[.val (.int x0), .val (.int x1), .val (.int x2), .val (.int x3), .val (.int x4), .val (.int x5), .val (.int fm), .val (.int fo), .val (.int fc), .val (.int ft), .val (.int fi), .val (.int fg), .val (.int fn), .val (.ref b36), .val (.ref b38), .val (.ref b41), .val (.ref b45), .val (.ref b50), .val (.ref b56), .val (.ref b63), .val (.ref b71), .val cv, .unset, .unset, .unset, .unset, .unset, .unset, .unset, .unset, .unset, .unset, .unset, .unset, .unset, .unset, .unset, .unset, .unset, .unset, .unset, .unset, .unset, .unset] [(.ref wE)])) t → Steps p.tables e below (s₁.setTop (entryFrame m #[(.int x0), (.int x1), (.int x2), (.int x3), (.int x4), (.int x5)] maxLocals)) t := by
        intro t kt
        refine k77 t ?_
        show Steps p.tables e below (T71.setTop (mkF m 172 #[.val (.int x0), .val (.int x1), .val (.int x2), .val (.int x3), .val (.int x4), .val (.int x5), .val (.int fm), .val (.int fo), .val (.int fc), .val (.int ft), .val (.int fi), .val (.int fg), .val (.int fn), .val (.ref b36), .val (.ref b38), .val (.ref b41), .val (.ref b45), .val (.ref b50), .val (.ref b56), .val (.ref b63), .val (.ref b71), .val cv, .unset, .unset, .unset, .unset, .unset, .unset, .unset, .unset, .unset, .unset, .unset, .unset, .unset, .unset, .unset, .unset, .unset, .unset, .unset, .unset, .unset, .unset] [(.int fm)])) _
        refine XS.ifYes X71.here hx rfl (pc0 := 172) (pc' := 183) rfl (hb hby at_172) rfl ((if0 _ _).trans (teq hc79).1) (by decide) (by decide) ?_
        show Steps p.tables e below (T71.setTop (mkF m 183 #[.val (.int x0), .val (.int x1), .val (.int x2), .val (.int x3), .val (.int x4), .val (.int x5), .val (.int fm), .val (.int fo), .val (.int fc), .val (.int ft), .val (.int fi), .val (.int fg), .val (.int fn), .val (.ref b36), .val (.ref b38), .val (.ref b41), .val (.ref b45), .val (.ref b50), .val (.ref b56), .val (.ref b63), .val (.ref b71), .val cv, .unset, .unset, .unset, .unset, .unset, .unset, .unset, .unset, .unset, .unset, .unset, .unset, .unset, .unset, .unset, .unset, .unset, .unset, .unset, .unset, .unset, .unset] [])) _
        refine st81 _ ?_
        exact kt
      exact ⟨_, _, _, wE, .null, X81.mono (by decide) (by decide), eq81, N81, (Keep.refl _ []), (E_w.ext f80.2), (F_w.ext f80.2), (Or.inl ⟨hc79, rfl⟩), k82⟩
    · skip
      have f83 := (f64.keep Kq71)
      have f84 := (f65.keep Kq71)
      have f85 := (f66.keep Kq71)
      have f86 := (f67.keep Kq71)
      have f87 := (f68.keep Kq71)
      have f88 := (f69.keep Kq71)
      have f89 := (gE63.keep Kq71)
      obtain ⟨_, _, ⟨T90, L90, kc90, ks90⟩, -, X90, ⟨Lc90, hQ90, l90, y90, z90⟩, st90⟩ := Jvm.LawKit.callS X71 hx (y := mn30) hown (mvT hZ (wd228 hw)) (mvT hZ (wd229 hw)) (mvT hZ (wd36 hw)) (mvT hZ (wd230 hw)) (by decide) (backOf (W := 0) (rmA7 l Z a0 hw [] b38 T71.heap n0 Z71 ) hZ (wd230 hw) (wd36 hw) (by decide) (by decide)) (g := (mkF m 177 #[.val (.int x0), .val (.int x1), .val (.int x2), .val (.int x3), .val (.int x4), .val (.int x5), .val (.int fm), .val (.int fo), .val (.int fc), .val (.int ft), .val (.int fi), .val (.int fg), .val (.int fn), .val (.ref b36), .val (.ref b38), .val (.ref b41), .val (.ref b45), .val (.ref b50), .val (.ref b56), .val (.ref b63), .val (.ref b71), .val cv, .unset, .unset, .unset, .unset, .unset, .unset, .unset, .unset, .unset, .unset, .unset, .unset, .unset, .unset, .unset, .unset, .unset, .unset, .unset, .unset, .unset, .unset] [(.ref b38)])) rfl (by rw [hml]; rfl) (argsL := [(.ref b38)]) (rest := []) (lenOf pd__Ljava_lang_Object__Ljava_util_Optional_ rfl) rfl (by show 2 * 0 + _ ≤ _; exact Nat.le_of_eq rfl) (hb hby at_177) (fun _ _ => ⟨rfl, rfl, (by decide : 32 + 1 ≤ _), (by decide : 128 + 1 ≤ _)⟩)
      dsimp only [Pt.U, Pt.locs, Pt.cells, Pt.slots] at X90 l90 y90 z90 st90 hQ90
      subst l90 y90 z90
      obtain ⟨b90_0, rfl, Nq90, Kq90, sz90_0, g90_0, g90_1⟩ := hQ90
      have N90 := Fr.app N71 Nq90
      have CS90 := CHr.keep Kq90 all0 CR71.1
      have CR90 := CR71.trans CS90
      have hk90 : _ ≤ T90.heap.size := Nat.le_trans hk71 Kq90.1
      have Z90 : n0 ≤ T90.heap.size := Nat.le_trans Z71 Kq90.1
      have K90 : Keep h0 T90.heap [] := Keep.trans K71 Kq90 all0
      have ne_b36_b90_0 : b36 ≠ b90_0 := Nat.ne_of_lt (Nat.lt_of_lt_of_le f83.lt sz90_0)
      have ne_b38_b90_0 : b38 ≠ b90_0 := Nat.ne_of_lt (Nat.lt_of_lt_of_le f84.lt sz90_0)
      have ne_b41_b90_0 : b41 ≠ b90_0 := Nat.ne_of_lt (Nat.lt_of_lt_of_le f85.lt sz90_0)
      have ne_b45_b90_0 : b45 ≠ b90_0 := Nat.ne_of_lt (Nat.lt_of_lt_of_le f86.lt sz90_0)
      have ne_b50_b90_0 : b50 ≠ b90_0 := Nat.ne_of_lt (Nat.lt_of_lt_of_le f87.lt sz90_0)
      have ne_b56_b90_0 : b56 ≠ b90_0 := Nat.ne_of_lt (Nat.lt_of_lt_of_le f88.lt sz90_0)
      have ne_b63_b90_0 : b63 ≠ b90_0 := Nat.ne_of_lt (Nat.lt_of_lt_of_le f89.lt sz90_0)
      have ne_b71_b90_0 : b71 ≠ b90_0 := Nat.ne_of_lt (Nat.lt_of_lt_of_le gE71.lt sz90_0)
      have ge_b90_0 : n0 ≤ b90_0 := Nat.le_trans Z71 sz90_0
      have sz_b90_0 : h0.size ≤ b90_0 := Nat.le_trans K71.1 sz90_0
      have k91 : ∀ t, Steps p.tables e below (T90.setTop (mkF m 186 #[.val (.int x0), .val (.int x1), .val (.int x2), .val (.int x3), .val (.int x4), .val (.int x5), .val (.int fm), .val (.int fo), .val (.int fc), .val (.int ft), .val (.int fi), .val (.int fg), .val (.int fn), .val (.ref b36), .val (.ref b38), .val (.ref b41), .val (.ref b45), .val (.ref b50), .val (.ref b56), .val (.ref b63), .val (.ref b71), .val cv, .unset, .unset, .unset, .unset, .unset, .unset, .unset, .unset, .unset, .unset, .unset, .unset, .unset, .unset, .unset, .unset, .unset, .unset, .unset, .unset, .unset, .unset] [(.ref b90_0)])) t → Steps p.tables e below (s₁.setTop (entryFrame m #[(.int x0), (.int x1), (.int x2), (.int x3), (.int x4), (.int x5)] maxLocals)) t := by
        intro t kt
        refine k77 t ?_
        show Steps p.tables e below (T71.setTop (mkF m 172 #[.val (.int x0), .val (.int x1), .val (.int x2), .val (.int x3), .val (.int x4), .val (.int x5), .val (.int fm), .val (.int fo), .val (.int fc), .val (.int ft), .val (.int fi), .val (.int fg), .val (.int fn), .val (.ref b36), .val (.ref b38), .val (.ref b41), .val (.ref b45), .val (.ref b50), .val (.ref b56), .val (.ref b63), .val (.ref b71), .val cv, .unset, .unset, .unset, .unset, .unset, .unset, .unset, .unset, .unset, .unset, .unset, .unset, .unset, .unset, .unset, .unset, .unset, .unset, .unset, .unset, .unset, .unset] [(.int fm)])) _
        refine XS.ifNo X71.here hx rfl (hb hby at_172) rfl ((if0 _ _).trans (feq hc79).1) ?_
        refine XS.aload X71.here hx rfl (hb hby at_175) rfl rfl ?_
        show Steps p.tables e below (T71.setTop (mkF m 177 #[.val (.int x0), .val (.int x1), .val (.int x2), .val (.int x3), .val (.int x4), .val (.int x5), .val (.int fm), .val (.int fo), .val (.int fc), .val (.int ft), .val (.int fi), .val (.int fg), .val (.int fn), .val (.ref b36), .val (.ref b38), .val (.ref b41), .val (.ref b45), .val (.ref b50), .val (.ref b56), .val (.ref b63), .val (.ref b71), .val cv, .unset, .unset, .unset, .unset, .unset, .unset, .unset, .unset, .unset, .unset, .unset, .unset, .unset, .unset, .unset, .unset, .unset, .unset, .unset, .unset, .unset, .unset] [(.ref b38)])) _
        refine st90 _ ?_
        show Steps p.tables e below (T90.setTop (mkF m 180 #[.val (.int x0), .val (.int x1), .val (.int x2), .val (.int x3), .val (.int x4), .val (.int x5), .val (.int fm), .val (.int fo), .val (.int fc), .val (.int ft), .val (.int fi), .val (.int fg), .val (.int fn), .val (.ref b36), .val (.ref b38), .val (.ref b41), .val (.ref b45), .val (.ref b50), .val (.ref b56), .val (.ref b63), .val (.ref b71), .val cv, .unset, .unset, .unset, .unset, .unset, .unset, .unset, .unset, .unset, .unset, .unset, .unset, .unset, .unset, .unset, .unset, .unset, .unset, .unset, .unset, .unset, .unset] [(.ref b90_0)])) _
        refine XS.goto X90.here hx rfl (pc0 := 180) (pc' := 186) rfl (hb hby at_180) (by decide) (by decide) ?_
        exact kt
      exact ⟨_, _, _, b90_0, (.ref b38), X90.mono (by decide) (by decide), rfl, N90, Kq90, g90_0, g90_1, (Or.inr ⟨hj2.resolve_left hc79, rfl⟩), k91⟩
  have CS78 := CHr.keep Kq78 all0 CR71.1
  have CR78 := CR71.trans CS78
  have hk78 : _ ≤ h78.size := Nat.le_trans hk71 Kq78.1
  have Z78 : n0 ≤ h78.size := Nat.le_trans Z71 Kq78.1
  have K78 : Keep h0 h78 [] := Keep.trans K71 Kq78 all0
  have r_vv78 : vv78.isRef = true := by rcases hv78 with ⟨_, q⟩ | ⟨_, q⟩ <;> rw [q] <;> rfl
  have k92 : ∀ t, Steps p.tables e below (T78.setTop (mkF m 190 #[.val (.int x0), .val (.int x1), .val (.int x2), .val (.int x3), .val (.int x4), .val (.int x5), .val (.int fm), .val (.int fo), .val (.int fc), .val (.int ft), .val (.int fi), .val (.int fg), .val (.int fn), .val (.ref b36), .val (.ref b38), .val (.ref b41), .val (.ref b45), .val (.ref b50), .val (.ref b56), .val (.ref b63), .val (.ref b71), .val cv, .val (.ref w78), .unset, .unset, .unset, .unset, .unset, .unset, .unset, .unset, .unset, .unset, .unset, .unset, .unset, .unset, .unset, .unset, .unset, .unset, .unset, .unset, .unset] [(.int fo)])) t → Steps p.tables e below (s₁.setTop (entryFrame m #[(.int x0), (.int x1), (.int x2), (.int x3), (.int x4), (.int x5)] maxLocals)) t := by
    intro t kt
    refine k78 t ?_
    show Steps p.tables e below (T78.setTop (mkF m 186 #[.val (.int x0), .val (.int x1), .val (.int x2), .val (.int x3), .val (.int x4), .val (.int x5), .val (.int fm), .val (.int fo), .val (.int fc), .val (.int ft), .val (.int fi), .val (.int fg), .val (.int fn), .val (.ref b36), .val (.ref b38), .val (.ref b41), .val (.ref b45), .val (.ref b50), .val (.ref b56), .val (.ref b63), .val (.ref b71), .val cv, .unset, .unset, .unset, .unset, .unset, .unset, .unset, .unset, .unset, .unset, .unset, .unset, .unset, .unset, .unset, .unset, .unset, .unset, .unset, .unset, .unset, .unset] [(.ref w78)])) _
    refine XS.astore X78.here hx rfl (hb hby at_186) rfl rfl (l' := #[.val (.int x0), .val (.int x1), .val (.int x2), .val (.int x3), .val (.int x4), .val (.int x5), .val (.int fm), .val (.int fo), .val (.int fc), .val (.int ft), .val (.int fi), .val (.int fg), .val (.int fn), .val (.ref b36), .val (.ref b38), .val (.ref b41), .val (.ref b45), .val (.ref b50), .val (.ref b56), .val (.ref b63), .val (.ref b71), .val cv, .val (.ref w78), .unset, .unset, .unset, .unset, .unset, .unset, .unset, .unset, .unset, .unset, .unset, .unset, .unset, .unset, .unset, .unset, .unset, .unset, .unset, .unset, .unset]) rfl ?_
    refine XS.iload X78.here hx rfl (hb hby at_188) rfl ?_
    exact kt
  obtain ⟨T93, h93, Lj93, w93, vv93, X93, e93, Nq93, Kq93, gE93, gF93, hv93, k93⟩ : ∃ (T' : State) (h' : Heap) (L' : List Loc) (w93 : Addr) (vv93 : Value), Stand p l e room_1 (s.setVm s.vm) m #[(.int x0), (.int x1), (.int x2), (.int x3), (.int x4), (.int x5)] below meth c T' L' 34 130 ∧ T'.heap = h' ∧ Fr n0 L' ∧ Keep h78 h' [] ∧ Exa Z h' w93 "java/util/Optional" ∧ Fld Z h' w93 "java/util/Optional" "value" "Ljava/lang/Object;" vv93 ∧ ((fo = (0 : Int32) ∧ vv93 = .null) ∨ (fo = (1 : Int32) ∧ vv93 = .ref b41)) ∧ ∀ t, Steps p.tables e below (T'.setTop (mkF m 204 #[.val (.int x0), .val (.int x1), .val (.int x2), .val (.int x3), .val (.int x4), .val (.int x5), .val (.int fm), .val (.int fo), .val (.int fc), .val (.int ft), .val (.int fi), .val (.int fg), .val (.int fn), .val (.ref b36), .val (.ref b38), .val (.ref b41), .val (.ref b45), .val (.ref b50), .val (.ref b56), .val (.ref b63), .val (.ref b71), .val cv, .val (.ref w78), .unset, .unset, .unset, .unset, .unset, .unset, .unset, .unset, .unset, .unset, .unset, .unset, .unset, .unset, .unset, .unset, .unset, .unset, .unset, .unset, .unset] [(.ref w93)])) t → Steps p.tables e below (s₁.setTop (entryFrame m #[(.int x0), (.int x1), (.int x2), (.int x3), (.int x4), (.int x5)] maxLocals)) t := by
    by_cases hc94 : fo = (0 : Int32)
    · skip
      have f95 := ((f70.keep Kq71 all0).keep Kq78 all0)
      obtain ⟨_, _, ⟨T96, L96, kc96, ks96⟩, -, X96, ⟨Lc96, hQ96, l96, y96, z96⟩, st96⟩ := Jvm.LawKit.callS X78 hx (y := mn27) hown (mvT hZ (wd34 hw)) (mvT hZ (wd35 hw)) (mvT hZ (wd36 hw)) (mvT hZ (wd37 hw)) (by decide) (backOf (W := 0) (rmA6 l Z a0 hw [] wE h78 n0 Z78 S_E f95) hZ (wd37 hw) (wd36 hw) (by decide) (by decide)) (g := (mkF m 201 #[.val (.int x0), .val (.int x1), .val (.int x2), .val (.int x3), .val (.int x4), .val (.int x5), .val (.int fm), .val (.int fo), .val (.int fc), .val (.int ft), .val (.int fi), .val (.int fg), .val (.int fn), .val (.ref b36), .val (.ref b38), .val (.ref b41), .val (.ref b45), .val (.ref b50), .val (.ref b56), .val (.ref b63), .val (.ref b71), .val cv, .val (.ref w78), .unset, .unset, .unset, .unset, .unset, .unset, .unset, .unset, .unset, .unset, .unset, .unset, .unset, .unset, .unset, .unset, .unset, .unset, .unset, .unset, .unset] [])) rfl (by rw [hml]; rfl) (argsL := []) (rest := []) (lenOf pd___Ljava_util_Optional_ rfl) rfl (by show 2 * 0 + _ ≤ _; exact Nat.le_of_eq rfl) (hb hby at_201) (fun _ _ => ⟨rfl, e78, (by decide : 33 + 0 ≤ _), (by decide : 129 + 0 ≤ _)⟩)
      dsimp only [Pt.U, Pt.locs, Pt.cells, Pt.slots] at X96 l96 y96 z96 st96 hQ96
      subst l96 y96 z96
      obtain ⟨rfl, Nq96, eq96⟩ := hQ96
      have N96 := Fr.app Nq78 Nq96
      have k97 : ∀ t, Steps p.tables e below (T96.setTop (mkF m 204 #[.val (.int x0), .val (.int x1), .val (.int x2), .val (.int x3), .val (.int x4), .val (.int x5), .val (.int fm), .val (.int fo), .val (.int fc), .val (.int ft), .val (.int fi), .val (.int fg), .val (.int fn), .val (.ref b36), .val (.ref b38), .val (.ref b41), .val (.ref b45), .val (.ref b50), .val (.ref b56), .val (.ref b63), .val (.ref b71), .val cv, .val (.ref w78), .unset, .unset, .unset, .unset, .unset, .unset, .unset, .unset, .unset, .unset, .unset, .unset, .unset, .unset, .unset, .unset, .unset, .unset, .unset, .unset, .unset] [(.ref wE)])) t → Steps p.tables e below (s₁.setTop (entryFrame m #[(.int x0), (.int x1), (.int x2), (.int x3), (.int x4), (.int x5)] maxLocals)) t := by
        intro t kt
        refine k92 t ?_
        show Steps p.tables e below (T78.setTop (mkF m 190 #[.val (.int x0), .val (.int x1), .val (.int x2), .val (.int x3), .val (.int x4), .val (.int x5), .val (.int fm), .val (.int fo), .val (.int fc), .val (.int ft), .val (.int fi), .val (.int fg), .val (.int fn), .val (.ref b36), .val (.ref b38), .val (.ref b41), .val (.ref b45), .val (.ref b50), .val (.ref b56), .val (.ref b63), .val (.ref b71), .val cv, .val (.ref w78), .unset, .unset, .unset, .unset, .unset, .unset, .unset, .unset, .unset, .unset, .unset, .unset, .unset, .unset, .unset, .unset, .unset, .unset, .unset, .unset, .unset] [(.int fo)])) _
        refine XS.ifYes X78.here hx rfl (pc0 := 190) (pc' := 201) rfl (hb hby at_190) rfl ((if0 _ _).trans (teq hc94).1) (by decide) (by decide) ?_
        show Steps p.tables e below (T78.setTop (mkF m 201 #[.val (.int x0), .val (.int x1), .val (.int x2), .val (.int x3), .val (.int x4), .val (.int x5), .val (.int fm), .val (.int fo), .val (.int fc), .val (.int ft), .val (.int fi), .val (.int fg), .val (.int fn), .val (.ref b36), .val (.ref b38), .val (.ref b41), .val (.ref b45), .val (.ref b50), .val (.ref b56), .val (.ref b63), .val (.ref b71), .val cv, .val (.ref w78), .unset, .unset, .unset, .unset, .unset, .unset, .unset, .unset, .unset, .unset, .unset, .unset, .unset, .unset, .unset, .unset, .unset, .unset, .unset, .unset, .unset] [])) _
        refine st96 _ ?_
        exact kt
      exact ⟨_, _, _, wE, .null, X96.mono (by decide) (by decide), eq96, N96, (Keep.refl _ []), (E_w.ext f95.2), (F_w.ext f95.2), (Or.inl ⟨hc94, rfl⟩), k97⟩
    · skip
      have f98 := ((f64.keep Kq71).keep Kq78)
      have f99 := ((f65.keep Kq71).keep Kq78)
      have f100 := ((f66.keep Kq71).keep Kq78)
      have f101 := ((f67.keep Kq71).keep Kq78)
      have f102 := ((f68.keep Kq71).keep Kq78)
      have f103 := ((f69.keep Kq71).keep Kq78)
      have f104 := ((gE63.keep Kq71).keep Kq78)
      have f105 := (gE71.keep Kq78)
      obtain ⟨_, _, ⟨T106, L106, kc106, ks106⟩, -, X106, ⟨Lc106, hQ106, l106, y106, z106⟩, st106⟩ := Jvm.LawKit.callS X78 hx (y := mn30) hown (mvT hZ (wd228 hw)) (mvT hZ (wd229 hw)) (mvT hZ (wd36 hw)) (mvT hZ (wd230 hw)) (by decide) (backOf (W := 0) (rmA7 l Z a0 hw [] b41 h78 n0 Z78 ) hZ (wd230 hw) (wd36 hw) (by decide) (by decide)) (g := (mkF m 195 #[.val (.int x0), .val (.int x1), .val (.int x2), .val (.int x3), .val (.int x4), .val (.int x5), .val (.int fm), .val (.int fo), .val (.int fc), .val (.int ft), .val (.int fi), .val (.int fg), .val (.int fn), .val (.ref b36), .val (.ref b38), .val (.ref b41), .val (.ref b45), .val (.ref b50), .val (.ref b56), .val (.ref b63), .val (.ref b71), .val cv, .val (.ref w78), .unset, .unset, .unset, .unset, .unset, .unset, .unset, .unset, .unset, .unset, .unset, .unset, .unset, .unset, .unset, .unset, .unset, .unset, .unset, .unset, .unset] [(.ref b41)])) rfl (by rw [hml]; rfl) (argsL := [(.ref b41)]) (rest := []) (lenOf pd__Ljava_lang_Object__Ljava_util_Optional_ rfl) rfl (by show 2 * 0 + _ ≤ _; exact Nat.le_of_eq rfl) (hb hby at_195) (fun _ _ => ⟨rfl, e78, (by decide : 33 + 1 ≤ _), (by decide : 129 + 1 ≤ _)⟩)
      dsimp only [Pt.U, Pt.locs, Pt.cells, Pt.slots] at X106 l106 y106 z106 st106 hQ106
      subst l106 y106 z106
      obtain ⟨b106_0, rfl, Nq106, Kq106, sz106_0, g106_0, g106_1⟩ := hQ106
      have N106 := Fr.app Nq78 Nq106
      have CS106 := CHr.keep Kq106 all0 CR78.1
      have CR106 := CR78.trans CS106
      have hk106 : _ ≤ T106.heap.size := Nat.le_trans hk78 Kq106.1
      have Z106 : n0 ≤ T106.heap.size := Nat.le_trans Z78 Kq106.1
      have K106 : Keep h0 T106.heap [] := Keep.trans K78 Kq106 all0
      have ne_b36_b106_0 : b36 ≠ b106_0 := Nat.ne_of_lt (Nat.lt_of_lt_of_le f98.lt sz106_0)
      have ne_b38_b106_0 : b38 ≠ b106_0 := Nat.ne_of_lt (Nat.lt_of_lt_of_le f99.lt sz106_0)
      have ne_b41_b106_0 : b41 ≠ b106_0 := Nat.ne_of_lt (Nat.lt_of_lt_of_le f100.lt sz106_0)
      have ne_b45_b106_0 : b45 ≠ b106_0 := Nat.ne_of_lt (Nat.lt_of_lt_of_le f101.lt sz106_0)
      have ne_b50_b106_0 : b50 ≠ b106_0 := Nat.ne_of_lt (Nat.lt_of_lt_of_le f102.lt sz106_0)
      have ne_b56_b106_0 : b56 ≠ b106_0 := Nat.ne_of_lt (Nat.lt_of_lt_of_le f103.lt sz106_0)
      have ne_b63_b106_0 : b63 ≠ b106_0 := Nat.ne_of_lt (Nat.lt_of_lt_of_le f104.lt sz106_0)
      have ne_b71_b106_0 : b71 ≠ b106_0 := Nat.ne_of_lt (Nat.lt_of_lt_of_le f105.lt sz106_0)
      have ne_w78_b106_0 : w78 ≠ b106_0 := Nat.ne_of_lt (Nat.lt_of_lt_of_le gE78.lt sz106_0)
      have ge_b106_0 : n0 ≤ b106_0 := Nat.le_trans Z78 sz106_0
      have sz_b106_0 : h0.size ≤ b106_0 := Nat.le_trans K78.1 sz106_0
      have k107 : ∀ t, Steps p.tables e below (T106.setTop (mkF m 204 #[.val (.int x0), .val (.int x1), .val (.int x2), .val (.int x3), .val (.int x4), .val (.int x5), .val (.int fm), .val (.int fo), .val (.int fc), .val (.int ft), .val (.int fi), .val (.int fg), .val (.int fn), .val (.ref b36), .val (.ref b38), .val (.ref b41), .val (.ref b45), .val (.ref b50), .val (.ref b56), .val (.ref b63), .val (.ref b71), .val cv, .val (.ref w78), .unset, .unset, .unset, .unset, .unset, .unset, .unset, .unset, .unset, .unset, .unset, .unset, .unset, .unset, .unset, .unset, .unset, .unset, .unset, .unset, .unset] [(.ref b106_0)])) t → Steps p.tables e below (s₁.setTop (entryFrame m #[(.int x0), (.int x1), (.int x2), (.int x3), (.int x4), (.int x5)] maxLocals)) t := by
        intro t kt
        refine k92 t ?_
        show Steps p.tables e below (T78.setTop (mkF m 190 #[.val (.int x0), .val (.int x1), .val (.int x2), .val (.int x3), .val (.int x4), .val (.int x5), .val (.int fm), .val (.int fo), .val (.int fc), .val (.int ft), .val (.int fi), .val (.int fg), .val (.int fn), .val (.ref b36), .val (.ref b38), .val (.ref b41), .val (.ref b45), .val (.ref b50), .val (.ref b56), .val (.ref b63), .val (.ref b71), .val cv, .val (.ref w78), .unset, .unset, .unset, .unset, .unset, .unset, .unset, .unset, .unset, .unset, .unset, .unset, .unset, .unset, .unset, .unset, .unset, .unset, .unset, .unset, .unset] [(.int fo)])) _
        refine XS.ifNo X78.here hx rfl (hb hby at_190) rfl ((if0 _ _).trans (feq hc94).1) ?_
        refine XS.aload X78.here hx rfl (hb hby at_193) rfl rfl ?_
        show Steps p.tables e below (T78.setTop (mkF m 195 #[.val (.int x0), .val (.int x1), .val (.int x2), .val (.int x3), .val (.int x4), .val (.int x5), .val (.int fm), .val (.int fo), .val (.int fc), .val (.int ft), .val (.int fi), .val (.int fg), .val (.int fn), .val (.ref b36), .val (.ref b38), .val (.ref b41), .val (.ref b45), .val (.ref b50), .val (.ref b56), .val (.ref b63), .val (.ref b71), .val cv, .val (.ref w78), .unset, .unset, .unset, .unset, .unset, .unset, .unset, .unset, .unset, .unset, .unset, .unset, .unset, .unset, .unset, .unset, .unset, .unset, .unset, .unset, .unset] [(.ref b41)])) _
        refine st106 _ ?_
        show Steps p.tables e below (T106.setTop (mkF m 198 #[.val (.int x0), .val (.int x1), .val (.int x2), .val (.int x3), .val (.int x4), .val (.int x5), .val (.int fm), .val (.int fo), .val (.int fc), .val (.int ft), .val (.int fi), .val (.int fg), .val (.int fn), .val (.ref b36), .val (.ref b38), .val (.ref b41), .val (.ref b45), .val (.ref b50), .val (.ref b56), .val (.ref b63), .val (.ref b71), .val cv, .val (.ref w78), .unset, .unset, .unset, .unset, .unset, .unset, .unset, .unset, .unset, .unset, .unset, .unset, .unset, .unset, .unset, .unset, .unset, .unset, .unset, .unset, .unset] [(.ref b106_0)])) _
        refine XS.goto X106.here hx rfl (pc0 := 198) (pc' := 204) rfl (hb hby at_198) (by decide) (by decide) ?_
        exact kt
      exact ⟨_, _, _, b106_0, (.ref b41), X106.mono (by decide) (by decide), rfl, N106, Kq106, g106_0, g106_1, (Or.inr ⟨hj7.resolve_left hc94, rfl⟩), k107⟩
  have CS93 := CHr.keep Kq93 all0 CR78.1
  have CR93 := CR78.trans CS93
  have hk93 : _ ≤ h93.size := Nat.le_trans hk78 Kq93.1
  have Z93 : n0 ≤ h93.size := Nat.le_trans Z78 Kq93.1
  have K93 : Keep h0 h93 [] := Keep.trans K78 Kq93 all0
  have r_vv93 : vv93.isRef = true := by rcases hv93 with ⟨_, q⟩ | ⟨_, q⟩ <;> rw [q] <;> rfl
  have k108 : ∀ t, Steps p.tables e below (T93.setTop (mkF m 208 #[.val (.int x0), .val (.int x1), .val (.int x2), .val (.int x3), .val (.int x4), .val (.int x5), .val (.int fm), .val (.int fo), .val (.int fc), .val (.int ft), .val (.int fi), .val (.int fg), .val (.int fn), .val (.ref b36), .val (.ref b38), .val (.ref b41), .val (.ref b45), .val (.ref b50), .val (.ref b56), .val (.ref b63), .val (.ref b71), .val cv, .val (.ref w78), .val (.ref w93), .unset, .unset, .unset, .unset, .unset, .unset, .unset, .unset, .unset, .unset, .unset, .unset, .unset, .unset, .unset, .unset, .unset, .unset, .unset, .unset] [(.int fc)])) t → Steps p.tables e below (s₁.setTop (entryFrame m #[(.int x0), (.int x1), (.int x2), (.int x3), (.int x4), (.int x5)] maxLocals)) t := by
    intro t kt
    refine k93 t ?_
    show Steps p.tables e below (T93.setTop (mkF m 204 #[.val (.int x0), .val (.int x1), .val (.int x2), .val (.int x3), .val (.int x4), .val (.int x5), .val (.int fm), .val (.int fo), .val (.int fc), .val (.int ft), .val (.int fi), .val (.int fg), .val (.int fn), .val (.ref b36), .val (.ref b38), .val (.ref b41), .val (.ref b45), .val (.ref b50), .val (.ref b56), .val (.ref b63), .val (.ref b71), .val cv, .val (.ref w78), .unset, .unset, .unset, .unset, .unset, .unset, .unset, .unset, .unset, .unset, .unset, .unset, .unset, .unset, .unset, .unset, .unset, .unset, .unset, .unset, .unset] [(.ref w93)])) _
    refine XS.astore X93.here hx rfl (hb hby at_204) rfl rfl (l' := #[.val (.int x0), .val (.int x1), .val (.int x2), .val (.int x3), .val (.int x4), .val (.int x5), .val (.int fm), .val (.int fo), .val (.int fc), .val (.int ft), .val (.int fi), .val (.int fg), .val (.int fn), .val (.ref b36), .val (.ref b38), .val (.ref b41), .val (.ref b45), .val (.ref b50), .val (.ref b56), .val (.ref b63), .val (.ref b71), .val cv, .val (.ref w78), .val (.ref w93), .unset, .unset, .unset, .unset, .unset, .unset, .unset, .unset, .unset, .unset, .unset, .unset, .unset, .unset, .unset, .unset, .unset, .unset, .unset, .unset]) rfl ?_
    refine XS.iload X93.here hx rfl (hb hby at_206) rfl ?_
    exact kt
  obtain ⟨T109, h109, Lj109, w109, vv109, X109, e109, Nq109, Kq109, gE109, gF109, hv109, k109⟩ : ∃ (T' : State) (h' : Heap) (L' : List Loc) (w109 : Addr) (vv109 : Value), Stand p l e room_1 (s.setVm s.vm) m #[(.int x0), (.int x1), (.int x2), (.int x3), (.int x4), (.int x5)] below meth c T' L' 35 131 ∧ T'.heap = h' ∧ Fr n0 L' ∧ Keep h93 h' [] ∧ Exa Z h' w109 "java/util/Optional" ∧ Fld Z h' w109 "java/util/Optional" "value" "Ljava/lang/Object;" vv109 ∧ ((fc = (0 : Int32) ∧ vv109 = .null) ∨ (fc = (1 : Int32) ∧ vv109 = .ref b45)) ∧ ∀ t, Steps p.tables e below (T'.setTop (mkF m 222 #[.val (.int x0), .val (.int x1), .val (.int x2), .val (.int x3), .val (.int x4), .val (.int x5), .val (.int fm), .val (.int fo), .val (.int fc), .val (.int ft), .val (.int fi), .val (.int fg), .val (.int fn), .val (.ref b36), .val (.ref b38), .val (.ref b41), .val (.ref b45), .val (.ref b50), .val (.ref b56), .val (.ref b63), .val (.ref b71), .val cv, .val (.ref w78), .val (.ref w93), .unset, .unset, .unset, .unset, .unset, .unset, .unset, .unset, .unset, .unset, .unset, .unset, .unset, .unset, .unset, .unset, .unset, .unset, .unset, .unset] [(.ref w109)])) t → Steps p.tables e below (s₁.setTop (entryFrame m #[(.int x0), (.int x1), (.int x2), (.int x3), (.int x4), (.int x5)] maxLocals)) t := by
    by_cases hc110 : fc = (0 : Int32)
    · skip
      have f111 := (((f70.keep Kq71 all0).keep Kq78 all0).keep Kq93 all0)
      obtain ⟨_, _, ⟨T112, L112, kc112, ks112⟩, -, X112, ⟨Lc112, hQ112, l112, y112, z112⟩, st112⟩ := Jvm.LawKit.callS X93 hx (y := mn27) hown (mvT hZ (wd34 hw)) (mvT hZ (wd35 hw)) (mvT hZ (wd36 hw)) (mvT hZ (wd37 hw)) (by decide) (backOf (W := 0) (rmA6 l Z a0 hw [] wE h93 n0 Z93 S_E f111) hZ (wd37 hw) (wd36 hw) (by decide) (by decide)) (g := (mkF m 219 #[.val (.int x0), .val (.int x1), .val (.int x2), .val (.int x3), .val (.int x4), .val (.int x5), .val (.int fm), .val (.int fo), .val (.int fc), .val (.int ft), .val (.int fi), .val (.int fg), .val (.int fn), .val (.ref b36), .val (.ref b38), .val (.ref b41), .val (.ref b45), .val (.ref b50), .val (.ref b56), .val (.ref b63), .val (.ref b71), .val cv, .val (.ref w78), .val (.ref w93), .unset, .unset, .unset, .unset, .unset, .unset, .unset, .unset, .unset, .unset, .unset, .unset, .unset, .unset, .unset, .unset, .unset, .unset, .unset, .unset] [])) rfl (by rw [hml]; rfl) (argsL := []) (rest := []) (lenOf pd___Ljava_util_Optional_ rfl) rfl (by show 2 * 0 + _ ≤ _; exact Nat.le_of_eq rfl) (hb hby at_219) (fun _ _ => ⟨rfl, e93, (by decide : 34 + 0 ≤ _), (by decide : 130 + 0 ≤ _)⟩)
      dsimp only [Pt.U, Pt.locs, Pt.cells, Pt.slots] at X112 l112 y112 z112 st112 hQ112
      subst l112 y112 z112
      obtain ⟨rfl, Nq112, eq112⟩ := hQ112
      have N112 := Fr.app Nq93 Nq112
      have k113 : ∀ t, Steps p.tables e below (T112.setTop (mkF m 222 #[.val (.int x0), .val (.int x1), .val (.int x2), .val (.int x3), .val (.int x4), .val (.int x5), .val (.int fm), .val (.int fo), .val (.int fc), .val (.int ft), .val (.int fi), .val (.int fg), .val (.int fn), .val (.ref b36), .val (.ref b38), .val (.ref b41), .val (.ref b45), .val (.ref b50), .val (.ref b56), .val (.ref b63), .val (.ref b71), .val cv, .val (.ref w78), .val (.ref w93), .unset, .unset, .unset, .unset, .unset, .unset, .unset, .unset, .unset, .unset, .unset, .unset, .unset, .unset, .unset, .unset, .unset, .unset, .unset, .unset] [(.ref wE)])) t → Steps p.tables e below (s₁.setTop (entryFrame m #[(.int x0), (.int x1), (.int x2), (.int x3), (.int x4), (.int x5)] maxLocals)) t := by
        intro t kt
        refine k108 t ?_
        show Steps p.tables e below (T93.setTop (mkF m 208 #[.val (.int x0), .val (.int x1), .val (.int x2), .val (.int x3), .val (.int x4), .val (.int x5), .val (.int fm), .val (.int fo), .val (.int fc), .val (.int ft), .val (.int fi), .val (.int fg), .val (.int fn), .val (.ref b36), .val (.ref b38), .val (.ref b41), .val (.ref b45), .val (.ref b50), .val (.ref b56), .val (.ref b63), .val (.ref b71), .val cv, .val (.ref w78), .val (.ref w93), .unset, .unset, .unset, .unset, .unset, .unset, .unset, .unset, .unset, .unset, .unset, .unset, .unset, .unset, .unset, .unset, .unset, .unset, .unset, .unset] [(.int fc)])) _
        refine XS.ifYes X93.here hx rfl (pc0 := 208) (pc' := 219) rfl (hb hby at_208) rfl ((if0 _ _).trans (teq hc110).1) (by decide) (by decide) ?_
        show Steps p.tables e below (T93.setTop (mkF m 219 #[.val (.int x0), .val (.int x1), .val (.int x2), .val (.int x3), .val (.int x4), .val (.int x5), .val (.int fm), .val (.int fo), .val (.int fc), .val (.int ft), .val (.int fi), .val (.int fg), .val (.int fn), .val (.ref b36), .val (.ref b38), .val (.ref b41), .val (.ref b45), .val (.ref b50), .val (.ref b56), .val (.ref b63), .val (.ref b71), .val cv, .val (.ref w78), .val (.ref w93), .unset, .unset, .unset, .unset, .unset, .unset, .unset, .unset, .unset, .unset, .unset, .unset, .unset, .unset, .unset, .unset, .unset, .unset, .unset, .unset] [])) _
        refine st112 _ ?_
        exact kt
      exact ⟨_, _, _, wE, .null, X112.mono (by decide) (by decide), eq112, N112, (Keep.refl _ []), (E_w.ext f111.2), (F_w.ext f111.2), (Or.inl ⟨hc110, rfl⟩), k113⟩
    · skip
      have f114 := (((f64.keep Kq71).keep Kq78).keep Kq93)
      have f115 := (((f65.keep Kq71).keep Kq78).keep Kq93)
      have f116 := (((f66.keep Kq71).keep Kq78).keep Kq93)
      have f117 := (((f67.keep Kq71).keep Kq78).keep Kq93)
      have f118 := (((f68.keep Kq71).keep Kq78).keep Kq93)
      have f119 := (((f69.keep Kq71).keep Kq78).keep Kq93)
      have f120 := (((gE63.keep Kq71).keep Kq78).keep Kq93)
      have f121 := ((gE71.keep Kq78).keep Kq93)
      have f122 := (gE78.keep Kq93)
      obtain ⟨_, _, ⟨T123, L123, kc123, ks123⟩, -, X123, ⟨Lc123, hQ123, l123, y123, z123⟩, st123⟩ := Jvm.LawKit.callS X93 hx (y := mn30) hown (mvT hZ (wd228 hw)) (mvT hZ (wd229 hw)) (mvT hZ (wd36 hw)) (mvT hZ (wd230 hw)) (by decide) (backOf (W := 0) (rmA7 l Z a0 hw [] b45 h93 n0 Z93 ) hZ (wd230 hw) (wd36 hw) (by decide) (by decide)) (g := (mkF m 213 #[.val (.int x0), .val (.int x1), .val (.int x2), .val (.int x3), .val (.int x4), .val (.int x5), .val (.int fm), .val (.int fo), .val (.int fc), .val (.int ft), .val (.int fi), .val (.int fg), .val (.int fn), .val (.ref b36), .val (.ref b38), .val (.ref b41), .val (.ref b45), .val (.ref b50), .val (.ref b56), .val (.ref b63), .val (.ref b71), .val cv, .val (.ref w78), .val (.ref w93), .unset, .unset, .unset, .unset, .unset, .unset, .unset, .unset, .unset, .unset, .unset, .unset, .unset, .unset, .unset, .unset, .unset, .unset, .unset, .unset] [(.ref b45)])) rfl (by rw [hml]; rfl) (argsL := [(.ref b45)]) (rest := []) (lenOf pd__Ljava_lang_Object__Ljava_util_Optional_ rfl) rfl (by show 2 * 0 + _ ≤ _; exact Nat.le_of_eq rfl) (hb hby at_213) (fun _ _ => ⟨rfl, e93, (by decide : 34 + 1 ≤ _), (by decide : 130 + 1 ≤ _)⟩)
      dsimp only [Pt.U, Pt.locs, Pt.cells, Pt.slots] at X123 l123 y123 z123 st123 hQ123
      subst l123 y123 z123
      obtain ⟨b123_0, rfl, Nq123, Kq123, sz123_0, g123_0, g123_1⟩ := hQ123
      have N123 := Fr.app Nq93 Nq123
      have CS123 := CHr.keep Kq123 all0 CR93.1
      have CR123 := CR93.trans CS123
      have hk123 : _ ≤ T123.heap.size := Nat.le_trans hk93 Kq123.1
      have Z123 : n0 ≤ T123.heap.size := Nat.le_trans Z93 Kq123.1
      have K123 : Keep h0 T123.heap [] := Keep.trans K93 Kq123 all0
      have ne_b36_b123_0 : b36 ≠ b123_0 := Nat.ne_of_lt (Nat.lt_of_lt_of_le f114.lt sz123_0)
      have ne_b38_b123_0 : b38 ≠ b123_0 := Nat.ne_of_lt (Nat.lt_of_lt_of_le f115.lt sz123_0)
      have ne_b41_b123_0 : b41 ≠ b123_0 := Nat.ne_of_lt (Nat.lt_of_lt_of_le f116.lt sz123_0)
      have ne_b45_b123_0 : b45 ≠ b123_0 := Nat.ne_of_lt (Nat.lt_of_lt_of_le f117.lt sz123_0)
      have ne_b50_b123_0 : b50 ≠ b123_0 := Nat.ne_of_lt (Nat.lt_of_lt_of_le f118.lt sz123_0)
      have ne_b56_b123_0 : b56 ≠ b123_0 := Nat.ne_of_lt (Nat.lt_of_lt_of_le f119.lt sz123_0)
      have ne_b63_b123_0 : b63 ≠ b123_0 := Nat.ne_of_lt (Nat.lt_of_lt_of_le f120.lt sz123_0)
      have ne_b71_b123_0 : b71 ≠ b123_0 := Nat.ne_of_lt (Nat.lt_of_lt_of_le f121.lt sz123_0)
      have ne_w78_b123_0 : w78 ≠ b123_0 := Nat.ne_of_lt (Nat.lt_of_lt_of_le f122.lt sz123_0)
      have ne_w93_b123_0 : w93 ≠ b123_0 := Nat.ne_of_lt (Nat.lt_of_lt_of_le gE93.lt sz123_0)
      have ge_b123_0 : n0 ≤ b123_0 := Nat.le_trans Z93 sz123_0
      have sz_b123_0 : h0.size ≤ b123_0 := Nat.le_trans K93.1 sz123_0
      have k124 : ∀ t, Steps p.tables e below (T123.setTop (mkF m 222 #[.val (.int x0), .val (.int x1), .val (.int x2), .val (.int x3), .val (.int x4), .val (.int x5), .val (.int fm), .val (.int fo), .val (.int fc), .val (.int ft), .val (.int fi), .val (.int fg), .val (.int fn), .val (.ref b36), .val (.ref b38), .val (.ref b41), .val (.ref b45), .val (.ref b50), .val (.ref b56), .val (.ref b63), .val (.ref b71), .val cv, .val (.ref w78), .val (.ref w93), .unset, .unset, .unset, .unset, .unset, .unset, .unset, .unset, .unset, .unset, .unset, .unset, .unset, .unset, .unset, .unset, .unset, .unset, .unset, .unset] [(.ref b123_0)])) t → Steps p.tables e below (s₁.setTop (entryFrame m #[(.int x0), (.int x1), (.int x2), (.int x3), (.int x4), (.int x5)] maxLocals)) t := by
        intro t kt
        refine k108 t ?_
        show Steps p.tables e below (T93.setTop (mkF m 208 #[.val (.int x0), .val (.int x1), .val (.int x2), .val (.int x3), .val (.int x4), .val (.int x5), .val (.int fm), .val (.int fo), .val (.int fc), .val (.int ft), .val (.int fi), .val (.int fg), .val (.int fn), .val (.ref b36), .val (.ref b38), .val (.ref b41), .val (.ref b45), .val (.ref b50), .val (.ref b56), .val (.ref b63), .val (.ref b71), .val cv, .val (.ref w78), .val (.ref w93), .unset, .unset, .unset, .unset, .unset, .unset, .unset, .unset, .unset, .unset, .unset, .unset, .unset, .unset, .unset, .unset, .unset, .unset, .unset, .unset] [(.int fc)])) _
        refine XS.ifNo X93.here hx rfl (hb hby at_208) rfl ((if0 _ _).trans (feq hc110).1) ?_
        refine XS.aload X93.here hx rfl (hb hby at_211) rfl rfl ?_
        show Steps p.tables e below (T93.setTop (mkF m 213 #[.val (.int x0), .val (.int x1), .val (.int x2), .val (.int x3), .val (.int x4), .val (.int x5), .val (.int fm), .val (.int fo), .val (.int fc), .val (.int ft), .val (.int fi), .val (.int fg), .val (.int fn), .val (.ref b36), .val (.ref b38), .val (.ref b41), .val (.ref b45), .val (.ref b50), .val (.ref b56), .val (.ref b63), .val (.ref b71), .val cv, .val (.ref w78), .val (.ref w93), .unset, .unset, .unset, .unset, .unset, .unset, .unset, .unset, .unset, .unset, .unset, .unset, .unset, .unset, .unset, .unset, .unset, .unset, .unset, .unset] [(.ref b45)])) _
        refine st123 _ ?_
        show Steps p.tables e below (T123.setTop (mkF m 216 #[.val (.int x0), .val (.int x1), .val (.int x2), .val (.int x3), .val (.int x4), .val (.int x5), .val (.int fm), .val (.int fo), .val (.int fc), .val (.int ft), .val (.int fi), .val (.int fg), .val (.int fn), .val (.ref b36), .val (.ref b38), .val (.ref b41), .val (.ref b45), .val (.ref b50), .val (.ref b56), .val (.ref b63), .val (.ref b71), .val cv, .val (.ref w78), .val (.ref w93), .unset, .unset, .unset, .unset, .unset, .unset, .unset, .unset, .unset, .unset, .unset, .unset, .unset, .unset, .unset, .unset, .unset, .unset, .unset, .unset] [(.ref b123_0)])) _
        refine XS.goto X123.here hx rfl (pc0 := 216) (pc' := 222) rfl (hb hby at_216) (by decide) (by decide) ?_
        exact kt
      exact ⟨_, _, _, b123_0, (.ref b45), X123.mono (by decide) (by decide), rfl, N123, Kq123, g123_0, g123_1, (Or.inr ⟨hj12.resolve_left hc110, rfl⟩), k124⟩
  have CS109 := CHr.keep Kq109 all0 CR93.1
  have CR109 := CR93.trans CS109
  have hk109 : _ ≤ h109.size := Nat.le_trans hk93 Kq109.1
  have Z109 : n0 ≤ h109.size := Nat.le_trans Z93 Kq109.1
  have K109 : Keep h0 h109 [] := Keep.trans K93 Kq109 all0
  have r_vv109 : vv109.isRef = true := by rcases hv109 with ⟨_, q⟩ | ⟨_, q⟩ <;> rw [q] <;> rfl
  have k125 : ∀ t, Steps p.tables e below (T109.setTop (mkF m 226 #[.val (.int x0), .val (.int x1), .val (.int x2), .val (.int x3), .val (.int x4), .val (.int x5), .val (.int fm), .val (.int fo), .val (.int fc), .val (.int ft), .val (.int fi), .val (.int fg), .val (.int fn), .val (.ref b36), .val (.ref b38), .val (.ref b41), .val (.ref b45), .val (.ref b50), .val (.ref b56), .val (.ref b63), .val (.ref b71), .val cv, .val (.ref w78), .val (.ref w93), .val (.ref w109), .unset, .unset, .unset, .unset, .unset, .unset, .unset, .unset, .unset, .unset, .unset, .unset, .unset, .unset, .unset, .unset, .unset, .unset, .unset] [(.int ft)])) t → Steps p.tables e below (s₁.setTop (entryFrame m #[(.int x0), (.int x1), (.int x2), (.int x3), (.int x4), (.int x5)] maxLocals)) t := by
    intro t kt
    refine k109 t ?_
    show Steps p.tables e below (T109.setTop (mkF m 222 #[.val (.int x0), .val (.int x1), .val (.int x2), .val (.int x3), .val (.int x4), .val (.int x5), .val (.int fm), .val (.int fo), .val (.int fc), .val (.int ft), .val (.int fi), .val (.int fg), .val (.int fn), .val (.ref b36), .val (.ref b38), .val (.ref b41), .val (.ref b45), .val (.ref b50), .val (.ref b56), .val (.ref b63), .val (.ref b71), .val cv, .val (.ref w78), .val (.ref w93), .unset, .unset, .unset, .unset, .unset, .unset, .unset, .unset, .unset, .unset, .unset, .unset, .unset, .unset, .unset, .unset, .unset, .unset, .unset, .unset] [(.ref w109)])) _
    refine XS.astore X109.here hx rfl (hb hby at_222) rfl rfl (l' := #[.val (.int x0), .val (.int x1), .val (.int x2), .val (.int x3), .val (.int x4), .val (.int x5), .val (.int fm), .val (.int fo), .val (.int fc), .val (.int ft), .val (.int fi), .val (.int fg), .val (.int fn), .val (.ref b36), .val (.ref b38), .val (.ref b41), .val (.ref b45), .val (.ref b50), .val (.ref b56), .val (.ref b63), .val (.ref b71), .val cv, .val (.ref w78), .val (.ref w93), .val (.ref w109), .unset, .unset, .unset, .unset, .unset, .unset, .unset, .unset, .unset, .unset, .unset, .unset, .unset, .unset, .unset, .unset, .unset, .unset, .unset]) rfl ?_
    refine XS.iload X109.here hx rfl (hb hby at_224) rfl ?_
    exact kt
  obtain ⟨T126, h126, Lj126, w126, vv126, X126, e126, Nq126, Kq126, gE126, gF126, hv126, k126⟩ : ∃ (T' : State) (h' : Heap) (L' : List Loc) (w126 : Addr) (vv126 : Value), Stand p l e room_1 (s.setVm s.vm) m #[(.int x0), (.int x1), (.int x2), (.int x3), (.int x4), (.int x5)] below meth c T' L' 36 132 ∧ T'.heap = h' ∧ Fr n0 L' ∧ Keep h109 h' [] ∧ Exa Z h' w126 "java/util/Optional" ∧ Fld Z h' w126 "java/util/Optional" "value" "Ljava/lang/Object;" vv126 ∧ ((ft = (0 : Int32) ∧ vv126 = .null) ∨ (ft = (1 : Int32) ∧ vv126 = .ref b50)) ∧ ∀ t, Steps p.tables e below (T'.setTop (mkF m 240 #[.val (.int x0), .val (.int x1), .val (.int x2), .val (.int x3), .val (.int x4), .val (.int x5), .val (.int fm), .val (.int fo), .val (.int fc), .val (.int ft), .val (.int fi), .val (.int fg), .val (.int fn), .val (.ref b36), .val (.ref b38), .val (.ref b41), .val (.ref b45), .val (.ref b50), .val (.ref b56), .val (.ref b63), .val (.ref b71), .val cv, .val (.ref w78), .val (.ref w93), .val (.ref w109), .unset, .unset, .unset, .unset, .unset, .unset, .unset, .unset, .unset, .unset, .unset, .unset, .unset, .unset, .unset, .unset, .unset, .unset, .unset] [(.ref w126)])) t → Steps p.tables e below (s₁.setTop (entryFrame m #[(.int x0), (.int x1), (.int x2), (.int x3), (.int x4), (.int x5)] maxLocals)) t := by
    by_cases hc127 : ft = (0 : Int32)
    · skip
      have f128 := ((((f70.keep Kq71 all0).keep Kq78 all0).keep Kq93 all0).keep Kq109 all0)
      obtain ⟨_, _, ⟨T129, L129, kc129, ks129⟩, -, X129, ⟨Lc129, hQ129, l129, y129, z129⟩, st129⟩ := Jvm.LawKit.callS X109 hx (y := mn27) hown (mvT hZ (wd34 hw)) (mvT hZ (wd35 hw)) (mvT hZ (wd36 hw)) (mvT hZ (wd37 hw)) (by decide) (backOf (W := 0) (rmA6 l Z a0 hw [] wE h109 n0 Z109 S_E f128) hZ (wd37 hw) (wd36 hw) (by decide) (by decide)) (g := (mkF m 237 #[.val (.int x0), .val (.int x1), .val (.int x2), .val (.int x3), .val (.int x4), .val (.int x5), .val (.int fm), .val (.int fo), .val (.int fc), .val (.int ft), .val (.int fi), .val (.int fg), .val (.int fn), .val (.ref b36), .val (.ref b38), .val (.ref b41), .val (.ref b45), .val (.ref b50), .val (.ref b56), .val (.ref b63), .val (.ref b71), .val cv, .val (.ref w78), .val (.ref w93), .val (.ref w109), .unset, .unset, .unset, .unset, .unset, .unset, .unset, .unset, .unset, .unset, .unset, .unset, .unset, .unset, .unset, .unset, .unset, .unset, .unset] [])) rfl (by rw [hml]; rfl) (argsL := []) (rest := []) (lenOf pd___Ljava_util_Optional_ rfl) rfl (by show 2 * 0 + _ ≤ _; exact Nat.le_of_eq rfl) (hb hby at_237) (fun _ _ => ⟨rfl, e109, (by decide : 35 + 0 ≤ _), (by decide : 131 + 0 ≤ _)⟩)
      dsimp only [Pt.U, Pt.locs, Pt.cells, Pt.slots] at X129 l129 y129 z129 st129 hQ129
      subst l129 y129 z129
      obtain ⟨rfl, Nq129, eq129⟩ := hQ129
      have N129 := Fr.app Nq109 Nq129
      have k130 : ∀ t, Steps p.tables e below (T129.setTop (mkF m 240 #[.val (.int x0), .val (.int x1), .val (.int x2), .val (.int x3), .val (.int x4), .val (.int x5), .val (.int fm), .val (.int fo), .val (.int fc), .val (.int ft), .val (.int fi), .val (.int fg), .val (.int fn), .val (.ref b36), .val (.ref b38), .val (.ref b41), .val (.ref b45), .val (.ref b50), .val (.ref b56), .val (.ref b63), .val (.ref b71), .val cv, .val (.ref w78), .val (.ref w93), .val (.ref w109), .unset, .unset, .unset, .unset, .unset, .unset, .unset, .unset, .unset, .unset, .unset, .unset, .unset, .unset, .unset, .unset, .unset, .unset, .unset] [(.ref wE)])) t → Steps p.tables e below (s₁.setTop (entryFrame m #[(.int x0), (.int x1), (.int x2), (.int x3), (.int x4), (.int x5)] maxLocals)) t := by
        intro t kt
        refine k125 t ?_
        show Steps p.tables e below (T109.setTop (mkF m 226 #[.val (.int x0), .val (.int x1), .val (.int x2), .val (.int x3), .val (.int x4), .val (.int x5), .val (.int fm), .val (.int fo), .val (.int fc), .val (.int ft), .val (.int fi), .val (.int fg), .val (.int fn), .val (.ref b36), .val (.ref b38), .val (.ref b41), .val (.ref b45), .val (.ref b50), .val (.ref b56), .val (.ref b63), .val (.ref b71), .val cv, .val (.ref w78), .val (.ref w93), .val (.ref w109), .unset, .unset, .unset, .unset, .unset, .unset, .unset, .unset, .unset, .unset, .unset, .unset, .unset, .unset, .unset, .unset, .unset, .unset, .unset] [(.int ft)])) _
        refine XS.ifYes X109.here hx rfl (pc0 := 226) (pc' := 237) rfl (hb hby at_226) rfl ((if0 _ _).trans (teq hc127).1) (by decide) (by decide) ?_
        show Steps p.tables e below (T109.setTop (mkF m 237 #[.val (.int x0), .val (.int x1), .val (.int x2), .val (.int x3), .val (.int x4), .val (.int x5), .val (.int fm), .val (.int fo), .val (.int fc), .val (.int ft), .val (.int fi), .val (.int fg), .val (.int fn), .val (.ref b36), .val (.ref b38), .val (.ref b41), .val (.ref b45), .val (.ref b50), .val (.ref b56), .val (.ref b63), .val (.ref b71), .val cv, .val (.ref w78), .val (.ref w93), .val (.ref w109), .unset, .unset, .unset, .unset, .unset, .unset, .unset, .unset, .unset, .unset, .unset, .unset, .unset, .unset, .unset, .unset, .unset, .unset, .unset] [])) _
        refine st129 _ ?_
        exact kt
      exact ⟨_, _, _, wE, .null, X129.mono (by decide) (by decide), eq129, N129, (Keep.refl _ []), (E_w.ext f128.2), (F_w.ext f128.2), (Or.inl ⟨hc127, rfl⟩), k130⟩
    · skip
      have f131 := ((((f64.keep Kq71).keep Kq78).keep Kq93).keep Kq109)
      have f132 := ((((f65.keep Kq71).keep Kq78).keep Kq93).keep Kq109)
      have f133 := ((((f66.keep Kq71).keep Kq78).keep Kq93).keep Kq109)
      have f134 := ((((f67.keep Kq71).keep Kq78).keep Kq93).keep Kq109)
      have f135 := ((((f68.keep Kq71).keep Kq78).keep Kq93).keep Kq109)
      have f136 := ((((f69.keep Kq71).keep Kq78).keep Kq93).keep Kq109)
      have f137 := ((((gE63.keep Kq71).keep Kq78).keep Kq93).keep Kq109)
      have f138 := (((gE71.keep Kq78).keep Kq93).keep Kq109)
      have f139 := ((gE78.keep Kq93).keep Kq109)
      have f140 := (gE93.keep Kq109)
      obtain ⟨_, _, ⟨T141, L141, kc141, ks141⟩, -, X141, ⟨Lc141, hQ141, l141, y141, z141⟩, st141⟩ := Jvm.LawKit.callS X109 hx (y := mn30) hown (mvT hZ (wd228 hw)) (mvT hZ (wd229 hw)) (mvT hZ (wd36 hw)) (mvT hZ (wd230 hw)) (by decide) (backOf (W := 0) (rmA7 l Z a0 hw [] b50 h109 n0 Z109 ) hZ (wd230 hw) (wd36 hw) (by decide) (by decide)) (g := (mkF m 231 #[.val (.int x0), .val (.int x1), .val (.int x2), .val (.int x3), .val (.int x4), .val (.int x5), .val (.int fm), .val (.int fo), .val (.int fc), .val (.int ft), .val (.int fi), .val (.int fg), .val (.int fn), .val (.ref b36), .val (.ref b38), .val (.ref b41), .val (.ref b45), .val (.ref b50), .val (.ref b56), .val (.ref b63), .val (.ref b71), .val cv, .val (.ref w78), .val (.ref w93), .val (.ref w109), .unset, .unset, .unset, .unset, .unset, .unset, .unset, .unset, .unset, .unset, .unset, .unset, .unset, .unset, .unset, .unset, .unset, .unset, .unset] [(.ref b50)])) rfl (by rw [hml]; rfl) (argsL := [(.ref b50)]) (rest := []) (lenOf pd__Ljava_lang_Object__Ljava_util_Optional_ rfl) rfl (by show 2 * 0 + _ ≤ _; exact Nat.le_of_eq rfl) (hb hby at_231) (fun _ _ => ⟨rfl, e109, (by decide : 35 + 1 ≤ _), (by decide : 131 + 1 ≤ _)⟩)
      dsimp only [Pt.U, Pt.locs, Pt.cells, Pt.slots] at X141 l141 y141 z141 st141 hQ141
      subst l141 y141 z141
      obtain ⟨b141_0, rfl, Nq141, Kq141, sz141_0, g141_0, g141_1⟩ := hQ141
      have N141 := Fr.app Nq109 Nq141
      have CS141 := CHr.keep Kq141 all0 CR109.1
      have CR141 := CR109.trans CS141
      have hk141 : _ ≤ T141.heap.size := Nat.le_trans hk109 Kq141.1
      have Z141 : n0 ≤ T141.heap.size := Nat.le_trans Z109 Kq141.1
      have K141 : Keep h0 T141.heap [] := Keep.trans K109 Kq141 all0
      have ne_b36_b141_0 : b36 ≠ b141_0 := Nat.ne_of_lt (Nat.lt_of_lt_of_le f131.lt sz141_0)
      have ne_b38_b141_0 : b38 ≠ b141_0 := Nat.ne_of_lt (Nat.lt_of_lt_of_le f132.lt sz141_0)
      have ne_b41_b141_0 : b41 ≠ b141_0 := Nat.ne_of_lt (Nat.lt_of_lt_of_le f133.lt sz141_0)
      have ne_b45_b141_0 : b45 ≠ b141_0 := Nat.ne_of_lt (Nat.lt_of_lt_of_le f134.lt sz141_0)
      have ne_b50_b141_0 : b50 ≠ b141_0 := Nat.ne_of_lt (Nat.lt_of_lt_of_le f135.lt sz141_0)
      have ne_b56_b141_0 : b56 ≠ b141_0 := Nat.ne_of_lt (Nat.lt_of_lt_of_le f136.lt sz141_0)
      have ne_b63_b141_0 : b63 ≠ b141_0 := Nat.ne_of_lt (Nat.lt_of_lt_of_le f137.lt sz141_0)
      have ne_b71_b141_0 : b71 ≠ b141_0 := Nat.ne_of_lt (Nat.lt_of_lt_of_le f138.lt sz141_0)
      have ne_w78_b141_0 : w78 ≠ b141_0 := Nat.ne_of_lt (Nat.lt_of_lt_of_le f139.lt sz141_0)
      have ne_w93_b141_0 : w93 ≠ b141_0 := Nat.ne_of_lt (Nat.lt_of_lt_of_le f140.lt sz141_0)
      have ne_w109_b141_0 : w109 ≠ b141_0 := Nat.ne_of_lt (Nat.lt_of_lt_of_le gE109.lt sz141_0)
      have ge_b141_0 : n0 ≤ b141_0 := Nat.le_trans Z109 sz141_0
      have sz_b141_0 : h0.size ≤ b141_0 := Nat.le_trans K109.1 sz141_0
      have k142 : ∀ t, Steps p.tables e below (T141.setTop (mkF m 240 #[.val (.int x0), .val (.int x1), .val (.int x2), .val (.int x3), .val (.int x4), .val (.int x5), .val (.int fm), .val (.int fo), .val (.int fc), .val (.int ft), .val (.int fi), .val (.int fg), .val (.int fn), .val (.ref b36), .val (.ref b38), .val (.ref b41), .val (.ref b45), .val (.ref b50), .val (.ref b56), .val (.ref b63), .val (.ref b71), .val cv, .val (.ref w78), .val (.ref w93), .val (.ref w109), .unset, .unset, .unset, .unset, .unset, .unset, .unset, .unset, .unset, .unset, .unset, .unset, .unset, .unset, .unset, .unset, .unset, .unset, .unset] [(.ref b141_0)])) t → Steps p.tables e below (s₁.setTop (entryFrame m #[(.int x0), (.int x1), (.int x2), (.int x3), (.int x4), (.int x5)] maxLocals)) t := by
        intro t kt
        refine k125 t ?_
        show Steps p.tables e below (T109.setTop (mkF m 226 #[.val (.int x0), .val (.int x1), .val (.int x2), .val (.int x3), .val (.int x4), .val (.int x5), .val (.int fm), .val (.int fo), .val (.int fc), .val (.int ft), .val (.int fi), .val (.int fg), .val (.int fn), .val (.ref b36), .val (.ref b38), .val (.ref b41), .val (.ref b45), .val (.ref b50), .val (.ref b56), .val (.ref b63), .val (.ref b71), .val cv, .val (.ref w78), .val (.ref w93), .val (.ref w109), .unset, .unset, .unset, .unset, .unset, .unset, .unset, .unset, .unset, .unset, .unset, .unset, .unset, .unset, .unset, .unset, .unset, .unset, .unset] [(.int ft)])) _
        refine XS.ifNo X109.here hx rfl (hb hby at_226) rfl ((if0 _ _).trans (feq hc127).1) ?_
        refine XS.aload X109.here hx rfl (hb hby at_229) rfl rfl ?_
        show Steps p.tables e below (T109.setTop (mkF m 231 #[.val (.int x0), .val (.int x1), .val (.int x2), .val (.int x3), .val (.int x4), .val (.int x5), .val (.int fm), .val (.int fo), .val (.int fc), .val (.int ft), .val (.int fi), .val (.int fg), .val (.int fn), .val (.ref b36), .val (.ref b38), .val (.ref b41), .val (.ref b45), .val (.ref b50), .val (.ref b56), .val (.ref b63), .val (.ref b71), .val cv, .val (.ref w78), .val (.ref w93), .val (.ref w109), .unset, .unset, .unset, .unset, .unset, .unset, .unset, .unset, .unset, .unset, .unset, .unset, .unset, .unset, .unset, .unset, .unset, .unset, .unset] [(.ref b50)])) _
        refine st141 _ ?_
        show Steps p.tables e below (T141.setTop (mkF m 234 #[.val (.int x0), .val (.int x1), .val (.int x2), .val (.int x3), .val (.int x4), .val (.int x5), .val (.int fm), .val (.int fo), .val (.int fc), .val (.int ft), .val (.int fi), .val (.int fg), .val (.int fn), .val (.ref b36), .val (.ref b38), .val (.ref b41), .val (.ref b45), .val (.ref b50), .val (.ref b56), .val (.ref b63), .val (.ref b71), .val cv, .val (.ref w78), .val (.ref w93), .val (.ref w109), .unset, .unset, .unset, .unset, .unset, .unset, .unset, .unset, .unset, .unset, .unset, .unset, .unset, .unset, .unset, .unset, .unset, .unset, .unset] [(.ref b141_0)])) _
        refine XS.goto X141.here hx rfl (pc0 := 234) (pc' := 240) rfl (hb hby at_234) (by decide) (by decide) ?_
        exact kt
      exact ⟨_, _, _, b141_0, (.ref b50), X141.mono (by decide) (by decide), rfl, N141, Kq141, g141_0, g141_1, (Or.inr ⟨hj17.resolve_left hc127, rfl⟩), k142⟩
  have CS126 := CHr.keep Kq126 all0 CR109.1
  have CR126 := CR109.trans CS126
  have hk126 : _ ≤ h126.size := Nat.le_trans hk109 Kq126.1
  have Z126 : n0 ≤ h126.size := Nat.le_trans Z109 Kq126.1
  have K126 : Keep h0 h126 [] := Keep.trans K109 Kq126 all0
  have r_vv126 : vv126.isRef = true := by rcases hv126 with ⟨_, q⟩ | ⟨_, q⟩ <;> rw [q] <;> rfl
  have k143 : ∀ t, Steps p.tables e below (T126.setTop (mkF m 244 #[.val (.int x0), .val (.int x1), .val (.int x2), .val (.int x3), .val (.int x4), .val (.int x5), .val (.int fm), .val (.int fo), .val (.int fc), .val (.int ft), .val (.int fi), .val (.int fg), .val (.int fn), .val (.ref b36), .val (.ref b38), .val (.ref b41), .val (.ref b45), .val (.ref b50), .val (.ref b56), .val (.ref b63), .val (.ref b71), .val cv, .val (.ref w78), .val (.ref w93), .val (.ref w109), .val (.ref w126), .unset, .unset, .unset, .unset, .unset, .unset, .unset, .unset, .unset, .unset, .unset, .unset, .unset, .unset, .unset, .unset, .unset, .unset] [(.int fi)])) t → Steps p.tables e below (s₁.setTop (entryFrame m #[(.int x0), (.int x1), (.int x2), (.int x3), (.int x4), (.int x5)] maxLocals)) t := by
    intro t kt
    refine k126 t ?_
    show Steps p.tables e below (T126.setTop (mkF m 240 #[.val (.int x0), .val (.int x1), .val (.int x2), .val (.int x3), .val (.int x4), .val (.int x5), .val (.int fm), .val (.int fo), .val (.int fc), .val (.int ft), .val (.int fi), .val (.int fg), .val (.int fn), .val (.ref b36), .val (.ref b38), .val (.ref b41), .val (.ref b45), .val (.ref b50), .val (.ref b56), .val (.ref b63), .val (.ref b71), .val cv, .val (.ref w78), .val (.ref w93), .val (.ref w109), .unset, .unset, .unset, .unset, .unset, .unset, .unset, .unset, .unset, .unset, .unset, .unset, .unset, .unset, .unset, .unset, .unset, .unset, .unset] [(.ref w126)])) _
    refine XS.astore X126.here hx rfl (hb hby at_240) rfl rfl (l' := #[.val (.int x0), .val (.int x1), .val (.int x2), .val (.int x3), .val (.int x4), .val (.int x5), .val (.int fm), .val (.int fo), .val (.int fc), .val (.int ft), .val (.int fi), .val (.int fg), .val (.int fn), .val (.ref b36), .val (.ref b38), .val (.ref b41), .val (.ref b45), .val (.ref b50), .val (.ref b56), .val (.ref b63), .val (.ref b71), .val cv, .val (.ref w78), .val (.ref w93), .val (.ref w109), .val (.ref w126), .unset, .unset, .unset, .unset, .unset, .unset, .unset, .unset, .unset, .unset, .unset, .unset, .unset, .unset, .unset, .unset, .unset, .unset]) rfl ?_
    refine XS.iload X126.here hx rfl (hb hby at_242) rfl ?_
    exact kt
  obtain ⟨T144, h144, Lj144, w144, vv144, X144, e144, Nq144, Kq144, gE144, gF144, hv144, k144⟩ : ∃ (T' : State) (h' : Heap) (L' : List Loc) (w144 : Addr) (vv144 : Value), Stand p l e room_1 (s.setVm s.vm) m #[(.int x0), (.int x1), (.int x2), (.int x3), (.int x4), (.int x5)] below meth c T' L' 37 133 ∧ T'.heap = h' ∧ Fr n0 L' ∧ Keep h126 h' [] ∧ Exa Z h' w144 "java/util/Optional" ∧ Fld Z h' w144 "java/util/Optional" "value" "Ljava/lang/Object;" vv144 ∧ ((fi = (0 : Int32) ∧ vv144 = .null) ∨ (fi = (1 : Int32) ∧ vv144 = .ref b56)) ∧ ∀ t, Steps p.tables e below (T'.setTop (mkF m 258 #[.val (.int x0), .val (.int x1), .val (.int x2), .val (.int x3), .val (.int x4), .val (.int x5), .val (.int fm), .val (.int fo), .val (.int fc), .val (.int ft), .val (.int fi), .val (.int fg), .val (.int fn), .val (.ref b36), .val (.ref b38), .val (.ref b41), .val (.ref b45), .val (.ref b50), .val (.ref b56), .val (.ref b63), .val (.ref b71), .val cv, .val (.ref w78), .val (.ref w93), .val (.ref w109), .val (.ref w126), .unset, .unset, .unset, .unset, .unset, .unset, .unset, .unset, .unset, .unset, .unset, .unset, .unset, .unset, .unset, .unset, .unset, .unset] [(.ref w144)])) t → Steps p.tables e below (s₁.setTop (entryFrame m #[(.int x0), (.int x1), (.int x2), (.int x3), (.int x4), (.int x5)] maxLocals)) t := by
    by_cases hc145 : fi = (0 : Int32)
    · skip
      have f146 := (((((f70.keep Kq71 all0).keep Kq78 all0).keep Kq93 all0).keep Kq109 all0).keep Kq126 all0)
      obtain ⟨_, _, ⟨T147, L147, kc147, ks147⟩, -, X147, ⟨Lc147, hQ147, l147, y147, z147⟩, st147⟩ := Jvm.LawKit.callS X126 hx (y := mn27) hown (mvT hZ (wd34 hw)) (mvT hZ (wd35 hw)) (mvT hZ (wd36 hw)) (mvT hZ (wd37 hw)) (by decide) (backOf (W := 0) (rmA6 l Z a0 hw [] wE h126 n0 Z126 S_E f146) hZ (wd37 hw) (wd36 hw) (by decide) (by decide)) (g := (mkF m 255 #[.val (.int x0), .val (.int x1), .val (.int x2), .val (.int x3), .val (.int x4), .val (.int x5), .val (.int fm), .val (.int fo), .val (.int fc), .val (.int ft), .val (.int fi), .val (.int fg), .val (.int fn), .val (.ref b36), .val (.ref b38), .val (.ref b41), .val (.ref b45), .val (.ref b50), .val (.ref b56), .val (.ref b63), .val (.ref b71), .val cv, .val (.ref w78), .val (.ref w93), .val (.ref w109), .val (.ref w126), .unset, .unset, .unset, .unset, .unset, .unset, .unset, .unset, .unset, .unset, .unset, .unset, .unset, .unset, .unset, .unset, .unset, .unset] [])) rfl (by rw [hml]; rfl) (argsL := []) (rest := []) (lenOf pd___Ljava_util_Optional_ rfl) rfl (by show 2 * 0 + _ ≤ _; exact Nat.le_of_eq rfl) (hb hby at_255) (fun _ _ => ⟨rfl, e126, (by decide : 36 + 0 ≤ _), (by decide : 132 + 0 ≤ _)⟩)
      dsimp only [Pt.U, Pt.locs, Pt.cells, Pt.slots] at X147 l147 y147 z147 st147 hQ147
      subst l147 y147 z147
      obtain ⟨rfl, Nq147, eq147⟩ := hQ147
      have N147 := Fr.app Nq126 Nq147
      have k148 : ∀ t, Steps p.tables e below (T147.setTop (mkF m 258 #[.val (.int x0), .val (.int x1), .val (.int x2), .val (.int x3), .val (.int x4), .val (.int x5), .val (.int fm), .val (.int fo), .val (.int fc), .val (.int ft), .val (.int fi), .val (.int fg), .val (.int fn), .val (.ref b36), .val (.ref b38), .val (.ref b41), .val (.ref b45), .val (.ref b50), .val (.ref b56), .val (.ref b63), .val (.ref b71), .val cv, .val (.ref w78), .val (.ref w93), .val (.ref w109), .val (.ref w126), .unset, .unset, .unset, .unset, .unset, .unset, .unset, .unset, .unset, .unset, .unset, .unset, .unset, .unset, .unset, .unset, .unset, .unset] [(.ref wE)])) t → Steps p.tables e below (s₁.setTop (entryFrame m #[(.int x0), (.int x1), (.int x2), (.int x3), (.int x4), (.int x5)] maxLocals)) t := by
        intro t kt
        refine k143 t ?_
        show Steps p.tables e below (T126.setTop (mkF m 244 #[.val (.int x0), .val (.int x1), .val (.int x2), .val (.int x3), .val (.int x4), .val (.int x5), .val (.int fm), .val (.int fo), .val (.int fc), .val (.int ft), .val (.int fi), .val (.int fg), .val (.int fn), .val (.ref b36), .val (.ref b38), .val (.ref b41), .val (.ref b45), .val (.ref b50), .val (.ref b56), .val (.ref b63), .val (.ref b71), .val cv, .val (.ref w78), .val (.ref w93), .val (.ref w109), .val (.ref w126), .unset, .unset, .unset, .unset, .unset, .unset, .unset, .unset, .unset, .unset, .unset, .unset, .unset, .unset, .unset, .unset, .unset, .unset] [(.int fi)])) _
        refine XS.ifYes X126.here hx rfl (pc0 := 244) (pc' := 255) rfl (hb hby at_244) rfl ((if0 _ _).trans (teq hc145).1) (by decide) (by decide) ?_
        show Steps p.tables e below (T126.setTop (mkF m 255 #[.val (.int x0), .val (.int x1), .val (.int x2), .val (.int x3), .val (.int x4), .val (.int x5), .val (.int fm), .val (.int fo), .val (.int fc), .val (.int ft), .val (.int fi), .val (.int fg), .val (.int fn), .val (.ref b36), .val (.ref b38), .val (.ref b41), .val (.ref b45), .val (.ref b50), .val (.ref b56), .val (.ref b63), .val (.ref b71), .val cv, .val (.ref w78), .val (.ref w93), .val (.ref w109), .val (.ref w126), .unset, .unset, .unset, .unset, .unset, .unset, .unset, .unset, .unset, .unset, .unset, .unset, .unset, .unset, .unset, .unset, .unset, .unset] [])) _
        refine st147 _ ?_
        exact kt
      exact ⟨_, _, _, wE, .null, X147.mono (by decide) (by decide), eq147, N147, (Keep.refl _ []), (E_w.ext f146.2), (F_w.ext f146.2), (Or.inl ⟨hc145, rfl⟩), k148⟩
    · skip
      have f149 := (((((f64.keep Kq71).keep Kq78).keep Kq93).keep Kq109).keep Kq126)
      have f150 := (((((f65.keep Kq71).keep Kq78).keep Kq93).keep Kq109).keep Kq126)
      have f151 := (((((f66.keep Kq71).keep Kq78).keep Kq93).keep Kq109).keep Kq126)
      have f152 := (((((f67.keep Kq71).keep Kq78).keep Kq93).keep Kq109).keep Kq126)
      have f153 := (((((f68.keep Kq71).keep Kq78).keep Kq93).keep Kq109).keep Kq126)
      have f154 := (((((f69.keep Kq71).keep Kq78).keep Kq93).keep Kq109).keep Kq126)
      have f155 := (((((gE63.keep Kq71).keep Kq78).keep Kq93).keep Kq109).keep Kq126)
      have f156 := ((((gE71.keep Kq78).keep Kq93).keep Kq109).keep Kq126)
      have f157 := (((gE78.keep Kq93).keep Kq109).keep Kq126)
      have f158 := ((gE93.keep Kq109).keep Kq126)
      have f159 := (gE109.keep Kq126)
      obtain ⟨_, _, ⟨T160, L160, kc160, ks160⟩, -, X160, ⟨Lc160, hQ160, l160, y160, z160⟩, st160⟩ := Jvm.LawKit.callS X126 hx (y := mn30) hown (mvT hZ (wd228 hw)) (mvT hZ (wd229 hw)) (mvT hZ (wd36 hw)) (mvT hZ (wd230 hw)) (by decide) (backOf (W := 0) (rmA7 l Z a0 hw [] b56 h126 n0 Z126 ) hZ (wd230 hw) (wd36 hw) (by decide) (by decide)) (g := (mkF m 249 #[.val (.int x0), .val (.int x1), .val (.int x2), .val (.int x3), .val (.int x4), .val (.int x5), .val (.int fm), .val (.int fo), .val (.int fc), .val (.int ft), .val (.int fi), .val (.int fg), .val (.int fn), .val (.ref b36), .val (.ref b38), .val (.ref b41), .val (.ref b45), .val (.ref b50), .val (.ref b56), .val (.ref b63), .val (.ref b71), .val cv, .val (.ref w78), .val (.ref w93), .val (.ref w109), .val (.ref w126), .unset, .unset, .unset, .unset, .unset, .unset, .unset, .unset, .unset, .unset, .unset, .unset, .unset, .unset, .unset, .unset, .unset, .unset] [(.ref b56)])) rfl (by rw [hml]; rfl) (argsL := [(.ref b56)]) (rest := []) (lenOf pd__Ljava_lang_Object__Ljava_util_Optional_ rfl) rfl (by show 2 * 0 + _ ≤ _; exact Nat.le_of_eq rfl) (hb hby at_249) (fun _ _ => ⟨rfl, e126, (by decide : 36 + 1 ≤ _), (by decide : 132 + 1 ≤ _)⟩)
      dsimp only [Pt.U, Pt.locs, Pt.cells, Pt.slots] at X160 l160 y160 z160 st160 hQ160
      subst l160 y160 z160
      obtain ⟨b160_0, rfl, Nq160, Kq160, sz160_0, g160_0, g160_1⟩ := hQ160
      have N160 := Fr.app Nq126 Nq160
      have CS160 := CHr.keep Kq160 all0 CR126.1
      have CR160 := CR126.trans CS160
      have hk160 : _ ≤ T160.heap.size := Nat.le_trans hk126 Kq160.1
      have Z160 : n0 ≤ T160.heap.size := Nat.le_trans Z126 Kq160.1
      have K160 : Keep h0 T160.heap [] := Keep.trans K126 Kq160 all0
      have ne_b36_b160_0 : b36 ≠ b160_0 := Nat.ne_of_lt (Nat.lt_of_lt_of_le f149.lt sz160_0)
      have ne_b38_b160_0 : b38 ≠ b160_0 := Nat.ne_of_lt (Nat.lt_of_lt_of_le f150.lt sz160_0)
      have ne_b41_b160_0 : b41 ≠ b160_0 := Nat.ne_of_lt (Nat.lt_of_lt_of_le f151.lt sz160_0)
      have ne_b45_b160_0 : b45 ≠ b160_0 := Nat.ne_of_lt (Nat.lt_of_lt_of_le f152.lt sz160_0)
      have ne_b50_b160_0 : b50 ≠ b160_0 := Nat.ne_of_lt (Nat.lt_of_lt_of_le f153.lt sz160_0)
      have ne_b56_b160_0 : b56 ≠ b160_0 := Nat.ne_of_lt (Nat.lt_of_lt_of_le f154.lt sz160_0)
      have ne_b63_b160_0 : b63 ≠ b160_0 := Nat.ne_of_lt (Nat.lt_of_lt_of_le f155.lt sz160_0)
      have ne_b71_b160_0 : b71 ≠ b160_0 := Nat.ne_of_lt (Nat.lt_of_lt_of_le f156.lt sz160_0)
      have ne_w78_b160_0 : w78 ≠ b160_0 := Nat.ne_of_lt (Nat.lt_of_lt_of_le f157.lt sz160_0)
      have ne_w93_b160_0 : w93 ≠ b160_0 := Nat.ne_of_lt (Nat.lt_of_lt_of_le f158.lt sz160_0)
      have ne_w109_b160_0 : w109 ≠ b160_0 := Nat.ne_of_lt (Nat.lt_of_lt_of_le f159.lt sz160_0)
      have ne_w126_b160_0 : w126 ≠ b160_0 := Nat.ne_of_lt (Nat.lt_of_lt_of_le gE126.lt sz160_0)
      have ge_b160_0 : n0 ≤ b160_0 := Nat.le_trans Z126 sz160_0
      have sz_b160_0 : h0.size ≤ b160_0 := Nat.le_trans K126.1 sz160_0
      have k161 : ∀ t, Steps p.tables e below (T160.setTop (mkF m 258 #[.val (.int x0), .val (.int x1), .val (.int x2), .val (.int x3), .val (.int x4), .val (.int x5), .val (.int fm), .val (.int fo), .val (.int fc), .val (.int ft), .val (.int fi), .val (.int fg), .val (.int fn), .val (.ref b36), .val (.ref b38), .val (.ref b41), .val (.ref b45), .val (.ref b50), .val (.ref b56), .val (.ref b63), .val (.ref b71), .val cv, .val (.ref w78), .val (.ref w93), .val (.ref w109), .val (.ref w126), .unset, .unset, .unset, .unset, .unset, .unset, .unset, .unset, .unset, .unset, .unset, .unset, .unset, .unset, .unset, .unset, .unset, .unset] [(.ref b160_0)])) t → Steps p.tables e below (s₁.setTop (entryFrame m #[(.int x0), (.int x1), (.int x2), (.int x3), (.int x4), (.int x5)] maxLocals)) t := by
        intro t kt
        refine k143 t ?_
        show Steps p.tables e below (T126.setTop (mkF m 244 #[.val (.int x0), .val (.int x1), .val (.int x2), .val (.int x3), .val (.int x4), .val (.int x5), .val (.int fm), .val (.int fo), .val (.int fc), .val (.int ft), .val (.int fi), .val (.int fg), .val (.int fn), .val (.ref b36), .val (.ref b38), .val (.ref b41), .val (.ref b45), .val (.ref b50), .val (.ref b56), .val (.ref b63), .val (.ref b71), .val cv, .val (.ref w78), .val (.ref w93), .val (.ref w109), .val (.ref w126), .unset, .unset, .unset, .unset, .unset, .unset, .unset, .unset, .unset, .unset, .unset, .unset, .unset, .unset, .unset, .unset, .unset, .unset] [(.int fi)])) _
        refine XS.ifNo X126.here hx rfl (hb hby at_244) rfl ((if0 _ _).trans (feq hc145).1) ?_
        show Steps p.tables e below (T126.setTop (mkF m 247 #[.val (.int x0), .val (.int x1), .val (.int x2), .val (.int x3), .val (.int x4), .val (.int x5), .val (.int fm), .val (.int fo), .val (.int fc), .val (.int ft), .val (.int fi), .val (.int fg), .val (.int fn), .val (.ref b36), .val (.ref b38), .val (.ref b41), .val (.ref b45), .val (.ref b50), .val (.ref b56), .val (.ref b63), .val (.ref b71), .val cv, .val (.ref w78), .val (.ref w93), .val (.ref w109), .val (.ref w126), .unset, .unset, .unset, .unset, .unset, .unset, .unset, .unset, .unset, .unset, .unset, .unset, .unset, .unset, .unset, .unset, .unset, .unset] [])) _
        refine XS.aload X126.here hx rfl (hb hby at_247) rfl rfl ?_
        show Steps p.tables e below (T126.setTop (mkF m 249 #[.val (.int x0), .val (.int x1), .val (.int x2), .val (.int x3), .val (.int x4), .val (.int x5), .val (.int fm), .val (.int fo), .val (.int fc), .val (.int ft), .val (.int fi), .val (.int fg), .val (.int fn), .val (.ref b36), .val (.ref b38), .val (.ref b41), .val (.ref b45), .val (.ref b50), .val (.ref b56), .val (.ref b63), .val (.ref b71), .val cv, .val (.ref w78), .val (.ref w93), .val (.ref w109), .val (.ref w126), .unset, .unset, .unset, .unset, .unset, .unset, .unset, .unset, .unset, .unset, .unset, .unset, .unset, .unset, .unset, .unset, .unset, .unset] [(.ref b56)])) _
        refine st160 _ ?_
        show Steps p.tables e below (T160.setTop (mkF m 252 #[.val (.int x0), .val (.int x1), .val (.int x2), .val (.int x3), .val (.int x4), .val (.int x5), .val (.int fm), .val (.int fo), .val (.int fc), .val (.int ft), .val (.int fi), .val (.int fg), .val (.int fn), .val (.ref b36), .val (.ref b38), .val (.ref b41), .val (.ref b45), .val (.ref b50), .val (.ref b56), .val (.ref b63), .val (.ref b71), .val cv, .val (.ref w78), .val (.ref w93), .val (.ref w109), .val (.ref w126), .unset, .unset, .unset, .unset, .unset, .unset, .unset, .unset, .unset, .unset, .unset, .unset, .unset, .unset, .unset, .unset, .unset, .unset] [(.ref b160_0)])) _
        refine XS.goto X160.here hx rfl (pc0 := 252) (pc' := 258) rfl (hb hby at_252) (by decide) (by decide) ?_
        exact kt
      exact ⟨_, _, _, b160_0, (.ref b56), X160.mono (by decide) (by decide), rfl, N160, Kq160, g160_0, g160_1, (Or.inr ⟨hj22.resolve_left hc145, rfl⟩), k161⟩
  have CS144 := CHr.keep Kq144 all0 CR126.1
  have CR144 := CR126.trans CS144
  have hk144 : _ ≤ h144.size := Nat.le_trans hk126 Kq144.1
  have Z144 : n0 ≤ h144.size := Nat.le_trans Z126 Kq144.1
  have K144 : Keep h0 h144 [] := Keep.trans K126 Kq144 all0
  have r_vv144 : vv144.isRef = true := by rcases hv144 with ⟨_, q⟩ | ⟨_, q⟩ <;> rw [q] <;> rfl
  have k162 : ∀ t, Steps p.tables e below (T144.setTop (mkF m 265 #[.val (.int x0), .val (.int x1), .val (.int x2), .val (.int x3), .val (.int x4), .val (.int x5), .val (.int fm), .val (.int fo), .val (.int fc), .val (.int ft), .val (.int fi), .val (.int fg), .val (.int fn), .val (.ref b36), .val (.ref b38), .val (.ref b41), .val (.ref b45), .val (.ref b50), .val (.ref b56), .val (.ref b63), .val (.ref b71), .val cv, .val (.ref w78), .val (.ref w93), .val (.ref w109), .val (.ref w126), .val (.ref w144), .val .null, .unset, .unset, .unset, .unset, .unset, .unset, .unset, .unset, .unset, .unset, .unset, .unset, .unset, .unset, .unset, .unset] [(.int fg)])) t → Steps p.tables e below (s₁.setTop (entryFrame m #[(.int x0), (.int x1), (.int x2), (.int x3), (.int x4), (.int x5)] maxLocals)) t := by
    intro t kt
    refine k144 t ?_
    show Steps p.tables e below (T144.setTop (mkF m 258 #[.val (.int x0), .val (.int x1), .val (.int x2), .val (.int x3), .val (.int x4), .val (.int x5), .val (.int fm), .val (.int fo), .val (.int fc), .val (.int ft), .val (.int fi), .val (.int fg), .val (.int fn), .val (.ref b36), .val (.ref b38), .val (.ref b41), .val (.ref b45), .val (.ref b50), .val (.ref b56), .val (.ref b63), .val (.ref b71), .val cv, .val (.ref w78), .val (.ref w93), .val (.ref w109), .val (.ref w126), .unset, .unset, .unset, .unset, .unset, .unset, .unset, .unset, .unset, .unset, .unset, .unset, .unset, .unset, .unset, .unset, .unset, .unset] [(.ref w144)])) _
    refine XS.astore X144.here hx rfl (hb hby at_258) rfl rfl (l' := #[.val (.int x0), .val (.int x1), .val (.int x2), .val (.int x3), .val (.int x4), .val (.int x5), .val (.int fm), .val (.int fo), .val (.int fc), .val (.int ft), .val (.int fi), .val (.int fg), .val (.int fn), .val (.ref b36), .val (.ref b38), .val (.ref b41), .val (.ref b45), .val (.ref b50), .val (.ref b56), .val (.ref b63), .val (.ref b71), .val cv, .val (.ref w78), .val (.ref w93), .val (.ref w109), .val (.ref w126), .val (.ref w144), .unset, .unset, .unset, .unset, .unset, .unset, .unset, .unset, .unset, .unset, .unset, .unset, .unset, .unset, .unset, .unset, .unset]) rfl ?_
    show Steps p.tables e below (T144.setTop (mkF m 260 #[.val (.int x0), .val (.int x1), .val (.int x2), .val (.int x3), .val (.int x4), .val (.int x5), .val (.int fm), .val (.int fo), .val (.int fc), .val (.int ft), .val (.int fi), .val (.int fg), .val (.int fn), .val (.ref b36), .val (.ref b38), .val (.ref b41), .val (.ref b45), .val (.ref b50), .val (.ref b56), .val (.ref b63), .val (.ref b71), .val cv, .val (.ref w78), .val (.ref w93), .val (.ref w109), .val (.ref w126), .val (.ref w144), .unset, .unset, .unset, .unset, .unset, .unset, .unset, .unset, .unset, .unset, .unset, .unset, .unset, .unset, .unset, .unset, .unset] [])) _
    refine XS.aconstNull X144.here hx rfl (hb hby at_260) ?_
    refine XS.astore X144.here hx rfl (hb hby at_261) rfl rfl (l' := #[.val (.int x0), .val (.int x1), .val (.int x2), .val (.int x3), .val (.int x4), .val (.int x5), .val (.int fm), .val (.int fo), .val (.int fc), .val (.int ft), .val (.int fi), .val (.int fg), .val (.int fn), .val (.ref b36), .val (.ref b38), .val (.ref b41), .val (.ref b45), .val (.ref b50), .val (.ref b56), .val (.ref b63), .val (.ref b71), .val cv, .val (.ref w78), .val (.ref w93), .val (.ref w109), .val (.ref w126), .val (.ref w144), .val .null, .unset, .unset, .unset, .unset, .unset, .unset, .unset, .unset, .unset, .unset, .unset, .unset, .unset, .unset, .unset, .unset]) rfl ?_
    refine XS.iload X144.here hx rfl (hb hby at_263) rfl ?_
    exact kt
  by_cases hc163 : fg = (0 : Int32)
  · skip
    have f164 := ((((((f70.keep Kq71 all0).keep Kq78 all0).keep Kq93 all0).keep Kq109 all0).keep Kq126 all0).keep Kq144 all0)
    obtain ⟨_, _, ⟨T165, L165, kc165, ks165⟩, -, X165, ⟨Lc165, hQ165, l165, y165, z165⟩, st165⟩ := Jvm.LawKit.callS X144 hx (y := mn27) hown (mvT hZ (wd34 hw)) (mvT hZ (wd35 hw)) (mvT hZ (wd36 hw)) (mvT hZ (wd37 hw)) (by decide) (backOf (W := 0) (rmA6 l Z a0 hw [] wE h144 n0 Z144 S_E f164) hZ (wd37 hw) (wd36 hw) (by decide) (by decide)) (g := (mkF m 295 #[.val (.int x0), .val (.int x1), .val (.int x2), .val (.int x3), .val (.int x4), .val (.int x5), .val (.int fm), .val (.int fo), .val (.int fc), .val (.int ft), .val (.int fi), .val (.int fg), .val (.int fn), .val (.ref b36), .val (.ref b38), .val (.ref b41), .val (.ref b45), .val (.ref b50), .val (.ref b56), .val (.ref b63), .val (.ref b71), .val cv, .val (.ref w78), .val (.ref w93), .val (.ref w109), .val (.ref w126), .val (.ref w144), .val .null, .unset, .unset, .unset, .unset, .unset, .unset, .unset, .unset, .unset, .unset, .unset, .unset, .unset, .unset, .unset, .unset] [])) rfl (by rw [hml]; rfl) (argsL := []) (rest := []) (lenOf pd___Ljava_util_Optional_ rfl) rfl (by show 2 * 0 + _ ≤ _; exact Nat.le_of_eq rfl) (hb hby at_295) (fun _ _ => ⟨rfl, e144, (by decide : 37 + 0 ≤ _), (by decide : 133 + 0 ≤ _)⟩)
    dsimp only [Pt.U, Pt.locs, Pt.cells, Pt.slots] at X165 l165 y165 z165 st165 hQ165
    subst l165 y165 z165
    obtain ⟨rfl, Nq165, eq165⟩ := hQ165
    have N165 := Fr.app Nq144 Nq165
    have f166 := ((((((f64.keep Kq71).keep Kq78).keep Kq93).keep Kq109).keep Kq126).keep Kq144)
    have f167 := ((((((f65.keep Kq71).keep Kq78).keep Kq93).keep Kq109).keep Kq126).keep Kq144)
    have f168 := ((((((f66.keep Kq71).keep Kq78).keep Kq93).keep Kq109).keep Kq126).keep Kq144)
    have f169 := ((((((f67.keep Kq71).keep Kq78).keep Kq93).keep Kq109).keep Kq126).keep Kq144)
    have f170 := ((((((f68.keep Kq71).keep Kq78).keep Kq93).keep Kq109).keep Kq126).keep Kq144)
    have f171 := ((((((f69.keep Kq71).keep Kq78).keep Kq93).keep Kq109).keep Kq126).keep Kq144)
    have f172 := ((((((gE63.keep Kq71).keep Kq78).keep Kq93).keep Kq109).keep Kq126).keep Kq144)
    have f173 := (((((gE71.keep Kq78).keep Kq93).keep Kq109).keep Kq126).keep Kq144)
    have f174 := ((((gE78.keep Kq93).keep Kq109).keep Kq126).keep Kq144)
    have f175 := (((gE93.keep Kq109).keep Kq126).keep Kq144)
    have f176 := ((gE109.keep Kq126).keep Kq144)
    have f177 := (gE126.keep Kq144)
    obtain ⟨T178, h178, X178, e178, E178, A178, D178, -, st178⟩ := newO X165 hx hZ hown (wd39 hw) (wd40 hw) (wd41 hw) eq165 (g := (mkF m 300 #[.val (.int x0), .val (.int x1), .val (.int x2), .val (.int x3), .val (.int x4), .val (.int x5), .val (.int fm), .val (.int fo), .val (.int fc), .val (.int ft), .val (.int fi), .val (.int fg), .val (.int fn), .val (.ref b36), .val (.ref b38), .val (.ref b41), .val (.ref b45), .val (.ref b50), .val (.ref b56), .val (.ref b63), .val (.ref b71), .val cv, .val (.ref w78), .val (.ref w93), .val (.ref w109), .val (.ref w126), .val (.ref w144), .val .null, .val (.ref wE), .unset, .unset, .unset, .unset, .unset, .unset, .unset, .unset, .unset, .unset, .unset, .unset, .unset, .unset, .unset] [])) rfl (hb hby at_300) (by decide) (by decide)
    obtain ⟨b178, g178⟩ : ∃ z, z = h144.size := ⟨_, rfl⟩
    rw [← g178] at A178 D178 st178
    have ne_b36_b178 : b36 ≠ b178 := Nat.ne_of_lt (Nat.lt_of_lt_of_le f166.lt (Nat.le_of_eq g178.symm))
    have ne_b38_b178 : b38 ≠ b178 := Nat.ne_of_lt (Nat.lt_of_lt_of_le f167.lt (Nat.le_of_eq g178.symm))
    have ne_b41_b178 : b41 ≠ b178 := Nat.ne_of_lt (Nat.lt_of_lt_of_le f168.lt (Nat.le_of_eq g178.symm))
    have ne_b45_b178 : b45 ≠ b178 := Nat.ne_of_lt (Nat.lt_of_lt_of_le f169.lt (Nat.le_of_eq g178.symm))
    have ne_b50_b178 : b50 ≠ b178 := Nat.ne_of_lt (Nat.lt_of_lt_of_le f170.lt (Nat.le_of_eq g178.symm))
    have ne_b56_b178 : b56 ≠ b178 := Nat.ne_of_lt (Nat.lt_of_lt_of_le f171.lt (Nat.le_of_eq g178.symm))
    have ne_b63_b178 : b63 ≠ b178 := Nat.ne_of_lt (Nat.lt_of_lt_of_le f172.lt (Nat.le_of_eq g178.symm))
    have ne_b71_b178 : b71 ≠ b178 := Nat.ne_of_lt (Nat.lt_of_lt_of_le f173.lt (Nat.le_of_eq g178.symm))
    have ne_w78_b178 : w78 ≠ b178 := Nat.ne_of_lt (Nat.lt_of_lt_of_le f174.lt (Nat.le_of_eq g178.symm))
    have ne_w93_b178 : w93 ≠ b178 := Nat.ne_of_lt (Nat.lt_of_lt_of_le f175.lt (Nat.le_of_eq g178.symm))
    have ne_w109_b178 : w109 ≠ b178 := Nat.ne_of_lt (Nat.lt_of_lt_of_le f176.lt (Nat.le_of_eq g178.symm))
    have ne_w126_b178 : w126 ≠ b178 := Nat.ne_of_lt (Nat.lt_of_lt_of_le f177.lt (Nat.le_of_eq g178.symm))
    have ne_w144_b178 : w144 ≠ b178 := Nat.ne_of_lt (Nat.lt_of_lt_of_le gE144.lt (Nat.le_of_eq g178.symm))
    have ge_b178 : n0 ≤ b178 := Nat.le_trans Z144 (Nat.le_of_eq g178.symm)
    have sz_b178 : h0.size ≤ b178 := Nat.le_trans K144.1 (Nat.le_of_eq g178.symm)
    have CS178 := CHr.ext E178 CR144.1
    have CR178 := CR144.trans CS178
    have hk178 : _ ≤ h178.size := Nat.le_trans hk144 E178.1
    have Z178 : n0 ≤ h178.size := Nat.le_trans Z144 E178.1
    have K178 : Keep h0 h178 [] := (K144.ext E178)
    have F178_modCount : Fld Z h178 b178 "java/util/AbstractList" "modCount" "I" (.int (0 : Int32)) := D178 (Or.inl (wd59 hw)) (ty := .int) (by decide)
    have F178_elementData : Fld Z h178 b178 "java/util/ArrayList" "elementData" "[Ljava/lang/Object;" .null := D178 (Or.inl (wd62 hw)) (ty := (.array (.object "java/lang/Object"))) (by decide)
    have f179 := (f164.ext E178)
    obtain ⟨_, _, ⟨T180, L180, kc180, ks180⟩, -, X180, ⟨Lc180, hQ180, l180, y180, z180⟩, st180⟩ := X178.specialBack hx (y := mn23) rfl hown (mvT hZ (wd42 hw)) (mvT hZ (wd43 hw)) (mvT hZ (wd44 hw)) (by decide) (backOf (W := 1) (rmA27 l Z a0 hw [] b178 wD h178 n0 Z178 F178_modCount F178_elementData A178 ge_b178 S_D f179) hZ (wd44 hw) (wd41 hw) (by decide) (by decide)) (g := (mkF m 304 #[.val (.int x0), .val (.int x1), .val (.int x2), .val (.int x3), .val (.int x4), .val (.int x5), .val (.int fm), .val (.int fo), .val (.int fc), .val (.int ft), .val (.int fi), .val (.int fg), .val (.int fn), .val (.ref b36), .val (.ref b38), .val (.ref b41), .val (.ref b45), .val (.ref b50), .val (.ref b56), .val (.ref b63), .val (.ref b71), .val cv, .val (.ref w78), .val (.ref w93), .val (.ref w109), .val (.ref w126), .val (.ref w144), .val .null, .val (.ref wE), .unset, .unset, .unset, .unset, .unset, .unset, .unset, .unset, .unset, .unset, .unset, .unset, .unset, .unset, .unset] [(.ref b178), (.ref b178)])) rfl (by rw [hml]; rfl) (Steps.refl _) (a := b178) (argsL := []) (rest := [(.ref b178)]) (lenOf pd___V rfl) rfl (by show 2 * 0 + _ ≤ _; exact Nat.le_of_eq rfl) (hb hby at_304) (fun _ _ => ⟨rfl, e178, (by decide : 38 + 0 ≤ _), (by decide : 136 + 0 ≤ _)⟩)
    dsimp only [Pt.U, Pt.locs, Pt.cells, Pt.slots] at X180 l180 y180 z180 st180 hQ180
    subst l180 y180 z180
    obtain ⟨rfl, Nq180, Kq180, g180_0, g180_1, g180_2⟩ := hQ180
    have N180 := Fr.app N165 Nq180
    have CS180 := CHr.keep Kq180 (allS (Safe.exa hZ.alike A178 (by decide) (by decide)) all0) CR178.1
    have CR180 := CR178.trans CS180
    have hk180 : _ ≤ T180.heap.size := Nat.le_trans hk178 Kq180.1
    have Z180 : n0 ≤ T180.heap.size := Nat.le_trans Z178 Kq180.1
    have K180 : Keep h0 T180.heap [] := Keep.trans K178 Kq180 (allS (Or.inr sz_b178) all0)
    have f181 := ((f166.ext E178).keep Kq180)
    have f182 := ((f167.ext E178).keep Kq180)
    have f183 := ((f168.ext E178).keep Kq180)
    have f184 := ((f169.ext E178).keep Kq180)
    have f185 := ((f170.ext E178).keep Kq180)
    have f186 := ((f171.ext E178).keep Kq180)
    have f187 := ((f172.ext E178).keep Kq180)
    have f188 := ((f173.ext E178).keep Kq180)
    have f189 := ((f174.ext E178).keep Kq180)
    have f190 := ((f175.ext E178).keep Kq180)
    have f191 := ((f176.ext E178).keep Kq180)
    have f192 := ((f177.ext E178).keep Kq180)
    have f193 := ((gE144.ext E178).keep Kq180)
    obtain ⟨T194, h194, X194, e194, E194, A194, D194, -, st194⟩ := newO X180 hx hZ hown (wd63 hw) (wd64 hw) (wd65 hw) rfl (g := (mkF m 309 #[.val (.int x0), .val (.int x1), .val (.int x2), .val (.int x3), .val (.int x4), .val (.int x5), .val (.int fm), .val (.int fo), .val (.int fc), .val (.int ft), .val (.int fi), .val (.int fg), .val (.int fn), .val (.ref b36), .val (.ref b38), .val (.ref b41), .val (.ref b45), .val (.ref b50), .val (.ref b56), .val (.ref b63), .val (.ref b71), .val cv, .val (.ref w78), .val (.ref w93), .val (.ref w109), .val (.ref w126), .val (.ref w144), .val .null, .val (.ref wE), .val (.ref b178), .unset, .unset, .unset, .unset, .unset, .unset, .unset, .unset, .unset, .unset, .unset, .unset, .unset, .unset] [])) rfl (hb hby at_309) (by decide) (by decide)
    obtain ⟨b194, g194⟩ : ∃ z, z = T180.heap.size := ⟨_, rfl⟩
    rw [← g194] at A194 D194 st194
    have ne_b36_b194 : b36 ≠ b194 := Nat.ne_of_lt (Nat.lt_of_lt_of_le f181.lt (Nat.le_of_eq g194.symm))
    have ne_b38_b194 : b38 ≠ b194 := Nat.ne_of_lt (Nat.lt_of_lt_of_le f182.lt (Nat.le_of_eq g194.symm))
    have ne_b41_b194 : b41 ≠ b194 := Nat.ne_of_lt (Nat.lt_of_lt_of_le f183.lt (Nat.le_of_eq g194.symm))
    have ne_b45_b194 : b45 ≠ b194 := Nat.ne_of_lt (Nat.lt_of_lt_of_le f184.lt (Nat.le_of_eq g194.symm))
    have ne_b50_b194 : b50 ≠ b194 := Nat.ne_of_lt (Nat.lt_of_lt_of_le f185.lt (Nat.le_of_eq g194.symm))
    have ne_b56_b194 : b56 ≠ b194 := Nat.ne_of_lt (Nat.lt_of_lt_of_le f186.lt (Nat.le_of_eq g194.symm))
    have ne_b63_b194 : b63 ≠ b194 := Nat.ne_of_lt (Nat.lt_of_lt_of_le f187.lt (Nat.le_of_eq g194.symm))
    have ne_b71_b194 : b71 ≠ b194 := Nat.ne_of_lt (Nat.lt_of_lt_of_le f188.lt (Nat.le_of_eq g194.symm))
    have ne_w78_b194 : w78 ≠ b194 := Nat.ne_of_lt (Nat.lt_of_lt_of_le f189.lt (Nat.le_of_eq g194.symm))
    have ne_w93_b194 : w93 ≠ b194 := Nat.ne_of_lt (Nat.lt_of_lt_of_le f190.lt (Nat.le_of_eq g194.symm))
    have ne_w109_b194 : w109 ≠ b194 := Nat.ne_of_lt (Nat.lt_of_lt_of_le f191.lt (Nat.le_of_eq g194.symm))
    have ne_w126_b194 : w126 ≠ b194 := Nat.ne_of_lt (Nat.lt_of_lt_of_le f192.lt (Nat.le_of_eq g194.symm))
    have ne_w144_b194 : w144 ≠ b194 := Nat.ne_of_lt (Nat.lt_of_lt_of_le f193.lt (Nat.le_of_eq g194.symm))
    have ne_b178_b194 : b178 ≠ b194 := Nat.ne_of_lt (Nat.lt_of_lt_of_le g180_2.lt (Nat.le_of_eq g194.symm))
    have ge_b194 : n0 ≤ b194 := Nat.le_trans Z180 (Nat.le_of_eq g194.symm)
    have sz_b194 : h0.size ≤ b194 := Nat.le_trans K180.1 (Nat.le_of_eq g194.symm)
    have CS194 := CHr.ext E194 CR180.1
    have CR194 := CR180.trans CS194
    have hk194 : _ ≤ h194.size := Nat.le_trans hk180 E194.1
    have Z194 : n0 ≤ h194.size := Nat.le_trans Z180 E194.1
    have K194 : Keep h0 h194 [] := (K180.ext E194)
    have F194_code : Fld Z h194 b194 cn10 "code" "Ljava/lang/String;" .null := D194 (Or.inr (wd76 hw)) (ty := (.object "java/lang/String")) (by decide)
    have F194_status : Fld Z h194 b194 cn10 "status" "I" (.int (0 : Int32)) := D194 (Or.inr (wd78 hw)) (ty := .int) (by decide)
    have F194_catalogueMessage : Fld Z h194 b194 cn10 "catalogueMessage" "Ljava/util/Optional;" .null := D194 (Or.inr (wd80 hw)) (ty := (.object "java/util/Optional")) (by decide)
    have F194_ownMessage : Fld Z h194 b194 cn10 "ownMessage" "Ljava/util/Optional;" .null := D194 (Or.inr (wd82 hw)) (ty := (.object "java/util/Optional")) (by decide)
    have F194_trace : Fld Z h194 b194 cn10 "trace" "Ljava/util/Optional;" .null := D194 (Or.inr (wd84 hw)) (ty := (.object "java/util/Optional")) (by decide)
    have F194_moreInfo : Fld Z h194 b194 cn10 "moreInfo" "Ljava/util/Optional;" .null := D194 (Or.inr (wd86 hw)) (ty := (.object "java/util/Optional")) (by decide)
    have F194_target : Fld Z h194 b194 cn10 "target" "Ljava/util/Optional;" .null := D194 (Or.inr (wd88 hw)) (ty := (.object "java/util/Optional")) (by decide)
    have F194_details : Fld Z h194 b194 cn10 "details" "Ljava/util/List;" .null := D194 (Or.inr (wd90 hw)) (ty := (.object "java/util/List")) (by decide)
    obtain ⟨_, _, ⟨T195, L195, kc195, ks195⟩, -, X195, ⟨Lc195, hQ195, l195, y195, z195⟩, st195⟩ := X194.specialBack hx (y := mn13) rfl hown (mvT hZ (wd66 hw)) (mvT hZ (wd67 hw)) (mvT hZ (wd68 hw)) (by decide) (backOf (W := 1) (rmA30 l Z a0 hw [] b194 cv x5 w109 w93 w126 w144 wE b178 h194 n0 Z194 r_cv A194 F194_code ge_b194 F194_status F194_catalogueMessage F194_ownMessage F194_trace F194_moreInfo F194_target F194_details) hZ (wd68 hw) (wd65 hw) (by decide) (by decide)) (g := (mkF m 329 #[.val (.int x0), .val (.int x1), .val (.int x2), .val (.int x3), .val (.int x4), .val (.int x5), .val (.int fm), .val (.int fo), .val (.int fc), .val (.int ft), .val (.int fi), .val (.int fg), .val (.int fn), .val (.ref b36), .val (.ref b38), .val (.ref b41), .val (.ref b45), .val (.ref b50), .val (.ref b56), .val (.ref b63), .val (.ref b71), .val cv, .val (.ref w78), .val (.ref w93), .val (.ref w109), .val (.ref w126), .val (.ref w144), .val .null, .val (.ref wE), .val (.ref b178), .unset, .unset, .unset, .unset, .unset, .unset, .unset, .unset, .unset, .unset, .unset, .unset, .unset, .unset] [(.ref b178), (.ref wE), (.ref w144), (.ref w126), (.ref w93), (.ref w109), (.int x5), cv, (.ref b194), (.ref b194)])) rfl (by rw [hml]; rfl) (Steps.refl _) (a := b194) (argsL := [cv, (.int x5), (.ref w109), (.ref w93), (.ref w126), (.ref w144), (.ref wE), (.ref b178)]) (rest := [(.ref b194)]) (lenOf pd__Ljava_lang_String_ILjava_util_Optional_Ljava_util_Optional_Ljava_util_Optional_Ljava_util_Optional_Ljava_util_Optional_Ljava_util_List__V rfl) rfl (by show 2 * 0 + _ ≤ _; exact Nat.le_of_eq rfl) (hb hby at_329) (fun _ _ => ⟨rfl, e194, (by decide : 39 + 0 ≤ _), (by decide : 144 + 0 ≤ _)⟩)
    dsimp only [Pt.U, Pt.locs, Pt.cells, Pt.slots] at X195 l195 y195 z195 st195 hQ195
    subst l195 y195 z195
    obtain ⟨rfl, Nq195, Kq195, g195_0, g195_1, g195_2, g195_3, g195_4, g195_5, g195_6, g195_7, g195_8⟩ := hQ195
    have N195 := Fr.app N180 Nq195
    have CS195 := CHr.keep Kq195 (allS (Safe.exa hZ.alike A194 (by decide) (by decide)) all0) CR194.1
    have CR195 := CR194.trans CS195
    have hk195 : _ ≤ T195.heap.size := Nat.le_trans hk194 Kq195.1
    have Z195 : n0 ≤ T195.heap.size := Nat.le_trans Z194 Kq195.1
    have K195 : Keep h0 T195.heap [] := Keep.trans K194 Kq195 (allS (Or.inr sz_b194) all0)
    have f196 := ((((((((gF78.keep Kq93 nin0).keep Kq109 nin0).keep Kq126 nin0).keep Kq144 nin0).ext E178).keep Kq180 (ninS ne_w78_b178 nin0)).ext E194).keep Kq195 (ninS ne_w78_b194 nin0))
    have f197 := ((((gF144.ext E178).keep Kq180 (ninS ne_w144_b178 nin0)).ext E194).keep Kq195 (ninS ne_w144_b194 nin0))
    have f198 := (((f179.keep Kq180 (allS ge_b178 all0)).ext E194).keep Kq195 (allS ge_b194 all0))
    have f199 := ((f189.ext E194).keep Kq195)
    have f200 := ((f182.ext E194).keep Kq195)
    have f201 := ((f193.ext E194).keep Kq195)
    have f202 := ((f186.ext E194).keep Kq195)
    have f203 := ((f181.ext E194).keep Kq195)
    have f204 := ((f183.ext E194).keep Kq195)
    have f205 := ((f184.ext E194).keep Kq195)
    have f206 := ((f185.ext E194).keep Kq195)
    have f207 := ((f187.ext E194).keep Kq195)
    have f208 := ((f188.ext E194).keep Kq195)
    have f209 := ((f190.ext E194).keep Kq195)
    have f210 := ((f191.ext E194).keep Kq195)
    have f211 := ((f192.ext E194).keep Kq195)
    have f212 := ((g180_2.ext E194).keep Kq195)
    obtain ⟨cq213, kq213, q213a, q213b, q213c⟩ := isOf hZ rfl g195_0
    obtain ⟨_, _, ⟨T213, L213, kc213, ks213⟩, -, X213, ⟨Lc213, hQ213, l213, y213, z213⟩, st213⟩ := X195.virtualBack hx (y := mn14) (z := mn14) hown (mvT hZ (wd91 hw)) (mvT hZ (wd92 hw)) (notFace_of_selects (args := #[]) (mvT hZ (wd94 hw))) (mvT hZ (wd94 hw)) (mvT hZ (wd93 hw)) (by decide) (backOf (W := 0) (rmA32 l Z a0 hw [] b194 w78 cv vv78 w144 vv144 wE T195.heap n0 Z195 g195_1 r_cv f196 r_vv78 f199 (fun a q => by rcases hv78 with ⟨_, q2⟩ | ⟨_, q2⟩ <;> rw [q2] at q <;> cases q; exact f200) g195_6 f197 r_vv144 f201 (fun a q => by rcases hv144 with ⟨_, q2⟩ | ⟨_, q2⟩ <;> rw [q2] at q <;> cases q; exact f202) g195_7 (F_w.ext f198.2) (E_w.ext f198.2)) hZ (wd95 hw) (wd65 hw) (by decide) (by decide)) q213a q213c (g := (mkF m 338 #[.val (.int x0), .val (.int x1), .val (.int x2), .val (.int x3), .val (.int x4), .val (.int x5), .val (.int fm), .val (.int fo), .val (.int fc), .val (.int ft), .val (.int fi), .val (.int fg), .val (.int fn), .val (.ref b36), .val (.ref b38), .val (.ref b41), .val (.ref b45), .val (.ref b50), .val (.ref b56), .val (.ref b63), .val (.ref b71), .val cv, .val (.ref w78), .val (.ref w93), .val (.ref w109), .val (.ref w126), .val (.ref w144), .val .null, .val (.ref wE), .val (.ref b178), .val (.ref b194), .unset, .unset, .unset, .unset, .unset, .unset, .unset, .unset, .unset, .unset, .unset, .unset, .unset] [(.ref w78), (.ref b194)])) rfl (by rw [hml]; rfl) (Steps.refl _) (argsL := [(.ref w78)]) (rest := []) (lenOf pd__Ljava_util_Optional__Lcom_example_typed_api_errors_typedapierrors_error_Detail_ rfl) rfl (by show 2 * 0 + _ ≤ _; exact Nat.le_of_eq rfl) (hb hby at_338) (fun _ _ => ⟨rfl, rfl, (by decide : 39 + 2 ≤ _), (by decide : 144 + 12 ≤ _)⟩)
    dsimp only [Pt.U, Pt.locs, Pt.cells, Pt.slots] at X213 l213 y213 z213 st213 hQ213
    subst l213 y213 z213
    obtain ⟨b213_0, b213_1, rfl, Nq213, Kq213, sz213_0, sz213_1, g213_0, g213_1, g213_2, g213_3, g213_4, g213_5, g213_6, g213_7, g213_8, g213_9, g213_10, g213_11, g213_12, g213_13, g213_14⟩ := hQ213
    have N213 := Fr.app N195 Nq213
    have CS213 := CHr.keep Kq213 all0 CR195.1
    have CR213 := CR195.trans CS213
    have hk213 : _ ≤ T213.heap.size := Nat.le_trans hk195 Kq213.1
    have Z213 : n0 ≤ T213.heap.size := Nat.le_trans Z195 Kq213.1
    have K213 : Keep h0 T213.heap [] := Keep.trans K195 Kq213 all0
    have ne_b36_b213_0 : b36 ≠ b213_0 := Nat.ne_of_lt (Nat.lt_of_lt_of_le f203.lt sz213_0)
    have ne_b38_b213_0 : b38 ≠ b213_0 := Nat.ne_of_lt (Nat.lt_of_lt_of_le f200.lt sz213_0)
    have ne_b41_b213_0 : b41 ≠ b213_0 := Nat.ne_of_lt (Nat.lt_of_lt_of_le f204.lt sz213_0)
    have ne_b45_b213_0 : b45 ≠ b213_0 := Nat.ne_of_lt (Nat.lt_of_lt_of_le f205.lt sz213_0)
    have ne_b50_b213_0 : b50 ≠ b213_0 := Nat.ne_of_lt (Nat.lt_of_lt_of_le f206.lt sz213_0)
    have ne_b56_b213_0 : b56 ≠ b213_0 := Nat.ne_of_lt (Nat.lt_of_lt_of_le f202.lt sz213_0)
    have ne_b63_b213_0 : b63 ≠ b213_0 := Nat.ne_of_lt (Nat.lt_of_lt_of_le f207.lt sz213_0)
    have ne_b71_b213_0 : b71 ≠ b213_0 := Nat.ne_of_lt (Nat.lt_of_lt_of_le f208.lt sz213_0)
    have ne_w78_b213_0 : w78 ≠ b213_0 := Nat.ne_of_lt (Nat.lt_of_lt_of_le f199.lt sz213_0)
    have ne_w93_b213_0 : w93 ≠ b213_0 := Nat.ne_of_lt (Nat.lt_of_lt_of_le f209.lt sz213_0)
    have ne_w109_b213_0 : w109 ≠ b213_0 := Nat.ne_of_lt (Nat.lt_of_lt_of_le f210.lt sz213_0)
    have ne_w126_b213_0 : w126 ≠ b213_0 := Nat.ne_of_lt (Nat.lt_of_lt_of_le f211.lt sz213_0)
    have ne_w144_b213_0 : w144 ≠ b213_0 := Nat.ne_of_lt (Nat.lt_of_lt_of_le f201.lt sz213_0)
    have ne_b178_b213_0 : b178 ≠ b213_0 := Nat.ne_of_lt (Nat.lt_of_lt_of_le f212.lt sz213_0)
    have ne_b194_b213_0 : b194 ≠ b213_0 := Nat.ne_of_lt (Nat.lt_of_lt_of_le g195_0.lt sz213_0)
    have ge_b213_0 : n0 ≤ b213_0 := Nat.le_trans Z195 sz213_0
    have sz_b213_0 : h0.size ≤ b213_0 := Nat.le_trans K195.1 sz213_0
    have ne_b36_b213_1 : b36 ≠ b213_1 := Nat.ne_of_lt (Nat.lt_of_lt_of_le f203.lt sz213_1)
    have ne_b38_b213_1 : b38 ≠ b213_1 := Nat.ne_of_lt (Nat.lt_of_lt_of_le f200.lt sz213_1)
    have ne_b41_b213_1 : b41 ≠ b213_1 := Nat.ne_of_lt (Nat.lt_of_lt_of_le f204.lt sz213_1)
    have ne_b45_b213_1 : b45 ≠ b213_1 := Nat.ne_of_lt (Nat.lt_of_lt_of_le f205.lt sz213_1)
    have ne_b50_b213_1 : b50 ≠ b213_1 := Nat.ne_of_lt (Nat.lt_of_lt_of_le f206.lt sz213_1)
    have ne_b56_b213_1 : b56 ≠ b213_1 := Nat.ne_of_lt (Nat.lt_of_lt_of_le f202.lt sz213_1)
    have ne_b63_b213_1 : b63 ≠ b213_1 := Nat.ne_of_lt (Nat.lt_of_lt_of_le f207.lt sz213_1)
    have ne_b71_b213_1 : b71 ≠ b213_1 := Nat.ne_of_lt (Nat.lt_of_lt_of_le f208.lt sz213_1)
    have ne_w78_b213_1 : w78 ≠ b213_1 := Nat.ne_of_lt (Nat.lt_of_lt_of_le f199.lt sz213_1)
    have ne_w93_b213_1 : w93 ≠ b213_1 := Nat.ne_of_lt (Nat.lt_of_lt_of_le f209.lt sz213_1)
    have ne_w109_b213_1 : w109 ≠ b213_1 := Nat.ne_of_lt (Nat.lt_of_lt_of_le f210.lt sz213_1)
    have ne_w126_b213_1 : w126 ≠ b213_1 := Nat.ne_of_lt (Nat.lt_of_lt_of_le f211.lt sz213_1)
    have ne_w144_b213_1 : w144 ≠ b213_1 := Nat.ne_of_lt (Nat.lt_of_lt_of_le f201.lt sz213_1)
    have ne_b178_b213_1 : b178 ≠ b213_1 := Nat.ne_of_lt (Nat.lt_of_lt_of_le f212.lt sz213_1)
    have ne_b194_b213_1 : b194 ≠ b213_1 := Nat.ne_of_lt (Nat.lt_of_lt_of_le g195_0.lt sz213_1)
    have ge_b213_1 : n0 ≤ b213_1 := Nat.le_trans Z195 sz213_1
    have sz_b213_1 : h0.size ≤ b213_1 := Nat.le_trans K195.1 sz213_1
    have f214 := (f198.keep Kq213 all0)
    obtain ⟨cq215, kq215, q215a, q215b, q215c⟩ := isOf hZ rfl g213_8
    obtain ⟨_, _, ⟨T215, L215, kc215, ks215⟩, -, X215, ⟨Lc215, hQ215, l215, y215, z215⟩, st215⟩ := X213.virtualBack hx (y := mn1) (z := mn1) hown (mvT hZ (wd170 hw)) (mvT hZ (wd171 hw)) (notFace_of_selects (args := #[]) (mvT hZ (wd173 hw))) (mvT hZ (wd173 hw)) (mvT hZ (wd172 hw)) (by decide) (backOf (W := 0) (rmA41 l Z a0 hw [] b213_1 cv wE T213.heap n0 Z213 g213_9 S_E f214 (E_w.ext f214.2) (F_w.ext f214.2) r_cv) hZ (wd174 hw) (wd145 hw) (by decide) (by decide)) q215a q215c (g := (mkF m 345 #[.val (.int x0), .val (.int x1), .val (.int x2), .val (.int x3), .val (.int x4), .val (.int x5), .val (.int fm), .val (.int fo), .val (.int fc), .val (.int ft), .val (.int fi), .val (.int fg), .val (.int fn), .val (.ref b36), .val (.ref b38), .val (.ref b41), .val (.ref b45), .val (.ref b50), .val (.ref b56), .val (.ref b63), .val (.ref b71), .val cv, .val (.ref w78), .val (.ref w93), .val (.ref w109), .val (.ref w126), .val (.ref w144), .val .null, .val (.ref wE), .val (.ref b178), .val (.ref b194), .val (.ref b213_1), .unset, .unset, .unset, .unset, .unset, .unset, .unset, .unset, .unset, .unset, .unset, .unset] [(.ref b213_1)])) rfl (by rw [hml]; rfl) (Steps.refl _) (argsL := []) (rest := []) (lenOf pd___Ljava_util_Optional_ rfl) rfl (by show 2 * 0 + _ ≤ _; exact Nat.le_of_eq rfl) (hb hby at_345) (fun _ _ => ⟨rfl, rfl, (by decide : 41 + 1 ≤ _), (by decide : 156 + 1 ≤ _)⟩)
    dsimp only [Pt.U, Pt.locs, Pt.cells, Pt.slots] at X215 l215 y215 z215 st215 hQ215
    subst l215 y215 z215
    obtain ⟨b215_0, rfl, Nq215, Kq215, g215_0, g215_1⟩ := hQ215
    have N215 := Fr.app N213 Nq215
    have CS215 := CHr.keep Kq215 all0 CR213.1
    have CR215 := CR213.trans CS215
    have hk215 : _ ≤ T215.heap.size := Nat.le_trans hk213 Kq215.1
    have Z215 : n0 ≤ T215.heap.size := Nat.le_trans Z213 Kq215.1
    have K215 : Keep h0 T215.heap [] := Keep.trans K213 Kq215 all0
    have f216 := (g213_10.keep Kq215 nin0)
    have f217 := (f214.keep Kq215 all0)
    have f219 := (g213_8.keep Kq215)
    obtain ⟨cq218, kq218, q218a, q218b, q218c⟩ := isOf hZ rfl f219
    obtain ⟨_, _, ⟨T218, L218, kc218, ks218⟩, -, X218, ⟨Lc218, hQ218, l218, y218, z218⟩, st218⟩ := X215.virtualBack hx (y := mn3) (z := mn3) hown (mvT hZ (wd185 hw)) (mvT hZ (wd186 hw)) (notFace_of_selects (args := #[]) (mvT hZ (wd188 hw))) (mvT hZ (wd188 hw)) (mvT hZ (wd187 hw)) (by decide) (backOf (W := 0) (rmA42 l Z a0 hw [] b213_1 vv78 wE T215.heap n0 Z215 f216 S_E f217 (E_w.ext f217.2) (F_w.ext f217.2) r_vv78) hZ (wd189 hw) (wd145 hw) (by decide) (by decide)) q218a q218c (g := (mkF m 352 #[.val (.int x0), .val (.int x1), .val (.int x2), .val (.int x3), .val (.int x4), .val (.int x5), .val (.int fm), .val (.int fo), .val (.int fc), .val (.int ft), .val (.int fi), .val (.int fg), .val (.int fn), .val (.ref b36), .val (.ref b38), .val (.ref b41), .val (.ref b45), .val (.ref b50), .val (.ref b56), .val (.ref b63), .val (.ref b71), .val cv, .val (.ref w78), .val (.ref w93), .val (.ref w109), .val (.ref w126), .val (.ref w144), .val .null, .val (.ref wE), .val (.ref b178), .val (.ref b194), .val (.ref b213_1), .val (.ref b215_0), .unset, .unset, .unset, .unset, .unset, .unset, .unset, .unset, .unset, .unset, .unset] [(.ref b213_1)])) rfl (by rw [hml]; rfl) (Steps.refl _) (argsL := []) (rest := []) (lenOf pd___Ljava_util_Optional_ rfl) rfl (by show 2 * 0 + _ ≤ _; exact Nat.le_of_eq rfl) (hb hby at_352) (fun _ _ => ⟨rfl, rfl, (by decide : 42 + 1 ≤ _), (by decide : 157 + 1 ≤ _)⟩)
    dsimp only [Pt.U, Pt.locs, Pt.cells, Pt.slots] at X218 l218 y218 z218 st218 hQ218
    subst l218 y218 z218
    obtain ⟨b218_0, rfl, Nq218, Kq218, g218_0, g218_1⟩ := hQ218
    have N218 := Fr.app N215 Nq218
    have CS218 := CHr.keep Kq218 all0 CR215.1
    have CR218 := CR215.trans CS218
    have hk218 : _ ≤ T218.heap.size := Nat.le_trans hk215 Kq218.1
    have Z218 : n0 ≤ T218.heap.size := Nat.le_trans Z215 Kq218.1
    have K218 : Keep h0 T218.heap [] := Keep.trans K215 Kq218 all0
    have f220 := ((g213_13.keep Kq215 nin0).keep Kq218 nin0)
    have f221 := (f217.keep Kq218 all0)
    have f223 := (f219.keep Kq218)
    obtain ⟨cq222, kq222, q222a, q222b, q222c⟩ := isOf hZ rfl f223
    obtain ⟨_, _, ⟨T222, L222, kc222, ks222⟩, -, X222, ⟨Lc222, hQ222, l222, y222, z222⟩, st222⟩ := X218.virtualBack hx (y := mn4) (z := mn4) hown (mvT hZ (wd190 hw)) (mvT hZ (wd191 hw)) (notFace_of_selects (args := #[]) (mvT hZ (wd193 hw))) (mvT hZ (wd193 hw)) (mvT hZ (wd192 hw)) (by decide) (backOf (W := 0) (rmA43 l Z a0 hw [] b213_1 vv144 wE T218.heap n0 Z218 f220 S_E f221 (E_w.ext f221.2) (F_w.ext f221.2) r_vv144) hZ (wd194 hw) (wd145 hw) (by decide) (by decide)) q222a q222c (g := (mkF m 359 #[.val (.int x0), .val (.int x1), .val (.int x2), .val (.int x3), .val (.int x4), .val (.int x5), .val (.int fm), .val (.int fo), .val (.int fc), .val (.int ft), .val (.int fi), .val (.int fg), .val (.int fn), .val (.ref b36), .val (.ref b38), .val (.ref b41), .val (.ref b45), .val (.ref b50), .val (.ref b56), .val (.ref b63), .val (.ref b71), .val cv, .val (.ref w78), .val (.ref w93), .val (.ref w109), .val (.ref w126), .val (.ref w144), .val .null, .val (.ref wE), .val (.ref b178), .val (.ref b194), .val (.ref b213_1), .val (.ref b215_0), .val (.ref b218_0), .unset, .unset, .unset, .unset, .unset, .unset, .unset, .unset, .unset, .unset] [(.ref b213_1)])) rfl (by rw [hml]; rfl) (Steps.refl _) (argsL := []) (rest := []) (lenOf pd___Ljava_util_Optional_ rfl) rfl (by show 2 * 0 + _ ≤ _; exact Nat.le_of_eq rfl) (hb hby at_359) (fun _ _ => ⟨rfl, rfl, (by decide : 43 + 1 ≤ _), (by decide : 158 + 1 ≤ _)⟩)
    dsimp only [Pt.U, Pt.locs, Pt.cells, Pt.slots] at X222 l222 y222 z222 st222 hQ222
    subst l222 y222 z222
    obtain ⟨b222_0, rfl, Nq222, Kq222, g222_0, g222_1⟩ := hQ222
    have N222 := Fr.app N218 Nq222
    have CS222 := CHr.keep Kq222 all0 CR218.1
    have CR222 := CR218.trans CS222
    have hk222 : _ ≤ T222.heap.size := Nat.le_trans hk218 Kq222.1
    have Z222 : n0 ≤ T222.heap.size := Nat.le_trans Z218 Kq222.1
    have K222 : Keep h0 T222.heap [] := Keep.trans K218 Kq222 all0
    have f224 := (((g213_12.keep Kq215 nin0).keep Kq218 nin0).keep Kq222 nin0)
    have f225 := (f221.keep Kq222 all0)
    have f227 := (f223.keep Kq222)
    obtain ⟨cq226, kq226, q226a, q226b, q226c⟩ := isOf hZ rfl f227
    obtain ⟨_, _, ⟨T226, L226, kc226, ks226⟩, -, X226, ⟨Lc226, hQ226, l226, y226, z226⟩, st226⟩ := X222.virtualBack hx (y := mn5) (z := mn5) hown (mvT hZ (wd195 hw)) (mvT hZ (wd196 hw)) (notFace_of_selects (args := #[]) (mvT hZ (wd198 hw))) (mvT hZ (wd198 hw)) (mvT hZ (wd197 hw)) (by decide) (backOf (W := 0) (rmA44 l Z a0 hw [] b213_1 wE T222.heap n0 Z222 f224 S_E f225) hZ (wd199 hw) (wd145 hw) (by decide) (by decide)) q226a q226c (g := (mkF m 366 #[.val (.int x0), .val (.int x1), .val (.int x2), .val (.int x3), .val (.int x4), .val (.int x5), .val (.int fm), .val (.int fo), .val (.int fc), .val (.int ft), .val (.int fi), .val (.int fg), .val (.int fn), .val (.ref b36), .val (.ref b38), .val (.ref b41), .val (.ref b45), .val (.ref b50), .val (.ref b56), .val (.ref b63), .val (.ref b71), .val cv, .val (.ref w78), .val (.ref w93), .val (.ref w109), .val (.ref w126), .val (.ref w144), .val .null, .val (.ref wE), .val (.ref b178), .val (.ref b194), .val (.ref b213_1), .val (.ref b215_0), .val (.ref b218_0), .val (.ref b222_0), .unset, .unset, .unset, .unset, .unset, .unset, .unset, .unset, .unset] [(.ref b213_1)])) rfl (by rw [hml]; rfl) (Steps.refl _) (argsL := []) (rest := []) (lenOf pd___Ljava_util_Optional_ rfl) rfl (by show 2 * 0 + _ ≤ _; exact Nat.le_of_eq rfl) (hb hby at_366) (fun _ _ => ⟨rfl, rfl, (by decide : 44 + 0 ≤ _), (by decide : 159 + 0 ≤ _)⟩)
    dsimp only [Pt.U, Pt.locs, Pt.cells, Pt.slots] at X226 l226 y226 z226 st226 hQ226
    subst l226 y226 z226
    obtain ⟨rfl, Nq226, eq226⟩ := hQ226
    have N226 := Fr.app N222 Nq226
    have f228 := (((g213_11.keep Kq215 nin0).keep Kq218 nin0).keep Kq222 nin0)
    obtain ⟨cq229, kq229, q229a, q229b, q229c⟩ := isOf hZ eq226 f227
    obtain ⟨_, _, ⟨T229, L229, kc229, ks229⟩, -, X229, ⟨Lc229, hQ229, l229, y229, z229⟩, st229⟩ := X226.virtualBack hx (y := mn6) (z := mn6) hown (mvT hZ (wd200 hw)) (mvT hZ (wd201 hw)) (notFace_of_selects (args := #[]) (mvT hZ (wd203 hw))) (mvT hZ (wd203 hw)) (mvT hZ (wd202 hw)) (by decide) (backOf (W := 0) (rmA46 l Z a0 hw [] b213_1 wE T222.heap n0 Z222 f228 S_E f225) hZ (wd204 hw) (wd145 hw) (by decide) (by decide)) q229a q229c (g := (mkF m 373 #[.val (.int x0), .val (.int x1), .val (.int x2), .val (.int x3), .val (.int x4), .val (.int x5), .val (.int fm), .val (.int fo), .val (.int fc), .val (.int ft), .val (.int fi), .val (.int fg), .val (.int fn), .val (.ref b36), .val (.ref b38), .val (.ref b41), .val (.ref b45), .val (.ref b50), .val (.ref b56), .val (.ref b63), .val (.ref b71), .val cv, .val (.ref w78), .val (.ref w93), .val (.ref w109), .val (.ref w126), .val (.ref w144), .val .null, .val (.ref wE), .val (.ref b178), .val (.ref b194), .val (.ref b213_1), .val (.ref b215_0), .val (.ref b218_0), .val (.ref b222_0), .val (.ref wE), .unset, .unset, .unset, .unset, .unset, .unset, .unset, .unset] [(.ref b213_1)])) rfl (by rw [hml]; rfl) (Steps.refl _) (argsL := []) (rest := []) (lenOf pd___Ljava_util_Optional_ rfl) rfl (by show 2 * 0 + _ ≤ _; exact Nat.le_of_eq rfl) (hb hby at_373) (fun _ _ => ⟨rfl, eq226, (by decide : 44 + 0 ≤ _), (by decide : 159 + 0 ≤ _)⟩)
    dsimp only [Pt.U, Pt.locs, Pt.cells, Pt.slots] at X229 l229 y229 z229 st229 hQ229
    subst l229 y229 z229
    obtain ⟨rfl, Nq229, eq229⟩ := hQ229
    have N229 := Fr.app N226 Nq229
    have f230 := (((g213_14.keep Kq215 nin0).keep Kq218 nin0).keep Kq222 nin0)
    obtain ⟨cq231, kq231, q231a, q231b, q231c⟩ := isOf hZ eq229 f227
    obtain ⟨_, _, ⟨T231, L231, kc231, ks231⟩, -, X231, ⟨Lc231, hQ231, l231, y231, z231⟩, st231⟩ := X229.virtualBack hx (y := mn2) (z := mn2) hown (mvT hZ (wd205 hw)) (mvT hZ (wd206 hw)) (notFace_of_selects (args := #[]) (mvT hZ (wd208 hw))) (mvT hZ (wd208 hw)) (mvT hZ (wd207 hw)) (by decide) (backOf (W := 0) (rmA48 l Z a0 hw [] b213_1 wE T222.heap n0 Z222 f230 S_E f225) hZ (wd209 hw) (wd145 hw) (by decide) (by decide)) q231a q231c (g := (mkF m 380 #[.val (.int x0), .val (.int x1), .val (.int x2), .val (.int x3), .val (.int x4), .val (.int x5), .val (.int fm), .val (.int fo), .val (.int fc), .val (.int ft), .val (.int fi), .val (.int fg), .val (.int fn), .val (.ref b36), .val (.ref b38), .val (.ref b41), .val (.ref b45), .val (.ref b50), .val (.ref b56), .val (.ref b63), .val (.ref b71), .val cv, .val (.ref w78), .val (.ref w93), .val (.ref w109), .val (.ref w126), .val (.ref w144), .val .null, .val (.ref wE), .val (.ref b178), .val (.ref b194), .val (.ref b213_1), .val (.ref b215_0), .val (.ref b218_0), .val (.ref b222_0), .val (.ref wE), .val (.ref wE), .unset, .unset, .unset, .unset, .unset, .unset, .unset] [(.ref b213_1)])) rfl (by rw [hml]; rfl) (Steps.refl _) (argsL := []) (rest := []) (lenOf pd___Ljava_util_Optional_ rfl) rfl (by show 2 * 0 + _ ≤ _; exact Nat.le_of_eq rfl) (hb hby at_380) (fun _ _ => ⟨rfl, eq229, (by decide : 44 + 0 ≤ _), (by decide : 159 + 0 ≤ _)⟩)
    dsimp only [Pt.U, Pt.locs, Pt.cells, Pt.slots] at X231 l231 y231 z231 st231 hQ231
    subst l231 y231 z231
    obtain ⟨rfl, Nq231, eq231⟩ := hQ231
    have N231 := Fr.app N229 Nq231
    have k232 : ∀ t, Steps p.tables e below (T231.setTop (mkF m 389 #[.val (.int x0), .val (.int x1), .val (.int x2), .val (.int x3), .val (.int x4), .val (.int x5), .val (.int fm), .val (.int fo), .val (.int fc), .val (.int ft), .val (.int fi), .val (.int fg), .val (.int fn), .val (.ref b36), .val (.ref b38), .val (.ref b41), .val (.ref b45), .val (.ref b50), .val (.ref b56), .val (.ref b63), .val (.ref b71), .val cv, .val (.ref w78), .val (.ref w93), .val (.ref w109), .val (.ref w126), .val (.ref w144), .val .null, .val (.ref wE), .val (.ref b178), .val (.ref b194), .val (.ref b213_1), .val (.ref b215_0), .val (.ref b218_0), .val (.ref b222_0), .val (.ref wE), .val (.ref wE), .val (.ref wE), .unset, .unset, .unset, .unset, .unset, .unset] [(.int fn), (.ref b215_0)])) t → Steps p.tables e below (s₁.setTop (entryFrame m #[(.int x0), (.int x1), (.int x2), (.int x3), (.int x4), (.int x5)] maxLocals)) t := by
      intro t kt
      refine k162 t ?_
      show Steps p.tables e below (T144.setTop (mkF m 265 #[.val (.int x0), .val (.int x1), .val (.int x2), .val (.int x3), .val (.int x4), .val (.int x5), .val (.int fm), .val (.int fo), .val (.int fc), .val (.int ft), .val (.int fi), .val (.int fg), .val (.int fn), .val (.ref b36), .val (.ref b38), .val (.ref b41), .val (.ref b45), .val (.ref b50), .val (.ref b56), .val (.ref b63), .val (.ref b71), .val cv, .val (.ref w78), .val (.ref w93), .val (.ref w109), .val (.ref w126), .val (.ref w144), .val .null, .unset, .unset, .unset, .unset, .unset, .unset, .unset, .unset, .unset, .unset, .unset, .unset, .unset, .unset, .unset, .unset] [(.int fg)])) _
      refine XS.ifYes X144.here hx rfl (pc0 := 265) (pc' := 282) rfl (hb hby at_265) rfl ((if0 _ _).trans (teq hc163).1) (by decide) (by decide) ?_
      refine XS.iload X144.here hx rfl (hb hby at_282) rfl ?_
      refine XS.ifYes X144.here hx rfl (pc0 := 284) (pc' := 295) rfl (hb hby at_284) rfl ((if0 _ _).trans (teq hc163).1) (by decide) (by decide) ?_
      show Steps p.tables e below (T144.setTop (mkF m 295 #[.val (.int x0), .val (.int x1), .val (.int x2), .val (.int x3), .val (.int x4), .val (.int x5), .val (.int fm), .val (.int fo), .val (.int fc), .val (.int ft), .val (.int fi), .val (.int fg), .val (.int fn), .val (.ref b36), .val (.ref b38), .val (.ref b41), .val (.ref b45), .val (.ref b50), .val (.ref b56), .val (.ref b63), .val (.ref b71), .val cv, .val (.ref w78), .val (.ref w93), .val (.ref w109), .val (.ref w126), .val (.ref w144), .val .null, .unset, .unset, .unset, .unset, .unset, .unset, .unset, .unset, .unset, .unset, .unset, .unset, .unset, .unset, .unset, .unset] [])) _
      refine st165 _ ?_
      show Steps p.tables e below (T165.setTop (mkF m 298 #[.val (.int x0), .val (.int x1), .val (.int x2), .val (.int x3), .val (.int x4), .val (.int x5), .val (.int fm), .val (.int fo), .val (.int fc), .val (.int ft), .val (.int fi), .val (.int fg), .val (.int fn), .val (.ref b36), .val (.ref b38), .val (.ref b41), .val (.ref b45), .val (.ref b50), .val (.ref b56), .val (.ref b63), .val (.ref b71), .val cv, .val (.ref w78), .val (.ref w93), .val (.ref w109), .val (.ref w126), .val (.ref w144), .val .null, .unset, .unset, .unset, .unset, .unset, .unset, .unset, .unset, .unset, .unset, .unset, .unset, .unset, .unset, .unset, .unset] [(.ref wE)])) _
      refine XS.astore X165.here hx rfl (hb hby at_298) rfl rfl (l' := #[.val (.int x0), .val (.int x1), .val (.int x2), .val (.int x3), .val (.int x4), .val (.int x5), .val (.int fm), .val (.int fo), .val (.int fc), .val (.int ft), .val (.int fi), .val (.int fg), .val (.int fn), .val (.ref b36), .val (.ref b38), .val (.ref b41), .val (.ref b45), .val (.ref b50), .val (.ref b56), .val (.ref b63), .val (.ref b71), .val cv, .val (.ref w78), .val (.ref w93), .val (.ref w109), .val (.ref w126), .val (.ref w144), .val .null, .val (.ref wE), .unset, .unset, .unset, .unset, .unset, .unset, .unset, .unset, .unset, .unset, .unset, .unset, .unset, .unset, .unset]) rfl ?_
      show Steps p.tables e below (T165.setTop (mkF m 300 #[.val (.int x0), .val (.int x1), .val (.int x2), .val (.int x3), .val (.int x4), .val (.int x5), .val (.int fm), .val (.int fo), .val (.int fc), .val (.int ft), .val (.int fi), .val (.int fg), .val (.int fn), .val (.ref b36), .val (.ref b38), .val (.ref b41), .val (.ref b45), .val (.ref b50), .val (.ref b56), .val (.ref b63), .val (.ref b71), .val cv, .val (.ref w78), .val (.ref w93), .val (.ref w109), .val (.ref w126), .val (.ref w144), .val .null, .val (.ref wE), .unset, .unset, .unset, .unset, .unset, .unset, .unset, .unset, .unset, .unset, .unset, .unset, .unset, .unset, .unset] [])) _
      refine st178 _ ?_
      show Steps p.tables e below (T178.setTop (mkF m 303 #[.val (.int x0), .val (.int x1), .val (.int x2), .val (.int x3), .val (.int x4), .val (.int x5), .val (.int fm), .val (.int fo), .val (.int fc), .val (.int ft), .val (.int fi), .val (.int fg), .val (.int fn), .val (.ref b36), .val (.ref b38), .val (.ref b41), .val (.ref b45), .val (.ref b50), .val (.ref b56), .val (.ref b63), .val (.ref b71), .val cv, .val (.ref w78), .val (.ref w93), .val (.ref w109), .val (.ref w126), .val (.ref w144), .val .null, .val (.ref wE), .unset, .unset, .unset, .unset, .unset, .unset, .unset, .unset, .unset, .unset, .unset, .unset, .unset, .unset, .unset] [(.ref b178)])) _
      refine XS.dup X178.here hx rfl (hb hby at_303) rfl rfl ?_
      show Steps p.tables e below (T178.setTop (mkF m 304 #[.val (.int x0), .val (.int x1), .val (.int x2), .val (.int x3), .val (.int x4), .val (.int x5), .val (.int fm), .val (.int fo), .val (.int fc), .val (.int ft), .val (.int fi), .val (.int fg), .val (.int fn), .val (.ref b36), .val (.ref b38), .val (.ref b41), .val (.ref b45), .val (.ref b50), .val (.ref b56), .val (.ref b63), .val (.ref b71), .val cv, .val (.ref w78), .val (.ref w93), .val (.ref w109), .val (.ref w126), .val (.ref w144), .val .null, .val (.ref wE), .unset, .unset, .unset, .unset, .unset, .unset, .unset, .unset, .unset, .unset, .unset, .unset, .unset, .unset, .unset] [(.ref b178), (.ref b178)])) _
      refine st180.trans ?_
      show Steps p.tables e below (T180.setTop (mkF m 307 #[.val (.int x0), .val (.int x1), .val (.int x2), .val (.int x3), .val (.int x4), .val (.int x5), .val (.int fm), .val (.int fo), .val (.int fc), .val (.int ft), .val (.int fi), .val (.int fg), .val (.int fn), .val (.ref b36), .val (.ref b38), .val (.ref b41), .val (.ref b45), .val (.ref b50), .val (.ref b56), .val (.ref b63), .val (.ref b71), .val cv, .val (.ref w78), .val (.ref w93), .val (.ref w109), .val (.ref w126), .val (.ref w144), .val .null, .val (.ref wE), .unset, .unset, .unset, .unset, .unset, .unset, .unset, .unset, .unset, .unset, .unset, .unset, .unset, .unset, .unset] [(.ref b178)])) _
      refine XS.astore X180.here hx rfl (hb hby at_307) rfl rfl (l' := #[.val (.int x0), .val (.int x1), .val (.int x2), .val (.int x3), .val (.int x4), .val (.int x5), .val (.int fm), .val (.int fo), .val (.int fc), .val (.int ft), .val (.int fi), .val (.int fg), .val (.int fn), .val (.ref b36), .val (.ref b38), .val (.ref b41), .val (.ref b45), .val (.ref b50), .val (.ref b56), .val (.ref b63), .val (.ref b71), .val cv, .val (.ref w78), .val (.ref w93), .val (.ref w109), .val (.ref w126), .val (.ref w144), .val .null, .val (.ref wE), .val (.ref b178), .unset, .unset, .unset, .unset, .unset, .unset, .unset, .unset, .unset, .unset, .unset, .unset, .unset, .unset]) rfl ?_
      show Steps p.tables e below (T180.setTop (mkF m 309 #[.val (.int x0), .val (.int x1), .val (.int x2), .val (.int x3), .val (.int x4), .val (.int x5), .val (.int fm), .val (.int fo), .val (.int fc), .val (.int ft), .val (.int fi), .val (.int fg), .val (.int fn), .val (.ref b36), .val (.ref b38), .val (.ref b41), .val (.ref b45), .val (.ref b50), .val (.ref b56), .val (.ref b63), .val (.ref b71), .val cv, .val (.ref w78), .val (.ref w93), .val (.ref w109), .val (.ref w126), .val (.ref w144), .val .null, .val (.ref wE), .val (.ref b178), .unset, .unset, .unset, .unset, .unset, .unset, .unset, .unset, .unset, .unset, .unset, .unset, .unset, .unset] [])) _
      refine st194 _ ?_
      show Steps p.tables e below (T194.setTop (mkF m 312 #[.val (.int x0), .val (.int x1), .val (.int x2), .val (.int x3), .val (.int x4), .val (.int x5), .val (.int fm), .val (.int fo), .val (.int fc), .val (.int ft), .val (.int fi), .val (.int fg), .val (.int fn), .val (.ref b36), .val (.ref b38), .val (.ref b41), .val (.ref b45), .val (.ref b50), .val (.ref b56), .val (.ref b63), .val (.ref b71), .val cv, .val (.ref w78), .val (.ref w93), .val (.ref w109), .val (.ref w126), .val (.ref w144), .val .null, .val (.ref wE), .val (.ref b178), .unset, .unset, .unset, .unset, .unset, .unset, .unset, .unset, .unset, .unset, .unset, .unset, .unset, .unset] [(.ref b194)])) _
      refine XS.dup X194.here hx rfl (hb hby at_312) rfl rfl ?_
      refine XS.aload X194.here hx rfl (hb hby at_313) rfl r_cv ?_
      refine XS.iload X194.here hx rfl (hb hby at_315) rfl ?_
      refine XS.aload X194.here hx rfl (hb hby at_317) rfl rfl ?_
      refine XS.aload X194.here hx rfl (hb hby at_319) rfl rfl ?_
      refine XS.aload X194.here hx rfl (hb hby at_321) rfl rfl ?_
      refine XS.aload X194.here hx rfl (hb hby at_323) rfl rfl ?_
      refine XS.aload X194.here hx rfl (hb hby at_325) rfl rfl ?_
      refine XS.aload X194.here hx rfl (hb hby at_327) rfl rfl ?_
      show Steps p.tables e below (T194.setTop (mkF m 329 #[.val (.int x0), .val (.int x1), .val (.int x2), .val (.int x3), .val (.int x4), .val (.int x5), .val (.int fm), .val (.int fo), .val (.int fc), .val (.int ft), .val (.int fi), .val (.int fg), .val (.int fn), .val (.ref b36), .val (.ref b38), .val (.ref b41), .val (.ref b45), .val (.ref b50), .val (.ref b56), .val (.ref b63), .val (.ref b71), .val cv, .val (.ref w78), .val (.ref w93), .val (.ref w109), .val (.ref w126), .val (.ref w144), .val .null, .val (.ref wE), .val (.ref b178), .unset, .unset, .unset, .unset, .unset, .unset, .unset, .unset, .unset, .unset, .unset, .unset, .unset, .unset] [(.ref b178), (.ref wE), (.ref w144), (.ref w126), (.ref w93), (.ref w109), (.int x5), cv, (.ref b194), (.ref b194)])) _
      refine st195.trans ?_
      show Steps p.tables e below (T195.setTop (mkF m 332 #[.val (.int x0), .val (.int x1), .val (.int x2), .val (.int x3), .val (.int x4), .val (.int x5), .val (.int fm), .val (.int fo), .val (.int fc), .val (.int ft), .val (.int fi), .val (.int fg), .val (.int fn), .val (.ref b36), .val (.ref b38), .val (.ref b41), .val (.ref b45), .val (.ref b50), .val (.ref b56), .val (.ref b63), .val (.ref b71), .val cv, .val (.ref w78), .val (.ref w93), .val (.ref w109), .val (.ref w126), .val (.ref w144), .val .null, .val (.ref wE), .val (.ref b178), .unset, .unset, .unset, .unset, .unset, .unset, .unset, .unset, .unset, .unset, .unset, .unset, .unset, .unset] [(.ref b194)])) _
      refine XS.astore X195.here hx rfl (hb hby at_332) rfl rfl (l' := #[.val (.int x0), .val (.int x1), .val (.int x2), .val (.int x3), .val (.int x4), .val (.int x5), .val (.int fm), .val (.int fo), .val (.int fc), .val (.int ft), .val (.int fi), .val (.int fg), .val (.int fn), .val (.ref b36), .val (.ref b38), .val (.ref b41), .val (.ref b45), .val (.ref b50), .val (.ref b56), .val (.ref b63), .val (.ref b71), .val cv, .val (.ref w78), .val (.ref w93), .val (.ref w109), .val (.ref w126), .val (.ref w144), .val .null, .val (.ref wE), .val (.ref b178), .val (.ref b194), .unset, .unset, .unset, .unset, .unset, .unset, .unset, .unset, .unset, .unset, .unset, .unset, .unset]) rfl ?_
      show Steps p.tables e below (T195.setTop (mkF m 334 #[.val (.int x0), .val (.int x1), .val (.int x2), .val (.int x3), .val (.int x4), .val (.int x5), .val (.int fm), .val (.int fo), .val (.int fc), .val (.int ft), .val (.int fi), .val (.int fg), .val (.int fn), .val (.ref b36), .val (.ref b38), .val (.ref b41), .val (.ref b45), .val (.ref b50), .val (.ref b56), .val (.ref b63), .val (.ref b71), .val cv, .val (.ref w78), .val (.ref w93), .val (.ref w109), .val (.ref w126), .val (.ref w144), .val .null, .val (.ref wE), .val (.ref b178), .val (.ref b194), .unset, .unset, .unset, .unset, .unset, .unset, .unset, .unset, .unset, .unset, .unset, .unset, .unset] [])) _
      refine XS.aload X195.here hx rfl (hb hby at_334) rfl rfl ?_
      refine XS.aload X195.here hx rfl (hb hby at_336) rfl rfl ?_
      show Steps p.tables e below (T195.setTop (mkF m 338 #[.val (.int x0), .val (.int x1), .val (.int x2), .val (.int x3), .val (.int x4), .val (.int x5), .val (.int fm), .val (.int fo), .val (.int fc), .val (.int ft), .val (.int fi), .val (.int fg), .val (.int fn), .val (.ref b36), .val (.ref b38), .val (.ref b41), .val (.ref b45), .val (.ref b50), .val (.ref b56), .val (.ref b63), .val (.ref b71), .val cv, .val (.ref w78), .val (.ref w93), .val (.ref w109), .val (.ref w126), .val (.ref w144), .val .null, .val (.ref wE), .val (.ref b178), .val (.ref b194), .unset, .unset, .unset, .unset, .unset, .unset, .unset, .unset, .unset, .unset, .unset, .unset, .unset] [(.ref w78), (.ref b194)])) _
      refine st213.trans ?_
      show Steps p.tables e below (T213.setTop (mkF m 341 #[.val (.int x0), .val (.int x1), .val (.int x2), .val (.int x3), .val (.int x4), .val (.int x5), .val (.int fm), .val (.int fo), .val (.int fc), .val (.int ft), .val (.int fi), .val (.int fg), .val (.int fn), .val (.ref b36), .val (.ref b38), .val (.ref b41), .val (.ref b45), .val (.ref b50), .val (.ref b56), .val (.ref b63), .val (.ref b71), .val cv, .val (.ref w78), .val (.ref w93), .val (.ref w109), .val (.ref w126), .val (.ref w144), .val .null, .val (.ref wE), .val (.ref b178), .val (.ref b194), .unset, .unset, .unset, .unset, .unset, .unset, .unset, .unset, .unset, .unset, .unset, .unset, .unset] [(.ref b213_1)])) _
      refine XS.astore X213.here hx rfl (hb hby at_341) rfl rfl (l' := #[.val (.int x0), .val (.int x1), .val (.int x2), .val (.int x3), .val (.int x4), .val (.int x5), .val (.int fm), .val (.int fo), .val (.int fc), .val (.int ft), .val (.int fi), .val (.int fg), .val (.int fn), .val (.ref b36), .val (.ref b38), .val (.ref b41), .val (.ref b45), .val (.ref b50), .val (.ref b56), .val (.ref b63), .val (.ref b71), .val cv, .val (.ref w78), .val (.ref w93), .val (.ref w109), .val (.ref w126), .val (.ref w144), .val .null, .val (.ref wE), .val (.ref b178), .val (.ref b194), .val (.ref b213_1), .unset, .unset, .unset, .unset, .unset, .unset, .unset, .unset, .unset, .unset, .unset, .unset]) rfl ?_
      refine XS.aload X213.here hx rfl (hb hby at_343) rfl rfl ?_
      show Steps p.tables e below (T213.setTop (mkF m 345 #[.val (.int x0), .val (.int x1), .val (.int x2), .val (.int x3), .val (.int x4), .val (.int x5), .val (.int fm), .val (.int fo), .val (.int fc), .val (.int ft), .val (.int fi), .val (.int fg), .val (.int fn), .val (.ref b36), .val (.ref b38), .val (.ref b41), .val (.ref b45), .val (.ref b50), .val (.ref b56), .val (.ref b63), .val (.ref b71), .val cv, .val (.ref w78), .val (.ref w93), .val (.ref w109), .val (.ref w126), .val (.ref w144), .val .null, .val (.ref wE), .val (.ref b178), .val (.ref b194), .val (.ref b213_1), .unset, .unset, .unset, .unset, .unset, .unset, .unset, .unset, .unset, .unset, .unset, .unset] [(.ref b213_1)])) _
      refine st215.trans ?_
      show Steps p.tables e below (T215.setTop (mkF m 348 #[.val (.int x0), .val (.int x1), .val (.int x2), .val (.int x3), .val (.int x4), .val (.int x5), .val (.int fm), .val (.int fo), .val (.int fc), .val (.int ft), .val (.int fi), .val (.int fg), .val (.int fn), .val (.ref b36), .val (.ref b38), .val (.ref b41), .val (.ref b45), .val (.ref b50), .val (.ref b56), .val (.ref b63), .val (.ref b71), .val cv, .val (.ref w78), .val (.ref w93), .val (.ref w109), .val (.ref w126), .val (.ref w144), .val .null, .val (.ref wE), .val (.ref b178), .val (.ref b194), .val (.ref b213_1), .unset, .unset, .unset, .unset, .unset, .unset, .unset, .unset, .unset, .unset, .unset, .unset] [(.ref b215_0)])) _
      refine XS.astore X215.here hx rfl (hb hby at_348) rfl rfl (l' := #[.val (.int x0), .val (.int x1), .val (.int x2), .val (.int x3), .val (.int x4), .val (.int x5), .val (.int fm), .val (.int fo), .val (.int fc), .val (.int ft), .val (.int fi), .val (.int fg), .val (.int fn), .val (.ref b36), .val (.ref b38), .val (.ref b41), .val (.ref b45), .val (.ref b50), .val (.ref b56), .val (.ref b63), .val (.ref b71), .val cv, .val (.ref w78), .val (.ref w93), .val (.ref w109), .val (.ref w126), .val (.ref w144), .val .null, .val (.ref wE), .val (.ref b178), .val (.ref b194), .val (.ref b213_1), .val (.ref b215_0), .unset, .unset, .unset, .unset, .unset, .unset, .unset, .unset, .unset, .unset, .unset]) rfl ?_
      refine XS.aload X215.here hx rfl (hb hby at_350) rfl rfl ?_
      show Steps p.tables e below (T215.setTop (mkF m 352 #[.val (.int x0), .val (.int x1), .val (.int x2), .val (.int x3), .val (.int x4), .val (.int x5), .val (.int fm), .val (.int fo), .val (.int fc), .val (.int ft), .val (.int fi), .val (.int fg), .val (.int fn), .val (.ref b36), .val (.ref b38), .val (.ref b41), .val (.ref b45), .val (.ref b50), .val (.ref b56), .val (.ref b63), .val (.ref b71), .val cv, .val (.ref w78), .val (.ref w93), .val (.ref w109), .val (.ref w126), .val (.ref w144), .val .null, .val (.ref wE), .val (.ref b178), .val (.ref b194), .val (.ref b213_1), .val (.ref b215_0), .unset, .unset, .unset, .unset, .unset, .unset, .unset, .unset, .unset, .unset, .unset] [(.ref b213_1)])) _
      refine st218.trans ?_
      show Steps p.tables e below (T218.setTop (mkF m 355 #[.val (.int x0), .val (.int x1), .val (.int x2), .val (.int x3), .val (.int x4), .val (.int x5), .val (.int fm), .val (.int fo), .val (.int fc), .val (.int ft), .val (.int fi), .val (.int fg), .val (.int fn), .val (.ref b36), .val (.ref b38), .val (.ref b41), .val (.ref b45), .val (.ref b50), .val (.ref b56), .val (.ref b63), .val (.ref b71), .val cv, .val (.ref w78), .val (.ref w93), .val (.ref w109), .val (.ref w126), .val (.ref w144), .val .null, .val (.ref wE), .val (.ref b178), .val (.ref b194), .val (.ref b213_1), .val (.ref b215_0), .unset, .unset, .unset, .unset, .unset, .unset, .unset, .unset, .unset, .unset, .unset] [(.ref b218_0)])) _
      refine XS.astore X218.here hx rfl (hb hby at_355) rfl rfl (l' := #[.val (.int x0), .val (.int x1), .val (.int x2), .val (.int x3), .val (.int x4), .val (.int x5), .val (.int fm), .val (.int fo), .val (.int fc), .val (.int ft), .val (.int fi), .val (.int fg), .val (.int fn), .val (.ref b36), .val (.ref b38), .val (.ref b41), .val (.ref b45), .val (.ref b50), .val (.ref b56), .val (.ref b63), .val (.ref b71), .val cv, .val (.ref w78), .val (.ref w93), .val (.ref w109), .val (.ref w126), .val (.ref w144), .val .null, .val (.ref wE), .val (.ref b178), .val (.ref b194), .val (.ref b213_1), .val (.ref b215_0), .val (.ref b218_0), .unset, .unset, .unset, .unset, .unset, .unset, .unset, .unset, .unset, .unset]) rfl ?_
      refine XS.aload X218.here hx rfl (hb hby at_357) rfl rfl ?_
      show Steps p.tables e below (T218.setTop (mkF m 359 #[.val (.int x0), .val (.int x1), .val (.int x2), .val (.int x3), .val (.int x4), .val (.int x5), .val (.int fm), .val (.int fo), .val (.int fc), .val (.int ft), .val (.int fi), .val (.int fg), .val (.int fn), .val (.ref b36), .val (.ref b38), .val (.ref b41), .val (.ref b45), .val (.ref b50), .val (.ref b56), .val (.ref b63), .val (.ref b71), .val cv, .val (.ref w78), .val (.ref w93), .val (.ref w109), .val (.ref w126), .val (.ref w144), .val .null, .val (.ref wE), .val (.ref b178), .val (.ref b194), .val (.ref b213_1), .val (.ref b215_0), .val (.ref b218_0), .unset, .unset, .unset, .unset, .unset, .unset, .unset, .unset, .unset, .unset] [(.ref b213_1)])) _
      refine st222.trans ?_
      show Steps p.tables e below (T222.setTop (mkF m 362 #[.val (.int x0), .val (.int x1), .val (.int x2), .val (.int x3), .val (.int x4), .val (.int x5), .val (.int fm), .val (.int fo), .val (.int fc), .val (.int ft), .val (.int fi), .val (.int fg), .val (.int fn), .val (.ref b36), .val (.ref b38), .val (.ref b41), .val (.ref b45), .val (.ref b50), .val (.ref b56), .val (.ref b63), .val (.ref b71), .val cv, .val (.ref w78), .val (.ref w93), .val (.ref w109), .val (.ref w126), .val (.ref w144), .val .null, .val (.ref wE), .val (.ref b178), .val (.ref b194), .val (.ref b213_1), .val (.ref b215_0), .val (.ref b218_0), .unset, .unset, .unset, .unset, .unset, .unset, .unset, .unset, .unset, .unset] [(.ref b222_0)])) _
      refine XS.astore X222.here hx rfl (hb hby at_362) rfl rfl (l' := #[.val (.int x0), .val (.int x1), .val (.int x2), .val (.int x3), .val (.int x4), .val (.int x5), .val (.int fm), .val (.int fo), .val (.int fc), .val (.int ft), .val (.int fi), .val (.int fg), .val (.int fn), .val (.ref b36), .val (.ref b38), .val (.ref b41), .val (.ref b45), .val (.ref b50), .val (.ref b56), .val (.ref b63), .val (.ref b71), .val cv, .val (.ref w78), .val (.ref w93), .val (.ref w109), .val (.ref w126), .val (.ref w144), .val .null, .val (.ref wE), .val (.ref b178), .val (.ref b194), .val (.ref b213_1), .val (.ref b215_0), .val (.ref b218_0), .val (.ref b222_0), .unset, .unset, .unset, .unset, .unset, .unset, .unset, .unset, .unset]) rfl ?_
      refine XS.aload X222.here hx rfl (hb hby at_364) rfl rfl ?_
      show Steps p.tables e below (T222.setTop (mkF m 366 #[.val (.int x0), .val (.int x1), .val (.int x2), .val (.int x3), .val (.int x4), .val (.int x5), .val (.int fm), .val (.int fo), .val (.int fc), .val (.int ft), .val (.int fi), .val (.int fg), .val (.int fn), .val (.ref b36), .val (.ref b38), .val (.ref b41), .val (.ref b45), .val (.ref b50), .val (.ref b56), .val (.ref b63), .val (.ref b71), .val cv, .val (.ref w78), .val (.ref w93), .val (.ref w109), .val (.ref w126), .val (.ref w144), .val .null, .val (.ref wE), .val (.ref b178), .val (.ref b194), .val (.ref b213_1), .val (.ref b215_0), .val (.ref b218_0), .val (.ref b222_0), .unset, .unset, .unset, .unset, .unset, .unset, .unset, .unset, .unset] [(.ref b213_1)])) _
      refine st226.trans ?_
      show Steps p.tables e below (T226.setTop (mkF m 369 #[.val (.int x0), .val (.int x1), .val (.int x2), .val (.int x3), .val (.int x4), .val (.int x5), .val (.int fm), .val (.int fo), .val (.int fc), .val (.int ft), .val (.int fi), .val (.int fg), .val (.int fn), .val (.ref b36), .val (.ref b38), .val (.ref b41), .val (.ref b45), .val (.ref b50), .val (.ref b56), .val (.ref b63), .val (.ref b71), .val cv, .val (.ref w78), .val (.ref w93), .val (.ref w109), .val (.ref w126), .val (.ref w144), .val .null, .val (.ref wE), .val (.ref b178), .val (.ref b194), .val (.ref b213_1), .val (.ref b215_0), .val (.ref b218_0), .val (.ref b222_0), .unset, .unset, .unset, .unset, .unset, .unset, .unset, .unset, .unset] [(.ref wE)])) _
      refine XS.astore X226.here hx rfl (hb hby at_369) rfl rfl (l' := #[.val (.int x0), .val (.int x1), .val (.int x2), .val (.int x3), .val (.int x4), .val (.int x5), .val (.int fm), .val (.int fo), .val (.int fc), .val (.int ft), .val (.int fi), .val (.int fg), .val (.int fn), .val (.ref b36), .val (.ref b38), .val (.ref b41), .val (.ref b45), .val (.ref b50), .val (.ref b56), .val (.ref b63), .val (.ref b71), .val cv, .val (.ref w78), .val (.ref w93), .val (.ref w109), .val (.ref w126), .val (.ref w144), .val .null, .val (.ref wE), .val (.ref b178), .val (.ref b194), .val (.ref b213_1), .val (.ref b215_0), .val (.ref b218_0), .val (.ref b222_0), .val (.ref wE), .unset, .unset, .unset, .unset, .unset, .unset, .unset, .unset]) rfl ?_
      refine XS.aload X226.here hx rfl (hb hby at_371) rfl rfl ?_
      show Steps p.tables e below (T226.setTop (mkF m 373 #[.val (.int x0), .val (.int x1), .val (.int x2), .val (.int x3), .val (.int x4), .val (.int x5), .val (.int fm), .val (.int fo), .val (.int fc), .val (.int ft), .val (.int fi), .val (.int fg), .val (.int fn), .val (.ref b36), .val (.ref b38), .val (.ref b41), .val (.ref b45), .val (.ref b50), .val (.ref b56), .val (.ref b63), .val (.ref b71), .val cv, .val (.ref w78), .val (.ref w93), .val (.ref w109), .val (.ref w126), .val (.ref w144), .val .null, .val (.ref wE), .val (.ref b178), .val (.ref b194), .val (.ref b213_1), .val (.ref b215_0), .val (.ref b218_0), .val (.ref b222_0), .val (.ref wE), .unset, .unset, .unset, .unset, .unset, .unset, .unset, .unset] [(.ref b213_1)])) _
      refine st229.trans ?_
      show Steps p.tables e below (T229.setTop (mkF m 376 #[.val (.int x0), .val (.int x1), .val (.int x2), .val (.int x3), .val (.int x4), .val (.int x5), .val (.int fm), .val (.int fo), .val (.int fc), .val (.int ft), .val (.int fi), .val (.int fg), .val (.int fn), .val (.ref b36), .val (.ref b38), .val (.ref b41), .val (.ref b45), .val (.ref b50), .val (.ref b56), .val (.ref b63), .val (.ref b71), .val cv, .val (.ref w78), .val (.ref w93), .val (.ref w109), .val (.ref w126), .val (.ref w144), .val .null, .val (.ref wE), .val (.ref b178), .val (.ref b194), .val (.ref b213_1), .val (.ref b215_0), .val (.ref b218_0), .val (.ref b222_0), .val (.ref wE), .unset, .unset, .unset, .unset, .unset, .unset, .unset, .unset] [(.ref wE)])) _
      refine XS.astore X229.here hx rfl (hb hby at_376) rfl rfl (l' := #[.val (.int x0), .val (.int x1), .val (.int x2), .val (.int x3), .val (.int x4), .val (.int x5), .val (.int fm), .val (.int fo), .val (.int fc), .val (.int ft), .val (.int fi), .val (.int fg), .val (.int fn), .val (.ref b36), .val (.ref b38), .val (.ref b41), .val (.ref b45), .val (.ref b50), .val (.ref b56), .val (.ref b63), .val (.ref b71), .val cv, .val (.ref w78), .val (.ref w93), .val (.ref w109), .val (.ref w126), .val (.ref w144), .val .null, .val (.ref wE), .val (.ref b178), .val (.ref b194), .val (.ref b213_1), .val (.ref b215_0), .val (.ref b218_0), .val (.ref b222_0), .val (.ref wE), .val (.ref wE), .unset, .unset, .unset, .unset, .unset, .unset, .unset]) rfl ?_
      refine XS.aload X229.here hx rfl (hb hby at_378) rfl rfl ?_
      show Steps p.tables e below (T229.setTop (mkF m 380 #[.val (.int x0), .val (.int x1), .val (.int x2), .val (.int x3), .val (.int x4), .val (.int x5), .val (.int fm), .val (.int fo), .val (.int fc), .val (.int ft), .val (.int fi), .val (.int fg), .val (.int fn), .val (.ref b36), .val (.ref b38), .val (.ref b41), .val (.ref b45), .val (.ref b50), .val (.ref b56), .val (.ref b63), .val (.ref b71), .val cv, .val (.ref w78), .val (.ref w93), .val (.ref w109), .val (.ref w126), .val (.ref w144), .val .null, .val (.ref wE), .val (.ref b178), .val (.ref b194), .val (.ref b213_1), .val (.ref b215_0), .val (.ref b218_0), .val (.ref b222_0), .val (.ref wE), .val (.ref wE), .unset, .unset, .unset, .unset, .unset, .unset, .unset] [(.ref b213_1)])) _
      refine st231.trans ?_
      show Steps p.tables e below (T231.setTop (mkF m 383 #[.val (.int x0), .val (.int x1), .val (.int x2), .val (.int x3), .val (.int x4), .val (.int x5), .val (.int fm), .val (.int fo), .val (.int fc), .val (.int ft), .val (.int fi), .val (.int fg), .val (.int fn), .val (.ref b36), .val (.ref b38), .val (.ref b41), .val (.ref b45), .val (.ref b50), .val (.ref b56), .val (.ref b63), .val (.ref b71), .val cv, .val (.ref w78), .val (.ref w93), .val (.ref w109), .val (.ref w126), .val (.ref w144), .val .null, .val (.ref wE), .val (.ref b178), .val (.ref b194), .val (.ref b213_1), .val (.ref b215_0), .val (.ref b218_0), .val (.ref b222_0), .val (.ref wE), .val (.ref wE), .unset, .unset, .unset, .unset, .unset, .unset, .unset] [(.ref wE)])) _
      refine XS.astore X231.here hx rfl (hb hby at_383) rfl rfl (l' := #[.val (.int x0), .val (.int x1), .val (.int x2), .val (.int x3), .val (.int x4), .val (.int x5), .val (.int fm), .val (.int fo), .val (.int fc), .val (.int ft), .val (.int fi), .val (.int fg), .val (.int fn), .val (.ref b36), .val (.ref b38), .val (.ref b41), .val (.ref b45), .val (.ref b50), .val (.ref b56), .val (.ref b63), .val (.ref b71), .val cv, .val (.ref w78), .val (.ref w93), .val (.ref w109), .val (.ref w126), .val (.ref w144), .val .null, .val (.ref wE), .val (.ref b178), .val (.ref b194), .val (.ref b213_1), .val (.ref b215_0), .val (.ref b218_0), .val (.ref b222_0), .val (.ref wE), .val (.ref wE), .val (.ref wE), .unset, .unset, .unset, .unset, .unset, .unset]) rfl ?_
      refine XS.aload X231.here hx rfl (hb hby at_385) rfl rfl ?_
      refine XS.iload X231.here hx rfl (hb hby at_387) rfl ?_
      exact kt
    obtain ⟨np, hj233, k233⟩ : ∃ (np : Int32), ((fn = (0 : Int32) ∧ np = (1 : Int32)) ∨ (¬ fn = (0 : Int32) ∧ np = (0 : Int32))) ∧ ∀ t, Steps p.tables e below (T231.setTop (mkF m 397 #[.val (.int x0), .val (.int x1), .val (.int x2), .val (.int x3), .val (.int x4), .val (.int x5), .val (.int fm), .val (.int fo), .val (.int fc), .val (.int ft), .val (.int fi), .val (.int fg), .val (.int fn), .val (.ref b36), .val (.ref b38), .val (.ref b41), .val (.ref b45), .val (.ref b50), .val (.ref b56), .val (.ref b63), .val (.ref b71), .val cv, .val (.ref w78), .val (.ref w93), .val (.ref w109), .val (.ref w126), .val (.ref w144), .val .null, .val (.ref wE), .val (.ref b178), .val (.ref b194), .val (.ref b213_1), .val (.ref b215_0), .val (.ref b218_0), .val (.ref b222_0), .val (.ref wE), .val (.ref wE), .val (.ref wE), .unset, .unset, .unset, .unset, .unset, .unset] [(.int np), (.ref b215_0)])) t → Steps p.tables e below (s₁.setTop (entryFrame m #[(.int x0), (.int x1), (.int x2), (.int x3), (.int x4), (.int x5)] maxLocals)) t := by
      by_cases hc234 : fn = (0 : Int32)
      · skip
        have k235 : ∀ t, Steps p.tables e below (T231.setTop (mkF m 397 #[.val (.int x0), .val (.int x1), .val (.int x2), .val (.int x3), .val (.int x4), .val (.int x5), .val (.int fm), .val (.int fo), .val (.int fc), .val (.int ft), .val (.int fi), .val (.int fg), .val (.int fn), .val (.ref b36), .val (.ref b38), .val (.ref b41), .val (.ref b45), .val (.ref b50), .val (.ref b56), .val (.ref b63), .val (.ref b71), .val cv, .val (.ref w78), .val (.ref w93), .val (.ref w109), .val (.ref w126), .val (.ref w144), .val .null, .val (.ref wE), .val (.ref b178), .val (.ref b194), .val (.ref b213_1), .val (.ref b215_0), .val (.ref b218_0), .val (.ref b222_0), .val (.ref wE), .val (.ref wE), .val (.ref wE), .unset, .unset, .unset, .unset, .unset, .unset] [(.int (1 : Int32)), (.ref b215_0)])) t → Steps p.tables e below (s₁.setTop (entryFrame m #[(.int x0), (.int x1), (.int x2), (.int x3), (.int x4), (.int x5)] maxLocals)) t := by
          intro t kt
          refine k232 t ?_
          show Steps p.tables e below (T231.setTop (mkF m 389 #[.val (.int x0), .val (.int x1), .val (.int x2), .val (.int x3), .val (.int x4), .val (.int x5), .val (.int fm), .val (.int fo), .val (.int fc), .val (.int ft), .val (.int fi), .val (.int fg), .val (.int fn), .val (.ref b36), .val (.ref b38), .val (.ref b41), .val (.ref b45), .val (.ref b50), .val (.ref b56), .val (.ref b63), .val (.ref b71), .val cv, .val (.ref w78), .val (.ref w93), .val (.ref w109), .val (.ref w126), .val (.ref w144), .val .null, .val (.ref wE), .val (.ref b178), .val (.ref b194), .val (.ref b213_1), .val (.ref b215_0), .val (.ref b218_0), .val (.ref b222_0), .val (.ref wE), .val (.ref wE), .val (.ref wE), .unset, .unset, .unset, .unset, .unset, .unset] [(.int fn), (.ref b215_0)])) _
          refine XS.ifNo X231.here hx rfl (hb hby at_389) rfl ((if0 _ _).trans (teq hc234).2) ?_
          refine XS.iconst X231.here hx rfl (hb hby at_392) ?_
          refine XS.goto X231.here hx rfl (pc0 := 393) (pc' := 397) rfl (hb hby at_393) (by decide) (by decide) ?_
          exact kt
        exact ⟨(1 : Int32), (Or.inl ⟨hc234, rfl⟩), k235⟩
      · skip
        have k236 : ∀ t, Steps p.tables e below (T231.setTop (mkF m 397 #[.val (.int x0), .val (.int x1), .val (.int x2), .val (.int x3), .val (.int x4), .val (.int x5), .val (.int fm), .val (.int fo), .val (.int fc), .val (.int ft), .val (.int fi), .val (.int fg), .val (.int fn), .val (.ref b36), .val (.ref b38), .val (.ref b41), .val (.ref b45), .val (.ref b50), .val (.ref b56), .val (.ref b63), .val (.ref b71), .val cv, .val (.ref w78), .val (.ref w93), .val (.ref w109), .val (.ref w126), .val (.ref w144), .val .null, .val (.ref wE), .val (.ref b178), .val (.ref b194), .val (.ref b213_1), .val (.ref b215_0), .val (.ref b218_0), .val (.ref b222_0), .val (.ref wE), .val (.ref wE), .val (.ref wE), .unset, .unset, .unset, .unset, .unset, .unset] [(.int (0 : Int32)), (.ref b215_0)])) t → Steps p.tables e below (s₁.setTop (entryFrame m #[(.int x0), (.int x1), (.int x2), (.int x3), (.int x4), (.int x5)] maxLocals)) t := by
          intro t kt
          refine k232 t ?_
          show Steps p.tables e below (T231.setTop (mkF m 389 #[.val (.int x0), .val (.int x1), .val (.int x2), .val (.int x3), .val (.int x4), .val (.int x5), .val (.int fm), .val (.int fo), .val (.int fc), .val (.int ft), .val (.int fi), .val (.int fg), .val (.int fn), .val (.ref b36), .val (.ref b38), .val (.ref b41), .val (.ref b45), .val (.ref b50), .val (.ref b56), .val (.ref b63), .val (.ref b71), .val cv, .val (.ref w78), .val (.ref w93), .val (.ref w109), .val (.ref w126), .val (.ref w144), .val .null, .val (.ref wE), .val (.ref b178), .val (.ref b194), .val (.ref b213_1), .val (.ref b215_0), .val (.ref b218_0), .val (.ref b222_0), .val (.ref wE), .val (.ref wE), .val (.ref wE), .unset, .unset, .unset, .unset, .unset, .unset] [(.int fn), (.ref b215_0)])) _
          refine XS.ifYes X231.here hx rfl (pc0 := 389) (pc' := 396) rfl (hb hby at_389) rfl ((if0 _ _).trans (feq hc234).2) (by decide) (by decide) ?_
          refine XS.iconst X231.here hx rfl (hb hby at_396) ?_
          exact kt
        exact ⟨(0 : Int32), (Or.inr ⟨hc234, rfl⟩), k236⟩
    have f237 := ((g215_0.keep Kq218).keep Kq222)
    have f238 := ((g215_1.keep Kq218 nin0).keep Kq222 nin0)
    have f239 := ((((f203.keep Kq213).keep Kq215).keep Kq218).keep Kq222)
    have hsn : (np = (0 : Int32) ∧ cv = .null) ∨ (np = (1 : Int32) ∧ cv = .ref b36) := by
      rcases hj233 with ⟨p, q⟩ | ⟨p, q⟩
      · rcases hj73 with ⟨_, q2⟩ | ⟨_, q2⟩ | ⟨q3, _⟩
        · exact q2.elim
        · exact Or.inr ⟨q, q2⟩
        · exact absurd p q3
      · rcases hj73 with ⟨_, q2⟩ | ⟨q3, _⟩ | ⟨_, q2⟩
        · exact q2.elim
        · exact absurd q3 p
        · exact Or.inl ⟨q, q2⟩
    obtain ⟨_, _, ⟨T240, L240, kc240, ks240⟩, -, X240, ⟨Lc240, hQ240, l240, y240, z240⟩, st240⟩ := Jvm.LawKit.callS X231 hx (y := mn15) hown (mvT hZ (wd210 hw)) (mvT hZ (wd211 hw)) (mvT hZ (wd2 hw)) (mvT hZ (wd212 hw)) (by decide) (backOf (W := 0) (rmSam l Z a0 hw [] b215_0 np b36 cv T222.heap n0 Z222 f237 f238 f239 hsn) hZ (wd212 hw) (wd2 hw) (by decide) (by decide)) (g := (mkF m 399 #[.val (.int x0), .val (.int x1), .val (.int x2), .val (.int x3), .val (.int x4), .val (.int x5), .val (.int fm), .val (.int fo), .val (.int fc), .val (.int ft), .val (.int fi), .val (.int fg), .val (.int fn), .val (.ref b36), .val (.ref b38), .val (.ref b41), .val (.ref b45), .val (.ref b50), .val (.ref b56), .val (.ref b63), .val (.ref b71), .val cv, .val (.ref w78), .val (.ref w93), .val (.ref w109), .val (.ref w126), .val (.ref w144), .val .null, .val (.ref wE), .val (.ref b178), .val (.ref b194), .val (.ref b213_1), .val (.ref b215_0), .val (.ref b218_0), .val (.ref b222_0), .val (.ref wE), .val (.ref wE), .val (.ref wE), .unset, .unset, .unset, .unset, .unset, .unset] [(.ref b36), (.int np), (.ref b215_0)])) rfl (by rw [hml]; rfl) (argsL := [(.ref b215_0), (.int np), (.ref b36)]) (rest := []) (lenOf pd__Ljava_util_Optional_ZLjava_lang_String__Z rfl) rfl (by show 2 * 0 + _ ≤ _; exact Nat.le_of_eq rfl) (hb hby at_399) (fun _ _ => ⟨rfl, eq231, (by decide : 44 + 0 ≤ _), (by decide : 159 + 0 ≤ _)⟩)
    dsimp only [Pt.U, Pt.locs, Pt.cells, Pt.slots] at X240 l240 y240 z240 st240 hQ240
    subst l240 y240 z240
    obtain ⟨rfl, Nq240, eq240⟩ := hQ240
    have N240 := Fr.app N231 Nq240
    have f241 := (g218_0.keep Kq222)
    have f242 := (g218_1.keep Kq222 nin0)
    have f243 := ((((f200.keep Kq213).keep Kq215).keep Kq218).keep Kq222)
    obtain ⟨_, _, ⟨T244, L244, kc244, ks244⟩, -, X244, ⟨Lc244, hQ244, l244, y244, z244⟩, st244⟩ := Jvm.LawKit.callS X240 hx (y := mn15) hown (mvT hZ (wd210 hw)) (mvT hZ (wd211 hw)) (mvT hZ (wd2 hw)) (mvT hZ (wd212 hw)) (by decide) (backOf (W := 0) (rmSam l Z a0 hw [] b218_0 fm b38 vv78 T222.heap n0 Z222 f241 f242 f243 hv78) hZ (wd212 hw) (wd2 hw) (by decide) (by decide)) (g := (mkF m 410 #[.val (.int x0), .val (.int x1), .val (.int x2), .val (.int x3), .val (.int x4), .val (.int x5), .val (.int fm), .val (.int fo), .val (.int fc), .val (.int ft), .val (.int fi), .val (.int fg), .val (.int fn), .val (.ref b36), .val (.ref b38), .val (.ref b41), .val (.ref b45), .val (.ref b50), .val (.ref b56), .val (.ref b63), .val (.ref b71), .val cv, .val (.ref w78), .val (.ref w93), .val (.ref w109), .val (.ref w126), .val (.ref w144), .val .null, .val (.ref wE), .val (.ref b178), .val (.ref b194), .val (.ref b213_1), .val (.ref b215_0), .val (.ref b218_0), .val (.ref b222_0), .val (.ref wE), .val (.ref wE), .val (.ref wE), .val (.int (1 : Int32)), .unset, .unset, .unset, .unset, .unset] [(.ref b38), (.int fm), (.ref b218_0)])) rfl (by rw [hml]; rfl) (argsL := [(.ref b218_0), (.int fm), (.ref b38)]) (rest := []) (lenOf pd__Ljava_util_Optional_ZLjava_lang_String__Z rfl) rfl (by show 2 * 0 + _ ≤ _; exact Nat.le_of_eq rfl) (hb hby at_410) (fun _ _ => ⟨rfl, eq240, (by decide : 44 + 0 ≤ _), (by decide : 159 + 0 ≤ _)⟩)
    dsimp only [Pt.U, Pt.locs, Pt.cells, Pt.slots] at X244 l244 y244 z244 st244 hQ244
    subst l244 y244 z244
    obtain ⟨rfl, Nq244, eq244⟩ := hQ244
    have N244 := Fr.app N240 Nq244
    have f245 := ((((f202.keep Kq213).keep Kq215).keep Kq218).keep Kq222)
    obtain ⟨_, _, ⟨T246, L246, kc246, ks246⟩, -, X246, ⟨Lc246, hQ246, l246, y246, z246⟩, st246⟩ := Jvm.LawKit.callS X244 hx (y := mn15) hown (mvT hZ (wd210 hw)) (mvT hZ (wd211 hw)) (mvT hZ (wd2 hw)) (mvT hZ (wd212 hw)) (by decide) (backOf (W := 0) (rmSam l Z a0 hw [] b222_0 fi b56 vv144 T222.heap n0 Z222 g222_0 g222_1 f245 hv144) hZ (wd212 hw) (wd2 hw) (by decide) (by decide)) (g := (mkF m 421 #[.val (.int x0), .val (.int x1), .val (.int x2), .val (.int x3), .val (.int x4), .val (.int x5), .val (.int fm), .val (.int fo), .val (.int fc), .val (.int ft), .val (.int fi), .val (.int fg), .val (.int fn), .val (.ref b36), .val (.ref b38), .val (.ref b41), .val (.ref b45), .val (.ref b50), .val (.ref b56), .val (.ref b63), .val (.ref b71), .val cv, .val (.ref w78), .val (.ref w93), .val (.ref w109), .val (.ref w126), .val (.ref w144), .val .null, .val (.ref wE), .val (.ref b178), .val (.ref b194), .val (.ref b213_1), .val (.ref b215_0), .val (.ref b218_0), .val (.ref b222_0), .val (.ref wE), .val (.ref wE), .val (.ref wE), .val (.int (1 : Int32)), .val (.int (1 : Int32)), .unset, .unset, .unset, .unset] [(.ref b56), (.int fi), (.ref b222_0)])) rfl (by rw [hml]; rfl) (argsL := [(.ref b222_0), (.int fi), (.ref b56)]) (rest := []) (lenOf pd__Ljava_util_Optional_ZLjava_lang_String__Z rfl) rfl (by show 2 * 0 + _ ≤ _; exact Nat.le_of_eq rfl) (hb hby at_421) (fun _ _ => ⟨rfl, eq244, (by decide : 44 + 0 ≤ _), (by decide : 159 + 0 ≤ _)⟩)
    dsimp only [Pt.U, Pt.locs, Pt.cells, Pt.slots] at X246 l246 y246 z246 st246 hQ246
    subst l246 y246 z246
    obtain ⟨rfl, Nq246, eq246⟩ := hQ246
    have N246 := Fr.app N244 Nq246
    obtain ⟨cq247, kq247, q247a, q247b, q247c⟩ := isOf hZ eq246 (E_w.ext f225.2)
    obtain ⟨_, _, ⟨T247, L247, kc247, ks247⟩, -, X247, ⟨Lc247, hQ247, l247, y247, z247⟩, st247⟩ := X246.virtualBack hx (y := mn29) (z := mn29) hown (mvT hZ (wd213 hw)) (mvT hZ (wd214 hw)) (notFace_of_selects (args := #[]) (mvT hZ (wd216 hw))) (mvT hZ (wd216 hw)) (mvT hZ (wd215 hw)) (by decide) (backOf (W := 0) (rmA2 l Z a0 hw [] wE T222.heap n0 Z222 (F_w.ext f225.2)) hZ (wd217 hw) (wd36 hw) (by decide) (by decide)) q247a q247c (g := (mkF m 461 #[.val (.int x0), .val (.int x1), .val (.int x2), .val (.int x3), .val (.int x4), .val (.int x5), .val (.int fm), .val (.int fo), .val (.int fc), .val (.int ft), .val (.int fi), .val (.int fg), .val (.int fn), .val (.ref b36), .val (.ref b38), .val (.ref b41), .val (.ref b45), .val (.ref b50), .val (.ref b56), .val (.ref b63), .val (.ref b71), .val cv, .val (.ref w78), .val (.ref w93), .val (.ref w109), .val (.ref w126), .val (.ref w144), .val .null, .val (.ref wE), .val (.ref b178), .val (.ref b194), .val (.ref b213_1), .val (.ref b215_0), .val (.ref b218_0), .val (.ref b222_0), .val (.ref wE), .val (.ref wE), .val (.ref wE), .val (.int (1 : Int32)), .val (.int (1 : Int32)), .val (.int (1 : Int32)), .unset, .unset, .unset] [(.ref wE)])) rfl (by rw [hml]; rfl) (Steps.refl _) (argsL := []) (rest := []) (lenOf pd___Z rfl) rfl (by show 2 * 0 + _ ≤ _; exact Nat.le_of_eq rfl) (hb hby at_461) (fun _ _ => ⟨rfl, eq246, (by decide : 44 + 0 ≤ _), (by decide : 159 + 0 ≤ _)⟩)
    dsimp only [Pt.U, Pt.locs, Pt.cells, Pt.slots] at X247 l247 y247 z247 st247 hQ247
    subst l247 y247 z247
    obtain ⟨rfl, Nq247, eq247⟩ := hQ247
    have N247 := Fr.app N246 Nq247
    obtain ⟨cq248, kq248, q248a, q248b, q248c⟩ := isOf hZ eq247 (E_w.ext f225.2)
    obtain ⟨_, _, ⟨T248, L248, kc248, ks248⟩, -, X248, ⟨Lc248, hQ248, l248, y248, z248⟩, st248⟩ := X247.virtualBack hx (y := mn29) (z := mn29) hown (mvT hZ (wd213 hw)) (mvT hZ (wd214 hw)) (notFace_of_selects (args := #[]) (mvT hZ (wd216 hw))) (mvT hZ (wd216 hw)) (mvT hZ (wd215 hw)) (by decide) (backOf (W := 0) (rmA2 l Z a0 hw [] wE T222.heap n0 Z222 (F_w.ext f225.2)) hZ (wd217 hw) (wd36 hw) (by decide) (by decide)) q248a q248c (g := (mkF m 476 #[.val (.int x0), .val (.int x1), .val (.int x2), .val (.int x3), .val (.int x4), .val (.int x5), .val (.int fm), .val (.int fo), .val (.int fc), .val (.int ft), .val (.int fi), .val (.int fg), .val (.int fn), .val (.ref b36), .val (.ref b38), .val (.ref b41), .val (.ref b45), .val (.ref b50), .val (.ref b56), .val (.ref b63), .val (.ref b71), .val cv, .val (.ref w78), .val (.ref w93), .val (.ref w109), .val (.ref w126), .val (.ref w144), .val .null, .val (.ref wE), .val (.ref b178), .val (.ref b194), .val (.ref b213_1), .val (.ref b215_0), .val (.ref b218_0), .val (.ref b222_0), .val (.ref wE), .val (.ref wE), .val (.ref wE), .val (.int (1 : Int32)), .val (.int (1 : Int32)), .val (.int (1 : Int32)), .val (.int (1 : Int32)), .unset, .unset] [(.ref wE)])) rfl (by rw [hml]; rfl) (Steps.refl _) (argsL := []) (rest := []) (lenOf pd___Z rfl) rfl (by show 2 * 0 + _ ≤ _; exact Nat.le_of_eq rfl) (hb hby at_476) (fun _ _ => ⟨rfl, eq247, (by decide : 44 + 0 ≤ _), (by decide : 159 + 0 ≤ _)⟩)
    dsimp only [Pt.U, Pt.locs, Pt.cells, Pt.slots] at X248 l248 y248 z248 st248 hQ248
    subst l248 y248 z248
    obtain ⟨rfl, Nq248, eq248⟩ := hQ248
    have N248 := Fr.app N247 Nq248
    obtain ⟨cq249, kq249, q249a, q249b, q249c⟩ := isOf hZ eq248 (E_w.ext f225.2)
    obtain ⟨_, _, ⟨T249, L249, kc249, ks249⟩, -, X249, ⟨Lc249, hQ249, l249, y249, z249⟩, st249⟩ := X248.virtualBack hx (y := mn29) (z := mn29) hown (mvT hZ (wd213 hw)) (mvT hZ (wd214 hw)) (notFace_of_selects (args := #[]) (mvT hZ (wd216 hw))) (mvT hZ (wd216 hw)) (mvT hZ (wd215 hw)) (by decide) (backOf (W := 0) (rmA2 l Z a0 hw [] wE T222.heap n0 Z222 (F_w.ext f225.2)) hZ (wd217 hw) (wd36 hw) (by decide) (by decide)) q249a q249c (g := (mkF m 491 #[.val (.int x0), .val (.int x1), .val (.int x2), .val (.int x3), .val (.int x4), .val (.int x5), .val (.int fm), .val (.int fo), .val (.int fc), .val (.int ft), .val (.int fi), .val (.int fg), .val (.int fn), .val (.ref b36), .val (.ref b38), .val (.ref b41), .val (.ref b45), .val (.ref b50), .val (.ref b56), .val (.ref b63), .val (.ref b71), .val cv, .val (.ref w78), .val (.ref w93), .val (.ref w109), .val (.ref w126), .val (.ref w144), .val .null, .val (.ref wE), .val (.ref b178), .val (.ref b194), .val (.ref b213_1), .val (.ref b215_0), .val (.ref b218_0), .val (.ref b222_0), .val (.ref wE), .val (.ref wE), .val (.ref wE), .val (.int (1 : Int32)), .val (.int (1 : Int32)), .val (.int (1 : Int32)), .val (.int (1 : Int32)), .val (.int (1 : Int32)), .unset] [(.ref wE)])) rfl (by rw [hml]; rfl) (Steps.refl _) (argsL := []) (rest := []) (lenOf pd___Z rfl) rfl (by show 2 * 0 + _ ≤ _; exact Nat.le_of_eq rfl) (hb hby at_491) (fun _ _ => ⟨rfl, eq248, (by decide : 44 + 0 ≤ _), (by decide : 159 + 0 ≤ _)⟩)
    dsimp only [Pt.U, Pt.locs, Pt.cells, Pt.slots] at X249 l249 y249 z249 st249 hQ249
    subst l249 y249 z249
    obtain ⟨rfl, Nq249, eq249⟩ := hQ249
    have N249 := Fr.app N248 Nq249
    obtain ⟨lfs, lhr, lhrun, lhended, lhE⟩ := X249.leaveW hS0 (by rw [eq249]; exact hk222) (v := some (.int (1 : Int32))) (fun h => by rw [Bd.returns] at h; cases h)
    refine ⟨_, _, k233 _ ?_, lhrun, lhended, _, _, rfl, ?_, ?_, lhE.1, lhE.2.1, lhE.2.2.1, lhE.2.2.2.mono (by decide) (by decide)⟩
    · skip
      show Steps p.tables e below (T231.setTop (mkF m 397 #[.val (.int x0), .val (.int x1), .val (.int x2), .val (.int x3), .val (.int x4), .val (.int x5), .val (.int fm), .val (.int fo), .val (.int fc), .val (.int ft), .val (.int fi), .val (.int fg), .val (.int fn), .val (.ref b36), .val (.ref b38), .val (.ref b41), .val (.ref b45), .val (.ref b50), .val (.ref b56), .val (.ref b63), .val (.ref b71), .val cv, .val (.ref w78), .val (.ref w93), .val (.ref w109), .val (.ref w126), .val (.ref w144), .val .null, .val (.ref wE), .val (.ref b178), .val (.ref b194), .val (.ref b213_1), .val (.ref b215_0), .val (.ref b218_0), .val (.ref b222_0), .val (.ref wE), .val (.ref wE), .val (.ref wE), .unset, .unset, .unset, .unset, .unset, .unset] [(.int np), (.ref b215_0)])) _
      refine XS.aload X231.here hx rfl (hb hby at_397) rfl rfl ?_
      show Steps p.tables e below (T231.setTop (mkF m 399 #[.val (.int x0), .val (.int x1), .val (.int x2), .val (.int x3), .val (.int x4), .val (.int x5), .val (.int fm), .val (.int fo), .val (.int fc), .val (.int ft), .val (.int fi), .val (.int fg), .val (.int fn), .val (.ref b36), .val (.ref b38), .val (.ref b41), .val (.ref b45), .val (.ref b50), .val (.ref b56), .val (.ref b63), .val (.ref b71), .val cv, .val (.ref w78), .val (.ref w93), .val (.ref w109), .val (.ref w126), .val (.ref w144), .val .null, .val (.ref wE), .val (.ref b178), .val (.ref b194), .val (.ref b213_1), .val (.ref b215_0), .val (.ref b218_0), .val (.ref b222_0), .val (.ref wE), .val (.ref wE), .val (.ref wE), .unset, .unset, .unset, .unset, .unset, .unset] [(.ref b36), (.int np), (.ref b215_0)])) _
      refine st240 _ ?_
      show Steps p.tables e below (T240.setTop (mkF m 402 #[.val (.int x0), .val (.int x1), .val (.int x2), .val (.int x3), .val (.int x4), .val (.int x5), .val (.int fm), .val (.int fo), .val (.int fc), .val (.int ft), .val (.int fi), .val (.int fg), .val (.int fn), .val (.ref b36), .val (.ref b38), .val (.ref b41), .val (.ref b45), .val (.ref b50), .val (.ref b56), .val (.ref b63), .val (.ref b71), .val cv, .val (.ref w78), .val (.ref w93), .val (.ref w109), .val (.ref w126), .val (.ref w144), .val .null, .val (.ref wE), .val (.ref b178), .val (.ref b194), .val (.ref b213_1), .val (.ref b215_0), .val (.ref b218_0), .val (.ref b222_0), .val (.ref wE), .val (.ref wE), .val (.ref wE), .unset, .unset, .unset, .unset, .unset, .unset] [(.int (1 : Int32))])) _
      refine XS.istore X240.here hx rfl (hb hby at_402) rfl (l' := #[.val (.int x0), .val (.int x1), .val (.int x2), .val (.int x3), .val (.int x4), .val (.int x5), .val (.int fm), .val (.int fo), .val (.int fc), .val (.int ft), .val (.int fi), .val (.int fg), .val (.int fn), .val (.ref b36), .val (.ref b38), .val (.ref b41), .val (.ref b45), .val (.ref b50), .val (.ref b56), .val (.ref b63), .val (.ref b71), .val cv, .val (.ref w78), .val (.ref w93), .val (.ref w109), .val (.ref w126), .val (.ref w144), .val .null, .val (.ref wE), .val (.ref b178), .val (.ref b194), .val (.ref b213_1), .val (.ref b215_0), .val (.ref b218_0), .val (.ref b222_0), .val (.ref wE), .val (.ref wE), .val (.ref wE), .val (.int (1 : Int32)), .unset, .unset, .unset, .unset, .unset]) rfl ?_
      refine XS.aload X240.here hx rfl (hb hby at_404) rfl rfl ?_
      refine XS.iload X240.here hx rfl (hb hby at_406) rfl ?_
      refine XS.aload X240.here hx rfl (hb hby at_408) rfl rfl ?_
      show Steps p.tables e below (T240.setTop (mkF m 410 #[.val (.int x0), .val (.int x1), .val (.int x2), .val (.int x3), .val (.int x4), .val (.int x5), .val (.int fm), .val (.int fo), .val (.int fc), .val (.int ft), .val (.int fi), .val (.int fg), .val (.int fn), .val (.ref b36), .val (.ref b38), .val (.ref b41), .val (.ref b45), .val (.ref b50), .val (.ref b56), .val (.ref b63), .val (.ref b71), .val cv, .val (.ref w78), .val (.ref w93), .val (.ref w109), .val (.ref w126), .val (.ref w144), .val .null, .val (.ref wE), .val (.ref b178), .val (.ref b194), .val (.ref b213_1), .val (.ref b215_0), .val (.ref b218_0), .val (.ref b222_0), .val (.ref wE), .val (.ref wE), .val (.ref wE), .val (.int (1 : Int32)), .unset, .unset, .unset, .unset, .unset] [(.ref b38), (.int fm), (.ref b218_0)])) _
      refine st244 _ ?_
      show Steps p.tables e below (T244.setTop (mkF m 413 #[.val (.int x0), .val (.int x1), .val (.int x2), .val (.int x3), .val (.int x4), .val (.int x5), .val (.int fm), .val (.int fo), .val (.int fc), .val (.int ft), .val (.int fi), .val (.int fg), .val (.int fn), .val (.ref b36), .val (.ref b38), .val (.ref b41), .val (.ref b45), .val (.ref b50), .val (.ref b56), .val (.ref b63), .val (.ref b71), .val cv, .val (.ref w78), .val (.ref w93), .val (.ref w109), .val (.ref w126), .val (.ref w144), .val .null, .val (.ref wE), .val (.ref b178), .val (.ref b194), .val (.ref b213_1), .val (.ref b215_0), .val (.ref b218_0), .val (.ref b222_0), .val (.ref wE), .val (.ref wE), .val (.ref wE), .val (.int (1 : Int32)), .unset, .unset, .unset, .unset, .unset] [(.int (1 : Int32))])) _
      refine XS.istore X244.here hx rfl (hb hby at_413) rfl (l' := #[.val (.int x0), .val (.int x1), .val (.int x2), .val (.int x3), .val (.int x4), .val (.int x5), .val (.int fm), .val (.int fo), .val (.int fc), .val (.int ft), .val (.int fi), .val (.int fg), .val (.int fn), .val (.ref b36), .val (.ref b38), .val (.ref b41), .val (.ref b45), .val (.ref b50), .val (.ref b56), .val (.ref b63), .val (.ref b71), .val cv, .val (.ref w78), .val (.ref w93), .val (.ref w109), .val (.ref w126), .val (.ref w144), .val .null, .val (.ref wE), .val (.ref b178), .val (.ref b194), .val (.ref b213_1), .val (.ref b215_0), .val (.ref b218_0), .val (.ref b222_0), .val (.ref wE), .val (.ref wE), .val (.ref wE), .val (.int (1 : Int32)), .val (.int (1 : Int32)), .unset, .unset, .unset, .unset]) rfl ?_
      refine XS.aload X244.here hx rfl (hb hby at_415) rfl rfl ?_
      refine XS.iload X244.here hx rfl (hb hby at_417) rfl ?_
      refine XS.aload X244.here hx rfl (hb hby at_419) rfl rfl ?_
      show Steps p.tables e below (T244.setTop (mkF m 421 #[.val (.int x0), .val (.int x1), .val (.int x2), .val (.int x3), .val (.int x4), .val (.int x5), .val (.int fm), .val (.int fo), .val (.int fc), .val (.int ft), .val (.int fi), .val (.int fg), .val (.int fn), .val (.ref b36), .val (.ref b38), .val (.ref b41), .val (.ref b45), .val (.ref b50), .val (.ref b56), .val (.ref b63), .val (.ref b71), .val cv, .val (.ref w78), .val (.ref w93), .val (.ref w109), .val (.ref w126), .val (.ref w144), .val .null, .val (.ref wE), .val (.ref b178), .val (.ref b194), .val (.ref b213_1), .val (.ref b215_0), .val (.ref b218_0), .val (.ref b222_0), .val (.ref wE), .val (.ref wE), .val (.ref wE), .val (.int (1 : Int32)), .val (.int (1 : Int32)), .unset, .unset, .unset, .unset] [(.ref b56), (.int fi), (.ref b222_0)])) _
      refine st246 _ ?_
      show Steps p.tables e below (T246.setTop (mkF m 424 #[.val (.int x0), .val (.int x1), .val (.int x2), .val (.int x3), .val (.int x4), .val (.int x5), .val (.int fm), .val (.int fo), .val (.int fc), .val (.int ft), .val (.int fi), .val (.int fg), .val (.int fn), .val (.ref b36), .val (.ref b38), .val (.ref b41), .val (.ref b45), .val (.ref b50), .val (.ref b56), .val (.ref b63), .val (.ref b71), .val cv, .val (.ref w78), .val (.ref w93), .val (.ref w109), .val (.ref w126), .val (.ref w144), .val .null, .val (.ref wE), .val (.ref b178), .val (.ref b194), .val (.ref b213_1), .val (.ref b215_0), .val (.ref b218_0), .val (.ref b222_0), .val (.ref wE), .val (.ref wE), .val (.ref wE), .val (.int (1 : Int32)), .val (.int (1 : Int32)), .unset, .unset, .unset, .unset] [(.int (1 : Int32))])) _
      refine XS.istore X246.here hx rfl (hb hby at_424) rfl (l' := #[.val (.int x0), .val (.int x1), .val (.int x2), .val (.int x3), .val (.int x4), .val (.int x5), .val (.int fm), .val (.int fo), .val (.int fc), .val (.int ft), .val (.int fi), .val (.int fg), .val (.int fn), .val (.ref b36), .val (.ref b38), .val (.ref b41), .val (.ref b45), .val (.ref b50), .val (.ref b56), .val (.ref b63), .val (.ref b71), .val cv, .val (.ref w78), .val (.ref w93), .val (.ref w109), .val (.ref w126), .val (.ref w144), .val .null, .val (.ref wE), .val (.ref b178), .val (.ref b194), .val (.ref b213_1), .val (.ref b215_0), .val (.ref b218_0), .val (.ref b222_0), .val (.ref wE), .val (.ref wE), .val (.ref wE), .val (.int (1 : Int32)), .val (.int (1 : Int32)), .val (.int (1 : Int32)), .unset, .unset, .unset]) rfl ?_
      refine XS.iload X246.here hx rfl (hb hby at_426) rfl ?_
      refine XS.ifYes X246.here hx rfl (pc0 := 428) (pc' := 459) rfl (hb hby at_428) rfl ((if0 _ _).trans (teq hc163).1) (by decide) (by decide) ?_
      refine XS.aload X246.here hx rfl (hb hby at_459) rfl rfl ?_
      show Steps p.tables e below (T246.setTop (mkF m 461 #[.val (.int x0), .val (.int x1), .val (.int x2), .val (.int x3), .val (.int x4), .val (.int x5), .val (.int fm), .val (.int fo), .val (.int fc), .val (.int ft), .val (.int fi), .val (.int fg), .val (.int fn), .val (.ref b36), .val (.ref b38), .val (.ref b41), .val (.ref b45), .val (.ref b50), .val (.ref b56), .val (.ref b63), .val (.ref b71), .val cv, .val (.ref w78), .val (.ref w93), .val (.ref w109), .val (.ref w126), .val (.ref w144), .val .null, .val (.ref wE), .val (.ref b178), .val (.ref b194), .val (.ref b213_1), .val (.ref b215_0), .val (.ref b218_0), .val (.ref b222_0), .val (.ref wE), .val (.ref wE), .val (.ref wE), .val (.int (1 : Int32)), .val (.int (1 : Int32)), .val (.int (1 : Int32)), .unset, .unset, .unset] [(.ref wE)])) _
      refine st247.trans ?_
      show Steps p.tables e below (T247.setTop (mkF m 464 #[.val (.int x0), .val (.int x1), .val (.int x2), .val (.int x3), .val (.int x4), .val (.int x5), .val (.int fm), .val (.int fo), .val (.int fc), .val (.int ft), .val (.int fi), .val (.int fg), .val (.int fn), .val (.ref b36), .val (.ref b38), .val (.ref b41), .val (.ref b45), .val (.ref b50), .val (.ref b56), .val (.ref b63), .val (.ref b71), .val cv, .val (.ref w78), .val (.ref w93), .val (.ref w109), .val (.ref w126), .val (.ref w144), .val .null, .val (.ref wE), .val (.ref b178), .val (.ref b194), .val (.ref b213_1), .val (.ref b215_0), .val (.ref b218_0), .val (.ref b222_0), .val (.ref wE), .val (.ref wE), .val (.ref wE), .val (.int (1 : Int32)), .val (.int (1 : Int32)), .val (.int (1 : Int32)), .unset, .unset, .unset] [(.int (0 : Int32))])) _
      refine XS.ifNo X247.here hx rfl (hb hby at_464) rfl ((if0 _ _).trans (teq (by decide : (0 : Int32) = (0 : Int32))).2) ?_
      refine XS.iconst X247.here hx rfl (hb hby at_467) ?_
      refine XS.goto X247.here hx rfl (pc0 := 468) (pc' := 472) rfl (hb hby at_468) (by decide) (by decide) ?_
      refine XS.istore X247.here hx rfl (hb hby at_472) rfl (l' := #[.val (.int x0), .val (.int x1), .val (.int x2), .val (.int x3), .val (.int x4), .val (.int x5), .val (.int fm), .val (.int fo), .val (.int fc), .val (.int ft), .val (.int fi), .val (.int fg), .val (.int fn), .val (.ref b36), .val (.ref b38), .val (.ref b41), .val (.ref b45), .val (.ref b50), .val (.ref b56), .val (.ref b63), .val (.ref b71), .val cv, .val (.ref w78), .val (.ref w93), .val (.ref w109), .val (.ref w126), .val (.ref w144), .val .null, .val (.ref wE), .val (.ref b178), .val (.ref b194), .val (.ref b213_1), .val (.ref b215_0), .val (.ref b218_0), .val (.ref b222_0), .val (.ref wE), .val (.ref wE), .val (.ref wE), .val (.int (1 : Int32)), .val (.int (1 : Int32)), .val (.int (1 : Int32)), .val (.int (1 : Int32)), .unset, .unset]) rfl ?_
      refine XS.aload X247.here hx rfl (hb hby at_474) rfl rfl ?_
      show Steps p.tables e below (T247.setTop (mkF m 476 #[.val (.int x0), .val (.int x1), .val (.int x2), .val (.int x3), .val (.int x4), .val (.int x5), .val (.int fm), .val (.int fo), .val (.int fc), .val (.int ft), .val (.int fi), .val (.int fg), .val (.int fn), .val (.ref b36), .val (.ref b38), .val (.ref b41), .val (.ref b45), .val (.ref b50), .val (.ref b56), .val (.ref b63), .val (.ref b71), .val cv, .val (.ref w78), .val (.ref w93), .val (.ref w109), .val (.ref w126), .val (.ref w144), .val .null, .val (.ref wE), .val (.ref b178), .val (.ref b194), .val (.ref b213_1), .val (.ref b215_0), .val (.ref b218_0), .val (.ref b222_0), .val (.ref wE), .val (.ref wE), .val (.ref wE), .val (.int (1 : Int32)), .val (.int (1 : Int32)), .val (.int (1 : Int32)), .val (.int (1 : Int32)), .unset, .unset] [(.ref wE)])) _
      refine st248.trans ?_
      show Steps p.tables e below (T248.setTop (mkF m 479 #[.val (.int x0), .val (.int x1), .val (.int x2), .val (.int x3), .val (.int x4), .val (.int x5), .val (.int fm), .val (.int fo), .val (.int fc), .val (.int ft), .val (.int fi), .val (.int fg), .val (.int fn), .val (.ref b36), .val (.ref b38), .val (.ref b41), .val (.ref b45), .val (.ref b50), .val (.ref b56), .val (.ref b63), .val (.ref b71), .val cv, .val (.ref w78), .val (.ref w93), .val (.ref w109), .val (.ref w126), .val (.ref w144), .val .null, .val (.ref wE), .val (.ref b178), .val (.ref b194), .val (.ref b213_1), .val (.ref b215_0), .val (.ref b218_0), .val (.ref b222_0), .val (.ref wE), .val (.ref wE), .val (.ref wE), .val (.int (1 : Int32)), .val (.int (1 : Int32)), .val (.int (1 : Int32)), .val (.int (1 : Int32)), .unset, .unset] [(.int (0 : Int32))])) _
      refine XS.ifNo X248.here hx rfl (hb hby at_479) rfl ((if0 _ _).trans (teq (by decide : (0 : Int32) = (0 : Int32))).2) ?_
      show Steps p.tables e below (T248.setTop (mkF m 482 #[.val (.int x0), .val (.int x1), .val (.int x2), .val (.int x3), .val (.int x4), .val (.int x5), .val (.int fm), .val (.int fo), .val (.int fc), .val (.int ft), .val (.int fi), .val (.int fg), .val (.int fn), .val (.ref b36), .val (.ref b38), .val (.ref b41), .val (.ref b45), .val (.ref b50), .val (.ref b56), .val (.ref b63), .val (.ref b71), .val cv, .val (.ref w78), .val (.ref w93), .val (.ref w109), .val (.ref w126), .val (.ref w144), .val .null, .val (.ref wE), .val (.ref b178), .val (.ref b194), .val (.ref b213_1), .val (.ref b215_0), .val (.ref b218_0), .val (.ref b222_0), .val (.ref wE), .val (.ref wE), .val (.ref wE), .val (.int (1 : Int32)), .val (.int (1 : Int32)), .val (.int (1 : Int32)), .val (.int (1 : Int32)), .unset, .unset] [])) _
      refine XS.iconst X248.here hx rfl (hb hby at_482) ?_
      refine XS.goto X248.here hx rfl (pc0 := 483) (pc' := 487) rfl (hb hby at_483) (by decide) (by decide) ?_
      refine XS.istore X248.here hx rfl (hb hby at_487) rfl (l' := #[.val (.int x0), .val (.int x1), .val (.int x2), .val (.int x3), .val (.int x4), .val (.int x5), .val (.int fm), .val (.int fo), .val (.int fc), .val (.int ft), .val (.int fi), .val (.int fg), .val (.int fn), .val (.ref b36), .val (.ref b38), .val (.ref b41), .val (.ref b45), .val (.ref b50), .val (.ref b56), .val (.ref b63), .val (.ref b71), .val cv, .val (.ref w78), .val (.ref w93), .val (.ref w109), .val (.ref w126), .val (.ref w144), .val .null, .val (.ref wE), .val (.ref b178), .val (.ref b194), .val (.ref b213_1), .val (.ref b215_0), .val (.ref b218_0), .val (.ref b222_0), .val (.ref wE), .val (.ref wE), .val (.ref wE), .val (.int (1 : Int32)), .val (.int (1 : Int32)), .val (.int (1 : Int32)), .val (.int (1 : Int32)), .val (.int (1 : Int32)), .unset]) rfl ?_
      refine XS.aload X248.here hx rfl (hb hby at_489) rfl rfl ?_
      show Steps p.tables e below (T248.setTop (mkF m 491 #[.val (.int x0), .val (.int x1), .val (.int x2), .val (.int x3), .val (.int x4), .val (.int x5), .val (.int fm), .val (.int fo), .val (.int fc), .val (.int ft), .val (.int fi), .val (.int fg), .val (.int fn), .val (.ref b36), .val (.ref b38), .val (.ref b41), .val (.ref b45), .val (.ref b50), .val (.ref b56), .val (.ref b63), .val (.ref b71), .val cv, .val (.ref w78), .val (.ref w93), .val (.ref w109), .val (.ref w126), .val (.ref w144), .val .null, .val (.ref wE), .val (.ref b178), .val (.ref b194), .val (.ref b213_1), .val (.ref b215_0), .val (.ref b218_0), .val (.ref b222_0), .val (.ref wE), .val (.ref wE), .val (.ref wE), .val (.int (1 : Int32)), .val (.int (1 : Int32)), .val (.int (1 : Int32)), .val (.int (1 : Int32)), .val (.int (1 : Int32)), .unset] [(.ref wE)])) _
      refine st249.trans ?_
      show Steps p.tables e below (T249.setTop (mkF m 494 #[.val (.int x0), .val (.int x1), .val (.int x2), .val (.int x3), .val (.int x4), .val (.int x5), .val (.int fm), .val (.int fo), .val (.int fc), .val (.int ft), .val (.int fi), .val (.int fg), .val (.int fn), .val (.ref b36), .val (.ref b38), .val (.ref b41), .val (.ref b45), .val (.ref b50), .val (.ref b56), .val (.ref b63), .val (.ref b71), .val cv, .val (.ref w78), .val (.ref w93), .val (.ref w109), .val (.ref w126), .val (.ref w144), .val .null, .val (.ref wE), .val (.ref b178), .val (.ref b194), .val (.ref b213_1), .val (.ref b215_0), .val (.ref b218_0), .val (.ref b222_0), .val (.ref wE), .val (.ref wE), .val (.ref wE), .val (.int (1 : Int32)), .val (.int (1 : Int32)), .val (.int (1 : Int32)), .val (.int (1 : Int32)), .val (.int (1 : Int32)), .unset] [(.int (0 : Int32))])) _
      refine XS.ifNo X249.here hx rfl (hb hby at_494) rfl ((if0 _ _).trans (teq (by decide : (0 : Int32) = (0 : Int32))).2) ?_
      refine XS.iconst X249.here hx rfl (hb hby at_497) ?_
      refine XS.goto X249.here hx rfl (pc0 := 498) (pc' := 502) rfl (hb hby at_498) (by decide) (by decide) ?_
      refine XS.istore X249.here hx rfl (hb hby at_502) rfl (l' := #[.val (.int x0), .val (.int x1), .val (.int x2), .val (.int x3), .val (.int x4), .val (.int x5), .val (.int fm), .val (.int fo), .val (.int fc), .val (.int ft), .val (.int fi), .val (.int fg), .val (.int fn), .val (.ref b36), .val (.ref b38), .val (.ref b41), .val (.ref b45), .val (.ref b50), .val (.ref b56), .val (.ref b63), .val (.ref b71), .val cv, .val (.ref w78), .val (.ref w93), .val (.ref w109), .val (.ref w126), .val (.ref w144), .val .null, .val (.ref wE), .val (.ref b178), .val (.ref b194), .val (.ref b213_1), .val (.ref b215_0), .val (.ref b218_0), .val (.ref b222_0), .val (.ref wE), .val (.ref wE), .val (.ref wE), .val (.int (1 : Int32)), .val (.int (1 : Int32)), .val (.int (1 : Int32)), .val (.int (1 : Int32)), .val (.int (1 : Int32)), .val (.int (1 : Int32))]) rfl ?_
      refine XS.iload X249.here hx rfl (hb hby at_504) rfl ?_
      refine XS.ifNo X249.here hx rfl (hb hby at_506) rfl ((if0 _ _).trans (feq (by decide : ¬ ((1 : Int32) = (0 : Int32)))).1) ?_
      refine XS.iload X249.here hx rfl (hb hby at_509) rfl ?_
      show Steps p.tables e below (T249.setTop (mkF m 511 #[.val (.int x0), .val (.int x1), .val (.int x2), .val (.int x3), .val (.int x4), .val (.int x5), .val (.int fm), .val (.int fo), .val (.int fc), .val (.int ft), .val (.int fi), .val (.int fg), .val (.int fn), .val (.ref b36), .val (.ref b38), .val (.ref b41), .val (.ref b45), .val (.ref b50), .val (.ref b56), .val (.ref b63), .val (.ref b71), .val cv, .val (.ref w78), .val (.ref w93), .val (.ref w109), .val (.ref w126), .val (.ref w144), .val .null, .val (.ref wE), .val (.ref b178), .val (.ref b194), .val (.ref b213_1), .val (.ref b215_0), .val (.ref b218_0), .val (.ref b222_0), .val (.ref wE), .val (.ref wE), .val (.ref wE), .val (.int (1 : Int32)), .val (.int (1 : Int32)), .val (.int (1 : Int32)), .val (.int (1 : Int32)), .val (.int (1 : Int32)), .val (.int (1 : Int32))] [(.int (1 : Int32))])) _
      refine XS.ifNo X249.here hx rfl (hb hby at_511) rfl ((if0 _ _).trans (feq (by decide : ¬ ((1 : Int32) = (0 : Int32)))).1) ?_
      refine XS.iload X249.here hx rfl (hb hby at_514) rfl ?_
      refine XS.ifNo X249.here hx rfl (hb hby at_516) rfl ((if0 _ _).trans (feq (by decide : ¬ ((1 : Int32) = (0 : Int32)))).1) ?_
      refine XS.iload X249.here hx rfl (hb hby at_519) rfl ?_
      refine XS.ifNo X249.here hx rfl (hb hby at_521) rfl ((if0 _ _).trans (feq (by decide : ¬ ((1 : Int32) = (0 : Int32)))).1) ?_
      refine XS.iload X249.here hx rfl (hb hby at_524) rfl ?_
      refine XS.ifNo X249.here hx rfl (hb hby at_526) rfl ((if0 _ _).trans (feq (by decide : ¬ ((1 : Int32) = (0 : Int32)))).1) ?_
      refine XS.iload X249.here hx rfl (hb hby at_529) rfl ?_
      refine XS.ifNo X249.here hx rfl (hb hby at_531) rfl ((if0 _ _).trans (feq (by decide : ¬ ((1 : Int32) = (0 : Int32)))).1) ?_
      refine XS.iconst X249.here hx rfl (hb hby at_534) ?_
      refine XS.goto X249.here hx rfl (pc0 := 535) (pc' := 539) rfl (hb hby at_535) (by decide) (by decide) ?_
      show Steps p.tables e below (T249.setTop (mkF m 539 #[.val (.int x0), .val (.int x1), .val (.int x2), .val (.int x3), .val (.int x4), .val (.int x5), .val (.int fm), .val (.int fo), .val (.int fc), .val (.int ft), .val (.int fi), .val (.int fg), .val (.int fn), .val (.ref b36), .val (.ref b38), .val (.ref b41), .val (.ref b45), .val (.ref b50), .val (.ref b56), .val (.ref b63), .val (.ref b71), .val cv, .val (.ref w78), .val (.ref w93), .val (.ref w109), .val (.ref w126), .val (.ref w144), .val .null, .val (.ref wE), .val (.ref b178), .val (.ref b194), .val (.ref b213_1), .val (.ref b215_0), .val (.ref b218_0), .val (.ref b222_0), .val (.ref wE), .val (.ref wE), .val (.ref wE), .val (.int (1 : Int32)), .val (.int (1 : Int32)), .val (.int (1 : Int32)), .val (.int (1 : Int32)), .val (.int (1 : Int32)), .val (.int (1 : Int32))] [(.int (1 : Int32))])) _
      exact retN X249 hx (t := .boolean) Bd.returns (by simp) (hb hby at_539) lhr
    · skip
      show Q0 Z x0 x1 x2 x3 x4 x5 G1 wE wD h0 n0 _ T249.heap _
      rw [eq249]
      exact ⟨rfl, N249⟩
    · skip
      show CHr Z own_EL s.vm s.heap T249.vm T249.heap
      rw [hh]
      rw [eq249]
      exact CR222.trans (CHv.at X249 hZ hEL CR222.1)
  · skip
    have f250 := ((((((f64.keep Kq71).keep Kq78).keep Kq93).keep Kq109).keep Kq126).keep Kq144)
    have f251 := ((((((f65.keep Kq71).keep Kq78).keep Kq93).keep Kq109).keep Kq126).keep Kq144)
    have f252 := ((((((f66.keep Kq71).keep Kq78).keep Kq93).keep Kq109).keep Kq126).keep Kq144)
    have f253 := ((((((f67.keep Kq71).keep Kq78).keep Kq93).keep Kq109).keep Kq126).keep Kq144)
    have f254 := ((((((f68.keep Kq71).keep Kq78).keep Kq93).keep Kq109).keep Kq126).keep Kq144)
    have f255 := ((((((f69.keep Kq71).keep Kq78).keep Kq93).keep Kq109).keep Kq126).keep Kq144)
    have f256 := ((((((gE63.keep Kq71).keep Kq78).keep Kq93).keep Kq109).keep Kq126).keep Kq144)
    have f257 := (((((gE71.keep Kq78).keep Kq93).keep Kq109).keep Kq126).keep Kq144)
    have f258 := ((((gE78.keep Kq93).keep Kq109).keep Kq126).keep Kq144)
    have f259 := (((gE93.keep Kq109).keep Kq126).keep Kq144)
    have f260 := ((gE109.keep Kq126).keep Kq144)
    have f261 := (gE126.keep Kq144)
    obtain ⟨T262, h262, X262, e262, E262, A262, D262, -, st262⟩ := newO X144 hx hZ hown (wd236 hw) (wd237 hw) (wd238 hw) e144 (g := (mkF m 268 #[.val (.int x0), .val (.int x1), .val (.int x2), .val (.int x3), .val (.int x4), .val (.int x5), .val (.int fm), .val (.int fo), .val (.int fc), .val (.int ft), .val (.int fi), .val (.int fg), .val (.int fn), .val (.ref b36), .val (.ref b38), .val (.ref b41), .val (.ref b45), .val (.ref b50), .val (.ref b56), .val (.ref b63), .val (.ref b71), .val cv, .val (.ref w78), .val (.ref w93), .val (.ref w109), .val (.ref w126), .val (.ref w144), .val .null, .unset, .unset, .unset, .unset, .unset, .unset, .unset, .unset, .unset, .unset, .unset, .unset, .unset, .unset, .unset, .unset] [])) rfl (hb hby at_268) (by decide) (by decide)
    obtain ⟨b262, g262⟩ : ∃ z, z = h144.size := ⟨_, rfl⟩
    rw [← g262] at A262 D262 st262
    have ne_b36_b262 : b36 ≠ b262 := Nat.ne_of_lt (Nat.lt_of_lt_of_le f250.lt (Nat.le_of_eq g262.symm))
    have ne_b38_b262 : b38 ≠ b262 := Nat.ne_of_lt (Nat.lt_of_lt_of_le f251.lt (Nat.le_of_eq g262.symm))
    have ne_b41_b262 : b41 ≠ b262 := Nat.ne_of_lt (Nat.lt_of_lt_of_le f252.lt (Nat.le_of_eq g262.symm))
    have ne_b45_b262 : b45 ≠ b262 := Nat.ne_of_lt (Nat.lt_of_lt_of_le f253.lt (Nat.le_of_eq g262.symm))
    have ne_b50_b262 : b50 ≠ b262 := Nat.ne_of_lt (Nat.lt_of_lt_of_le f254.lt (Nat.le_of_eq g262.symm))
    have ne_b56_b262 : b56 ≠ b262 := Nat.ne_of_lt (Nat.lt_of_lt_of_le f255.lt (Nat.le_of_eq g262.symm))
    have ne_b63_b262 : b63 ≠ b262 := Nat.ne_of_lt (Nat.lt_of_lt_of_le f256.lt (Nat.le_of_eq g262.symm))
    have ne_b71_b262 : b71 ≠ b262 := Nat.ne_of_lt (Nat.lt_of_lt_of_le f257.lt (Nat.le_of_eq g262.symm))
    have ne_w78_b262 : w78 ≠ b262 := Nat.ne_of_lt (Nat.lt_of_lt_of_le f258.lt (Nat.le_of_eq g262.symm))
    have ne_w93_b262 : w93 ≠ b262 := Nat.ne_of_lt (Nat.lt_of_lt_of_le f259.lt (Nat.le_of_eq g262.symm))
    have ne_w109_b262 : w109 ≠ b262 := Nat.ne_of_lt (Nat.lt_of_lt_of_le f260.lt (Nat.le_of_eq g262.symm))
    have ne_w126_b262 : w126 ≠ b262 := Nat.ne_of_lt (Nat.lt_of_lt_of_le f261.lt (Nat.le_of_eq g262.symm))
    have ne_w144_b262 : w144 ≠ b262 := Nat.ne_of_lt (Nat.lt_of_lt_of_le gE144.lt (Nat.le_of_eq g262.symm))
    have ge_b262 : n0 ≤ b262 := Nat.le_trans Z144 (Nat.le_of_eq g262.symm)
    have sz_b262 : h0.size ≤ b262 := Nat.le_trans K144.1 (Nat.le_of_eq g262.symm)
    have CS262 := CHr.ext E262 CR144.1
    have CR262 := CR144.trans CS262
    have hk262 : _ ≤ h262.size := Nat.le_trans hk144 E262.1
    have Z262 : n0 ≤ h262.size := Nat.le_trans Z144 E262.1
    have K262 : Keep h0 h262 [] := (K144.ext E262)
    have F262_name : Fld Z h262 b262 cn14 "name" "Ljava/lang/String;" .null := D262 (Or.inr (wd251 hw)) (ty := (.object "java/lang/String")) (by decide)
    have F262_type : Fld Z h262 b262 cn14 "type" "Ljava/lang/String;" .null := D262 (Or.inr (wd253 hw)) (ty := (.object "java/lang/String")) (by decide)
    have F262_value : Fld Z h262 b262 cn14 "value" "Ljava/lang/String;" .null := D262 (Or.inr (wd255 hw)) (ty := (.object "java/lang/String")) (by decide)
    have f263 := (f256.ext E262)
    obtain ⟨_, _, ⟨T264, L264, kc264, ks264⟩, -, X264, hSq264, hgr264, ⟨Lc264, hQ264, l264, y264, z264, CS264⟩, st264⟩ := X262.specialBackS hx (y := mn17) rfl hown (mvT hZ (wd239 hw)) (mvT hZ (wd240 hw)) (mvT hZ (wd241 hw)) (by decide) (own_backSafe (s := s) (vm0 := s.vm) (EL := own_EL) (ss := []) (W := 1) (rmA54 l Z a0 hw [] b262 b63 b71 h262 n0 Z262 f263 A262 F262_name ge_b262 F262_type F262_value) hZ (wd241 hw) (wd238 hw) (by decide) (by decide) hEL CR262.1 all0) (g := (mkF m 277 #[.val (.int x0), .val (.int x1), .val (.int x2), .val (.int x3), .val (.int x4), .val (.int x5), .val (.int fm), .val (.int fo), .val (.int fc), .val (.int ft), .val (.int fi), .val (.int fg), .val (.int fn), .val (.ref b36), .val (.ref b38), .val (.ref b41), .val (.ref b45), .val (.ref b50), .val (.ref b56), .val (.ref b63), .val (.ref b71), .val cv, .val (.ref w78), .val (.ref w93), .val (.ref w109), .val (.ref w126), .val (.ref w144), .val .null, .unset, .unset, .unset, .unset, .unset, .unset, .unset, .unset, .unset, .unset, .unset, .unset, .unset, .unset, .unset, .unset] [.null, (.ref b71), (.ref b63), (.ref b262), (.ref b262)])) rfl (by rw [hml]; rfl) (Steps.refl _) (a := b262) (argsL := [(.ref b63), (.ref b71), .null]) (rest := [(.ref b262)]) (lenOf pd__Ljava_lang_String_Ljava_lang_String_Ljava_lang_String__V rfl) rfl (by show 2 * 0 + _ ≤ _; exact Nat.le_of_eq rfl) (hb hby at_277) (fun _ _ => ⟨rfl, e262, (by decide : 38 + 2 ≤ _), (by decide : 136 + 20 ≤ _)⟩)
    dsimp only [Pt.U, Pt.locs, Pt.cells, Pt.slots] at X264 l264 y264 z264 st264 hQ264 hSq264 hgr264 CS264
    subst l264 y264 z264
    obtain ⟨X264, hS264, hZ264, hown264⟩ := rebS hS0 hk262 X264 hSq264 (by rw [e262] at hgr264; exact hgr264) hZ hown
    obtain ⟨rfl, Nq264, Kq264, g264_0, g264_1, g264_2, g264_3⟩ := hQ264
    have N264 := Fr.app Nq144 Nq264
    have CR264 := CR262.trans CS264
    have Z264 : n0 ≤ T264.heap.size := Nat.le_trans Z262 Kq264.1
    have K264 : Keep h0 T264.heap [] := Keep.trans K262 Kq264 (allS (Or.inr sz_b262) all0)
    have f265 := ((f250.ext E262).keep Kq264)
    have f266 := ((f251.ext E262).keep Kq264)
    have f267 := ((f252.ext E262).keep Kq264)
    have f268 := ((f253.ext E262).keep Kq264)
    have f269 := ((f254.ext E262).keep Kq264)
    have f270 := ((f255.ext E262).keep Kq264)
    have f271 := (f263.keep Kq264)
    have f272 := ((f257.ext E262).keep Kq264)
    have f273 := ((f258.ext E262).keep Kq264)
    have f274 := ((f259.ext E262).keep Kq264)
    have f275 := ((f260.ext E262).keep Kq264)
    have f276 := ((f261.ext E262).keep Kq264)
    have f277 := ((gE144.ext E262).keep Kq264)
    obtain ⟨_, _, ⟨T278, L278, kc278, ks278⟩, -, X278, ⟨Lc278, hQ278, l278, y278, z278⟩, st278⟩ := Jvm.LawKit.callS X264 hx (y := mn30) hown264 (mvT hZ264 (wd228 hw)) (mvT hZ264 (wd229 hw)) (mvT hZ264 (wd36 hw)) (mvT hZ264 (wd230 hw)) (by decide) (backOf (W := 0) (rmA7 l Z a0 hw [] b262 T264.heap n0 Z264 ) hZ264 (wd230 hw) (wd36 hw) (by decide) (by decide)) (g := (mkF m 289 #[.val (.int x0), .val (.int x1), .val (.int x2), .val (.int x3), .val (.int x4), .val (.int x5), .val (.int fm), .val (.int fo), .val (.int fc), .val (.int ft), .val (.int fi), .val (.int fg), .val (.int fn), .val (.ref b36), .val (.ref b38), .val (.ref b41), .val (.ref b45), .val (.ref b50), .val (.ref b56), .val (.ref b63), .val (.ref b71), .val cv, .val (.ref w78), .val (.ref w93), .val (.ref w109), .val (.ref w126), .val (.ref w144), .val (.ref b262), .unset, .unset, .unset, .unset, .unset, .unset, .unset, .unset, .unset, .unset, .unset, .unset, .unset, .unset, .unset, .unset] [(.ref b262)])) rfl (by rw [hml]; rfl) (argsL := [(.ref b262)]) (rest := []) (lenOf pd__Ljava_lang_Object__Ljava_util_Optional_ rfl) rfl (by show 2 * 0 + _ ≤ _; exact Nat.le_of_eq rfl) (hb hby at_289) (fun _ _ => ⟨rfl, rfl, (by decide : 40 + 1 ≤ _), (by decide : 156 + 1 ≤ _)⟩)
    dsimp only [Pt.U, Pt.locs, Pt.cells, Pt.slots] at X278 l278 y278 z278 st278 hQ278
    subst l278 y278 z278
    obtain ⟨b278_0, rfl, Nq278, Kq278, sz278_0, g278_0, g278_1⟩ := hQ278
    have N278 := Fr.app N264 Nq278
    have CS278 := CHr.keep Kq278 all0 CR264.1
    have CR278 := CR264.trans CS278
    have hk278 : _ ≤ T278.heap.size := Nat.le_trans (Nat.le_refl T264.heap.size) Kq278.1
    have Z278 : n0 ≤ T278.heap.size := Nat.le_trans Z264 Kq278.1
    have K278 : Keep h0 T278.heap [] := Keep.trans K264 Kq278 all0
    have ne_b36_b278_0 : b36 ≠ b278_0 := Nat.ne_of_lt (Nat.lt_of_lt_of_le f265.lt sz278_0)
    have ne_b38_b278_0 : b38 ≠ b278_0 := Nat.ne_of_lt (Nat.lt_of_lt_of_le f266.lt sz278_0)
    have ne_b41_b278_0 : b41 ≠ b278_0 := Nat.ne_of_lt (Nat.lt_of_lt_of_le f267.lt sz278_0)
    have ne_b45_b278_0 : b45 ≠ b278_0 := Nat.ne_of_lt (Nat.lt_of_lt_of_le f268.lt sz278_0)
    have ne_b50_b278_0 : b50 ≠ b278_0 := Nat.ne_of_lt (Nat.lt_of_lt_of_le f269.lt sz278_0)
    have ne_b56_b278_0 : b56 ≠ b278_0 := Nat.ne_of_lt (Nat.lt_of_lt_of_le f270.lt sz278_0)
    have ne_b63_b278_0 : b63 ≠ b278_0 := Nat.ne_of_lt (Nat.lt_of_lt_of_le f271.lt sz278_0)
    have ne_b71_b278_0 : b71 ≠ b278_0 := Nat.ne_of_lt (Nat.lt_of_lt_of_le f272.lt sz278_0)
    have ne_w78_b278_0 : w78 ≠ b278_0 := Nat.ne_of_lt (Nat.lt_of_lt_of_le f273.lt sz278_0)
    have ne_w93_b278_0 : w93 ≠ b278_0 := Nat.ne_of_lt (Nat.lt_of_lt_of_le f274.lt sz278_0)
    have ne_w109_b278_0 : w109 ≠ b278_0 := Nat.ne_of_lt (Nat.lt_of_lt_of_le f275.lt sz278_0)
    have ne_w126_b278_0 : w126 ≠ b278_0 := Nat.ne_of_lt (Nat.lt_of_lt_of_le f276.lt sz278_0)
    have ne_w144_b278_0 : w144 ≠ b278_0 := Nat.ne_of_lt (Nat.lt_of_lt_of_le f277.lt sz278_0)
    have ne_b262_b278_0 : b262 ≠ b278_0 := Nat.ne_of_lt (Nat.lt_of_lt_of_le g264_0.lt sz278_0)
    have ge_b278_0 : n0 ≤ b278_0 := Nat.le_trans Z264 sz278_0
    have sz_b278_0 : h0.size ≤ b278_0 := Nat.le_trans K264.1 sz278_0
    have f279 := (f265.keep Kq278)
    have f280 := (f266.keep Kq278)
    have f281 := (f267.keep Kq278)
    have f282 := (f268.keep Kq278)
    have f283 := (f269.keep Kq278)
    have f284 := (f270.keep Kq278)
    have f285 := (f271.keep Kq278)
    have f286 := (f272.keep Kq278)
    have f287 := (f273.keep Kq278)
    have f288 := (f274.keep Kq278)
    have f289 := (f275.keep Kq278)
    have f290 := (f276.keep Kq278)
    have f291 := (f277.keep Kq278)
    have f292 := (g264_0.keep Kq278)
    obtain ⟨T293, h293, X293, e293, E293, A293, D293, -, st293⟩ := newO X278 hx hZ264 hown264 (wd39 hw) (wd40 hw) (wd41 hw) rfl (g := (mkF m 300 #[.val (.int x0), .val (.int x1), .val (.int x2), .val (.int x3), .val (.int x4), .val (.int x5), .val (.int fm), .val (.int fo), .val (.int fc), .val (.int ft), .val (.int fi), .val (.int fg), .val (.int fn), .val (.ref b36), .val (.ref b38), .val (.ref b41), .val (.ref b45), .val (.ref b50), .val (.ref b56), .val (.ref b63), .val (.ref b71), .val cv, .val (.ref w78), .val (.ref w93), .val (.ref w109), .val (.ref w126), .val (.ref w144), .val (.ref b262), .val (.ref b278_0), .unset, .unset, .unset, .unset, .unset, .unset, .unset, .unset, .unset, .unset, .unset, .unset, .unset, .unset, .unset] [])) rfl (hb hby at_300) (by decide) (by decide)
    obtain ⟨b293, g293⟩ : ∃ z, z = T278.heap.size := ⟨_, rfl⟩
    rw [← g293] at A293 D293 st293
    have ne_b36_b293 : b36 ≠ b293 := Nat.ne_of_lt (Nat.lt_of_lt_of_le f279.lt (Nat.le_of_eq g293.symm))
    have ne_b38_b293 : b38 ≠ b293 := Nat.ne_of_lt (Nat.lt_of_lt_of_le f280.lt (Nat.le_of_eq g293.symm))
    have ne_b41_b293 : b41 ≠ b293 := Nat.ne_of_lt (Nat.lt_of_lt_of_le f281.lt (Nat.le_of_eq g293.symm))
    have ne_b45_b293 : b45 ≠ b293 := Nat.ne_of_lt (Nat.lt_of_lt_of_le f282.lt (Nat.le_of_eq g293.symm))
    have ne_b50_b293 : b50 ≠ b293 := Nat.ne_of_lt (Nat.lt_of_lt_of_le f283.lt (Nat.le_of_eq g293.symm))
    have ne_b56_b293 : b56 ≠ b293 := Nat.ne_of_lt (Nat.lt_of_lt_of_le f284.lt (Nat.le_of_eq g293.symm))
    have ne_b63_b293 : b63 ≠ b293 := Nat.ne_of_lt (Nat.lt_of_lt_of_le f285.lt (Nat.le_of_eq g293.symm))
    have ne_b71_b293 : b71 ≠ b293 := Nat.ne_of_lt (Nat.lt_of_lt_of_le f286.lt (Nat.le_of_eq g293.symm))
    have ne_w78_b293 : w78 ≠ b293 := Nat.ne_of_lt (Nat.lt_of_lt_of_le f287.lt (Nat.le_of_eq g293.symm))
    have ne_w93_b293 : w93 ≠ b293 := Nat.ne_of_lt (Nat.lt_of_lt_of_le f288.lt (Nat.le_of_eq g293.symm))
    have ne_w109_b293 : w109 ≠ b293 := Nat.ne_of_lt (Nat.lt_of_lt_of_le f289.lt (Nat.le_of_eq g293.symm))
    have ne_w126_b293 : w126 ≠ b293 := Nat.ne_of_lt (Nat.lt_of_lt_of_le f290.lt (Nat.le_of_eq g293.symm))
    have ne_w144_b293 : w144 ≠ b293 := Nat.ne_of_lt (Nat.lt_of_lt_of_le f291.lt (Nat.le_of_eq g293.symm))
    have ne_b262_b293 : b262 ≠ b293 := Nat.ne_of_lt (Nat.lt_of_lt_of_le f292.lt (Nat.le_of_eq g293.symm))
    have ne_b278_0_b293 : b278_0 ≠ b293 := Nat.ne_of_lt (Nat.lt_of_lt_of_le g278_0.lt (Nat.le_of_eq g293.symm))
    have ge_b293 : n0 ≤ b293 := Nat.le_trans Z278 (Nat.le_of_eq g293.symm)
    have sz_b293 : h0.size ≤ b293 := Nat.le_trans K278.1 (Nat.le_of_eq g293.symm)
    have CS293 := CHr.ext E293 CR278.1
    have CR293 := CR278.trans CS293
    have hk293 : _ ≤ h293.size := Nat.le_trans hk278 E293.1
    have Z293 : n0 ≤ h293.size := Nat.le_trans Z278 E293.1
    have K293 : Keep h0 h293 [] := (K278.ext E293)
    have F293_modCount : Fld Z h293 b293 "java/util/AbstractList" "modCount" "I" (.int (0 : Int32)) := D293 (Or.inl (wd59 hw)) (ty := .int) (by decide)
    have F293_elementData : Fld Z h293 b293 "java/util/ArrayList" "elementData" "[Ljava/lang/Object;" .null := D293 (Or.inl (wd62 hw)) (ty := (.array (.object "java/lang/Object"))) (by decide)
    have f294 := ((((((((((f70.keep Kq71 all0).keep Kq78 all0).keep Kq93 all0).keep Kq109 all0).keep Kq126 all0).keep Kq144 all0).ext E262).keep Kq264 (allS ge_b262 all0)).keep Kq278 all0).ext E293)
    obtain ⟨_, _, ⟨T295, L295, kc295, ks295⟩, -, X295, ⟨Lc295, hQ295, l295, y295, z295⟩, st295⟩ := X293.specialBack hx (y := mn23) rfl hown264 (mvT hZ264 (wd42 hw)) (mvT hZ264 (wd43 hw)) (mvT hZ264 (wd44 hw)) (by decide) (backOf (W := 1) (rmA27 l Z a0 hw [] b293 wD h293 n0 Z293 F293_modCount F293_elementData A293 ge_b293 S_D f294) hZ264 (wd44 hw) (wd41 hw) (by decide) (by decide)) (g := (mkF m 304 #[.val (.int x0), .val (.int x1), .val (.int x2), .val (.int x3), .val (.int x4), .val (.int x5), .val (.int fm), .val (.int fo), .val (.int fc), .val (.int ft), .val (.int fi), .val (.int fg), .val (.int fn), .val (.ref b36), .val (.ref b38), .val (.ref b41), .val (.ref b45), .val (.ref b50), .val (.ref b56), .val (.ref b63), .val (.ref b71), .val cv, .val (.ref w78), .val (.ref w93), .val (.ref w109), .val (.ref w126), .val (.ref w144), .val (.ref b262), .val (.ref b278_0), .unset, .unset, .unset, .unset, .unset, .unset, .unset, .unset, .unset, .unset, .unset, .unset, .unset, .unset, .unset] [(.ref b293), (.ref b293)])) rfl (by rw [hml]; rfl) (Steps.refl _) (a := b293) (argsL := []) (rest := [(.ref b293)]) (lenOf pd___V rfl) rfl (by show 2 * 0 + _ ≤ _; exact Nat.le_of_eq rfl) (hb hby at_304) (fun _ _ => ⟨rfl, e293, (by decide : 42 + 0 ≤ _), (by decide : 160 + 0 ≤ _)⟩)
    dsimp only [Pt.U, Pt.locs, Pt.cells, Pt.slots] at X295 l295 y295 z295 st295 hQ295
    subst l295 y295 z295
    obtain ⟨rfl, Nq295, Kq295, g295_0, g295_1, g295_2⟩ := hQ295
    have N295 := Fr.app N278 Nq295
    have CS295 := CHr.keep Kq295 (allS (Safe.exa hZ264.alike A293 (by decide) (by decide)) all0) CR293.1
    have CR295 := CR293.trans CS295
    have hk295 : _ ≤ T295.heap.size := Nat.le_trans hk293 Kq295.1
    have Z295 : n0 ≤ T295.heap.size := Nat.le_trans Z293 Kq295.1
    have K295 : Keep h0 T295.heap [] := Keep.trans K293 Kq295 (allS (Or.inr sz_b293) all0)
    have f296 := ((f279.ext E293).keep Kq295)
    have f297 := ((f280.ext E293).keep Kq295)
    have f298 := ((f281.ext E293).keep Kq295)
    have f299 := ((f282.ext E293).keep Kq295)
    have f300 := ((f283.ext E293).keep Kq295)
    have f301 := ((f284.ext E293).keep Kq295)
    have f302 := ((f285.ext E293).keep Kq295)
    have f303 := ((f286.ext E293).keep Kq295)
    have f304 := ((f287.ext E293).keep Kq295)
    have f305 := ((f288.ext E293).keep Kq295)
    have f306 := ((f289.ext E293).keep Kq295)
    have f307 := ((f290.ext E293).keep Kq295)
    have f308 := ((f291.ext E293).keep Kq295)
    have f309 := ((f292.ext E293).keep Kq295)
    have f310 := ((g278_0.ext E293).keep Kq295)
    obtain ⟨T311, h311, X311, e311, E311, A311, D311, -, st311⟩ := newO X295 hx hZ264 hown264 (wd63 hw) (wd64 hw) (wd65 hw) rfl (g := (mkF m 309 #[.val (.int x0), .val (.int x1), .val (.int x2), .val (.int x3), .val (.int x4), .val (.int x5), .val (.int fm), .val (.int fo), .val (.int fc), .val (.int ft), .val (.int fi), .val (.int fg), .val (.int fn), .val (.ref b36), .val (.ref b38), .val (.ref b41), .val (.ref b45), .val (.ref b50), .val (.ref b56), .val (.ref b63), .val (.ref b71), .val cv, .val (.ref w78), .val (.ref w93), .val (.ref w109), .val (.ref w126), .val (.ref w144), .val (.ref b262), .val (.ref b278_0), .val (.ref b293), .unset, .unset, .unset, .unset, .unset, .unset, .unset, .unset, .unset, .unset, .unset, .unset, .unset, .unset] [])) rfl (hb hby at_309) (by decide) (by decide)
    obtain ⟨b311, g311⟩ : ∃ z, z = T295.heap.size := ⟨_, rfl⟩
    rw [← g311] at A311 D311 st311
    have ne_b36_b311 : b36 ≠ b311 := Nat.ne_of_lt (Nat.lt_of_lt_of_le f296.lt (Nat.le_of_eq g311.symm))
    have ne_b38_b311 : b38 ≠ b311 := Nat.ne_of_lt (Nat.lt_of_lt_of_le f297.lt (Nat.le_of_eq g311.symm))
    have ne_b41_b311 : b41 ≠ b311 := Nat.ne_of_lt (Nat.lt_of_lt_of_le f298.lt (Nat.le_of_eq g311.symm))
    have ne_b45_b311 : b45 ≠ b311 := Nat.ne_of_lt (Nat.lt_of_lt_of_le f299.lt (Nat.le_of_eq g311.symm))
    have ne_b50_b311 : b50 ≠ b311 := Nat.ne_of_lt (Nat.lt_of_lt_of_le f300.lt (Nat.le_of_eq g311.symm))
    have ne_b56_b311 : b56 ≠ b311 := Nat.ne_of_lt (Nat.lt_of_lt_of_le f301.lt (Nat.le_of_eq g311.symm))
    have ne_b63_b311 : b63 ≠ b311 := Nat.ne_of_lt (Nat.lt_of_lt_of_le f302.lt (Nat.le_of_eq g311.symm))
    have ne_b71_b311 : b71 ≠ b311 := Nat.ne_of_lt (Nat.lt_of_lt_of_le f303.lt (Nat.le_of_eq g311.symm))
    have ne_w78_b311 : w78 ≠ b311 := Nat.ne_of_lt (Nat.lt_of_lt_of_le f304.lt (Nat.le_of_eq g311.symm))
    have ne_w93_b311 : w93 ≠ b311 := Nat.ne_of_lt (Nat.lt_of_lt_of_le f305.lt (Nat.le_of_eq g311.symm))
    have ne_w109_b311 : w109 ≠ b311 := Nat.ne_of_lt (Nat.lt_of_lt_of_le f306.lt (Nat.le_of_eq g311.symm))
    have ne_w126_b311 : w126 ≠ b311 := Nat.ne_of_lt (Nat.lt_of_lt_of_le f307.lt (Nat.le_of_eq g311.symm))
    have ne_w144_b311 : w144 ≠ b311 := Nat.ne_of_lt (Nat.lt_of_lt_of_le f308.lt (Nat.le_of_eq g311.symm))
    have ne_b262_b311 : b262 ≠ b311 := Nat.ne_of_lt (Nat.lt_of_lt_of_le f309.lt (Nat.le_of_eq g311.symm))
    have ne_b278_0_b311 : b278_0 ≠ b311 := Nat.ne_of_lt (Nat.lt_of_lt_of_le f310.lt (Nat.le_of_eq g311.symm))
    have ne_b293_b311 : b293 ≠ b311 := Nat.ne_of_lt (Nat.lt_of_lt_of_le g295_2.lt (Nat.le_of_eq g311.symm))
    have ge_b311 : n0 ≤ b311 := Nat.le_trans Z295 (Nat.le_of_eq g311.symm)
    have sz_b311 : h0.size ≤ b311 := Nat.le_trans K295.1 (Nat.le_of_eq g311.symm)
    have CS311 := CHr.ext E311 CR295.1
    have CR311 := CR295.trans CS311
    have hk311 : _ ≤ h311.size := Nat.le_trans hk295 E311.1
    have Z311 : n0 ≤ h311.size := Nat.le_trans Z295 E311.1
    have K311 : Keep h0 h311 [] := (K295.ext E311)
    have F311_code : Fld Z h311 b311 cn10 "code" "Ljava/lang/String;" .null := D311 (Or.inr (wd76 hw)) (ty := (.object "java/lang/String")) (by decide)
    have F311_status : Fld Z h311 b311 cn10 "status" "I" (.int (0 : Int32)) := D311 (Or.inr (wd78 hw)) (ty := .int) (by decide)
    have F311_catalogueMessage : Fld Z h311 b311 cn10 "catalogueMessage" "Ljava/util/Optional;" .null := D311 (Or.inr (wd80 hw)) (ty := (.object "java/util/Optional")) (by decide)
    have F311_ownMessage : Fld Z h311 b311 cn10 "ownMessage" "Ljava/util/Optional;" .null := D311 (Or.inr (wd82 hw)) (ty := (.object "java/util/Optional")) (by decide)
    have F311_trace : Fld Z h311 b311 cn10 "trace" "Ljava/util/Optional;" .null := D311 (Or.inr (wd84 hw)) (ty := (.object "java/util/Optional")) (by decide)
    have F311_moreInfo : Fld Z h311 b311 cn10 "moreInfo" "Ljava/util/Optional;" .null := D311 (Or.inr (wd86 hw)) (ty := (.object "java/util/Optional")) (by decide)
    have F311_target : Fld Z h311 b311 cn10 "target" "Ljava/util/Optional;" .null := D311 (Or.inr (wd88 hw)) (ty := (.object "java/util/Optional")) (by decide)
    have F311_details : Fld Z h311 b311 cn10 "details" "Ljava/util/List;" .null := D311 (Or.inr (wd90 hw)) (ty := (.object "java/util/List")) (by decide)
    obtain ⟨_, _, ⟨T312, L312, kc312, ks312⟩, -, X312, ⟨Lc312, hQ312, l312, y312, z312⟩, st312⟩ := X311.specialBack hx (y := mn13) rfl hown264 (mvT hZ264 (wd66 hw)) (mvT hZ264 (wd67 hw)) (mvT hZ264 (wd68 hw)) (by decide) (backOf (W := 1) (rmA30 l Z a0 hw [] b311 cv x5 w109 w93 w126 w144 b278_0 b293 h311 n0 Z311 r_cv A311 F311_code ge_b311 F311_status F311_catalogueMessage F311_ownMessage F311_trace F311_moreInfo F311_target F311_details) hZ264 (wd68 hw) (wd65 hw) (by decide) (by decide)) (g := (mkF m 329 #[.val (.int x0), .val (.int x1), .val (.int x2), .val (.int x3), .val (.int x4), .val (.int x5), .val (.int fm), .val (.int fo), .val (.int fc), .val (.int ft), .val (.int fi), .val (.int fg), .val (.int fn), .val (.ref b36), .val (.ref b38), .val (.ref b41), .val (.ref b45), .val (.ref b50), .val (.ref b56), .val (.ref b63), .val (.ref b71), .val cv, .val (.ref w78), .val (.ref w93), .val (.ref w109), .val (.ref w126), .val (.ref w144), .val (.ref b262), .val (.ref b278_0), .val (.ref b293), .unset, .unset, .unset, .unset, .unset, .unset, .unset, .unset, .unset, .unset, .unset, .unset, .unset, .unset] [(.ref b293), (.ref b278_0), (.ref w144), (.ref w126), (.ref w93), (.ref w109), (.int x5), cv, (.ref b311), (.ref b311)])) rfl (by rw [hml]; rfl) (Steps.refl _) (a := b311) (argsL := [cv, (.int x5), (.ref w109), (.ref w93), (.ref w126), (.ref w144), (.ref b278_0), (.ref b293)]) (rest := [(.ref b311)]) (lenOf pd__Ljava_lang_String_ILjava_util_Optional_Ljava_util_Optional_Ljava_util_Optional_Ljava_util_Optional_Ljava_util_Optional_Ljava_util_List__V rfl) rfl (by show 2 * 0 + _ ≤ _; exact Nat.le_of_eq rfl) (hb hby at_329) (fun _ _ => ⟨rfl, e311, (by decide : 43 + 0 ≤ _), (by decide : 168 + 0 ≤ _)⟩)
    dsimp only [Pt.U, Pt.locs, Pt.cells, Pt.slots] at X312 l312 y312 z312 st312 hQ312
    subst l312 y312 z312
    obtain ⟨rfl, Nq312, Kq312, g312_0, g312_1, g312_2, g312_3, g312_4, g312_5, g312_6, g312_7, g312_8⟩ := hQ312
    have N312 := Fr.app N295 Nq312
    have CS312 := CHr.keep Kq312 (allS (Safe.exa hZ264.alike A311 (by decide) (by decide)) all0) CR311.1
    have CR312 := CR311.trans CS312
    have hk312 : _ ≤ T312.heap.size := Nat.le_trans hk311 Kq312.1
    have Z312 : n0 ≤ T312.heap.size := Nat.le_trans Z311 Kq312.1
    have K312 : Keep h0 T312.heap [] := Keep.trans K311 Kq312 (allS (Or.inr sz_b311) all0)
    have f313 := (((((((((((gF78.keep Kq93 nin0).keep Kq109 nin0).keep Kq126 nin0).keep Kq144 nin0).ext E262).keep Kq264 (ninS ne_w78_b262 nin0)).keep Kq278 nin0).ext E293).keep Kq295 (ninS ne_w78_b293 nin0)).ext E311).keep Kq312 (ninS ne_w78_b311 nin0))
    have f314 := (((((((gF144.ext E262).keep Kq264 (ninS ne_w144_b262 nin0)).keep Kq278 nin0).ext E293).keep Kq295 (ninS ne_w144_b293 nin0)).ext E311).keep Kq312 (ninS ne_w144_b311 nin0))
    have f315 := ((((g278_1.ext E293).keep Kq295 (ninS ne_b278_0_b293 nin0)).ext E311).keep Kq312 (ninS ne_b278_0_b311 nin0))
    have f316 := ((f304.ext E311).keep Kq312)
    have f317 := ((f297.ext E311).keep Kq312)
    have f318 := ((f308.ext E311).keep Kq312)
    have f319 := ((f301.ext E311).keep Kq312)
    have f320 := ((f310.ext E311).keep Kq312)
    have f321 := ((f309.ext E311).keep Kq312)
    have f322 := ((f296.ext E311).keep Kq312)
    have f323 := ((f298.ext E311).keep Kq312)
    have f324 := ((f299.ext E311).keep Kq312)
    have f325 := ((f300.ext E311).keep Kq312)
    have f326 := ((f302.ext E311).keep Kq312)
    have f327 := ((f303.ext E311).keep Kq312)
    have f328 := ((f305.ext E311).keep Kq312)
    have f329 := ((f306.ext E311).keep Kq312)
    have f330 := ((f307.ext E311).keep Kq312)
    have f331 := ((g295_2.ext E311).keep Kq312)
    obtain ⟨cq332, kq332, q332a, q332b, q332c⟩ := isOf hZ264 rfl g312_0
    obtain ⟨_, _, ⟨T332, L332, kc332, ks332⟩, -, X332, ⟨Lc332, hQ332, l332, y332, z332⟩, st332⟩ := X312.virtualBack hx (y := mn14) (z := mn14) hown264 (mvT hZ264 (wd91 hw)) (mvT hZ264 (wd92 hw)) (notFace_of_selects (args := #[]) (mvT hZ264 (wd94 hw))) (mvT hZ264 (wd94 hw)) (mvT hZ264 (wd93 hw)) (by decide) (backOf (W := 0) (rmA64 l Z a0 hw [] b311 w78 cv vv78 w144 vv144 b278_0 b262 T312.heap n0 Z312 g312_1 r_cv f313 r_vv78 f316 (fun a q => by rcases hv78 with ⟨_, q2⟩ | ⟨_, q2⟩ <;> rw [q2] at q <;> cases q; exact f317) g312_6 f314 r_vv144 f318 (fun a q => by rcases hv144 with ⟨_, q2⟩ | ⟨_, q2⟩ <;> rw [q2] at q <;> cases q; exact f319) g312_7 f315 f320 f321) hZ264 (wd95 hw) (wd65 hw) (by decide) (by decide)) q332a q332c (g := (mkF m 338 #[.val (.int x0), .val (.int x1), .val (.int x2), .val (.int x3), .val (.int x4), .val (.int x5), .val (.int fm), .val (.int fo), .val (.int fc), .val (.int ft), .val (.int fi), .val (.int fg), .val (.int fn), .val (.ref b36), .val (.ref b38), .val (.ref b41), .val (.ref b45), .val (.ref b50), .val (.ref b56), .val (.ref b63), .val (.ref b71), .val cv, .val (.ref w78), .val (.ref w93), .val (.ref w109), .val (.ref w126), .val (.ref w144), .val (.ref b262), .val (.ref b278_0), .val (.ref b293), .val (.ref b311), .unset, .unset, .unset, .unset, .unset, .unset, .unset, .unset, .unset, .unset, .unset, .unset, .unset] [(.ref w78), (.ref b311)])) rfl (by rw [hml]; rfl) (Steps.refl _) (argsL := [(.ref w78)]) (rest := []) (lenOf pd__Ljava_util_Optional__Lcom_example_typed_api_errors_typedapierrors_error_Detail_ rfl) rfl (by show 2 * 0 + _ ≤ _; exact Nat.le_of_eq rfl) (hb hby at_338) (fun _ _ => ⟨rfl, rfl, (by decide : 43 + 2 ≤ _), (by decide : 168 + 12 ≤ _)⟩)
    dsimp only [Pt.U, Pt.locs, Pt.cells, Pt.slots] at X332 l332 y332 z332 st332 hQ332
    subst l332 y332 z332
    obtain ⟨b332_0, b332_1, rfl, Nq332, Kq332, sz332_0, sz332_1, g332_0, g332_1, g332_2, g332_3, g332_4, g332_5, g332_6, g332_7, g332_8, g332_9, g332_10, g332_11, g332_12, g332_13, g332_14⟩ := hQ332
    have N332 := Fr.app N312 Nq332
    have CS332 := CHr.keep Kq332 all0 CR312.1
    have CR332 := CR312.trans CS332
    have hk332 : _ ≤ T332.heap.size := Nat.le_trans hk312 Kq332.1
    have Z332 : n0 ≤ T332.heap.size := Nat.le_trans Z312 Kq332.1
    have K332 : Keep h0 T332.heap [] := Keep.trans K312 Kq332 all0
    have ne_b36_b332_0 : b36 ≠ b332_0 := Nat.ne_of_lt (Nat.lt_of_lt_of_le f322.lt sz332_0)
    have ne_b38_b332_0 : b38 ≠ b332_0 := Nat.ne_of_lt (Nat.lt_of_lt_of_le f317.lt sz332_0)
    have ne_b41_b332_0 : b41 ≠ b332_0 := Nat.ne_of_lt (Nat.lt_of_lt_of_le f323.lt sz332_0)
    have ne_b45_b332_0 : b45 ≠ b332_0 := Nat.ne_of_lt (Nat.lt_of_lt_of_le f324.lt sz332_0)
    have ne_b50_b332_0 : b50 ≠ b332_0 := Nat.ne_of_lt (Nat.lt_of_lt_of_le f325.lt sz332_0)
    have ne_b56_b332_0 : b56 ≠ b332_0 := Nat.ne_of_lt (Nat.lt_of_lt_of_le f319.lt sz332_0)
    have ne_b63_b332_0 : b63 ≠ b332_0 := Nat.ne_of_lt (Nat.lt_of_lt_of_le f326.lt sz332_0)
    have ne_b71_b332_0 : b71 ≠ b332_0 := Nat.ne_of_lt (Nat.lt_of_lt_of_le f327.lt sz332_0)
    have ne_w78_b332_0 : w78 ≠ b332_0 := Nat.ne_of_lt (Nat.lt_of_lt_of_le f316.lt sz332_0)
    have ne_w93_b332_0 : w93 ≠ b332_0 := Nat.ne_of_lt (Nat.lt_of_lt_of_le f328.lt sz332_0)
    have ne_w109_b332_0 : w109 ≠ b332_0 := Nat.ne_of_lt (Nat.lt_of_lt_of_le f329.lt sz332_0)
    have ne_w126_b332_0 : w126 ≠ b332_0 := Nat.ne_of_lt (Nat.lt_of_lt_of_le f330.lt sz332_0)
    have ne_w144_b332_0 : w144 ≠ b332_0 := Nat.ne_of_lt (Nat.lt_of_lt_of_le f318.lt sz332_0)
    have ne_b262_b332_0 : b262 ≠ b332_0 := Nat.ne_of_lt (Nat.lt_of_lt_of_le f321.lt sz332_0)
    have ne_b278_0_b332_0 : b278_0 ≠ b332_0 := Nat.ne_of_lt (Nat.lt_of_lt_of_le f320.lt sz332_0)
    have ne_b293_b332_0 : b293 ≠ b332_0 := Nat.ne_of_lt (Nat.lt_of_lt_of_le f331.lt sz332_0)
    have ne_b311_b332_0 : b311 ≠ b332_0 := Nat.ne_of_lt (Nat.lt_of_lt_of_le g312_0.lt sz332_0)
    have ge_b332_0 : n0 ≤ b332_0 := Nat.le_trans Z312 sz332_0
    have sz_b332_0 : h0.size ≤ b332_0 := Nat.le_trans K312.1 sz332_0
    have ne_b36_b332_1 : b36 ≠ b332_1 := Nat.ne_of_lt (Nat.lt_of_lt_of_le f322.lt sz332_1)
    have ne_b38_b332_1 : b38 ≠ b332_1 := Nat.ne_of_lt (Nat.lt_of_lt_of_le f317.lt sz332_1)
    have ne_b41_b332_1 : b41 ≠ b332_1 := Nat.ne_of_lt (Nat.lt_of_lt_of_le f323.lt sz332_1)
    have ne_b45_b332_1 : b45 ≠ b332_1 := Nat.ne_of_lt (Nat.lt_of_lt_of_le f324.lt sz332_1)
    have ne_b50_b332_1 : b50 ≠ b332_1 := Nat.ne_of_lt (Nat.lt_of_lt_of_le f325.lt sz332_1)
    have ne_b56_b332_1 : b56 ≠ b332_1 := Nat.ne_of_lt (Nat.lt_of_lt_of_le f319.lt sz332_1)
    have ne_b63_b332_1 : b63 ≠ b332_1 := Nat.ne_of_lt (Nat.lt_of_lt_of_le f326.lt sz332_1)
    have ne_b71_b332_1 : b71 ≠ b332_1 := Nat.ne_of_lt (Nat.lt_of_lt_of_le f327.lt sz332_1)
    have ne_w78_b332_1 : w78 ≠ b332_1 := Nat.ne_of_lt (Nat.lt_of_lt_of_le f316.lt sz332_1)
    have ne_w93_b332_1 : w93 ≠ b332_1 := Nat.ne_of_lt (Nat.lt_of_lt_of_le f328.lt sz332_1)
    have ne_w109_b332_1 : w109 ≠ b332_1 := Nat.ne_of_lt (Nat.lt_of_lt_of_le f329.lt sz332_1)
    have ne_w126_b332_1 : w126 ≠ b332_1 := Nat.ne_of_lt (Nat.lt_of_lt_of_le f330.lt sz332_1)
    have ne_w144_b332_1 : w144 ≠ b332_1 := Nat.ne_of_lt (Nat.lt_of_lt_of_le f318.lt sz332_1)
    have ne_b262_b332_1 : b262 ≠ b332_1 := Nat.ne_of_lt (Nat.lt_of_lt_of_le f321.lt sz332_1)
    have ne_b278_0_b332_1 : b278_0 ≠ b332_1 := Nat.ne_of_lt (Nat.lt_of_lt_of_le f320.lt sz332_1)
    have ne_b293_b332_1 : b293 ≠ b332_1 := Nat.ne_of_lt (Nat.lt_of_lt_of_le f331.lt sz332_1)
    have ne_b311_b332_1 : b311 ≠ b332_1 := Nat.ne_of_lt (Nat.lt_of_lt_of_le g312_0.lt sz332_1)
    have ge_b332_1 : n0 ≤ b332_1 := Nat.le_trans Z312 sz332_1
    have sz_b332_1 : h0.size ≤ b332_1 := Nat.le_trans K312.1 sz332_1
    have f333 := ((((f294.keep Kq295 (allS ge_b293 all0)).ext E311).keep Kq312 (allS ge_b311 all0)).keep Kq332 all0)
    obtain ⟨cq334, kq334, q334a, q334b, q334c⟩ := isOf hZ264 rfl g332_8
    obtain ⟨_, _, ⟨T334, L334, kc334, ks334⟩, -, X334, ⟨Lc334, hQ334, l334, y334, z334⟩, st334⟩ := X332.virtualBack hx (y := mn1) (z := mn1) hown264 (mvT hZ264 (wd170 hw)) (mvT hZ264 (wd171 hw)) (notFace_of_selects (args := #[]) (mvT hZ264 (wd173 hw))) (mvT hZ264 (wd173 hw)) (mvT hZ264 (wd172 hw)) (by decide) (backOf (W := 0) (rmA41 l Z a0 hw [] b332_1 cv wE T332.heap n0 Z332 g332_9 S_E f333 (E_w.ext f333.2) (F_w.ext f333.2) r_cv) hZ264 (wd174 hw) (wd145 hw) (by decide) (by decide)) q334a q334c (g := (mkF m 345 #[.val (.int x0), .val (.int x1), .val (.int x2), .val (.int x3), .val (.int x4), .val (.int x5), .val (.int fm), .val (.int fo), .val (.int fc), .val (.int ft), .val (.int fi), .val (.int fg), .val (.int fn), .val (.ref b36), .val (.ref b38), .val (.ref b41), .val (.ref b45), .val (.ref b50), .val (.ref b56), .val (.ref b63), .val (.ref b71), .val cv, .val (.ref w78), .val (.ref w93), .val (.ref w109), .val (.ref w126), .val (.ref w144), .val (.ref b262), .val (.ref b278_0), .val (.ref b293), .val (.ref b311), .val (.ref b332_1), .unset, .unset, .unset, .unset, .unset, .unset, .unset, .unset, .unset, .unset, .unset, .unset] [(.ref b332_1)])) rfl (by rw [hml]; rfl) (Steps.refl _) (argsL := []) (rest := []) (lenOf pd___Ljava_util_Optional_ rfl) rfl (by show 2 * 0 + _ ≤ _; exact Nat.le_of_eq rfl) (hb hby at_345) (fun _ _ => ⟨rfl, rfl, (by decide : 45 + 1 ≤ _), (by decide : 180 + 1 ≤ _)⟩)
    dsimp only [Pt.U, Pt.locs, Pt.cells, Pt.slots] at X334 l334 y334 z334 st334 hQ334
    subst l334 y334 z334
    obtain ⟨b334_0, rfl, Nq334, Kq334, g334_0, g334_1⟩ := hQ334
    have N334 := Fr.app N332 Nq334
    have CS334 := CHr.keep Kq334 all0 CR332.1
    have CR334 := CR332.trans CS334
    have hk334 : _ ≤ T334.heap.size := Nat.le_trans hk332 Kq334.1
    have Z334 : n0 ≤ T334.heap.size := Nat.le_trans Z332 Kq334.1
    have K334 : Keep h0 T334.heap [] := Keep.trans K332 Kq334 all0
    have f335 := (g332_10.keep Kq334 nin0)
    have f336 := (f333.keep Kq334 all0)
    have f338 := (g332_8.keep Kq334)
    obtain ⟨cq337, kq337, q337a, q337b, q337c⟩ := isOf hZ264 rfl f338
    obtain ⟨_, _, ⟨T337, L337, kc337, ks337⟩, -, X337, ⟨Lc337, hQ337, l337, y337, z337⟩, st337⟩ := X334.virtualBack hx (y := mn3) (z := mn3) hown264 (mvT hZ264 (wd185 hw)) (mvT hZ264 (wd186 hw)) (notFace_of_selects (args := #[]) (mvT hZ264 (wd188 hw))) (mvT hZ264 (wd188 hw)) (mvT hZ264 (wd187 hw)) (by decide) (backOf (W := 0) (rmA42 l Z a0 hw [] b332_1 vv78 wE T334.heap n0 Z334 f335 S_E f336 (E_w.ext f336.2) (F_w.ext f336.2) r_vv78) hZ264 (wd189 hw) (wd145 hw) (by decide) (by decide)) q337a q337c (g := (mkF m 352 #[.val (.int x0), .val (.int x1), .val (.int x2), .val (.int x3), .val (.int x4), .val (.int x5), .val (.int fm), .val (.int fo), .val (.int fc), .val (.int ft), .val (.int fi), .val (.int fg), .val (.int fn), .val (.ref b36), .val (.ref b38), .val (.ref b41), .val (.ref b45), .val (.ref b50), .val (.ref b56), .val (.ref b63), .val (.ref b71), .val cv, .val (.ref w78), .val (.ref w93), .val (.ref w109), .val (.ref w126), .val (.ref w144), .val (.ref b262), .val (.ref b278_0), .val (.ref b293), .val (.ref b311), .val (.ref b332_1), .val (.ref b334_0), .unset, .unset, .unset, .unset, .unset, .unset, .unset, .unset, .unset, .unset, .unset] [(.ref b332_1)])) rfl (by rw [hml]; rfl) (Steps.refl _) (argsL := []) (rest := []) (lenOf pd___Ljava_util_Optional_ rfl) rfl (by show 2 * 0 + _ ≤ _; exact Nat.le_of_eq rfl) (hb hby at_352) (fun _ _ => ⟨rfl, rfl, (by decide : 46 + 1 ≤ _), (by decide : 181 + 1 ≤ _)⟩)
    dsimp only [Pt.U, Pt.locs, Pt.cells, Pt.slots] at X337 l337 y337 z337 st337 hQ337
    subst l337 y337 z337
    obtain ⟨b337_0, rfl, Nq337, Kq337, g337_0, g337_1⟩ := hQ337
    have N337 := Fr.app N334 Nq337
    have CS337 := CHr.keep Kq337 all0 CR334.1
    have CR337 := CR334.trans CS337
    have hk337 : _ ≤ T337.heap.size := Nat.le_trans hk334 Kq337.1
    have Z337 : n0 ≤ T337.heap.size := Nat.le_trans Z334 Kq337.1
    have K337 : Keep h0 T337.heap [] := Keep.trans K334 Kq337 all0
    have f339 := ((g332_13.keep Kq334 nin0).keep Kq337 nin0)
    have f340 := (f336.keep Kq337 all0)
    have f342 := (f338.keep Kq337)
    obtain ⟨cq341, kq341, q341a, q341b, q341c⟩ := isOf hZ264 rfl f342
    obtain ⟨_, _, ⟨T341, L341, kc341, ks341⟩, -, X341, ⟨Lc341, hQ341, l341, y341, z341⟩, st341⟩ := X337.virtualBack hx (y := mn4) (z := mn4) hown264 (mvT hZ264 (wd190 hw)) (mvT hZ264 (wd191 hw)) (notFace_of_selects (args := #[]) (mvT hZ264 (wd193 hw))) (mvT hZ264 (wd193 hw)) (mvT hZ264 (wd192 hw)) (by decide) (backOf (W := 0) (rmA43 l Z a0 hw [] b332_1 vv144 wE T337.heap n0 Z337 f339 S_E f340 (E_w.ext f340.2) (F_w.ext f340.2) r_vv144) hZ264 (wd194 hw) (wd145 hw) (by decide) (by decide)) q341a q341c (g := (mkF m 359 #[.val (.int x0), .val (.int x1), .val (.int x2), .val (.int x3), .val (.int x4), .val (.int x5), .val (.int fm), .val (.int fo), .val (.int fc), .val (.int ft), .val (.int fi), .val (.int fg), .val (.int fn), .val (.ref b36), .val (.ref b38), .val (.ref b41), .val (.ref b45), .val (.ref b50), .val (.ref b56), .val (.ref b63), .val (.ref b71), .val cv, .val (.ref w78), .val (.ref w93), .val (.ref w109), .val (.ref w126), .val (.ref w144), .val (.ref b262), .val (.ref b278_0), .val (.ref b293), .val (.ref b311), .val (.ref b332_1), .val (.ref b334_0), .val (.ref b337_0), .unset, .unset, .unset, .unset, .unset, .unset, .unset, .unset, .unset, .unset] [(.ref b332_1)])) rfl (by rw [hml]; rfl) (Steps.refl _) (argsL := []) (rest := []) (lenOf pd___Ljava_util_Optional_ rfl) rfl (by show 2 * 0 + _ ≤ _; exact Nat.le_of_eq rfl) (hb hby at_359) (fun _ _ => ⟨rfl, rfl, (by decide : 47 + 1 ≤ _), (by decide : 182 + 1 ≤ _)⟩)
    dsimp only [Pt.U, Pt.locs, Pt.cells, Pt.slots] at X341 l341 y341 z341 st341 hQ341
    subst l341 y341 z341
    obtain ⟨b341_0, rfl, Nq341, Kq341, g341_0, g341_1⟩ := hQ341
    have N341 := Fr.app N337 Nq341
    have CS341 := CHr.keep Kq341 all0 CR337.1
    have CR341 := CR337.trans CS341
    have hk341 : _ ≤ T341.heap.size := Nat.le_trans hk337 Kq341.1
    have Z341 : n0 ≤ T341.heap.size := Nat.le_trans Z337 Kq341.1
    have K341 : Keep h0 T341.heap [] := Keep.trans K337 Kq341 all0
    have f343 := (((g332_12.keep Kq334 nin0).keep Kq337 nin0).keep Kq341 nin0)
    have f344 := ((((f322.keep Kq332).keep Kq334).keep Kq337).keep Kq341)
    have f345 := ((((f317.keep Kq332).keep Kq334).keep Kq337).keep Kq341)
    have f346 := ((((f323.keep Kq332).keep Kq334).keep Kq337).keep Kq341)
    have f347 := ((((f324.keep Kq332).keep Kq334).keep Kq337).keep Kq341)
    have f348 := ((((f325.keep Kq332).keep Kq334).keep Kq337).keep Kq341)
    have f349 := ((((f319.keep Kq332).keep Kq334).keep Kq337).keep Kq341)
    have f350 := ((((f326.keep Kq332).keep Kq334).keep Kq337).keep Kq341)
    have f351 := ((((f327.keep Kq332).keep Kq334).keep Kq337).keep Kq341)
    have f352 := ((((f316.keep Kq332).keep Kq334).keep Kq337).keep Kq341)
    have f353 := ((((f328.keep Kq332).keep Kq334).keep Kq337).keep Kq341)
    have f354 := ((((f329.keep Kq332).keep Kq334).keep Kq337).keep Kq341)
    have f355 := ((((f330.keep Kq332).keep Kq334).keep Kq337).keep Kq341)
    have f356 := ((((f318.keep Kq332).keep Kq334).keep Kq337).keep Kq341)
    have f357 := ((((f321.keep Kq332).keep Kq334).keep Kq337).keep Kq341)
    have f358 := ((((f320.keep Kq332).keep Kq334).keep Kq337).keep Kq341)
    have f359 := ((((f331.keep Kq332).keep Kq334).keep Kq337).keep Kq341)
    have f360 := ((((g312_0.keep Kq332).keep Kq334).keep Kq337).keep Kq341)
    have f361 := (((g332_1.keep Kq334).keep Kq337).keep Kq341)
    have f362 := (f342.keep Kq341)
    have f363 := ((g334_0.keep Kq337).keep Kq341)
    have f364 := (g337_0.keep Kq341)
    obtain ⟨cq365, kq365, q365a, q365b, q365c⟩ := isOf hZ264 rfl f362
    obtain ⟨_, _, ⟨T365, L365, kc365, ks365⟩, -, X365, ⟨Lc365, hQ365, l365, y365, z365⟩, st365⟩ := X341.virtualBack hx (y := mn5) (z := mn5) hown264 (mvT hZ264 (wd195 hw)) (mvT hZ264 (wd196 hw)) (notFace_of_selects (args := #[]) (mvT hZ264 (wd198 hw))) (mvT hZ264 (wd198 hw)) (mvT hZ264 (wd197 hw)) (by decide) (backOf (W := 0) (rmA76 l Z a0 hw [] b332_1 b262 T341.heap n0 Z341 f343) hZ264 (wd199 hw) (wd145 hw) (by decide) (by decide)) q365a q365c (g := (mkF m 366 #[.val (.int x0), .val (.int x1), .val (.int x2), .val (.int x3), .val (.int x4), .val (.int x5), .val (.int fm), .val (.int fo), .val (.int fc), .val (.int ft), .val (.int fi), .val (.int fg), .val (.int fn), .val (.ref b36), .val (.ref b38), .val (.ref b41), .val (.ref b45), .val (.ref b50), .val (.ref b56), .val (.ref b63), .val (.ref b71), .val cv, .val (.ref w78), .val (.ref w93), .val (.ref w109), .val (.ref w126), .val (.ref w144), .val (.ref b262), .val (.ref b278_0), .val (.ref b293), .val (.ref b311), .val (.ref b332_1), .val (.ref b334_0), .val (.ref b337_0), .val (.ref b341_0), .unset, .unset, .unset, .unset, .unset, .unset, .unset, .unset, .unset] [(.ref b332_1)])) rfl (by rw [hml]; rfl) (Steps.refl _) (argsL := []) (rest := []) (lenOf pd___Ljava_util_Optional_ rfl) rfl (by show 2 * 0 + _ ≤ _; exact Nat.le_of_eq rfl) (hb hby at_366) (fun _ _ => ⟨rfl, rfl, (by decide : 48 + 1 ≤ _), (by decide : 183 + 1 ≤ _)⟩)
    dsimp only [Pt.U, Pt.locs, Pt.cells, Pt.slots] at X365 l365 y365 z365 st365 hQ365
    subst l365 y365 z365
    obtain ⟨b365_0, rfl, Nq365, Kq365, sz365_0, g365_0, g365_1⟩ := hQ365
    have N365 := Fr.app N341 Nq365
    have CS365 := CHr.keep Kq365 all0 CR341.1
    have CR365 := CR341.trans CS365
    have hk365 : _ ≤ T365.heap.size := Nat.le_trans hk341 Kq365.1
    have Z365 : n0 ≤ T365.heap.size := Nat.le_trans Z341 Kq365.1
    have K365 : Keep h0 T365.heap [] := Keep.trans K341 Kq365 all0
    have ne_b36_b365_0 : b36 ≠ b365_0 := Nat.ne_of_lt (Nat.lt_of_lt_of_le f344.lt sz365_0)
    have ne_b38_b365_0 : b38 ≠ b365_0 := Nat.ne_of_lt (Nat.lt_of_lt_of_le f345.lt sz365_0)
    have ne_b41_b365_0 : b41 ≠ b365_0 := Nat.ne_of_lt (Nat.lt_of_lt_of_le f346.lt sz365_0)
    have ne_b45_b365_0 : b45 ≠ b365_0 := Nat.ne_of_lt (Nat.lt_of_lt_of_le f347.lt sz365_0)
    have ne_b50_b365_0 : b50 ≠ b365_0 := Nat.ne_of_lt (Nat.lt_of_lt_of_le f348.lt sz365_0)
    have ne_b56_b365_0 : b56 ≠ b365_0 := Nat.ne_of_lt (Nat.lt_of_lt_of_le f349.lt sz365_0)
    have ne_b63_b365_0 : b63 ≠ b365_0 := Nat.ne_of_lt (Nat.lt_of_lt_of_le f350.lt sz365_0)
    have ne_b71_b365_0 : b71 ≠ b365_0 := Nat.ne_of_lt (Nat.lt_of_lt_of_le f351.lt sz365_0)
    have ne_w78_b365_0 : w78 ≠ b365_0 := Nat.ne_of_lt (Nat.lt_of_lt_of_le f352.lt sz365_0)
    have ne_w93_b365_0 : w93 ≠ b365_0 := Nat.ne_of_lt (Nat.lt_of_lt_of_le f353.lt sz365_0)
    have ne_w109_b365_0 : w109 ≠ b365_0 := Nat.ne_of_lt (Nat.lt_of_lt_of_le f354.lt sz365_0)
    have ne_w126_b365_0 : w126 ≠ b365_0 := Nat.ne_of_lt (Nat.lt_of_lt_of_le f355.lt sz365_0)
    have ne_w144_b365_0 : w144 ≠ b365_0 := Nat.ne_of_lt (Nat.lt_of_lt_of_le f356.lt sz365_0)
    have ne_b262_b365_0 : b262 ≠ b365_0 := Nat.ne_of_lt (Nat.lt_of_lt_of_le f357.lt sz365_0)
    have ne_b278_0_b365_0 : b278_0 ≠ b365_0 := Nat.ne_of_lt (Nat.lt_of_lt_of_le f358.lt sz365_0)
    have ne_b293_b365_0 : b293 ≠ b365_0 := Nat.ne_of_lt (Nat.lt_of_lt_of_le f359.lt sz365_0)
    have ne_b311_b365_0 : b311 ≠ b365_0 := Nat.ne_of_lt (Nat.lt_of_lt_of_le f360.lt sz365_0)
    have ne_b332_0_b365_0 : b332_0 ≠ b365_0 := Nat.ne_of_lt (Nat.lt_of_lt_of_le f361.lt sz365_0)
    have ne_b332_1_b365_0 : b332_1 ≠ b365_0 := Nat.ne_of_lt (Nat.lt_of_lt_of_le f362.lt sz365_0)
    have ne_b334_0_b365_0 : b334_0 ≠ b365_0 := Nat.ne_of_lt (Nat.lt_of_lt_of_le f363.lt sz365_0)
    have ne_b337_0_b365_0 : b337_0 ≠ b365_0 := Nat.ne_of_lt (Nat.lt_of_lt_of_le f364.lt sz365_0)
    have ne_b341_0_b365_0 : b341_0 ≠ b365_0 := Nat.ne_of_lt (Nat.lt_of_lt_of_le g341_0.lt sz365_0)
    have ge_b365_0 : n0 ≤ b365_0 := Nat.le_trans Z341 sz365_0
    have sz_b365_0 : h0.size ≤ b365_0 := Nat.le_trans K341.1 sz365_0
    have f366 := ((((g332_11.keep Kq334 nin0).keep Kq337 nin0).keep Kq341 nin0).keep Kq365 nin0)
    have f367 := ((f340.keep Kq341 all0).keep Kq365 all0)
    have f369 := (f362.keep Kq365)
    obtain ⟨cq368, kq368, q368a, q368b, q368c⟩ := isOf hZ264 rfl f369
    obtain ⟨_, _, ⟨T368, L368, kc368, ks368⟩, -, X368, ⟨Lc368, hQ368, l368, y368, z368⟩, st368⟩ := X365.virtualBack hx (y := mn6) (z := mn6) hown264 (mvT hZ264 (wd200 hw)) (mvT hZ264 (wd201 hw)) (notFace_of_selects (args := #[]) (mvT hZ264 (wd203 hw))) (mvT hZ264 (wd203 hw)) (mvT hZ264 (wd202 hw)) (by decide) (backOf (W := 0) (rmA46 l Z a0 hw [] b332_1 wE T365.heap n0 Z365 f366 S_E f367) hZ264 (wd204 hw) (wd145 hw) (by decide) (by decide)) q368a q368c (g := (mkF m 373 #[.val (.int x0), .val (.int x1), .val (.int x2), .val (.int x3), .val (.int x4), .val (.int x5), .val (.int fm), .val (.int fo), .val (.int fc), .val (.int ft), .val (.int fi), .val (.int fg), .val (.int fn), .val (.ref b36), .val (.ref b38), .val (.ref b41), .val (.ref b45), .val (.ref b50), .val (.ref b56), .val (.ref b63), .val (.ref b71), .val cv, .val (.ref w78), .val (.ref w93), .val (.ref w109), .val (.ref w126), .val (.ref w144), .val (.ref b262), .val (.ref b278_0), .val (.ref b293), .val (.ref b311), .val (.ref b332_1), .val (.ref b334_0), .val (.ref b337_0), .val (.ref b341_0), .val (.ref b365_0), .unset, .unset, .unset, .unset, .unset, .unset, .unset, .unset] [(.ref b332_1)])) rfl (by rw [hml]; rfl) (Steps.refl _) (argsL := []) (rest := []) (lenOf pd___Ljava_util_Optional_ rfl) rfl (by show 2 * 0 + _ ≤ _; exact Nat.le_of_eq rfl) (hb hby at_373) (fun _ _ => ⟨rfl, rfl, (by decide : 49 + 0 ≤ _), (by decide : 184 + 0 ≤ _)⟩)
    dsimp only [Pt.U, Pt.locs, Pt.cells, Pt.slots] at X368 l368 y368 z368 st368 hQ368
    subst l368 y368 z368
    obtain ⟨rfl, Nq368, eq368⟩ := hQ368
    have N368 := Fr.app N365 Nq368
    have f370 := ((((g332_14.keep Kq334 nin0).keep Kq337 nin0).keep Kq341 nin0).keep Kq365 nin0)
    obtain ⟨cq371, kq371, q371a, q371b, q371c⟩ := isOf hZ264 eq368 f369
    obtain ⟨_, _, ⟨T371, L371, kc371, ks371⟩, -, X371, ⟨Lc371, hQ371, l371, y371, z371⟩, st371⟩ := X368.virtualBack hx (y := mn2) (z := mn2) hown264 (mvT hZ264 (wd205 hw)) (mvT hZ264 (wd206 hw)) (notFace_of_selects (args := #[]) (mvT hZ264 (wd208 hw))) (mvT hZ264 (wd208 hw)) (mvT hZ264 (wd207 hw)) (by decide) (backOf (W := 0) (rmA48 l Z a0 hw [] b332_1 wE T365.heap n0 Z365 f370 S_E f367) hZ264 (wd209 hw) (wd145 hw) (by decide) (by decide)) q371a q371c (g := (mkF m 380 #[.val (.int x0), .val (.int x1), .val (.int x2), .val (.int x3), .val (.int x4), .val (.int x5), .val (.int fm), .val (.int fo), .val (.int fc), .val (.int ft), .val (.int fi), .val (.int fg), .val (.int fn), .val (.ref b36), .val (.ref b38), .val (.ref b41), .val (.ref b45), .val (.ref b50), .val (.ref b56), .val (.ref b63), .val (.ref b71), .val cv, .val (.ref w78), .val (.ref w93), .val (.ref w109), .val (.ref w126), .val (.ref w144), .val (.ref b262), .val (.ref b278_0), .val (.ref b293), .val (.ref b311), .val (.ref b332_1), .val (.ref b334_0), .val (.ref b337_0), .val (.ref b341_0), .val (.ref b365_0), .val (.ref wE), .unset, .unset, .unset, .unset, .unset, .unset, .unset] [(.ref b332_1)])) rfl (by rw [hml]; rfl) (Steps.refl _) (argsL := []) (rest := []) (lenOf pd___Ljava_util_Optional_ rfl) rfl (by show 2 * 0 + _ ≤ _; exact Nat.le_of_eq rfl) (hb hby at_380) (fun _ _ => ⟨rfl, eq368, (by decide : 49 + 0 ≤ _), (by decide : 184 + 0 ≤ _)⟩)
    dsimp only [Pt.U, Pt.locs, Pt.cells, Pt.slots] at X371 l371 y371 z371 st371 hQ371
    subst l371 y371 z371
    obtain ⟨rfl, Nq371, eq371⟩ := hQ371
    have N371 := Fr.app N368 Nq371
    have k372 : ∀ t, Steps p.tables e below (T371.setTop (mkF m 389 #[.val (.int x0), .val (.int x1), .val (.int x2), .val (.int x3), .val (.int x4), .val (.int x5), .val (.int fm), .val (.int fo), .val (.int fc), .val (.int ft), .val (.int fi), .val (.int fg), .val (.int fn), .val (.ref b36), .val (.ref b38), .val (.ref b41), .val (.ref b45), .val (.ref b50), .val (.ref b56), .val (.ref b63), .val (.ref b71), .val cv, .val (.ref w78), .val (.ref w93), .val (.ref w109), .val (.ref w126), .val (.ref w144), .val (.ref b262), .val (.ref b278_0), .val (.ref b293), .val (.ref b311), .val (.ref b332_1), .val (.ref b334_0), .val (.ref b337_0), .val (.ref b341_0), .val (.ref b365_0), .val (.ref wE), .val (.ref wE), .unset, .unset, .unset, .unset, .unset, .unset] [(.int fn), (.ref b334_0)])) t → Steps p.tables e below (s₁.setTop (entryFrame m #[(.int x0), (.int x1), (.int x2), (.int x3), (.int x4), (.int x5)] maxLocals)) t := by
      intro t kt
      refine k162 t ?_
      show Steps p.tables e below (T144.setTop (mkF m 265 #[.val (.int x0), .val (.int x1), .val (.int x2), .val (.int x3), .val (.int x4), .val (.int x5), .val (.int fm), .val (.int fo), .val (.int fc), .val (.int ft), .val (.int fi), .val (.int fg), .val (.int fn), .val (.ref b36), .val (.ref b38), .val (.ref b41), .val (.ref b45), .val (.ref b50), .val (.ref b56), .val (.ref b63), .val (.ref b71), .val cv, .val (.ref w78), .val (.ref w93), .val (.ref w109), .val (.ref w126), .val (.ref w144), .val .null, .unset, .unset, .unset, .unset, .unset, .unset, .unset, .unset, .unset, .unset, .unset, .unset, .unset, .unset, .unset, .unset] [(.int fg)])) _
      refine XS.ifNo X144.here hx rfl (hb hby at_265) rfl ((if0 _ _).trans (feq hc163).1) ?_
      show Steps p.tables e below (T144.setTop (mkF m 268 #[.val (.int x0), .val (.int x1), .val (.int x2), .val (.int x3), .val (.int x4), .val (.int x5), .val (.int fm), .val (.int fo), .val (.int fc), .val (.int ft), .val (.int fi), .val (.int fg), .val (.int fn), .val (.ref b36), .val (.ref b38), .val (.ref b41), .val (.ref b45), .val (.ref b50), .val (.ref b56), .val (.ref b63), .val (.ref b71), .val cv, .val (.ref w78), .val (.ref w93), .val (.ref w109), .val (.ref w126), .val (.ref w144), .val .null, .unset, .unset, .unset, .unset, .unset, .unset, .unset, .unset, .unset, .unset, .unset, .unset, .unset, .unset, .unset, .unset] [])) _
      refine st262 _ ?_
      show Steps p.tables e below (T262.setTop (mkF m 271 #[.val (.int x0), .val (.int x1), .val (.int x2), .val (.int x3), .val (.int x4), .val (.int x5), .val (.int fm), .val (.int fo), .val (.int fc), .val (.int ft), .val (.int fi), .val (.int fg), .val (.int fn), .val (.ref b36), .val (.ref b38), .val (.ref b41), .val (.ref b45), .val (.ref b50), .val (.ref b56), .val (.ref b63), .val (.ref b71), .val cv, .val (.ref w78), .val (.ref w93), .val (.ref w109), .val (.ref w126), .val (.ref w144), .val .null, .unset, .unset, .unset, .unset, .unset, .unset, .unset, .unset, .unset, .unset, .unset, .unset, .unset, .unset, .unset, .unset] [(.ref b262)])) _
      refine XS.dup X262.here hx rfl (hb hby at_271) rfl rfl ?_
      refine XS.aload X262.here hx rfl (hb hby at_272) rfl rfl ?_
      refine XS.aload X262.here hx rfl (hb hby at_274) rfl rfl ?_
      refine XS.aconstNull X262.here hx rfl (hb hby at_276) ?_
      show Steps p.tables e below (T262.setTop (mkF m 277 #[.val (.int x0), .val (.int x1), .val (.int x2), .val (.int x3), .val (.int x4), .val (.int x5), .val (.int fm), .val (.int fo), .val (.int fc), .val (.int ft), .val (.int fi), .val (.int fg), .val (.int fn), .val (.ref b36), .val (.ref b38), .val (.ref b41), .val (.ref b45), .val (.ref b50), .val (.ref b56), .val (.ref b63), .val (.ref b71), .val cv, .val (.ref w78), .val (.ref w93), .val (.ref w109), .val (.ref w126), .val (.ref w144), .val .null, .unset, .unset, .unset, .unset, .unset, .unset, .unset, .unset, .unset, .unset, .unset, .unset, .unset, .unset, .unset, .unset] [.null, (.ref b71), (.ref b63), (.ref b262), (.ref b262)])) _
      refine st264.trans ?_
      show Steps p.tables e below (T264.setTop (mkF m 280 #[.val (.int x0), .val (.int x1), .val (.int x2), .val (.int x3), .val (.int x4), .val (.int x5), .val (.int fm), .val (.int fo), .val (.int fc), .val (.int ft), .val (.int fi), .val (.int fg), .val (.int fn), .val (.ref b36), .val (.ref b38), .val (.ref b41), .val (.ref b45), .val (.ref b50), .val (.ref b56), .val (.ref b63), .val (.ref b71), .val cv, .val (.ref w78), .val (.ref w93), .val (.ref w109), .val (.ref w126), .val (.ref w144), .val .null, .unset, .unset, .unset, .unset, .unset, .unset, .unset, .unset, .unset, .unset, .unset, .unset, .unset, .unset, .unset, .unset] [(.ref b262)])) _
      refine XS.astore X264.here hx rfl (hb hby at_280) rfl rfl (l' := #[.val (.int x0), .val (.int x1), .val (.int x2), .val (.int x3), .val (.int x4), .val (.int x5), .val (.int fm), .val (.int fo), .val (.int fc), .val (.int ft), .val (.int fi), .val (.int fg), .val (.int fn), .val (.ref b36), .val (.ref b38), .val (.ref b41), .val (.ref b45), .val (.ref b50), .val (.ref b56), .val (.ref b63), .val (.ref b71), .val cv, .val (.ref w78), .val (.ref w93), .val (.ref w109), .val (.ref w126), .val (.ref w144), .val (.ref b262), .unset, .unset, .unset, .unset, .unset, .unset, .unset, .unset, .unset, .unset, .unset, .unset, .unset, .unset, .unset, .unset]) rfl ?_
      refine XS.iload X264.here hx rfl (hb hby at_282) rfl ?_
      show Steps p.tables e below (T264.setTop (mkF m 284 #[.val (.int x0), .val (.int x1), .val (.int x2), .val (.int x3), .val (.int x4), .val (.int x5), .val (.int fm), .val (.int fo), .val (.int fc), .val (.int ft), .val (.int fi), .val (.int fg), .val (.int fn), .val (.ref b36), .val (.ref b38), .val (.ref b41), .val (.ref b45), .val (.ref b50), .val (.ref b56), .val (.ref b63), .val (.ref b71), .val cv, .val (.ref w78), .val (.ref w93), .val (.ref w109), .val (.ref w126), .val (.ref w144), .val (.ref b262), .unset, .unset, .unset, .unset, .unset, .unset, .unset, .unset, .unset, .unset, .unset, .unset, .unset, .unset, .unset, .unset] [(.int fg)])) _
      refine XS.ifNo X264.here hx rfl (hb hby at_284) rfl ((if0 _ _).trans (feq hc163).1) ?_
      refine XS.aload X264.here hx rfl (hb hby at_287) rfl rfl ?_
      show Steps p.tables e below (T264.setTop (mkF m 289 #[.val (.int x0), .val (.int x1), .val (.int x2), .val (.int x3), .val (.int x4), .val (.int x5), .val (.int fm), .val (.int fo), .val (.int fc), .val (.int ft), .val (.int fi), .val (.int fg), .val (.int fn), .val (.ref b36), .val (.ref b38), .val (.ref b41), .val (.ref b45), .val (.ref b50), .val (.ref b56), .val (.ref b63), .val (.ref b71), .val cv, .val (.ref w78), .val (.ref w93), .val (.ref w109), .val (.ref w126), .val (.ref w144), .val (.ref b262), .unset, .unset, .unset, .unset, .unset, .unset, .unset, .unset, .unset, .unset, .unset, .unset, .unset, .unset, .unset, .unset] [(.ref b262)])) _
      refine st278 _ ?_
      show Steps p.tables e below (T278.setTop (mkF m 292 #[.val (.int x0), .val (.int x1), .val (.int x2), .val (.int x3), .val (.int x4), .val (.int x5), .val (.int fm), .val (.int fo), .val (.int fc), .val (.int ft), .val (.int fi), .val (.int fg), .val (.int fn), .val (.ref b36), .val (.ref b38), .val (.ref b41), .val (.ref b45), .val (.ref b50), .val (.ref b56), .val (.ref b63), .val (.ref b71), .val cv, .val (.ref w78), .val (.ref w93), .val (.ref w109), .val (.ref w126), .val (.ref w144), .val (.ref b262), .unset, .unset, .unset, .unset, .unset, .unset, .unset, .unset, .unset, .unset, .unset, .unset, .unset, .unset, .unset, .unset] [(.ref b278_0)])) _
      refine XS.goto X278.here hx rfl (pc0 := 292) (pc' := 298) rfl (hb hby at_292) (by decide) (by decide) ?_
      refine XS.astore X278.here hx rfl (hb hby at_298) rfl rfl (l' := #[.val (.int x0), .val (.int x1), .val (.int x2), .val (.int x3), .val (.int x4), .val (.int x5), .val (.int fm), .val (.int fo), .val (.int fc), .val (.int ft), .val (.int fi), .val (.int fg), .val (.int fn), .val (.ref b36), .val (.ref b38), .val (.ref b41), .val (.ref b45), .val (.ref b50), .val (.ref b56), .val (.ref b63), .val (.ref b71), .val cv, .val (.ref w78), .val (.ref w93), .val (.ref w109), .val (.ref w126), .val (.ref w144), .val (.ref b262), .val (.ref b278_0), .unset, .unset, .unset, .unset, .unset, .unset, .unset, .unset, .unset, .unset, .unset, .unset, .unset, .unset, .unset]) rfl ?_
      show Steps p.tables e below (T278.setTop (mkF m 300 #[.val (.int x0), .val (.int x1), .val (.int x2), .val (.int x3), .val (.int x4), .val (.int x5), .val (.int fm), .val (.int fo), .val (.int fc), .val (.int ft), .val (.int fi), .val (.int fg), .val (.int fn), .val (.ref b36), .val (.ref b38), .val (.ref b41), .val (.ref b45), .val (.ref b50), .val (.ref b56), .val (.ref b63), .val (.ref b71), .val cv, .val (.ref w78), .val (.ref w93), .val (.ref w109), .val (.ref w126), .val (.ref w144), .val (.ref b262), .val (.ref b278_0), .unset, .unset, .unset, .unset, .unset, .unset, .unset, .unset, .unset, .unset, .unset, .unset, .unset, .unset, .unset] [])) _
      refine st293 _ ?_
      show Steps p.tables e below (T293.setTop (mkF m 303 #[.val (.int x0), .val (.int x1), .val (.int x2), .val (.int x3), .val (.int x4), .val (.int x5), .val (.int fm), .val (.int fo), .val (.int fc), .val (.int ft), .val (.int fi), .val (.int fg), .val (.int fn), .val (.ref b36), .val (.ref b38), .val (.ref b41), .val (.ref b45), .val (.ref b50), .val (.ref b56), .val (.ref b63), .val (.ref b71), .val cv, .val (.ref w78), .val (.ref w93), .val (.ref w109), .val (.ref w126), .val (.ref w144), .val (.ref b262), .val (.ref b278_0), .unset, .unset, .unset, .unset, .unset, .unset, .unset, .unset, .unset, .unset, .unset, .unset, .unset, .unset, .unset] [(.ref b293)])) _
      refine XS.dup X293.here hx rfl (hb hby at_303) rfl rfl ?_
      show Steps p.tables e below (T293.setTop (mkF m 304 #[.val (.int x0), .val (.int x1), .val (.int x2), .val (.int x3), .val (.int x4), .val (.int x5), .val (.int fm), .val (.int fo), .val (.int fc), .val (.int ft), .val (.int fi), .val (.int fg), .val (.int fn), .val (.ref b36), .val (.ref b38), .val (.ref b41), .val (.ref b45), .val (.ref b50), .val (.ref b56), .val (.ref b63), .val (.ref b71), .val cv, .val (.ref w78), .val (.ref w93), .val (.ref w109), .val (.ref w126), .val (.ref w144), .val (.ref b262), .val (.ref b278_0), .unset, .unset, .unset, .unset, .unset, .unset, .unset, .unset, .unset, .unset, .unset, .unset, .unset, .unset, .unset] [(.ref b293), (.ref b293)])) _
      refine st295.trans ?_
      show Steps p.tables e below (T295.setTop (mkF m 307 #[.val (.int x0), .val (.int x1), .val (.int x2), .val (.int x3), .val (.int x4), .val (.int x5), .val (.int fm), .val (.int fo), .val (.int fc), .val (.int ft), .val (.int fi), .val (.int fg), .val (.int fn), .val (.ref b36), .val (.ref b38), .val (.ref b41), .val (.ref b45), .val (.ref b50), .val (.ref b56), .val (.ref b63), .val (.ref b71), .val cv, .val (.ref w78), .val (.ref w93), .val (.ref w109), .val (.ref w126), .val (.ref w144), .val (.ref b262), .val (.ref b278_0), .unset, .unset, .unset, .unset, .unset, .unset, .unset, .unset, .unset, .unset, .unset, .unset, .unset, .unset, .unset] [(.ref b293)])) _
      refine XS.astore X295.here hx rfl (hb hby at_307) rfl rfl (l' := #[.val (.int x0), .val (.int x1), .val (.int x2), .val (.int x3), .val (.int x4), .val (.int x5), .val (.int fm), .val (.int fo), .val (.int fc), .val (.int ft), .val (.int fi), .val (.int fg), .val (.int fn), .val (.ref b36), .val (.ref b38), .val (.ref b41), .val (.ref b45), .val (.ref b50), .val (.ref b56), .val (.ref b63), .val (.ref b71), .val cv, .val (.ref w78), .val (.ref w93), .val (.ref w109), .val (.ref w126), .val (.ref w144), .val (.ref b262), .val (.ref b278_0), .val (.ref b293), .unset, .unset, .unset, .unset, .unset, .unset, .unset, .unset, .unset, .unset, .unset, .unset, .unset, .unset]) rfl ?_
      show Steps p.tables e below (T295.setTop (mkF m 309 #[.val (.int x0), .val (.int x1), .val (.int x2), .val (.int x3), .val (.int x4), .val (.int x5), .val (.int fm), .val (.int fo), .val (.int fc), .val (.int ft), .val (.int fi), .val (.int fg), .val (.int fn), .val (.ref b36), .val (.ref b38), .val (.ref b41), .val (.ref b45), .val (.ref b50), .val (.ref b56), .val (.ref b63), .val (.ref b71), .val cv, .val (.ref w78), .val (.ref w93), .val (.ref w109), .val (.ref w126), .val (.ref w144), .val (.ref b262), .val (.ref b278_0), .val (.ref b293), .unset, .unset, .unset, .unset, .unset, .unset, .unset, .unset, .unset, .unset, .unset, .unset, .unset, .unset] [])) _
      refine st311 _ ?_
      show Steps p.tables e below (T311.setTop (mkF m 312 #[.val (.int x0), .val (.int x1), .val (.int x2), .val (.int x3), .val (.int x4), .val (.int x5), .val (.int fm), .val (.int fo), .val (.int fc), .val (.int ft), .val (.int fi), .val (.int fg), .val (.int fn), .val (.ref b36), .val (.ref b38), .val (.ref b41), .val (.ref b45), .val (.ref b50), .val (.ref b56), .val (.ref b63), .val (.ref b71), .val cv, .val (.ref w78), .val (.ref w93), .val (.ref w109), .val (.ref w126), .val (.ref w144), .val (.ref b262), .val (.ref b278_0), .val (.ref b293), .unset, .unset, .unset, .unset, .unset, .unset, .unset, .unset, .unset, .unset, .unset, .unset, .unset, .unset] [(.ref b311)])) _
      refine XS.dup X311.here hx rfl (hb hby at_312) rfl rfl ?_
      refine XS.aload X311.here hx rfl (hb hby at_313) rfl r_cv ?_
      show Steps p.tables e below (T311.setTop (mkF m 315 #[.val (.int x0), .val (.int x1), .val (.int x2), .val (.int x3), .val (.int x4), .val (.int x5), .val (.int fm), .val (.int fo), .val (.int fc), .val (.int ft), .val (.int fi), .val (.int fg), .val (.int fn), .val (.ref b36), .val (.ref b38), .val (.ref b41), .val (.ref b45), .val (.ref b50), .val (.ref b56), .val (.ref b63), .val (.ref b71), .val cv, .val (.ref w78), .val (.ref w93), .val (.ref w109), .val (.ref w126), .val (.ref w144), .val (.ref b262), .val (.ref b278_0), .val (.ref b293), .unset, .unset, .unset, .unset, .unset, .unset, .unset, .unset, .unset, .unset, .unset, .unset, .unset, .unset] [cv, (.ref b311), (.ref b311)])) _
      refine XS.iload X311.here hx rfl (hb hby at_315) rfl ?_
      refine XS.aload X311.here hx rfl (hb hby at_317) rfl rfl ?_
      refine XS.aload X311.here hx rfl (hb hby at_319) rfl rfl ?_
      refine XS.aload X311.here hx rfl (hb hby at_321) rfl rfl ?_
      refine XS.aload X311.here hx rfl (hb hby at_323) rfl rfl ?_
      refine XS.aload X311.here hx rfl (hb hby at_325) rfl rfl ?_
      refine XS.aload X311.here hx rfl (hb hby at_327) rfl rfl ?_
      show Steps p.tables e below (T311.setTop (mkF m 329 #[.val (.int x0), .val (.int x1), .val (.int x2), .val (.int x3), .val (.int x4), .val (.int x5), .val (.int fm), .val (.int fo), .val (.int fc), .val (.int ft), .val (.int fi), .val (.int fg), .val (.int fn), .val (.ref b36), .val (.ref b38), .val (.ref b41), .val (.ref b45), .val (.ref b50), .val (.ref b56), .val (.ref b63), .val (.ref b71), .val cv, .val (.ref w78), .val (.ref w93), .val (.ref w109), .val (.ref w126), .val (.ref w144), .val (.ref b262), .val (.ref b278_0), .val (.ref b293), .unset, .unset, .unset, .unset, .unset, .unset, .unset, .unset, .unset, .unset, .unset, .unset, .unset, .unset] [(.ref b293), (.ref b278_0), (.ref w144), (.ref w126), (.ref w93), (.ref w109), (.int x5), cv, (.ref b311), (.ref b311)])) _
      refine st312.trans ?_
      show Steps p.tables e below (T312.setTop (mkF m 332 #[.val (.int x0), .val (.int x1), .val (.int x2), .val (.int x3), .val (.int x4), .val (.int x5), .val (.int fm), .val (.int fo), .val (.int fc), .val (.int ft), .val (.int fi), .val (.int fg), .val (.int fn), .val (.ref b36), .val (.ref b38), .val (.ref b41), .val (.ref b45), .val (.ref b50), .val (.ref b56), .val (.ref b63), .val (.ref b71), .val cv, .val (.ref w78), .val (.ref w93), .val (.ref w109), .val (.ref w126), .val (.ref w144), .val (.ref b262), .val (.ref b278_0), .val (.ref b293), .unset, .unset, .unset, .unset, .unset, .unset, .unset, .unset, .unset, .unset, .unset, .unset, .unset, .unset] [(.ref b311)])) _
      refine XS.astore X312.here hx rfl (hb hby at_332) rfl rfl (l' := #[.val (.int x0), .val (.int x1), .val (.int x2), .val (.int x3), .val (.int x4), .val (.int x5), .val (.int fm), .val (.int fo), .val (.int fc), .val (.int ft), .val (.int fi), .val (.int fg), .val (.int fn), .val (.ref b36), .val (.ref b38), .val (.ref b41), .val (.ref b45), .val (.ref b50), .val (.ref b56), .val (.ref b63), .val (.ref b71), .val cv, .val (.ref w78), .val (.ref w93), .val (.ref w109), .val (.ref w126), .val (.ref w144), .val (.ref b262), .val (.ref b278_0), .val (.ref b293), .val (.ref b311), .unset, .unset, .unset, .unset, .unset, .unset, .unset, .unset, .unset, .unset, .unset, .unset, .unset]) rfl ?_
      refine XS.aload X312.here hx rfl (hb hby at_334) rfl rfl ?_
      refine XS.aload X312.here hx rfl (hb hby at_336) rfl rfl ?_
      show Steps p.tables e below (T312.setTop (mkF m 338 #[.val (.int x0), .val (.int x1), .val (.int x2), .val (.int x3), .val (.int x4), .val (.int x5), .val (.int fm), .val (.int fo), .val (.int fc), .val (.int ft), .val (.int fi), .val (.int fg), .val (.int fn), .val (.ref b36), .val (.ref b38), .val (.ref b41), .val (.ref b45), .val (.ref b50), .val (.ref b56), .val (.ref b63), .val (.ref b71), .val cv, .val (.ref w78), .val (.ref w93), .val (.ref w109), .val (.ref w126), .val (.ref w144), .val (.ref b262), .val (.ref b278_0), .val (.ref b293), .val (.ref b311), .unset, .unset, .unset, .unset, .unset, .unset, .unset, .unset, .unset, .unset, .unset, .unset, .unset] [(.ref w78), (.ref b311)])) _
      refine st332.trans ?_
      show Steps p.tables e below (T332.setTop (mkF m 341 #[.val (.int x0), .val (.int x1), .val (.int x2), .val (.int x3), .val (.int x4), .val (.int x5), .val (.int fm), .val (.int fo), .val (.int fc), .val (.int ft), .val (.int fi), .val (.int fg), .val (.int fn), .val (.ref b36), .val (.ref b38), .val (.ref b41), .val (.ref b45), .val (.ref b50), .val (.ref b56), .val (.ref b63), .val (.ref b71), .val cv, .val (.ref w78), .val (.ref w93), .val (.ref w109), .val (.ref w126), .val (.ref w144), .val (.ref b262), .val (.ref b278_0), .val (.ref b293), .val (.ref b311), .unset, .unset, .unset, .unset, .unset, .unset, .unset, .unset, .unset, .unset, .unset, .unset, .unset] [(.ref b332_1)])) _
      refine XS.astore X332.here hx rfl (hb hby at_341) rfl rfl (l' := #[.val (.int x0), .val (.int x1), .val (.int x2), .val (.int x3), .val (.int x4), .val (.int x5), .val (.int fm), .val (.int fo), .val (.int fc), .val (.int ft), .val (.int fi), .val (.int fg), .val (.int fn), .val (.ref b36), .val (.ref b38), .val (.ref b41), .val (.ref b45), .val (.ref b50), .val (.ref b56), .val (.ref b63), .val (.ref b71), .val cv, .val (.ref w78), .val (.ref w93), .val (.ref w109), .val (.ref w126), .val (.ref w144), .val (.ref b262), .val (.ref b278_0), .val (.ref b293), .val (.ref b311), .val (.ref b332_1), .unset, .unset, .unset, .unset, .unset, .unset, .unset, .unset, .unset, .unset, .unset, .unset]) rfl ?_
      refine XS.aload X332.here hx rfl (hb hby at_343) rfl rfl ?_
      show Steps p.tables e below (T332.setTop (mkF m 345 #[.val (.int x0), .val (.int x1), .val (.int x2), .val (.int x3), .val (.int x4), .val (.int x5), .val (.int fm), .val (.int fo), .val (.int fc), .val (.int ft), .val (.int fi), .val (.int fg), .val (.int fn), .val (.ref b36), .val (.ref b38), .val (.ref b41), .val (.ref b45), .val (.ref b50), .val (.ref b56), .val (.ref b63), .val (.ref b71), .val cv, .val (.ref w78), .val (.ref w93), .val (.ref w109), .val (.ref w126), .val (.ref w144), .val (.ref b262), .val (.ref b278_0), .val (.ref b293), .val (.ref b311), .val (.ref b332_1), .unset, .unset, .unset, .unset, .unset, .unset, .unset, .unset, .unset, .unset, .unset, .unset] [(.ref b332_1)])) _
      refine st334.trans ?_
      show Steps p.tables e below (T334.setTop (mkF m 348 #[.val (.int x0), .val (.int x1), .val (.int x2), .val (.int x3), .val (.int x4), .val (.int x5), .val (.int fm), .val (.int fo), .val (.int fc), .val (.int ft), .val (.int fi), .val (.int fg), .val (.int fn), .val (.ref b36), .val (.ref b38), .val (.ref b41), .val (.ref b45), .val (.ref b50), .val (.ref b56), .val (.ref b63), .val (.ref b71), .val cv, .val (.ref w78), .val (.ref w93), .val (.ref w109), .val (.ref w126), .val (.ref w144), .val (.ref b262), .val (.ref b278_0), .val (.ref b293), .val (.ref b311), .val (.ref b332_1), .unset, .unset, .unset, .unset, .unset, .unset, .unset, .unset, .unset, .unset, .unset, .unset] [(.ref b334_0)])) _
      refine XS.astore X334.here hx rfl (hb hby at_348) rfl rfl (l' := #[.val (.int x0), .val (.int x1), .val (.int x2), .val (.int x3), .val (.int x4), .val (.int x5), .val (.int fm), .val (.int fo), .val (.int fc), .val (.int ft), .val (.int fi), .val (.int fg), .val (.int fn), .val (.ref b36), .val (.ref b38), .val (.ref b41), .val (.ref b45), .val (.ref b50), .val (.ref b56), .val (.ref b63), .val (.ref b71), .val cv, .val (.ref w78), .val (.ref w93), .val (.ref w109), .val (.ref w126), .val (.ref w144), .val (.ref b262), .val (.ref b278_0), .val (.ref b293), .val (.ref b311), .val (.ref b332_1), .val (.ref b334_0), .unset, .unset, .unset, .unset, .unset, .unset, .unset, .unset, .unset, .unset, .unset]) rfl ?_
      refine XS.aload X334.here hx rfl (hb hby at_350) rfl rfl ?_
      show Steps p.tables e below (T334.setTop (mkF m 352 #[.val (.int x0), .val (.int x1), .val (.int x2), .val (.int x3), .val (.int x4), .val (.int x5), .val (.int fm), .val (.int fo), .val (.int fc), .val (.int ft), .val (.int fi), .val (.int fg), .val (.int fn), .val (.ref b36), .val (.ref b38), .val (.ref b41), .val (.ref b45), .val (.ref b50), .val (.ref b56), .val (.ref b63), .val (.ref b71), .val cv, .val (.ref w78), .val (.ref w93), .val (.ref w109), .val (.ref w126), .val (.ref w144), .val (.ref b262), .val (.ref b278_0), .val (.ref b293), .val (.ref b311), .val (.ref b332_1), .val (.ref b334_0), .unset, .unset, .unset, .unset, .unset, .unset, .unset, .unset, .unset, .unset, .unset] [(.ref b332_1)])) _
      refine st337.trans ?_
      show Steps p.tables e below (T337.setTop (mkF m 355 #[.val (.int x0), .val (.int x1), .val (.int x2), .val (.int x3), .val (.int x4), .val (.int x5), .val (.int fm), .val (.int fo), .val (.int fc), .val (.int ft), .val (.int fi), .val (.int fg), .val (.int fn), .val (.ref b36), .val (.ref b38), .val (.ref b41), .val (.ref b45), .val (.ref b50), .val (.ref b56), .val (.ref b63), .val (.ref b71), .val cv, .val (.ref w78), .val (.ref w93), .val (.ref w109), .val (.ref w126), .val (.ref w144), .val (.ref b262), .val (.ref b278_0), .val (.ref b293), .val (.ref b311), .val (.ref b332_1), .val (.ref b334_0), .unset, .unset, .unset, .unset, .unset, .unset, .unset, .unset, .unset, .unset, .unset] [(.ref b337_0)])) _
      refine XS.astore X337.here hx rfl (hb hby at_355) rfl rfl (l' := #[.val (.int x0), .val (.int x1), .val (.int x2), .val (.int x3), .val (.int x4), .val (.int x5), .val (.int fm), .val (.int fo), .val (.int fc), .val (.int ft), .val (.int fi), .val (.int fg), .val (.int fn), .val (.ref b36), .val (.ref b38), .val (.ref b41), .val (.ref b45), .val (.ref b50), .val (.ref b56), .val (.ref b63), .val (.ref b71), .val cv, .val (.ref w78), .val (.ref w93), .val (.ref w109), .val (.ref w126), .val (.ref w144), .val (.ref b262), .val (.ref b278_0), .val (.ref b293), .val (.ref b311), .val (.ref b332_1), .val (.ref b334_0), .val (.ref b337_0), .unset, .unset, .unset, .unset, .unset, .unset, .unset, .unset, .unset, .unset]) rfl ?_
      refine XS.aload X337.here hx rfl (hb hby at_357) rfl rfl ?_
      show Steps p.tables e below (T337.setTop (mkF m 359 #[.val (.int x0), .val (.int x1), .val (.int x2), .val (.int x3), .val (.int x4), .val (.int x5), .val (.int fm), .val (.int fo), .val (.int fc), .val (.int ft), .val (.int fi), .val (.int fg), .val (.int fn), .val (.ref b36), .val (.ref b38), .val (.ref b41), .val (.ref b45), .val (.ref b50), .val (.ref b56), .val (.ref b63), .val (.ref b71), .val cv, .val (.ref w78), .val (.ref w93), .val (.ref w109), .val (.ref w126), .val (.ref w144), .val (.ref b262), .val (.ref b278_0), .val (.ref b293), .val (.ref b311), .val (.ref b332_1), .val (.ref b334_0), .val (.ref b337_0), .unset, .unset, .unset, .unset, .unset, .unset, .unset, .unset, .unset, .unset] [(.ref b332_1)])) _
      refine st341.trans ?_
      show Steps p.tables e below (T341.setTop (mkF m 362 #[.val (.int x0), .val (.int x1), .val (.int x2), .val (.int x3), .val (.int x4), .val (.int x5), .val (.int fm), .val (.int fo), .val (.int fc), .val (.int ft), .val (.int fi), .val (.int fg), .val (.int fn), .val (.ref b36), .val (.ref b38), .val (.ref b41), .val (.ref b45), .val (.ref b50), .val (.ref b56), .val (.ref b63), .val (.ref b71), .val cv, .val (.ref w78), .val (.ref w93), .val (.ref w109), .val (.ref w126), .val (.ref w144), .val (.ref b262), .val (.ref b278_0), .val (.ref b293), .val (.ref b311), .val (.ref b332_1), .val (.ref b334_0), .val (.ref b337_0), .unset, .unset, .unset, .unset, .unset, .unset, .unset, .unset, .unset, .unset] [(.ref b341_0)])) _
      refine XS.astore X341.here hx rfl (hb hby at_362) rfl rfl (l' := #[.val (.int x0), .val (.int x1), .val (.int x2), .val (.int x3), .val (.int x4), .val (.int x5), .val (.int fm), .val (.int fo), .val (.int fc), .val (.int ft), .val (.int fi), .val (.int fg), .val (.int fn), .val (.ref b36), .val (.ref b38), .val (.ref b41), .val (.ref b45), .val (.ref b50), .val (.ref b56), .val (.ref b63), .val (.ref b71), .val cv, .val (.ref w78), .val (.ref w93), .val (.ref w109), .val (.ref w126), .val (.ref w144), .val (.ref b262), .val (.ref b278_0), .val (.ref b293), .val (.ref b311), .val (.ref b332_1), .val (.ref b334_0), .val (.ref b337_0), .val (.ref b341_0), .unset, .unset, .unset, .unset, .unset, .unset, .unset, .unset, .unset]) rfl ?_
      refine XS.aload X341.here hx rfl (hb hby at_364) rfl rfl ?_
      show Steps p.tables e below (T341.setTop (mkF m 366 #[.val (.int x0), .val (.int x1), .val (.int x2), .val (.int x3), .val (.int x4), .val (.int x5), .val (.int fm), .val (.int fo), .val (.int fc), .val (.int ft), .val (.int fi), .val (.int fg), .val (.int fn), .val (.ref b36), .val (.ref b38), .val (.ref b41), .val (.ref b45), .val (.ref b50), .val (.ref b56), .val (.ref b63), .val (.ref b71), .val cv, .val (.ref w78), .val (.ref w93), .val (.ref w109), .val (.ref w126), .val (.ref w144), .val (.ref b262), .val (.ref b278_0), .val (.ref b293), .val (.ref b311), .val (.ref b332_1), .val (.ref b334_0), .val (.ref b337_0), .val (.ref b341_0), .unset, .unset, .unset, .unset, .unset, .unset, .unset, .unset, .unset] [(.ref b332_1)])) _
      refine st365.trans ?_
      show Steps p.tables e below (T365.setTop (mkF m 369 #[.val (.int x0), .val (.int x1), .val (.int x2), .val (.int x3), .val (.int x4), .val (.int x5), .val (.int fm), .val (.int fo), .val (.int fc), .val (.int ft), .val (.int fi), .val (.int fg), .val (.int fn), .val (.ref b36), .val (.ref b38), .val (.ref b41), .val (.ref b45), .val (.ref b50), .val (.ref b56), .val (.ref b63), .val (.ref b71), .val cv, .val (.ref w78), .val (.ref w93), .val (.ref w109), .val (.ref w126), .val (.ref w144), .val (.ref b262), .val (.ref b278_0), .val (.ref b293), .val (.ref b311), .val (.ref b332_1), .val (.ref b334_0), .val (.ref b337_0), .val (.ref b341_0), .unset, .unset, .unset, .unset, .unset, .unset, .unset, .unset, .unset] [(.ref b365_0)])) _
      refine XS.astore X365.here hx rfl (hb hby at_369) rfl rfl (l' := #[.val (.int x0), .val (.int x1), .val (.int x2), .val (.int x3), .val (.int x4), .val (.int x5), .val (.int fm), .val (.int fo), .val (.int fc), .val (.int ft), .val (.int fi), .val (.int fg), .val (.int fn), .val (.ref b36), .val (.ref b38), .val (.ref b41), .val (.ref b45), .val (.ref b50), .val (.ref b56), .val (.ref b63), .val (.ref b71), .val cv, .val (.ref w78), .val (.ref w93), .val (.ref w109), .val (.ref w126), .val (.ref w144), .val (.ref b262), .val (.ref b278_0), .val (.ref b293), .val (.ref b311), .val (.ref b332_1), .val (.ref b334_0), .val (.ref b337_0), .val (.ref b341_0), .val (.ref b365_0), .unset, .unset, .unset, .unset, .unset, .unset, .unset, .unset]) rfl ?_
      refine XS.aload X365.here hx rfl (hb hby at_371) rfl rfl ?_
      show Steps p.tables e below (T365.setTop (mkF m 373 #[.val (.int x0), .val (.int x1), .val (.int x2), .val (.int x3), .val (.int x4), .val (.int x5), .val (.int fm), .val (.int fo), .val (.int fc), .val (.int ft), .val (.int fi), .val (.int fg), .val (.int fn), .val (.ref b36), .val (.ref b38), .val (.ref b41), .val (.ref b45), .val (.ref b50), .val (.ref b56), .val (.ref b63), .val (.ref b71), .val cv, .val (.ref w78), .val (.ref w93), .val (.ref w109), .val (.ref w126), .val (.ref w144), .val (.ref b262), .val (.ref b278_0), .val (.ref b293), .val (.ref b311), .val (.ref b332_1), .val (.ref b334_0), .val (.ref b337_0), .val (.ref b341_0), .val (.ref b365_0), .unset, .unset, .unset, .unset, .unset, .unset, .unset, .unset] [(.ref b332_1)])) _
      refine st368.trans ?_
      show Steps p.tables e below (T368.setTop (mkF m 376 #[.val (.int x0), .val (.int x1), .val (.int x2), .val (.int x3), .val (.int x4), .val (.int x5), .val (.int fm), .val (.int fo), .val (.int fc), .val (.int ft), .val (.int fi), .val (.int fg), .val (.int fn), .val (.ref b36), .val (.ref b38), .val (.ref b41), .val (.ref b45), .val (.ref b50), .val (.ref b56), .val (.ref b63), .val (.ref b71), .val cv, .val (.ref w78), .val (.ref w93), .val (.ref w109), .val (.ref w126), .val (.ref w144), .val (.ref b262), .val (.ref b278_0), .val (.ref b293), .val (.ref b311), .val (.ref b332_1), .val (.ref b334_0), .val (.ref b337_0), .val (.ref b341_0), .val (.ref b365_0), .unset, .unset, .unset, .unset, .unset, .unset, .unset, .unset] [(.ref wE)])) _
      refine XS.astore X368.here hx rfl (hb hby at_376) rfl rfl (l' := #[.val (.int x0), .val (.int x1), .val (.int x2), .val (.int x3), .val (.int x4), .val (.int x5), .val (.int fm), .val (.int fo), .val (.int fc), .val (.int ft), .val (.int fi), .val (.int fg), .val (.int fn), .val (.ref b36), .val (.ref b38), .val (.ref b41), .val (.ref b45), .val (.ref b50), .val (.ref b56), .val (.ref b63), .val (.ref b71), .val cv, .val (.ref w78), .val (.ref w93), .val (.ref w109), .val (.ref w126), .val (.ref w144), .val (.ref b262), .val (.ref b278_0), .val (.ref b293), .val (.ref b311), .val (.ref b332_1), .val (.ref b334_0), .val (.ref b337_0), .val (.ref b341_0), .val (.ref b365_0), .val (.ref wE), .unset, .unset, .unset, .unset, .unset, .unset, .unset]) rfl ?_
      refine XS.aload X368.here hx rfl (hb hby at_378) rfl rfl ?_
      show Steps p.tables e below (T368.setTop (mkF m 380 #[.val (.int x0), .val (.int x1), .val (.int x2), .val (.int x3), .val (.int x4), .val (.int x5), .val (.int fm), .val (.int fo), .val (.int fc), .val (.int ft), .val (.int fi), .val (.int fg), .val (.int fn), .val (.ref b36), .val (.ref b38), .val (.ref b41), .val (.ref b45), .val (.ref b50), .val (.ref b56), .val (.ref b63), .val (.ref b71), .val cv, .val (.ref w78), .val (.ref w93), .val (.ref w109), .val (.ref w126), .val (.ref w144), .val (.ref b262), .val (.ref b278_0), .val (.ref b293), .val (.ref b311), .val (.ref b332_1), .val (.ref b334_0), .val (.ref b337_0), .val (.ref b341_0), .val (.ref b365_0), .val (.ref wE), .unset, .unset, .unset, .unset, .unset, .unset, .unset] [(.ref b332_1)])) _
      refine st371.trans ?_
      show Steps p.tables e below (T371.setTop (mkF m 383 #[.val (.int x0), .val (.int x1), .val (.int x2), .val (.int x3), .val (.int x4), .val (.int x5), .val (.int fm), .val (.int fo), .val (.int fc), .val (.int ft), .val (.int fi), .val (.int fg), .val (.int fn), .val (.ref b36), .val (.ref b38), .val (.ref b41), .val (.ref b45), .val (.ref b50), .val (.ref b56), .val (.ref b63), .val (.ref b71), .val cv, .val (.ref w78), .val (.ref w93), .val (.ref w109), .val (.ref w126), .val (.ref w144), .val (.ref b262), .val (.ref b278_0), .val (.ref b293), .val (.ref b311), .val (.ref b332_1), .val (.ref b334_0), .val (.ref b337_0), .val (.ref b341_0), .val (.ref b365_0), .val (.ref wE), .unset, .unset, .unset, .unset, .unset, .unset, .unset] [(.ref wE)])) _
      refine XS.astore X371.here hx rfl (hb hby at_383) rfl rfl (l' := #[.val (.int x0), .val (.int x1), .val (.int x2), .val (.int x3), .val (.int x4), .val (.int x5), .val (.int fm), .val (.int fo), .val (.int fc), .val (.int ft), .val (.int fi), .val (.int fg), .val (.int fn), .val (.ref b36), .val (.ref b38), .val (.ref b41), .val (.ref b45), .val (.ref b50), .val (.ref b56), .val (.ref b63), .val (.ref b71), .val cv, .val (.ref w78), .val (.ref w93), .val (.ref w109), .val (.ref w126), .val (.ref w144), .val (.ref b262), .val (.ref b278_0), .val (.ref b293), .val (.ref b311), .val (.ref b332_1), .val (.ref b334_0), .val (.ref b337_0), .val (.ref b341_0), .val (.ref b365_0), .val (.ref wE), .val (.ref wE), .unset, .unset, .unset, .unset, .unset, .unset]) rfl ?_
      refine XS.aload X371.here hx rfl (hb hby at_385) rfl rfl ?_
      refine XS.iload X371.here hx rfl (hb hby at_387) rfl ?_
      exact kt
    obtain ⟨np, hj373, k373⟩ : ∃ (np : Int32), ((fn = (0 : Int32) ∧ np = (1 : Int32)) ∨ (¬ fn = (0 : Int32) ∧ np = (0 : Int32))) ∧ ∀ t, Steps p.tables e below (T371.setTop (mkF m 397 #[.val (.int x0), .val (.int x1), .val (.int x2), .val (.int x3), .val (.int x4), .val (.int x5), .val (.int fm), .val (.int fo), .val (.int fc), .val (.int ft), .val (.int fi), .val (.int fg), .val (.int fn), .val (.ref b36), .val (.ref b38), .val (.ref b41), .val (.ref b45), .val (.ref b50), .val (.ref b56), .val (.ref b63), .val (.ref b71), .val cv, .val (.ref w78), .val (.ref w93), .val (.ref w109), .val (.ref w126), .val (.ref w144), .val (.ref b262), .val (.ref b278_0), .val (.ref b293), .val (.ref b311), .val (.ref b332_1), .val (.ref b334_0), .val (.ref b337_0), .val (.ref b341_0), .val (.ref b365_0), .val (.ref wE), .val (.ref wE), .unset, .unset, .unset, .unset, .unset, .unset] [(.int np), (.ref b334_0)])) t → Steps p.tables e below (s₁.setTop (entryFrame m #[(.int x0), (.int x1), (.int x2), (.int x3), (.int x4), (.int x5)] maxLocals)) t := by
      by_cases hc374 : fn = (0 : Int32)
      · skip
        have k375 : ∀ t, Steps p.tables e below (T371.setTop (mkF m 397 #[.val (.int x0), .val (.int x1), .val (.int x2), .val (.int x3), .val (.int x4), .val (.int x5), .val (.int fm), .val (.int fo), .val (.int fc), .val (.int ft), .val (.int fi), .val (.int fg), .val (.int fn), .val (.ref b36), .val (.ref b38), .val (.ref b41), .val (.ref b45), .val (.ref b50), .val (.ref b56), .val (.ref b63), .val (.ref b71), .val cv, .val (.ref w78), .val (.ref w93), .val (.ref w109), .val (.ref w126), .val (.ref w144), .val (.ref b262), .val (.ref b278_0), .val (.ref b293), .val (.ref b311), .val (.ref b332_1), .val (.ref b334_0), .val (.ref b337_0), .val (.ref b341_0), .val (.ref b365_0), .val (.ref wE), .val (.ref wE), .unset, .unset, .unset, .unset, .unset, .unset] [(.int (1 : Int32)), (.ref b334_0)])) t → Steps p.tables e below (s₁.setTop (entryFrame m #[(.int x0), (.int x1), (.int x2), (.int x3), (.int x4), (.int x5)] maxLocals)) t := by
          intro t kt
          refine k372 t ?_
          show Steps p.tables e below (T371.setTop (mkF m 389 #[.val (.int x0), .val (.int x1), .val (.int x2), .val (.int x3), .val (.int x4), .val (.int x5), .val (.int fm), .val (.int fo), .val (.int fc), .val (.int ft), .val (.int fi), .val (.int fg), .val (.int fn), .val (.ref b36), .val (.ref b38), .val (.ref b41), .val (.ref b45), .val (.ref b50), .val (.ref b56), .val (.ref b63), .val (.ref b71), .val cv, .val (.ref w78), .val (.ref w93), .val (.ref w109), .val (.ref w126), .val (.ref w144), .val (.ref b262), .val (.ref b278_0), .val (.ref b293), .val (.ref b311), .val (.ref b332_1), .val (.ref b334_0), .val (.ref b337_0), .val (.ref b341_0), .val (.ref b365_0), .val (.ref wE), .val (.ref wE), .unset, .unset, .unset, .unset, .unset, .unset] [(.int fn), (.ref b334_0)])) _
          refine XS.ifNo X371.here hx rfl (hb hby at_389) rfl ((if0 _ _).trans (teq hc374).2) ?_
          refine XS.iconst X371.here hx rfl (hb hby at_392) ?_
          refine XS.goto X371.here hx rfl (pc0 := 393) (pc' := 397) rfl (hb hby at_393) (by decide) (by decide) ?_
          exact kt
        exact ⟨(1 : Int32), (Or.inl ⟨hc374, rfl⟩), k375⟩
      · skip
        have k376 : ∀ t, Steps p.tables e below (T371.setTop (mkF m 397 #[.val (.int x0), .val (.int x1), .val (.int x2), .val (.int x3), .val (.int x4), .val (.int x5), .val (.int fm), .val (.int fo), .val (.int fc), .val (.int ft), .val (.int fi), .val (.int fg), .val (.int fn), .val (.ref b36), .val (.ref b38), .val (.ref b41), .val (.ref b45), .val (.ref b50), .val (.ref b56), .val (.ref b63), .val (.ref b71), .val cv, .val (.ref w78), .val (.ref w93), .val (.ref w109), .val (.ref w126), .val (.ref w144), .val (.ref b262), .val (.ref b278_0), .val (.ref b293), .val (.ref b311), .val (.ref b332_1), .val (.ref b334_0), .val (.ref b337_0), .val (.ref b341_0), .val (.ref b365_0), .val (.ref wE), .val (.ref wE), .unset, .unset, .unset, .unset, .unset, .unset] [(.int (0 : Int32)), (.ref b334_0)])) t → Steps p.tables e below (s₁.setTop (entryFrame m #[(.int x0), (.int x1), (.int x2), (.int x3), (.int x4), (.int x5)] maxLocals)) t := by
          intro t kt
          refine k372 t ?_
          show Steps p.tables e below (T371.setTop (mkF m 389 #[.val (.int x0), .val (.int x1), .val (.int x2), .val (.int x3), .val (.int x4), .val (.int x5), .val (.int fm), .val (.int fo), .val (.int fc), .val (.int ft), .val (.int fi), .val (.int fg), .val (.int fn), .val (.ref b36), .val (.ref b38), .val (.ref b41), .val (.ref b45), .val (.ref b50), .val (.ref b56), .val (.ref b63), .val (.ref b71), .val cv, .val (.ref w78), .val (.ref w93), .val (.ref w109), .val (.ref w126), .val (.ref w144), .val (.ref b262), .val (.ref b278_0), .val (.ref b293), .val (.ref b311), .val (.ref b332_1), .val (.ref b334_0), .val (.ref b337_0), .val (.ref b341_0), .val (.ref b365_0), .val (.ref wE), .val (.ref wE), .unset, .unset, .unset, .unset, .unset, .unset] [(.int fn), (.ref b334_0)])) _
          refine XS.ifYes X371.here hx rfl (pc0 := 389) (pc' := 396) rfl (hb hby at_389) rfl ((if0 _ _).trans (feq hc374).2) (by decide) (by decide) ?_
          refine XS.iconst X371.here hx rfl (hb hby at_396) ?_
          exact kt
        exact ⟨(0 : Int32), (Or.inr ⟨hc374, rfl⟩), k376⟩
    have f377 := (f363.keep Kq365)
    have f378 := (((g334_1.keep Kq337 nin0).keep Kq341 nin0).keep Kq365 nin0)
    have f379 := (f344.keep Kq365)
    have hsn : (np = (0 : Int32) ∧ cv = .null) ∨ (np = (1 : Int32) ∧ cv = .ref b36) := by
      rcases hj373 with ⟨p, q⟩ | ⟨p, q⟩
      · rcases hj73 with ⟨_, q2⟩ | ⟨_, q2⟩ | ⟨q3, _⟩
        · exact q2.elim
        · exact Or.inr ⟨q, q2⟩
        · exact absurd p q3
      · rcases hj73 with ⟨_, q2⟩ | ⟨q3, _⟩ | ⟨_, q2⟩
        · exact q2.elim
        · exact absurd q3 p
        · exact Or.inl ⟨q, q2⟩
    obtain ⟨_, _, ⟨T380, L380, kc380, ks380⟩, -, X380, ⟨Lc380, hQ380, l380, y380, z380⟩, st380⟩ := Jvm.LawKit.callS X371 hx (y := mn15) hown264 (mvT hZ264 (wd210 hw)) (mvT hZ264 (wd211 hw)) (mvT hZ264 (wd2 hw)) (mvT hZ264 (wd212 hw)) (by decide) (backOf (W := 0) (rmSam l Z a0 hw [] b334_0 np b36 cv T365.heap n0 Z365 f377 f378 f379 hsn) hZ264 (wd212 hw) (wd2 hw) (by decide) (by decide)) (g := (mkF m 399 #[.val (.int x0), .val (.int x1), .val (.int x2), .val (.int x3), .val (.int x4), .val (.int x5), .val (.int fm), .val (.int fo), .val (.int fc), .val (.int ft), .val (.int fi), .val (.int fg), .val (.int fn), .val (.ref b36), .val (.ref b38), .val (.ref b41), .val (.ref b45), .val (.ref b50), .val (.ref b56), .val (.ref b63), .val (.ref b71), .val cv, .val (.ref w78), .val (.ref w93), .val (.ref w109), .val (.ref w126), .val (.ref w144), .val (.ref b262), .val (.ref b278_0), .val (.ref b293), .val (.ref b311), .val (.ref b332_1), .val (.ref b334_0), .val (.ref b337_0), .val (.ref b341_0), .val (.ref b365_0), .val (.ref wE), .val (.ref wE), .unset, .unset, .unset, .unset, .unset, .unset] [(.ref b36), (.int np), (.ref b334_0)])) rfl (by rw [hml]; rfl) (argsL := [(.ref b334_0), (.int np), (.ref b36)]) (rest := []) (lenOf pd__Ljava_util_Optional_ZLjava_lang_String__Z rfl) rfl (by show 2 * 0 + _ ≤ _; exact Nat.le_of_eq rfl) (hb hby at_399) (fun _ _ => ⟨rfl, eq371, (by decide : 49 + 0 ≤ _), (by decide : 184 + 0 ≤ _)⟩)
    dsimp only [Pt.U, Pt.locs, Pt.cells, Pt.slots] at X380 l380 y380 z380 st380 hQ380
    subst l380 y380 z380
    obtain ⟨rfl, Nq380, eq380⟩ := hQ380
    have N380 := Fr.app N371 Nq380
    have f381 := (f364.keep Kq365)
    have f382 := ((g337_1.keep Kq341 nin0).keep Kq365 nin0)
    have f383 := (f345.keep Kq365)
    obtain ⟨_, _, ⟨T384, L384, kc384, ks384⟩, -, X384, ⟨Lc384, hQ384, l384, y384, z384⟩, st384⟩ := Jvm.LawKit.callS X380 hx (y := mn15) hown264 (mvT hZ264 (wd210 hw)) (mvT hZ264 (wd211 hw)) (mvT hZ264 (wd2 hw)) (mvT hZ264 (wd212 hw)) (by decide) (backOf (W := 0) (rmSam l Z a0 hw [] b337_0 fm b38 vv78 T365.heap n0 Z365 f381 f382 f383 hv78) hZ264 (wd212 hw) (wd2 hw) (by decide) (by decide)) (g := (mkF m 410 #[.val (.int x0), .val (.int x1), .val (.int x2), .val (.int x3), .val (.int x4), .val (.int x5), .val (.int fm), .val (.int fo), .val (.int fc), .val (.int ft), .val (.int fi), .val (.int fg), .val (.int fn), .val (.ref b36), .val (.ref b38), .val (.ref b41), .val (.ref b45), .val (.ref b50), .val (.ref b56), .val (.ref b63), .val (.ref b71), .val cv, .val (.ref w78), .val (.ref w93), .val (.ref w109), .val (.ref w126), .val (.ref w144), .val (.ref b262), .val (.ref b278_0), .val (.ref b293), .val (.ref b311), .val (.ref b332_1), .val (.ref b334_0), .val (.ref b337_0), .val (.ref b341_0), .val (.ref b365_0), .val (.ref wE), .val (.ref wE), .val (.int (1 : Int32)), .unset, .unset, .unset, .unset, .unset] [(.ref b38), (.int fm), (.ref b337_0)])) rfl (by rw [hml]; rfl) (argsL := [(.ref b337_0), (.int fm), (.ref b38)]) (rest := []) (lenOf pd__Ljava_util_Optional_ZLjava_lang_String__Z rfl) rfl (by show 2 * 0 + _ ≤ _; exact Nat.le_of_eq rfl) (hb hby at_410) (fun _ _ => ⟨rfl, eq380, (by decide : 49 + 0 ≤ _), (by decide : 184 + 0 ≤ _)⟩)
    dsimp only [Pt.U, Pt.locs, Pt.cells, Pt.slots] at X384 l384 y384 z384 st384 hQ384
    subst l384 y384 z384
    obtain ⟨rfl, Nq384, eq384⟩ := hQ384
    have N384 := Fr.app N380 Nq384
    have f385 := (g341_0.keep Kq365)
    have f386 := (g341_1.keep Kq365 nin0)
    have f387 := (f349.keep Kq365)
    obtain ⟨_, _, ⟨T388, L388, kc388, ks388⟩, -, X388, ⟨Lc388, hQ388, l388, y388, z388⟩, st388⟩ := Jvm.LawKit.callS X384 hx (y := mn15) hown264 (mvT hZ264 (wd210 hw)) (mvT hZ264 (wd211 hw)) (mvT hZ264 (wd2 hw)) (mvT hZ264 (wd212 hw)) (by decide) (backOf (W := 0) (rmSam l Z a0 hw [] b341_0 fi b56 vv144 T365.heap n0 Z365 f385 f386 f387 hv144) hZ264 (wd212 hw) (wd2 hw) (by decide) (by decide)) (g := (mkF m 421 #[.val (.int x0), .val (.int x1), .val (.int x2), .val (.int x3), .val (.int x4), .val (.int x5), .val (.int fm), .val (.int fo), .val (.int fc), .val (.int ft), .val (.int fi), .val (.int fg), .val (.int fn), .val (.ref b36), .val (.ref b38), .val (.ref b41), .val (.ref b45), .val (.ref b50), .val (.ref b56), .val (.ref b63), .val (.ref b71), .val cv, .val (.ref w78), .val (.ref w93), .val (.ref w109), .val (.ref w126), .val (.ref w144), .val (.ref b262), .val (.ref b278_0), .val (.ref b293), .val (.ref b311), .val (.ref b332_1), .val (.ref b334_0), .val (.ref b337_0), .val (.ref b341_0), .val (.ref b365_0), .val (.ref wE), .val (.ref wE), .val (.int (1 : Int32)), .val (.int (1 : Int32)), .unset, .unset, .unset, .unset] [(.ref b56), (.int fi), (.ref b341_0)])) rfl (by rw [hml]; rfl) (argsL := [(.ref b341_0), (.int fi), (.ref b56)]) (rest := []) (lenOf pd__Ljava_util_Optional_ZLjava_lang_String__Z rfl) rfl (by show 2 * 0 + _ ≤ _; exact Nat.le_of_eq rfl) (hb hby at_421) (fun _ _ => ⟨rfl, eq384, (by decide : 49 + 0 ≤ _), (by decide : 184 + 0 ≤ _)⟩)
    dsimp only [Pt.U, Pt.locs, Pt.cells, Pt.slots] at X388 l388 y388 z388 st388 hQ388
    subst l388 y388 z388
    obtain ⟨rfl, Nq388, eq388⟩ := hQ388
    have N388 := Fr.app N384 Nq388
    obtain ⟨cq389, kq389, q389a, q389b, q389c⟩ := isOf hZ264 eq388 g365_0
    obtain ⟨_, _, ⟨T389, L389, kc389, ks389⟩, -, X389, ⟨Lc389, hQ389, l389, y389, z389⟩, st389⟩ := X388.virtualBack hx (y := mn29) (z := mn29) hown264 (mvT hZ264 (wd213 hw)) (mvT hZ264 (wd214 hw)) (notFace_of_selects (args := #[]) (mvT hZ264 (wd216 hw))) (mvT hZ264 (wd216 hw)) (mvT hZ264 (wd215 hw)) (by decide) (backOf (W := 0) (rmA3 l Z a0 hw [] b365_0 b262 T365.heap n0 Z365 g365_1) hZ264 (wd217 hw) (wd36 hw) (by decide) (by decide)) q389a q389c (g := (mkF m 433 #[.val (.int x0), .val (.int x1), .val (.int x2), .val (.int x3), .val (.int x4), .val (.int x5), .val (.int fm), .val (.int fo), .val (.int fc), .val (.int ft), .val (.int fi), .val (.int fg), .val (.int fn), .val (.ref b36), .val (.ref b38), .val (.ref b41), .val (.ref b45), .val (.ref b50), .val (.ref b56), .val (.ref b63), .val (.ref b71), .val cv, .val (.ref w78), .val (.ref w93), .val (.ref w109), .val (.ref w126), .val (.ref w144), .val (.ref b262), .val (.ref b278_0), .val (.ref b293), .val (.ref b311), .val (.ref b332_1), .val (.ref b334_0), .val (.ref b337_0), .val (.ref b341_0), .val (.ref b365_0), .val (.ref wE), .val (.ref wE), .val (.int (1 : Int32)), .val (.int (1 : Int32)), .val (.int (1 : Int32)), .unset, .unset, .unset] [(.ref b365_0)])) rfl (by rw [hml]; rfl) (Steps.refl _) (argsL := []) (rest := []) (lenOf pd___Z rfl) rfl (by show 2 * 0 + _ ≤ _; exact Nat.le_of_eq rfl) (hb hby at_433) (fun _ _ => ⟨rfl, eq388, (by decide : 49 + 0 ≤ _), (by decide : 184 + 0 ≤ _)⟩)
    dsimp only [Pt.U, Pt.locs, Pt.cells, Pt.slots] at X389 l389 y389 z389 st389 hQ389
    subst l389 y389 z389
    obtain ⟨rfl, Nq389, eq389⟩ := hQ389
    have N389 := Fr.app N388 Nq389
    obtain ⟨cq390, kq390, q390a, q390b, q390c⟩ := isOf hZ264 eq389 g365_0
    obtain ⟨_, _, ⟨T390, L390, kc390, ks390⟩, -, X390, ⟨Lc390, hQ390, l390, y390, z390⟩, st390⟩ := X389.virtualBack hx (y := mn28) (z := mn28) hown264 (mvT hZ264 (wd218 hw)) (mvT hZ264 (wd219 hw)) (notFace_of_selects (args := #[]) (mvT hZ264 (wd221 hw))) (mvT hZ264 (wd221 hw)) (mvT hZ264 (wd220 hw)) (by decide) (backOf (W := 0) (rmA4 l Z a0 hw [] b365_0 b262 T365.heap n0 Z365 g365_1) hZ264 (wd222 hw) (wd36 hw) (by decide) (by decide)) q390a q390c (g := (mkF m 441 #[.val (.int x0), .val (.int x1), .val (.int x2), .val (.int x3), .val (.int x4), .val (.int x5), .val (.int fm), .val (.int fo), .val (.int fc), .val (.int ft), .val (.int fi), .val (.int fg), .val (.int fn), .val (.ref b36), .val (.ref b38), .val (.ref b41), .val (.ref b45), .val (.ref b50), .val (.ref b56), .val (.ref b63), .val (.ref b71), .val cv, .val (.ref w78), .val (.ref w93), .val (.ref w109), .val (.ref w126), .val (.ref w144), .val (.ref b262), .val (.ref b278_0), .val (.ref b293), .val (.ref b311), .val (.ref b332_1), .val (.ref b334_0), .val (.ref b337_0), .val (.ref b341_0), .val (.ref b365_0), .val (.ref wE), .val (.ref wE), .val (.int (1 : Int32)), .val (.int (1 : Int32)), .val (.int (1 : Int32)), .unset, .unset, .unset] [(.ref b365_0)])) rfl (by rw [hml]; rfl) (Steps.refl _) (argsL := []) (rest := []) (lenOf pd___Ljava_lang_Object_ rfl) rfl (by show 2 * 0 + _ ≤ _; exact Nat.le_of_eq rfl) (hb hby at_441) (fun _ _ => ⟨rfl, eq389, (by decide : 49 + 0 ≤ _), (by decide : 184 + 0 ≤ _)⟩)
    dsimp only [Pt.U, Pt.locs, Pt.cells, Pt.slots] at X390 l390 y390 z390 st390 hQ390
    subst l390 y390 z390
    obtain ⟨rfl, Nq390, eq390⟩ := hQ390
    have N390 := Fr.app N389 Nq390
    obtain ⟨cq391, kq391, q391a, q391b, q391c⟩ := isOf hZ264 eq390 (E_w.ext f367.2)
    obtain ⟨_, _, ⟨T391, L391, kc391, ks391⟩, -, X391, ⟨Lc391, hQ391, l391, y391, z391⟩, st391⟩ := X390.virtualBack hx (y := mn29) (z := mn29) hown264 (mvT hZ264 (wd213 hw)) (mvT hZ264 (wd214 hw)) (notFace_of_selects (args := #[]) (mvT hZ264 (wd216 hw))) (mvT hZ264 (wd216 hw)) (mvT hZ264 (wd215 hw)) (by decide) (backOf (W := 0) (rmA2 l Z a0 hw [] wE T365.heap n0 Z365 (F_w.ext f367.2)) hZ264 (wd217 hw) (wd36 hw) (by decide) (by decide)) q391a q391c (g := (mkF m 476 #[.val (.int x0), .val (.int x1), .val (.int x2), .val (.int x3), .val (.int x4), .val (.int x5), .val (.int fm), .val (.int fo), .val (.int fc), .val (.int ft), .val (.int fi), .val (.int fg), .val (.int fn), .val (.ref b36), .val (.ref b38), .val (.ref b41), .val (.ref b45), .val (.ref b50), .val (.ref b56), .val (.ref b63), .val (.ref b71), .val cv, .val (.ref w78), .val (.ref w93), .val (.ref w109), .val (.ref w126), .val (.ref w144), .val (.ref b262), .val (.ref b278_0), .val (.ref b293), .val (.ref b311), .val (.ref b332_1), .val (.ref b334_0), .val (.ref b337_0), .val (.ref b341_0), .val (.ref b365_0), .val (.ref wE), .val (.ref wE), .val (.int (1 : Int32)), .val (.int (1 : Int32)), .val (.int (1 : Int32)), .val (.int (1 : Int32)), .unset, .unset] [(.ref wE)])) rfl (by rw [hml]; rfl) (Steps.refl _) (argsL := []) (rest := []) (lenOf pd___Z rfl) rfl (by show 2 * 0 + _ ≤ _; exact Nat.le_of_eq rfl) (hb hby at_476) (fun _ _ => ⟨rfl, eq390, (by decide : 49 + 0 ≤ _), (by decide : 184 + 0 ≤ _)⟩)
    dsimp only [Pt.U, Pt.locs, Pt.cells, Pt.slots] at X391 l391 y391 z391 st391 hQ391
    subst l391 y391 z391
    obtain ⟨rfl, Nq391, eq391⟩ := hQ391
    have N391 := Fr.app N390 Nq391
    obtain ⟨cq392, kq392, q392a, q392b, q392c⟩ := isOf hZ264 eq391 (E_w.ext f367.2)
    obtain ⟨_, _, ⟨T392, L392, kc392, ks392⟩, -, X392, ⟨Lc392, hQ392, l392, y392, z392⟩, st392⟩ := X391.virtualBack hx (y := mn29) (z := mn29) hown264 (mvT hZ264 (wd213 hw)) (mvT hZ264 (wd214 hw)) (notFace_of_selects (args := #[]) (mvT hZ264 (wd216 hw))) (mvT hZ264 (wd216 hw)) (mvT hZ264 (wd215 hw)) (by decide) (backOf (W := 0) (rmA2 l Z a0 hw [] wE T365.heap n0 Z365 (F_w.ext f367.2)) hZ264 (wd217 hw) (wd36 hw) (by decide) (by decide)) q392a q392c (g := (mkF m 491 #[.val (.int x0), .val (.int x1), .val (.int x2), .val (.int x3), .val (.int x4), .val (.int x5), .val (.int fm), .val (.int fo), .val (.int fc), .val (.int ft), .val (.int fi), .val (.int fg), .val (.int fn), .val (.ref b36), .val (.ref b38), .val (.ref b41), .val (.ref b45), .val (.ref b50), .val (.ref b56), .val (.ref b63), .val (.ref b71), .val cv, .val (.ref w78), .val (.ref w93), .val (.ref w109), .val (.ref w126), .val (.ref w144), .val (.ref b262), .val (.ref b278_0), .val (.ref b293), .val (.ref b311), .val (.ref b332_1), .val (.ref b334_0), .val (.ref b337_0), .val (.ref b341_0), .val (.ref b365_0), .val (.ref wE), .val (.ref wE), .val (.int (1 : Int32)), .val (.int (1 : Int32)), .val (.int (1 : Int32)), .val (.int (1 : Int32)), .val (.int (1 : Int32)), .unset] [(.ref wE)])) rfl (by rw [hml]; rfl) (Steps.refl _) (argsL := []) (rest := []) (lenOf pd___Z rfl) rfl (by show 2 * 0 + _ ≤ _; exact Nat.le_of_eq rfl) (hb hby at_491) (fun _ _ => ⟨rfl, eq391, (by decide : 49 + 0 ≤ _), (by decide : 184 + 0 ≤ _)⟩)
    dsimp only [Pt.U, Pt.locs, Pt.cells, Pt.slots] at X392 l392 y392 z392 st392 hQ392
    subst l392 y392 z392
    obtain ⟨rfl, Nq392, eq392⟩ := hQ392
    have N392 := Fr.app N391 Nq392
    obtain ⟨lfs, lhr, lhrun, lhended, lhE⟩ := X392.leaveW hS264 (by rw [eq392]; exact hk365) (v := some (.int (1 : Int32))) (fun h => by rw [Bd.returns] at h; cases h)
    refine ⟨_, _, k373 _ ?_, lhrun, lhended, _, _, rfl, ?_, ?_, lhE.1, lhE.2.1, lhE.2.2.1, lhE.2.2.2.mono (by decide) (by decide)⟩
    · skip
      show Steps p.tables e below (T371.setTop (mkF m 397 #[.val (.int x0), .val (.int x1), .val (.int x2), .val (.int x3), .val (.int x4), .val (.int x5), .val (.int fm), .val (.int fo), .val (.int fc), .val (.int ft), .val (.int fi), .val (.int fg), .val (.int fn), .val (.ref b36), .val (.ref b38), .val (.ref b41), .val (.ref b45), .val (.ref b50), .val (.ref b56), .val (.ref b63), .val (.ref b71), .val cv, .val (.ref w78), .val (.ref w93), .val (.ref w109), .val (.ref w126), .val (.ref w144), .val (.ref b262), .val (.ref b278_0), .val (.ref b293), .val (.ref b311), .val (.ref b332_1), .val (.ref b334_0), .val (.ref b337_0), .val (.ref b341_0), .val (.ref b365_0), .val (.ref wE), .val (.ref wE), .unset, .unset, .unset, .unset, .unset, .unset] [(.int np), (.ref b334_0)])) _
      refine XS.aload X371.here hx rfl (hb hby at_397) rfl rfl ?_
      show Steps p.tables e below (T371.setTop (mkF m 399 #[.val (.int x0), .val (.int x1), .val (.int x2), .val (.int x3), .val (.int x4), .val (.int x5), .val (.int fm), .val (.int fo), .val (.int fc), .val (.int ft), .val (.int fi), .val (.int fg), .val (.int fn), .val (.ref b36), .val (.ref b38), .val (.ref b41), .val (.ref b45), .val (.ref b50), .val (.ref b56), .val (.ref b63), .val (.ref b71), .val cv, .val (.ref w78), .val (.ref w93), .val (.ref w109), .val (.ref w126), .val (.ref w144), .val (.ref b262), .val (.ref b278_0), .val (.ref b293), .val (.ref b311), .val (.ref b332_1), .val (.ref b334_0), .val (.ref b337_0), .val (.ref b341_0), .val (.ref b365_0), .val (.ref wE), .val (.ref wE), .unset, .unset, .unset, .unset, .unset, .unset] [(.ref b36), (.int np), (.ref b334_0)])) _
      refine st380 _ ?_
      show Steps p.tables e below (T380.setTop (mkF m 402 #[.val (.int x0), .val (.int x1), .val (.int x2), .val (.int x3), .val (.int x4), .val (.int x5), .val (.int fm), .val (.int fo), .val (.int fc), .val (.int ft), .val (.int fi), .val (.int fg), .val (.int fn), .val (.ref b36), .val (.ref b38), .val (.ref b41), .val (.ref b45), .val (.ref b50), .val (.ref b56), .val (.ref b63), .val (.ref b71), .val cv, .val (.ref w78), .val (.ref w93), .val (.ref w109), .val (.ref w126), .val (.ref w144), .val (.ref b262), .val (.ref b278_0), .val (.ref b293), .val (.ref b311), .val (.ref b332_1), .val (.ref b334_0), .val (.ref b337_0), .val (.ref b341_0), .val (.ref b365_0), .val (.ref wE), .val (.ref wE), .unset, .unset, .unset, .unset, .unset, .unset] [(.int (1 : Int32))])) _
      refine XS.istore X380.here hx rfl (hb hby at_402) rfl (l' := #[.val (.int x0), .val (.int x1), .val (.int x2), .val (.int x3), .val (.int x4), .val (.int x5), .val (.int fm), .val (.int fo), .val (.int fc), .val (.int ft), .val (.int fi), .val (.int fg), .val (.int fn), .val (.ref b36), .val (.ref b38), .val (.ref b41), .val (.ref b45), .val (.ref b50), .val (.ref b56), .val (.ref b63), .val (.ref b71), .val cv, .val (.ref w78), .val (.ref w93), .val (.ref w109), .val (.ref w126), .val (.ref w144), .val (.ref b262), .val (.ref b278_0), .val (.ref b293), .val (.ref b311), .val (.ref b332_1), .val (.ref b334_0), .val (.ref b337_0), .val (.ref b341_0), .val (.ref b365_0), .val (.ref wE), .val (.ref wE), .val (.int (1 : Int32)), .unset, .unset, .unset, .unset, .unset]) rfl ?_
      show Steps p.tables e below (T380.setTop (mkF m 404 #[.val (.int x0), .val (.int x1), .val (.int x2), .val (.int x3), .val (.int x4), .val (.int x5), .val (.int fm), .val (.int fo), .val (.int fc), .val (.int ft), .val (.int fi), .val (.int fg), .val (.int fn), .val (.ref b36), .val (.ref b38), .val (.ref b41), .val (.ref b45), .val (.ref b50), .val (.ref b56), .val (.ref b63), .val (.ref b71), .val cv, .val (.ref w78), .val (.ref w93), .val (.ref w109), .val (.ref w126), .val (.ref w144), .val (.ref b262), .val (.ref b278_0), .val (.ref b293), .val (.ref b311), .val (.ref b332_1), .val (.ref b334_0), .val (.ref b337_0), .val (.ref b341_0), .val (.ref b365_0), .val (.ref wE), .val (.ref wE), .val (.int (1 : Int32)), .unset, .unset, .unset, .unset, .unset] [])) _
      refine XS.aload X380.here hx rfl (hb hby at_404) rfl rfl ?_
      refine XS.iload X380.here hx rfl (hb hby at_406) rfl ?_
      refine XS.aload X380.here hx rfl (hb hby at_408) rfl rfl ?_
      show Steps p.tables e below (T380.setTop (mkF m 410 #[.val (.int x0), .val (.int x1), .val (.int x2), .val (.int x3), .val (.int x4), .val (.int x5), .val (.int fm), .val (.int fo), .val (.int fc), .val (.int ft), .val (.int fi), .val (.int fg), .val (.int fn), .val (.ref b36), .val (.ref b38), .val (.ref b41), .val (.ref b45), .val (.ref b50), .val (.ref b56), .val (.ref b63), .val (.ref b71), .val cv, .val (.ref w78), .val (.ref w93), .val (.ref w109), .val (.ref w126), .val (.ref w144), .val (.ref b262), .val (.ref b278_0), .val (.ref b293), .val (.ref b311), .val (.ref b332_1), .val (.ref b334_0), .val (.ref b337_0), .val (.ref b341_0), .val (.ref b365_0), .val (.ref wE), .val (.ref wE), .val (.int (1 : Int32)), .unset, .unset, .unset, .unset, .unset] [(.ref b38), (.int fm), (.ref b337_0)])) _
      refine st384 _ ?_
      show Steps p.tables e below (T384.setTop (mkF m 413 #[.val (.int x0), .val (.int x1), .val (.int x2), .val (.int x3), .val (.int x4), .val (.int x5), .val (.int fm), .val (.int fo), .val (.int fc), .val (.int ft), .val (.int fi), .val (.int fg), .val (.int fn), .val (.ref b36), .val (.ref b38), .val (.ref b41), .val (.ref b45), .val (.ref b50), .val (.ref b56), .val (.ref b63), .val (.ref b71), .val cv, .val (.ref w78), .val (.ref w93), .val (.ref w109), .val (.ref w126), .val (.ref w144), .val (.ref b262), .val (.ref b278_0), .val (.ref b293), .val (.ref b311), .val (.ref b332_1), .val (.ref b334_0), .val (.ref b337_0), .val (.ref b341_0), .val (.ref b365_0), .val (.ref wE), .val (.ref wE), .val (.int (1 : Int32)), .unset, .unset, .unset, .unset, .unset] [(.int (1 : Int32))])) _
      refine XS.istore X384.here hx rfl (hb hby at_413) rfl (l' := #[.val (.int x0), .val (.int x1), .val (.int x2), .val (.int x3), .val (.int x4), .val (.int x5), .val (.int fm), .val (.int fo), .val (.int fc), .val (.int ft), .val (.int fi), .val (.int fg), .val (.int fn), .val (.ref b36), .val (.ref b38), .val (.ref b41), .val (.ref b45), .val (.ref b50), .val (.ref b56), .val (.ref b63), .val (.ref b71), .val cv, .val (.ref w78), .val (.ref w93), .val (.ref w109), .val (.ref w126), .val (.ref w144), .val (.ref b262), .val (.ref b278_0), .val (.ref b293), .val (.ref b311), .val (.ref b332_1), .val (.ref b334_0), .val (.ref b337_0), .val (.ref b341_0), .val (.ref b365_0), .val (.ref wE), .val (.ref wE), .val (.int (1 : Int32)), .val (.int (1 : Int32)), .unset, .unset, .unset, .unset]) rfl ?_
      refine XS.aload X384.here hx rfl (hb hby at_415) rfl rfl ?_
      refine XS.iload X384.here hx rfl (hb hby at_417) rfl ?_
      refine XS.aload X384.here hx rfl (hb hby at_419) rfl rfl ?_
      show Steps p.tables e below (T384.setTop (mkF m 421 #[.val (.int x0), .val (.int x1), .val (.int x2), .val (.int x3), .val (.int x4), .val (.int x5), .val (.int fm), .val (.int fo), .val (.int fc), .val (.int ft), .val (.int fi), .val (.int fg), .val (.int fn), .val (.ref b36), .val (.ref b38), .val (.ref b41), .val (.ref b45), .val (.ref b50), .val (.ref b56), .val (.ref b63), .val (.ref b71), .val cv, .val (.ref w78), .val (.ref w93), .val (.ref w109), .val (.ref w126), .val (.ref w144), .val (.ref b262), .val (.ref b278_0), .val (.ref b293), .val (.ref b311), .val (.ref b332_1), .val (.ref b334_0), .val (.ref b337_0), .val (.ref b341_0), .val (.ref b365_0), .val (.ref wE), .val (.ref wE), .val (.int (1 : Int32)), .val (.int (1 : Int32)), .unset, .unset, .unset, .unset] [(.ref b56), (.int fi), (.ref b341_0)])) _
      refine st388 _ ?_
      show Steps p.tables e below (T388.setTop (mkF m 424 #[.val (.int x0), .val (.int x1), .val (.int x2), .val (.int x3), .val (.int x4), .val (.int x5), .val (.int fm), .val (.int fo), .val (.int fc), .val (.int ft), .val (.int fi), .val (.int fg), .val (.int fn), .val (.ref b36), .val (.ref b38), .val (.ref b41), .val (.ref b45), .val (.ref b50), .val (.ref b56), .val (.ref b63), .val (.ref b71), .val cv, .val (.ref w78), .val (.ref w93), .val (.ref w109), .val (.ref w126), .val (.ref w144), .val (.ref b262), .val (.ref b278_0), .val (.ref b293), .val (.ref b311), .val (.ref b332_1), .val (.ref b334_0), .val (.ref b337_0), .val (.ref b341_0), .val (.ref b365_0), .val (.ref wE), .val (.ref wE), .val (.int (1 : Int32)), .val (.int (1 : Int32)), .unset, .unset, .unset, .unset] [(.int (1 : Int32))])) _
      refine XS.istore X388.here hx rfl (hb hby at_424) rfl (l' := #[.val (.int x0), .val (.int x1), .val (.int x2), .val (.int x3), .val (.int x4), .val (.int x5), .val (.int fm), .val (.int fo), .val (.int fc), .val (.int ft), .val (.int fi), .val (.int fg), .val (.int fn), .val (.ref b36), .val (.ref b38), .val (.ref b41), .val (.ref b45), .val (.ref b50), .val (.ref b56), .val (.ref b63), .val (.ref b71), .val cv, .val (.ref w78), .val (.ref w93), .val (.ref w109), .val (.ref w126), .val (.ref w144), .val (.ref b262), .val (.ref b278_0), .val (.ref b293), .val (.ref b311), .val (.ref b332_1), .val (.ref b334_0), .val (.ref b337_0), .val (.ref b341_0), .val (.ref b365_0), .val (.ref wE), .val (.ref wE), .val (.int (1 : Int32)), .val (.int (1 : Int32)), .val (.int (1 : Int32)), .unset, .unset, .unset]) rfl ?_
      refine XS.iload X388.here hx rfl (hb hby at_426) rfl ?_
      refine XS.ifNo X388.here hx rfl (hb hby at_428) rfl ((if0 _ _).trans (feq hc163).1) ?_
      show Steps p.tables e below (T388.setTop (mkF m 431 #[.val (.int x0), .val (.int x1), .val (.int x2), .val (.int x3), .val (.int x4), .val (.int x5), .val (.int fm), .val (.int fo), .val (.int fc), .val (.int ft), .val (.int fi), .val (.int fg), .val (.int fn), .val (.ref b36), .val (.ref b38), .val (.ref b41), .val (.ref b45), .val (.ref b50), .val (.ref b56), .val (.ref b63), .val (.ref b71), .val cv, .val (.ref w78), .val (.ref w93), .val (.ref w109), .val (.ref w126), .val (.ref w144), .val (.ref b262), .val (.ref b278_0), .val (.ref b293), .val (.ref b311), .val (.ref b332_1), .val (.ref b334_0), .val (.ref b337_0), .val (.ref b341_0), .val (.ref b365_0), .val (.ref wE), .val (.ref wE), .val (.int (1 : Int32)), .val (.int (1 : Int32)), .val (.int (1 : Int32)), .unset, .unset, .unset] [])) _
      refine XS.aload X388.here hx rfl (hb hby at_431) rfl rfl ?_
      show Steps p.tables e below (T388.setTop (mkF m 433 #[.val (.int x0), .val (.int x1), .val (.int x2), .val (.int x3), .val (.int x4), .val (.int x5), .val (.int fm), .val (.int fo), .val (.int fc), .val (.int ft), .val (.int fi), .val (.int fg), .val (.int fn), .val (.ref b36), .val (.ref b38), .val (.ref b41), .val (.ref b45), .val (.ref b50), .val (.ref b56), .val (.ref b63), .val (.ref b71), .val cv, .val (.ref w78), .val (.ref w93), .val (.ref w109), .val (.ref w126), .val (.ref w144), .val (.ref b262), .val (.ref b278_0), .val (.ref b293), .val (.ref b311), .val (.ref b332_1), .val (.ref b334_0), .val (.ref b337_0), .val (.ref b341_0), .val (.ref b365_0), .val (.ref wE), .val (.ref wE), .val (.int (1 : Int32)), .val (.int (1 : Int32)), .val (.int (1 : Int32)), .unset, .unset, .unset] [(.ref b365_0)])) _
      refine st389.trans ?_
      show Steps p.tables e below (T389.setTop (mkF m 436 #[.val (.int x0), .val (.int x1), .val (.int x2), .val (.int x3), .val (.int x4), .val (.int x5), .val (.int fm), .val (.int fo), .val (.int fc), .val (.int ft), .val (.int fi), .val (.int fg), .val (.int fn), .val (.ref b36), .val (.ref b38), .val (.ref b41), .val (.ref b45), .val (.ref b50), .val (.ref b56), .val (.ref b63), .val (.ref b71), .val cv, .val (.ref w78), .val (.ref w93), .val (.ref w109), .val (.ref w126), .val (.ref w144), .val (.ref b262), .val (.ref b278_0), .val (.ref b293), .val (.ref b311), .val (.ref b332_1), .val (.ref b334_0), .val (.ref b337_0), .val (.ref b341_0), .val (.ref b365_0), .val (.ref wE), .val (.ref wE), .val (.int (1 : Int32)), .val (.int (1 : Int32)), .val (.int (1 : Int32)), .unset, .unset, .unset] [(.int (1 : Int32))])) _
      refine XS.ifNo X389.here hx rfl (hb hby at_436) rfl ((if0 _ _).trans (feq (by decide : ¬ ((1 : Int32) = (0 : Int32)))).1) ?_
      refine XS.aload X389.here hx rfl (hb hby at_439) rfl rfl ?_
      show Steps p.tables e below (T389.setTop (mkF m 441 #[.val (.int x0), .val (.int x1), .val (.int x2), .val (.int x3), .val (.int x4), .val (.int x5), .val (.int fm), .val (.int fo), .val (.int fc), .val (.int ft), .val (.int fi), .val (.int fg), .val (.int fn), .val (.ref b36), .val (.ref b38), .val (.ref b41), .val (.ref b45), .val (.ref b50), .val (.ref b56), .val (.ref b63), .val (.ref b71), .val cv, .val (.ref w78), .val (.ref w93), .val (.ref w109), .val (.ref w126), .val (.ref w144), .val (.ref b262), .val (.ref b278_0), .val (.ref b293), .val (.ref b311), .val (.ref b332_1), .val (.ref b334_0), .val (.ref b337_0), .val (.ref b341_0), .val (.ref b365_0), .val (.ref wE), .val (.ref wE), .val (.int (1 : Int32)), .val (.int (1 : Int32)), .val (.int (1 : Int32)), .unset, .unset, .unset] [(.ref b365_0)])) _
      refine st390.trans ?_
      show Steps p.tables e below (T390.setTop (mkF m 444 #[.val (.int x0), .val (.int x1), .val (.int x2), .val (.int x3), .val (.int x4), .val (.int x5), .val (.int fm), .val (.int fo), .val (.int fc), .val (.int ft), .val (.int fi), .val (.int fg), .val (.int fn), .val (.ref b36), .val (.ref b38), .val (.ref b41), .val (.ref b45), .val (.ref b50), .val (.ref b56), .val (.ref b63), .val (.ref b71), .val cv, .val (.ref w78), .val (.ref w93), .val (.ref w109), .val (.ref w126), .val (.ref w144), .val (.ref b262), .val (.ref b278_0), .val (.ref b293), .val (.ref b311), .val (.ref b332_1), .val (.ref b334_0), .val (.ref b337_0), .val (.ref b341_0), .val (.ref b365_0), .val (.ref wE), .val (.ref wE), .val (.int (1 : Int32)), .val (.int (1 : Int32)), .val (.int (1 : Int32)), .unset, .unset, .unset] [(.ref b262)])) _
      refine XS.aload X390.here hx rfl (hb hby at_444) rfl rfl ?_
      show Steps p.tables e below (T390.setTop (mkF m 446 #[.val (.int x0), .val (.int x1), .val (.int x2), .val (.int x3), .val (.int x4), .val (.int x5), .val (.int fm), .val (.int fo), .val (.int fc), .val (.int ft), .val (.int fi), .val (.int fg), .val (.int fn), .val (.ref b36), .val (.ref b38), .val (.ref b41), .val (.ref b45), .val (.ref b50), .val (.ref b56), .val (.ref b63), .val (.ref b71), .val cv, .val (.ref w78), .val (.ref w93), .val (.ref w109), .val (.ref w126), .val (.ref w144), .val (.ref b262), .val (.ref b278_0), .val (.ref b293), .val (.ref b311), .val (.ref b332_1), .val (.ref b334_0), .val (.ref b337_0), .val (.ref b341_0), .val (.ref b365_0), .val (.ref wE), .val (.ref wE), .val (.int (1 : Int32)), .val (.int (1 : Int32)), .val (.int (1 : Int32)), .unset, .unset, .unset] [(.ref b262), (.ref b262)])) _
      refine Jvm.RoadKit.acmp (g := (mkF m 446 #[.val (.int x0), .val (.int x1), .val (.int x2), .val (.int x3), .val (.int x4), .val (.int x5), .val (.int fm), .val (.int fo), .val (.int fc), .val (.int ft), .val (.int fi), .val (.int fg), .val (.int fn), .val (.ref b36), .val (.ref b38), .val (.ref b41), .val (.ref b45), .val (.ref b50), .val (.ref b56), .val (.ref b63), .val (.ref b71), .val cv, .val (.ref w78), .val (.ref w93), .val (.ref w109), .val (.ref w126), .val (.ref w144), .val (.ref b262), .val (.ref b278_0), .val (.ref b293), .val (.ref b311), .val (.ref b332_1), .val (.ref b334_0), .val (.ref b337_0), .val (.ref b341_0), .val (.ref b365_0), .val (.ref wE), .val (.ref wE), .val (.int (1 : Int32)), .val (.int (1 : Int32)), .val (.int (1 : Int32)), .unset, .unset, .unset] [(.ref b262), (.ref b262)])) X390 hx rfl rfl rfl (pc0 := 446) (pc' := 449) (same := true) rfl (hb hby at_446) rfl (decide_eq_true rfl) (by decide) (by decide) ?_
      show Steps p.tables e below (T390.setTop (mkF m 449 #[.val (.int x0), .val (.int x1), .val (.int x2), .val (.int x3), .val (.int x4), .val (.int x5), .val (.int fm), .val (.int fo), .val (.int fc), .val (.int ft), .val (.int fi), .val (.int fg), .val (.int fn), .val (.ref b36), .val (.ref b38), .val (.ref b41), .val (.ref b45), .val (.ref b50), .val (.ref b56), .val (.ref b63), .val (.ref b71), .val cv, .val (.ref w78), .val (.ref w93), .val (.ref w109), .val (.ref w126), .val (.ref w144), .val (.ref b262), .val (.ref b278_0), .val (.ref b293), .val (.ref b311), .val (.ref b332_1), .val (.ref b334_0), .val (.ref b337_0), .val (.ref b341_0), .val (.ref b365_0), .val (.ref wE), .val (.ref wE), .val (.int (1 : Int32)), .val (.int (1 : Int32)), .val (.int (1 : Int32)), .unset, .unset, .unset] [])) _
      refine XS.iconst X390.here hx rfl (hb hby at_449) ?_
      refine XS.goto X390.here hx rfl (pc0 := 450) (pc' := 454) rfl (hb hby at_450) (by decide) (by decide) ?_
      refine XS.istore X390.here hx rfl (hb hby at_454) rfl (l' := #[.val (.int x0), .val (.int x1), .val (.int x2), .val (.int x3), .val (.int x4), .val (.int x5), .val (.int fm), .val (.int fo), .val (.int fc), .val (.int ft), .val (.int fi), .val (.int fg), .val (.int fn), .val (.ref b36), .val (.ref b38), .val (.ref b41), .val (.ref b45), .val (.ref b50), .val (.ref b56), .val (.ref b63), .val (.ref b71), .val cv, .val (.ref w78), .val (.ref w93), .val (.ref w109), .val (.ref w126), .val (.ref w144), .val (.ref b262), .val (.ref b278_0), .val (.ref b293), .val (.ref b311), .val (.ref b332_1), .val (.ref b334_0), .val (.ref b337_0), .val (.ref b341_0), .val (.ref b365_0), .val (.ref wE), .val (.ref wE), .val (.int (1 : Int32)), .val (.int (1 : Int32)), .val (.int (1 : Int32)), .val (.int (1 : Int32)), .unset, .unset]) rfl ?_
      refine XS.goto X390.here hx rfl (pc0 := 456) (pc' := 474) rfl (hb hby at_456) (by decide) (by decide) ?_
      refine XS.aload X390.here hx rfl (hb hby at_474) rfl rfl ?_
      show Steps p.tables e below (T390.setTop (mkF m 476 #[.val (.int x0), .val (.int x1), .val (.int x2), .val (.int x3), .val (.int x4), .val (.int x5), .val (.int fm), .val (.int fo), .val (.int fc), .val (.int ft), .val (.int fi), .val (.int fg), .val (.int fn), .val (.ref b36), .val (.ref b38), .val (.ref b41), .val (.ref b45), .val (.ref b50), .val (.ref b56), .val (.ref b63), .val (.ref b71), .val cv, .val (.ref w78), .val (.ref w93), .val (.ref w109), .val (.ref w126), .val (.ref w144), .val (.ref b262), .val (.ref b278_0), .val (.ref b293), .val (.ref b311), .val (.ref b332_1), .val (.ref b334_0), .val (.ref b337_0), .val (.ref b341_0), .val (.ref b365_0), .val (.ref wE), .val (.ref wE), .val (.int (1 : Int32)), .val (.int (1 : Int32)), .val (.int (1 : Int32)), .val (.int (1 : Int32)), .unset, .unset] [(.ref wE)])) _
      refine st391.trans ?_
      show Steps p.tables e below (T391.setTop (mkF m 479 #[.val (.int x0), .val (.int x1), .val (.int x2), .val (.int x3), .val (.int x4), .val (.int x5), .val (.int fm), .val (.int fo), .val (.int fc), .val (.int ft), .val (.int fi), .val (.int fg), .val (.int fn), .val (.ref b36), .val (.ref b38), .val (.ref b41), .val (.ref b45), .val (.ref b50), .val (.ref b56), .val (.ref b63), .val (.ref b71), .val cv, .val (.ref w78), .val (.ref w93), .val (.ref w109), .val (.ref w126), .val (.ref w144), .val (.ref b262), .val (.ref b278_0), .val (.ref b293), .val (.ref b311), .val (.ref b332_1), .val (.ref b334_0), .val (.ref b337_0), .val (.ref b341_0), .val (.ref b365_0), .val (.ref wE), .val (.ref wE), .val (.int (1 : Int32)), .val (.int (1 : Int32)), .val (.int (1 : Int32)), .val (.int (1 : Int32)), .unset, .unset] [(.int (0 : Int32))])) _
      refine XS.ifNo X391.here hx rfl (hb hby at_479) rfl ((if0 _ _).trans (teq (by decide : (0 : Int32) = (0 : Int32))).2) ?_
      refine XS.iconst X391.here hx rfl (hb hby at_482) ?_
      refine XS.goto X391.here hx rfl (pc0 := 483) (pc' := 487) rfl (hb hby at_483) (by decide) (by decide) ?_
      refine XS.istore X391.here hx rfl (hb hby at_487) rfl (l' := #[.val (.int x0), .val (.int x1), .val (.int x2), .val (.int x3), .val (.int x4), .val (.int x5), .val (.int fm), .val (.int fo), .val (.int fc), .val (.int ft), .val (.int fi), .val (.int fg), .val (.int fn), .val (.ref b36), .val (.ref b38), .val (.ref b41), .val (.ref b45), .val (.ref b50), .val (.ref b56), .val (.ref b63), .val (.ref b71), .val cv, .val (.ref w78), .val (.ref w93), .val (.ref w109), .val (.ref w126), .val (.ref w144), .val (.ref b262), .val (.ref b278_0), .val (.ref b293), .val (.ref b311), .val (.ref b332_1), .val (.ref b334_0), .val (.ref b337_0), .val (.ref b341_0), .val (.ref b365_0), .val (.ref wE), .val (.ref wE), .val (.int (1 : Int32)), .val (.int (1 : Int32)), .val (.int (1 : Int32)), .val (.int (1 : Int32)), .val (.int (1 : Int32)), .unset]) rfl ?_
      refine XS.aload X391.here hx rfl (hb hby at_489) rfl rfl ?_
      show Steps p.tables e below (T391.setTop (mkF m 491 #[.val (.int x0), .val (.int x1), .val (.int x2), .val (.int x3), .val (.int x4), .val (.int x5), .val (.int fm), .val (.int fo), .val (.int fc), .val (.int ft), .val (.int fi), .val (.int fg), .val (.int fn), .val (.ref b36), .val (.ref b38), .val (.ref b41), .val (.ref b45), .val (.ref b50), .val (.ref b56), .val (.ref b63), .val (.ref b71), .val cv, .val (.ref w78), .val (.ref w93), .val (.ref w109), .val (.ref w126), .val (.ref w144), .val (.ref b262), .val (.ref b278_0), .val (.ref b293), .val (.ref b311), .val (.ref b332_1), .val (.ref b334_0), .val (.ref b337_0), .val (.ref b341_0), .val (.ref b365_0), .val (.ref wE), .val (.ref wE), .val (.int (1 : Int32)), .val (.int (1 : Int32)), .val (.int (1 : Int32)), .val (.int (1 : Int32)), .val (.int (1 : Int32)), .unset] [(.ref wE)])) _
      refine st392.trans ?_
      show Steps p.tables e below (T392.setTop (mkF m 494 #[.val (.int x0), .val (.int x1), .val (.int x2), .val (.int x3), .val (.int x4), .val (.int x5), .val (.int fm), .val (.int fo), .val (.int fc), .val (.int ft), .val (.int fi), .val (.int fg), .val (.int fn), .val (.ref b36), .val (.ref b38), .val (.ref b41), .val (.ref b45), .val (.ref b50), .val (.ref b56), .val (.ref b63), .val (.ref b71), .val cv, .val (.ref w78), .val (.ref w93), .val (.ref w109), .val (.ref w126), .val (.ref w144), .val (.ref b262), .val (.ref b278_0), .val (.ref b293), .val (.ref b311), .val (.ref b332_1), .val (.ref b334_0), .val (.ref b337_0), .val (.ref b341_0), .val (.ref b365_0), .val (.ref wE), .val (.ref wE), .val (.int (1 : Int32)), .val (.int (1 : Int32)), .val (.int (1 : Int32)), .val (.int (1 : Int32)), .val (.int (1 : Int32)), .unset] [(.int (0 : Int32))])) _
      refine XS.ifNo X392.here hx rfl (hb hby at_494) rfl ((if0 _ _).trans (teq (by decide : (0 : Int32) = (0 : Int32))).2) ?_
      refine XS.iconst X392.here hx rfl (hb hby at_497) ?_
      refine XS.goto X392.here hx rfl (pc0 := 498) (pc' := 502) rfl (hb hby at_498) (by decide) (by decide) ?_
      refine XS.istore X392.here hx rfl (hb hby at_502) rfl (l' := #[.val (.int x0), .val (.int x1), .val (.int x2), .val (.int x3), .val (.int x4), .val (.int x5), .val (.int fm), .val (.int fo), .val (.int fc), .val (.int ft), .val (.int fi), .val (.int fg), .val (.int fn), .val (.ref b36), .val (.ref b38), .val (.ref b41), .val (.ref b45), .val (.ref b50), .val (.ref b56), .val (.ref b63), .val (.ref b71), .val cv, .val (.ref w78), .val (.ref w93), .val (.ref w109), .val (.ref w126), .val (.ref w144), .val (.ref b262), .val (.ref b278_0), .val (.ref b293), .val (.ref b311), .val (.ref b332_1), .val (.ref b334_0), .val (.ref b337_0), .val (.ref b341_0), .val (.ref b365_0), .val (.ref wE), .val (.ref wE), .val (.int (1 : Int32)), .val (.int (1 : Int32)), .val (.int (1 : Int32)), .val (.int (1 : Int32)), .val (.int (1 : Int32)), .val (.int (1 : Int32))]) rfl ?_
      refine XS.iload X392.here hx rfl (hb hby at_504) rfl ?_
      show Steps p.tables e below (T392.setTop (mkF m 506 #[.val (.int x0), .val (.int x1), .val (.int x2), .val (.int x3), .val (.int x4), .val (.int x5), .val (.int fm), .val (.int fo), .val (.int fc), .val (.int ft), .val (.int fi), .val (.int fg), .val (.int fn), .val (.ref b36), .val (.ref b38), .val (.ref b41), .val (.ref b45), .val (.ref b50), .val (.ref b56), .val (.ref b63), .val (.ref b71), .val cv, .val (.ref w78), .val (.ref w93), .val (.ref w109), .val (.ref w126), .val (.ref w144), .val (.ref b262), .val (.ref b278_0), .val (.ref b293), .val (.ref b311), .val (.ref b332_1), .val (.ref b334_0), .val (.ref b337_0), .val (.ref b341_0), .val (.ref b365_0), .val (.ref wE), .val (.ref wE), .val (.int (1 : Int32)), .val (.int (1 : Int32)), .val (.int (1 : Int32)), .val (.int (1 : Int32)), .val (.int (1 : Int32)), .val (.int (1 : Int32))] [(.int (1 : Int32))])) _
      refine XS.ifNo X392.here hx rfl (hb hby at_506) rfl ((if0 _ _).trans (feq (by decide : ¬ ((1 : Int32) = (0 : Int32)))).1) ?_
      refine XS.iload X392.here hx rfl (hb hby at_509) rfl ?_
      refine XS.ifNo X392.here hx rfl (hb hby at_511) rfl ((if0 _ _).trans (feq (by decide : ¬ ((1 : Int32) = (0 : Int32)))).1) ?_
      refine XS.iload X392.here hx rfl (hb hby at_514) rfl ?_
      refine XS.ifNo X392.here hx rfl (hb hby at_516) rfl ((if0 _ _).trans (feq (by decide : ¬ ((1 : Int32) = (0 : Int32)))).1) ?_
      refine XS.iload X392.here hx rfl (hb hby at_519) rfl ?_
      refine XS.ifNo X392.here hx rfl (hb hby at_521) rfl ((if0 _ _).trans (feq (by decide : ¬ ((1 : Int32) = (0 : Int32)))).1) ?_
      refine XS.iload X392.here hx rfl (hb hby at_524) rfl ?_
      refine XS.ifNo X392.here hx rfl (hb hby at_526) rfl ((if0 _ _).trans (feq (by decide : ¬ ((1 : Int32) = (0 : Int32)))).1) ?_
      refine XS.iload X392.here hx rfl (hb hby at_529) rfl ?_
      refine XS.ifNo X392.here hx rfl (hb hby at_531) rfl ((if0 _ _).trans (feq (by decide : ¬ ((1 : Int32) = (0 : Int32)))).1) ?_
      refine XS.iconst X392.here hx rfl (hb hby at_534) ?_
      show Steps p.tables e below (T392.setTop (mkF m 535 #[.val (.int x0), .val (.int x1), .val (.int x2), .val (.int x3), .val (.int x4), .val (.int x5), .val (.int fm), .val (.int fo), .val (.int fc), .val (.int ft), .val (.int fi), .val (.int fg), .val (.int fn), .val (.ref b36), .val (.ref b38), .val (.ref b41), .val (.ref b45), .val (.ref b50), .val (.ref b56), .val (.ref b63), .val (.ref b71), .val cv, .val (.ref w78), .val (.ref w93), .val (.ref w109), .val (.ref w126), .val (.ref w144), .val (.ref b262), .val (.ref b278_0), .val (.ref b293), .val (.ref b311), .val (.ref b332_1), .val (.ref b334_0), .val (.ref b337_0), .val (.ref b341_0), .val (.ref b365_0), .val (.ref wE), .val (.ref wE), .val (.int (1 : Int32)), .val (.int (1 : Int32)), .val (.int (1 : Int32)), .val (.int (1 : Int32)), .val (.int (1 : Int32)), .val (.int (1 : Int32))] [(.int (1 : Int32))])) _
      refine XS.goto X392.here hx rfl (pc0 := 535) (pc' := 539) rfl (hb hby at_535) (by decide) (by decide) ?_
      show Steps p.tables e below (T392.setTop (mkF m 539 #[.val (.int x0), .val (.int x1), .val (.int x2), .val (.int x3), .val (.int x4), .val (.int x5), .val (.int fm), .val (.int fo), .val (.int fc), .val (.int ft), .val (.int fi), .val (.int fg), .val (.int fn), .val (.ref b36), .val (.ref b38), .val (.ref b41), .val (.ref b45), .val (.ref b50), .val (.ref b56), .val (.ref b63), .val (.ref b71), .val cv, .val (.ref w78), .val (.ref w93), .val (.ref w109), .val (.ref w126), .val (.ref w144), .val (.ref b262), .val (.ref b278_0), .val (.ref b293), .val (.ref b311), .val (.ref b332_1), .val (.ref b334_0), .val (.ref b337_0), .val (.ref b341_0), .val (.ref b365_0), .val (.ref wE), .val (.ref wE), .val (.int (1 : Int32)), .val (.int (1 : Int32)), .val (.int (1 : Int32)), .val (.int (1 : Int32)), .val (.int (1 : Int32)), .val (.int (1 : Int32))] [(.int (1 : Int32))])) _
      exact retN X392 hx (t := .boolean) Bd.returns (by simp) (hb hby at_539) lhr
    · skip
      show Q0 Z x0 x1 x2 x3 x4 x5 G1 wE wD h0 n0 _ T392.heap _
      rw [eq392]
      exact ⟨rfl, N392⟩
    · skip
      show CHr Z own_EL s.vm s.heap T392.vm T392.heap
      rw [hh]
      rw [eq392]
      exact CR365.trans (CHv.at X392 hZ264 hEL CR365.1)
set_option maxRecDepth 65536 in
set_option maxHeartbeats 40000000 in
theorem comes_1 {Post : Tables → Env → Array Value → State → Outcome → State → Prop} (hpost : ∀ tb e args s v u, (limb_1_1.after args s (.returned v) u = true ∧ limb_1_2.after args s (.returned v) u = true ∧ True) → FramedW s (.returned v) u (Jvm.fieldLocs frame_1_writes args s ++ Jvm.arrayLocs frame_1_arrays args s ++ Jvm.staticLocs frame_1_statics s) 88 1344 → Post tb e args s (.returned v) u) :
    ArmFor flags0 classFile x code maxLocals ret World_1 tables_1 room_1 Calls_1 rest_1 Pre_1 Post := by
  intro l hfl _ _ p e ha hc hk s m args below hf hA hF happ hP
  obtain ⟨hcalls, hrest, hpre⟩ := hP
  obtain ⟨-, -, -, hnamed, -, -, -, hat⟩ := (Spec.applies_iff hf).mp happ
  obtain ⟨hg, hn⟩ := and_e (Cond.before_iff.mp (show (Jvm.Cond.and given_1 narrow_1).before args s = true from hpre))
  obtain ⟨g1a, g1b⟩ := and_e hg
  obtain ⟨g2a, g2b⟩ := and_e g1b
  obtain ⟨g3a, g3b⟩ := and_e g2b
  obtain ⟨g4a, g4b⟩ := and_e g3b
  obtain ⟨g5a, g5b⟩ := and_e g4b
  obtain ⟨g6a, g6b⟩ := and_e g5b
  obtain ⟨w0, w1, w2, w3, w4, w5, rfl⟩ : ∃ w0 w1 w2 w3 w4 w5 : Value, args = #[w0, w1, w2, w3, w4, w5] := by
    have hs : args.size = 6 := by simpa [Cond.value, given_1] using g1a
    obtain ⟨L⟩ := args
    match L, hs with
    | [w0, w1, w2, w3, w4, w5], _ => exact ⟨w0, w1, w2, w3, w4, w5, rfl⟩
  have hw := fun d (hd : d ∈ tables_1) => atoms_spec (ws := Jvm.Cond.code x code maxLocals ret :: tables_1) hat d (List.mem_cons_of_mem _ hd)
  have hfit : Fit s := fun {y c} hc i hi => by
    obtain ⟨ha, rfl⟩ := Array.getElem?_eq_some_iff.mp hc
    have q := List.all_eq_true.mp ((Array.all_eq_true_iff_forall_mem.mp hF) _ (Array.getElem_mem ha)) i (List.mem_range.mpr hi)
    simpa [Array.getElem?_eq_getElem hi] using q
  obtain ⟨hsets, hown0⟩ := atoms_of _ (rest_1_c_eq ▸ (show rest_1_c.before _ s = true from hrest))
  have hr0 := Cond.before_iff.mp hown0
  obtain ⟨i0, ei0⟩ := is_v g2a
  obtain rfl : w0 = (.int i0) := Option.some.inj ei0
  obtain ⟨i1, ei1⟩ := is_v g3a
  obtain rfl : w1 = (.int i1) := Option.some.inj ei1
  obtain ⟨i2, ei2⟩ := is_v g4a
  obtain rfl : w2 = (.int i2) := Option.some.inj ei2
  obtain ⟨i3, ei3⟩ := is_v g5a
  obtain rfl : w3 = (.int i3) := Option.some.inj ei3
  obtain ⟨i4, ei4⟩ := is_v g6a
  obtain rfl : w4 = (.int i4) := Option.some.inj ei4
  obtain ⟨i5, ei5⟩ := is_v g6b
  obtain rfl : w5 = (.int i5) := Option.some.inj ei5
  obtain ⟨G1, eG1⟩ := is_v (Cond.before_iff.mp (hsets _ (List.mem_of_getElem? (i := 1) rfl)))
  have O2 := Sta.start eG1 (Or.inl (hsets _ (List.mem_of_getElem? (i := 0) rfl)))
  have P5 : ¬ (G1 = (0 : Int32)) := gotF (Cond.eq_ints eG1 (Term.int_eval (0))) (not_v (Cond.before_iff.mp (hsets _ (List.mem_of_getElem? (i := 2) rfl))))
  have hCH : CHv s own_EL s.vm s.heap := fun p hp => by cases hp
  obtain ⟨wE, eE⟩ := exa_v (Cond.before_iff.mp (hsets _ (List.mem_of_getElem? (i := 11) rfl)))
  have S_E := Sta.start eE (Or.inl (hsets _ (List.mem_of_getElem? (i := 10) rfl)))
  have E_w := Exa.start eE (Cond.before_iff.mp (hsets _ (List.mem_of_getElem? (i := 11) rfl)))
  have F_w := own_fldNull eE (Cond.before_iff.mp (hsets _ (List.mem_of_getElem? (i := 12) rfl)))
  obtain ⟨wD, eD⟩ := arr_v (Cond.before_iff.mp (hsets _ (List.mem_of_getElem? (i := 19) rfl)))
  have S_D := Sta.start eD (Or.inr ⟨(wd41 hw), (hsets _ (List.mem_of_getElem? (i := 15) rfl))⟩)
  obtain ⟨n, o, h1, h2, h3, _, L, rfl, ⟨rfl, N⟩, -, hq⟩ := rm0 l s _ hw tables_1 i0 i1 i2 i3 i4 i5 G1 wE wD s.heap s.heap.size (Nat.le_refl _) O2 P5 (Old.start s) S_E E_w F_w S_D p e ha hc hk s m _ below hf ((Spec.applies_iff_loose hf).mp happ).1 ⟨rfl, State.Warmed39.refl s, rfl, hCH, fun x hx => by cases hx⟩ trivial
  refine ⟨n, _, h1, h2, h3, hpost _ _ _ _ _ _ ⟨Cond.after_iff.mpr rfl, Cond.after_iff.mpr (eq_i res_at (Term.int_eval (1)) rfl), trivial⟩ ⟨hq.1, hq.2.1, hq.2.2.1, (hq.2.2.2.sift fun y hy => Or.inr (N y hy)).mono (by decide) (by decide)⟩⟩
theorem main_1_1 : Claimed_1_1 := comes_1 fun _ _ _ _ _ _ h hF => ⟨h.1, hF⟩
theorem main_1_2 : Claimed_1_2 := comes_1 fun _ _ _ _ _ _ h hF => ⟨h.2.1, hF⟩
end Jvm.Pilot.@@N@@
namespace Jvm.Pilot.@@N@@
open Jvm Jvm.ClassFile Sem Op Lib Jvm.Free Jvm.Stand Jvm.Pilot.@@N@@.Jvm.D
/-! MADE BY PROGRAM (witnessworld.py) out of the Statement's table words and the real class files: 35 classes; the members and pool entries that the words name. The judged class is class 1, her method 3. -/
namespace start1
open Jvm.ClassFile
def u (s : String) : CpInfo := .utf8 (stringToUtf16 s)
/-- a pool by its gaps: so many unusable entries, then the entry; so many at the end -/
def gap : Nat → List CpInfo → List CpInfo
  | 0, r => r
  | n + 1, r => .unusable :: gap n r
def poolList (es : List (Nat × CpInfo)) (last : Nat) : List CpInfo := es.foldr (fun e r => gap e.1 (e.2 :: r)) (gap last [])
def pool (es : List (Nat × CpInfo)) (last : Nat) : Array CpInfo := ⟨poolList es last⟩
def fileOf (pool : Array CpInfo) (this : Nat) (attrs : Array Attribute := #[]) (ms : Array MethodInfo := #[]) (fl : Nat := 33) (sup : Nat := 0) (ifs : Array Nat := #[]) (fds : Array FieldInfo := #[]) : ClassFile where
  minorVersion := 0
  majorVersion := 65
  constantPool := pool
  accessFlags := fl
  thisClass := this
  superClass := sup
  interfaces := ifs
  fields := fds
  methods := ms
  attributes := attrs
def plain (name : String) (sup : Option ClassId) : Class where
  name := name
  kind := .ordinary
  loader := none
  accessFlags := 33
  super := sup
  interfaces := #[]
  cf := none
  fields := #[]
  methods := #[]
  instanceTypes := #[]
  staticTypes := #[]
  resolved := #[]
  callSites := []
  init := .initialized
  statics := none
  mirror := none

def pool0 : Array CpInfo := pool [(5, u "<init>"), (0, u "()V"), (1, .class_ 10), (1, u "java/lang/Object")] 113

def k0c0 : Code := { maxStack := 0, maxLocals := 1, code := object_method_1_code, exceptionTable := #[], attributes := #[] }
def k0m0 : Method := { name := "<init>", desc := "()V", sig := { parameters := [], returnType := none }, accessFlags := 1, code := some k0c0 }
/-- java/lang/Object -/
def k0 : Class := { plain "java/lang/Object" none with
  accessFlags := 33
  interfaces := #[]
  cf := some (fileOf pool0 8 #[] #[{ accessFlags := 1, nameIndex := 5, descriptorIndex := 6, attributes := #[] }] 33 0 #[] #[])
  fields := #[]
  methods := #[k0m0]
  instanceTypes := #[]
  staticTypes := #[]
  resolved := Array.replicate 124 none
  statics := none }

def pool1 : Array CpInfo := pool [(2, .class_ 4), (0, .nameAndType 5 6), (0, u "java/lang/Object"), (0, u "<init>"), (0, u "()V"), (0, .class_ 8), (0, u "java/lang/String"), (0, .methodref 7 10), (0, .nameAndType 5 11), (0, u "([C)V"), (0, .methodref 13 14), (0, .class_ 15), (0, .nameAndType 16 17), (0, u "java/util/Optional"), (0, u "isPresent"), (0, u "()Z"), (0, .methodref 13 19), (0, .nameAndType 20 21), (0, u "get"), (0, u "()Ljava/lang/Object;"), (0, .methodref 7 23), (0, .nameAndType 24 25), (0, u "equals"), (0, u "(Ljava/lang/Object;)Z"), (0, .methodref 27 28), (0, .class_ 29), (0, .nameAndType 30 31), (0, u "com/example/typed_api_errors/typedapierrors/error/OccurrenceAsItemPinLaw"), (0, u "str2"), (0, u "(II)Ljava/lang/String;"), (0, .methodref 13 33), (0, .nameAndType 34 35), (0, u "of"), (0, u "(Ljava/lang/Object;)Ljava/util/Optional;"), (0, .methodref 13 37), (0, .nameAndType 38 39), (0, u "empty"), (0, u "()Ljava/util/Optional;"), (0, .class_ 41), (0, u "com/example/typed_api_errors/typedapierrors/error/Target"), (0, .methodref 40 43), (0, .nameAndType 5 44), (0, u "(Ljava/lang/String;Ljava/lang/String;Ljava/lang/String;)V"), (0, .class_ 46), (0, u "java/util/ArrayList"), (0, .methodref 45 3), (0, .class_ 49), (0, u "com/example/typed_api_errors/typedapierrors/error/Occurrence"), (0, .methodref 48 51), (0, .nameAndType 5 52), (0, u "(Ljava/lang/String;ILjava/util/Optional;Ljava/util/Optional;Ljava/util/Optional;Ljava/util/Optional;Ljava/util/Optional;Ljava/util/List;)V"), (0, .methodref 48 54), (0, .nameAndType 55 56), (0, u "asItem"), (0, u "(Ljava/util/Optional;)Lcom/example/typed_api_errors/typedapierrors/error/Detail;"), (0, .methodref 58 59), (0, .class_ 60), (0, .nameAndType 61 39), (0, u "com/example/typed_api_errors/typedapierrors/error/Detail"), (0, u "code"), (0, .methodref 58 63), (0, .nameAndType 64 39), (0, u "message"), (0, .methodref 58 66), (0, .nameAndType 67 39), (0, u "moreInfo"), (0, .methodref 58 69), (0, .nameAndType 70 39), (0, u "target"), (0, .methodref 58 72), (0, .nameAndType 73 39), (0, u "type"), (0, .methodref 58 75), (0, .nameAndType 76 39), (0, u "constraint"), (0, .methodref 27 78), (0, .nameAndType 79 80), (0, u "same"), (0, u "(Ljava/util/Optional;ZLjava/lang/String;)Z"), (5, u "law"), (0, u "(IIIIII)Z")] 4

def k1m0 : Method := { name := "<init>", desc := "()V", sig := { parameters := [], returnType := none }, accessFlags := 2, code := none }
def k1c1 : Code := { maxStack := 5, maxLocals := 3, code := method_2_code, exceptionTable := #[], attributes := #[] }
def k1m1 : Method := { name := "str2", desc := "(II)Ljava/lang/String;", sig := { parameters := [.int, .int], returnType := some (.object "java/lang/String") }, accessFlags := 10, code := some k1c1 }
def k1c2 : Code := { maxStack := 2, maxLocals := 3, code := method_3_code, exceptionTable := #[], attributes := #[] }
def k1m2 : Method := { name := "same", desc := "(Ljava/util/Optional;ZLjava/lang/String;)Z", sig := { parameters := [(.object "java/util/Optional"), .boolean, (.object "java/lang/String")], returnType := some .boolean }, accessFlags := 10, code := some k1c2 }
def k1c3 : Code := { maxStack := 10, maxLocals := 44, code := code, exceptionTable := #[], attributes := #[] }
def k1m3 : Method := { name := "law", desc := "(IIIIII)Z", sig := { parameters := [.int, .int, .int, .int, .int, .int], returnType := some .boolean }, accessFlags := 9, code := some k1c3 }
/-- com/example/typed_api_errors/typedapierrors/error/OccurrenceAsItemPinLaw -/
def k1 : Class := { plain "com/example/typed_api_errors/typedapierrors/error/OccurrenceAsItemPinLaw" (some 0) with
  accessFlags := 49
  interfaces := #[]
  cf := some (fileOf pool1 27 #[] #[{ accessFlags := 2, nameIndex := 5, descriptorIndex := 6, attributes := #[] }, { accessFlags := 10, nameIndex := 30, descriptorIndex := 31, attributes := #[] }, { accessFlags := 10, nameIndex := 79, descriptorIndex := 80, attributes := #[] }, { accessFlags := 9, nameIndex := 86, descriptorIndex := 87, attributes := #[] }] 49 2 #[] #[])
  fields := #[]
  methods := #[k1m0, k1m1, k1m2, k1m3]
  instanceTypes := #[]
  staticTypes := #[]
  resolved := Array.replicate 92 none
  statics := none }

def pool2 : Array CpInfo := pool [(1, .class_ 2), (0, u "java/io/Serializable"), (0, .class_ 4), (0, u "java/lang/Object")] 2

/-- java/io/Serializable -/
def k2 : Class := { plain "java/io/Serializable" (some 0) with
  accessFlags := 1537
  interfaces := #[]
  cf := some (fileOf pool2 1 #[] #[] 1537 3 #[] #[])
  fields := #[]
  methods := #[]
  instanceTypes := #[]
  staticTypes := #[]
  resolved := Array.replicate 7 none
  statics := none }

def pool3 : Array CpInfo := pool [(1, .class_ 2), (0, u "java/lang/Comparable"), (0, .class_ 4), (0, u "java/lang/Object")] 7

/-- java/lang/Comparable -/
def k3 : Class := { plain "java/lang/Comparable" (some 0) with
  accessFlags := 1537
  interfaces := #[]
  cf := some (fileOf pool3 1 #[] #[] 1537 3 #[] #[])
  fields := #[]
  methods := #[]
  instanceTypes := #[]
  staticTypes := #[]
  resolved := Array.replicate 12 none
  statics := none }

def pool4 : Array CpInfo := pool [(2, .class_ 4), (1, u "java/lang/CharSequence"), (42, .class_ 48), (0, u "java/lang/CharSequence$1CodePointIterator"), (10, .class_ 60), (0, u "java/lang/CharSequence$1CharIterator"), (5, .class_ 67), (0, u "java/lang/Object")] 63

/-- java/lang/CharSequence -/
def k4 : Class := { plain "java/lang/CharSequence" (some 0) with
  accessFlags := 1537
  interfaces := #[]
  cf := some (fileOf pool4 2 #[.nestMembers #[47, 59]] #[] 1537 66 #[] #[])
  fields := #[]
  methods := #[]
  instanceTypes := #[]
  staticTypes := #[]
  resolved := Array.replicate 131 none
  statics := none }

def pool5 : Array CpInfo := pool [(1, .class_ 2), (0, u "java/lang/constant/Constable"), (0, .class_ 4), (0, u "java/lang/Object")] 6

/-- java/lang/constant/Constable -/
def k5 : Class := { plain "java/lang/constant/Constable" (some 0) with
  accessFlags := 1537
  interfaces := #[]
  cf := some (fileOf pool5 1 #[] #[] 1537 3 #[] #[])
  fields := #[]
  methods := #[]
  instanceTypes := #[]
  staticTypes := #[]
  resolved := Array.replicate 11 none
  statics := none }

def pool6 : Array CpInfo := pool [(1, .class_ 2), (0, u "java/lang/constant/ConstantDesc"), (0, .class_ 4), (0, u "java/lang/Object")] 32

/-- java/lang/constant/ConstantDesc -/
def k6 : Class := { plain "java/lang/constant/ConstantDesc" (some 0) with
  accessFlags := 1537
  interfaces := #[]
  cf := some (fileOf pool6 1 #[] #[] 1537 3 #[] #[])
  fields := #[]
  methods := #[]
  instanceTypes := #[]
  staticTypes := #[]
  resolved := Array.replicate 37 none
  statics := none }

def pool7 : Array CpInfo := pool [(1, .methodref 2 3), (0, .class_ 4), (0, .nameAndType 5 6), (0, u "java/lang/Object"), (0, u "<init>"), (0, u "()V"), (2, .fieldref 10 11), (0, .class_ 12), (0, .nameAndType 13 14), (0, u "java/lang/String"), (0, u "value"), (0, u "[B"), (0, .fieldref 10 16), (0, .nameAndType 17 18), (0, u "coder"), (0, u "B"), (2, u "hash"), (0, u "I"), (2, u "hashIsZero"), (0, u "Z"), (0, .methodref 10 28), (0, .nameAndType 5 29), (0, u "([CIILjava/lang/Void;)V"), (8, .fieldref 10 39), (0, .nameAndType 40 26), (0, u "COMPACT_STRINGS"), (1, .class_ 44), (1, u "java/lang/StringUTF16"), (0, u "compress"), (1, .methodref 42 48), (0, .nameAndType 49 50), (0, u "coderFromArrayLen"), (0, u "([BI)B"), (126, .methodref 42 178), (0, .nameAndType 45 179), (0, u "([CII)[B"), (363, u "equals"), (29, u "(Ljava/lang/Object;)Z"), (1, .class_ 576), (0, u "java/lang/CharSequence"), (22, u "CASE_INSENSITIVE_ORDER"), (0, u "Ljava/util/Comparator;"), (409, u "([C)V"), (90, u "serialPersistentFields"), (0, u "[Ljava/io/ObjectStreamField;"), (0, .class_ 1104), (0, u "java/lang/String$CaseInsensitiveComparator"), (1, .class_ 1107), (0, u "java/io/Serializable"), (0, .class_ 1109), (0, u "java/lang/Comparable"), (0, .class_ 1111), (0, u "java/lang/constant/Constable"), (0, .class_ 1113), (0, u "java/lang/constant/ConstantDesc"), (2, u "serialVersionUID"), (0, u "J"), (3, u "REPL"), (0, u "C"), (2, u "LATIN1"), (1, u "UTF16")] 323

def k7m0 : Method := { name := "<init>", desc := "()V", sig := { parameters := [], returnType := none }, accessFlags := 1, code := none }
def k7c1 : Code := { maxStack := 5, maxLocals := 2, code := jdk_42_method_3_code, exceptionTable := #[], attributes := #[] }
def k7m1 : Method := { name := "<init>", desc := "([C)V", sig := { parameters := [(.array .char)], returnType := none }, accessFlags := 1, code := some k7c1 }
def k7c2 : Code := { maxStack := 2, maxLocals := 3, code := jdk_42_method_66_code, exceptionTable := #[], attributes := #[] }
def k7m2 : Method := { name := "equals", desc := "(Ljava/lang/Object;)Z", sig := { parameters := [(.object "java/lang/Object")], returnType := some .boolean }, accessFlags := 1, code := some k7c2 }
def k7c3 : Code := { maxStack := 4, maxLocals := 6, code := jdk_42_method_149_code, exceptionTable := #[], attributes := #[] }
def k7m3 : Method := { name := "<init>", desc := "([CIILjava/lang/Void;)V", sig := { parameters := [(.array .char), .int, .int, (.object "java/lang/Void")], returnType := none }, accessFlags := 2, code := some k7c3 }
/-- java/lang/String -/
def k7 : Class := { plain "java/lang/String" (some 0) with
  accessFlags := 49
  interfaces := #[2, 3, 4, 5, 6]
  cf := some (fileOf pool7 10 #[.nestMembers #[1103]] #[{ accessFlags := 1, nameIndex := 5, descriptorIndex := 6, attributes := #[] }, { accessFlags := 1, nameIndex := 5, descriptorIndex := 1010, attributes := #[] }, { accessFlags := 1, nameIndex := 543, descriptorIndex := 573, attributes := #[] }, { accessFlags := 2, nameIndex := 5, descriptorIndex := 29, attributes := #[] }] 49 2 #[1106, 1108, 575, 1110, 1112] #[{ accessFlags := 18, nameIndex := 13, descriptorIndex := 14, attributes := #[] }, { accessFlags := 18, nameIndex := 17, descriptorIndex := 18, attributes := #[] }, { accessFlags := 2, nameIndex := 21, descriptorIndex := 22, attributes := #[] }, { accessFlags := 2, nameIndex := 25, descriptorIndex := 26, attributes := #[] }, { accessFlags := 26, nameIndex := 1116, descriptorIndex := 1117, attributes := #[] }, { accessFlags := 24, nameIndex := 40, descriptorIndex := 26, attributes := #[] }, { accessFlags := 26, nameIndex := 1101, descriptorIndex := 1102, attributes := #[] }, { accessFlags := 26, nameIndex := 1121, descriptorIndex := 1122, attributes := #[] }, { accessFlags := 25, nameIndex := 599, descriptorIndex := 600, attributes := #[] }, { accessFlags := 24, nameIndex := 1125, descriptorIndex := 18, attributes := #[] }, { accessFlags := 24, nameIndex := 1127, descriptorIndex := 18, attributes := #[] }])
  fields := #[{ name := "value", type := (.array .byte), accessFlags := 18, slot := 0, constantValue := 0 }, { name := "coder", type := .byte, accessFlags := 18, slot := 1, constantValue := 0 }, { name := "hash", type := .int, accessFlags := 2, slot := 2, constantValue := 0 }, { name := "hashIsZero", type := .boolean, accessFlags := 2, slot := 3, constantValue := 0 }, { name := "serialVersionUID", type := .long, accessFlags := 26, slot := 0, constantValue := 0 }, { name := "COMPACT_STRINGS", type := .boolean, accessFlags := 24, slot := 1, constantValue := 0 }, { name := "serialPersistentFields", type := (.array (.object "java/io/ObjectStreamField")), accessFlags := 26, slot := 2, constantValue := 0 }, { name := "REPL", type := .char, accessFlags := 26, slot := 3, constantValue := 0 }, { name := "CASE_INSENSITIVE_ORDER", type := (.object "java/util/Comparator"), accessFlags := 25, slot := 4, constantValue := 0 }, { name := "LATIN1", type := .byte, accessFlags := 24, slot := 5, constantValue := 0 }, { name := "UTF16", type := .byte, accessFlags := 24, slot := 6, constantValue := 0 }]
  methods := #[k7m0, k7m1, k7m2, k7m3]
  instanceTypes := #[(.array .byte), .byte, .int, .boolean]
  staticTypes := #[.long, .boolean, (.array (.object "java/io/ObjectStreamField")), .char, (.object "java/util/Comparator"), .byte, .byte]
  resolved := Array.replicate 1451 none
  statics := some 0 }

def pool8 : Array CpInfo := pool [(6, .class_ 8), (1, u "java/lang/Object"), (0, u "<init>"), (0, u "()V"), (1, .class_ 14), (1, u "java/lang/StringUTF16"), (31, u "$assertionsDisabled"), (0, u "Z"), (13, u "HI_BYTE_SHIFT"), (0, u "I"), (2, u "LO_BYTE_SHIFT"), (49, .methodref 12 116), (0, .nameAndType 117 118), (0, u "compress"), (0, u "([CI[BII)I"), (3, u "([CII)[B"), (138, u "coderFromArrayLen"), (0, u "([BI)B"), (106, .class_ 371), (1, u "java/lang/StringUTF16$LinesSpliterator"), (58, u "MAX_LENGTH"), (196, .class_ 628), (0, u "java/lang/StringUTF16$CodePointsSpliterator"), (0, .class_ 630), (0, u "java/lang/StringUTF16$CharsSpliterator")] 4

def k8m0 : Method := { name := "<init>", desc := "()V", sig := { parameters := [], returnType := none }, accessFlags := 0, code := none }
def k8c1 : Code := { maxStack := 2, maxLocals := 2, code := jdk_52_method_15_code, exceptionTable := #[], attributes := #[] }
def k8m1 : Method := { name := "coderFromArrayLen", desc := "([BI)B", sig := { parameters := [(.array .byte), .int], returnType := some .byte }, accessFlags := 8, code := some k8c1 }
def k8c2 : Code := { maxStack := 5, maxLocals := 6, code := jdk_52_method_16_code, exceptionTable := #[], attributes := #[] }
def k8m2 : Method := { name := "compress", desc := "([CII)[B", sig := { parameters := [(.array .char), .int, .int], returnType := some (.array .byte) }, accessFlags := 9, code := some k8c2 }
def k8c3 : Code := { maxStack := 3, maxLocals := 7, code := jdk_52_method_21_code, exceptionTable := #[], attributes := #[] }
def k8m3 : Method := { name := "compress", desc := "([CI[BII)I", sig := { parameters := [(.array .char), .int, (.array .byte), .int, .int], returnType := some .int }, accessFlags := 9, code := some k8c3 }
/-- java/lang/StringUTF16 -/
def k8 : Class := { plain "java/lang/StringUTF16" (some 0) with
  accessFlags := 48
  interfaces := #[]
  cf := some (fileOf pool8 12 #[.nestMembers #[627, 629, 369]] #[{ accessFlags := 0, nameIndex := 9, descriptorIndex := 10, attributes := #[] }, { accessFlags := 8, nameIndex := 261, descriptorIndex := 262, attributes := #[] }, { accessFlags := 9, nameIndex := 117, descriptorIndex := 122, attributes := #[] }, { accessFlags := 9, nameIndex := 117, descriptorIndex := 118, attributes := #[] }] 48 6 #[] #[{ accessFlags := 26, nameIndex := 61, descriptorIndex := 62, attributes := #[] }, { accessFlags := 26, nameIndex := 65, descriptorIndex := 62, attributes := #[] }, { accessFlags := 24, nameIndex := 430, descriptorIndex := 62, attributes := #[] }, { accessFlags := 4120, nameIndex := 46, descriptorIndex := 47, attributes := #[] }])
  fields := #[{ name := "HI_BYTE_SHIFT", type := .int, accessFlags := 26, slot := 0, constantValue := 0 }, { name := "LO_BYTE_SHIFT", type := .int, accessFlags := 26, slot := 1, constantValue := 0 }, { name := "MAX_LENGTH", type := .int, accessFlags := 24, slot := 2, constantValue := 0 }, { name := "$assertionsDisabled", type := .boolean, accessFlags := 4120, slot := 3, constantValue := 0 }]
  methods := #[k8m0, k8m1, k8m2, k8m3]
  instanceTypes := #[]
  staticTypes := #[.int, .int, .int, .boolean]
  resolved := Array.replicate 635 none
  statics := none }

def pool9 : Array CpInfo := pool [(1, .fieldref 2 3), (0, .class_ 4), (0, .nameAndType 5 6), (0, u "java/util/Optional"), (0, u "EMPTY"), (0, u "Ljava/util/Optional;"), (0, .methodref 8 9), (0, .class_ 10), (0, .nameAndType 11 12), (0, u "java/lang/Object"), (0, u "<init>"), (0, u "()V"), (0, .fieldref 2 14), (0, .nameAndType 15 16), (0, u "value"), (0, u "Ljava/lang/Object;"), (0, .methodref 18 19), (0, .class_ 20), (0, .nameAndType 21 22), (0, u "java/util/Objects"), (0, u "requireNonNull"), (0, u "(Ljava/lang/Object;)Ljava/lang/Object;"), (0, .methodref 2 24), (0, .nameAndType 11 25), (0, u "(Ljava/lang/Object;)V"), (20, u "()Z"), (8, u "empty"), (0, u "()Ljava/util/Optional;"), (7, u "ofNullable"), (0, u "(Ljava/lang/Object;)Ljava/util/Optional;"), (2, u "isPresent"), (4, u "get"), (0, u "()Ljava/lang/Object;"), (7, u "of"), (82, u "orElse")] 21

def k9c0 : Code := { maxStack := 1, maxLocals := 1, code := jdk_32_method_1_code, exceptionTable := #[], attributes := #[] }
def k9m0 : Method := { name := "empty", desc := "()Ljava/util/Optional;", sig := { parameters := [], returnType := some (.object "java/util/Optional") }, accessFlags := 9, code := some k9c0 }
def k9c1 : Code := { maxStack := 2, maxLocals := 2, code := jdk_32_method_2_code, exceptionTable := #[], attributes := #[] }
def k9m1 : Method := { name := "<init>", desc := "(Ljava/lang/Object;)V", sig := { parameters := [(.object "java/lang/Object")], returnType := none }, accessFlags := 2, code := some k9c1 }
def k9c2 : Code := { maxStack := 3, maxLocals := 1, code := jdk_32_method_3_code, exceptionTable := #[], attributes := #[] }
def k9m2 : Method := { name := "of", desc := "(Ljava/lang/Object;)Ljava/util/Optional;", sig := { parameters := [(.object "java/lang/Object")], returnType := some (.object "java/util/Optional") }, accessFlags := 9, code := some k9c2 }
def k9c3 : Code := { maxStack := 3, maxLocals := 1, code := jdk_32_method_4_code, exceptionTable := #[], attributes := #[] }
def k9m3 : Method := { name := "ofNullable", desc := "(Ljava/lang/Object;)Ljava/util/Optional;", sig := { parameters := [(.object "java/lang/Object")], returnType := some (.object "java/util/Optional") }, accessFlags := 9, code := some k9c3 }
def k9c4 : Code := { maxStack := 3, maxLocals := 1, code := jdk_32_method_5_code, exceptionTable := #[], attributes := #[] }
def k9m4 : Method := { name := "get", desc := "()Ljava/lang/Object;", sig := { parameters := [], returnType := some (.object "java/lang/Object") }, accessFlags := 1, code := some k9c4 }
def k9c5 : Code := { maxStack := 1, maxLocals := 1, code := jdk_32_method_6_code, exceptionTable := #[], attributes := #[] }
def k9m5 : Method := { name := "isPresent", desc := "()Z", sig := { parameters := [], returnType := some .boolean }, accessFlags := 1, code := some k9c5 }
def k9c6 : Code := { maxStack := 1, maxLocals := 2, code := jdk_32_method_15_code, exceptionTable := #[], attributes := #[] }
def k9m6 : Method := { name := "orElse", desc := "(Ljava/lang/Object;)Ljava/lang/Object;", sig := { parameters := [(.object "java/lang/Object")], returnType := some (.object "java/lang/Object") }, accessFlags := 1, code := some k9c6 }
/-- java/util/Optional -/
def k9 : Class := { plain "java/util/Optional" (some 0) with
  accessFlags := 49
  interfaces := #[]
  cf := some (fileOf pool9 2 #[] #[{ accessFlags := 9, nameIndex := 55, descriptorIndex := 56, attributes := #[] }, { accessFlags := 2, nameIndex := 11, descriptorIndex := 25, attributes := #[] }, { accessFlags := 9, nameIndex := 82, descriptorIndex := 65, attributes := #[] }, { accessFlags := 9, nameIndex := 64, descriptorIndex := 65, attributes := #[] }, { accessFlags := 1, nameIndex := 73, descriptorIndex := 74, attributes := #[] }, { accessFlags := 1, nameIndex := 68, descriptorIndex := 46, attributes := #[] }, { accessFlags := 1, nameIndex := 165, descriptorIndex := 22, attributes := #[] }] 49 8 #[] #[{ accessFlags := 26, nameIndex := 5, descriptorIndex := 6, attributes := #[] }, { accessFlags := 18, nameIndex := 15, descriptorIndex := 16, attributes := #[] }])
  fields := #[{ name := "EMPTY", type := (.object "java/util/Optional"), accessFlags := 26, slot := 0, constantValue := 0 }, { name := "value", type := (.object "java/lang/Object"), accessFlags := 18, slot := 0, constantValue := 0 }]
  methods := #[k9m0, k9m1, k9m2, k9m3, k9m4, k9m5, k9m6]
  instanceTypes := #[(.object "java/lang/Object")]
  staticTypes := #[(.object "java/util/Optional")]
  resolved := Array.replicate 187 none
  statics := some 1 }

def pool10 : Array CpInfo := pool [(8, .class_ 10), (1, u "java/lang/Iterable"), (24, .class_ 36), (0, u "java/lang/Object")] 25

/-- java/lang/Iterable -/
def k10 : Class := { plain "java/lang/Iterable" (some 0) with
  accessFlags := 1537
  interfaces := #[]
  cf := some (fileOf pool10 8 #[] #[] 1537 35 #[] #[])
  fields := #[]
  methods := #[]
  instanceTypes := #[]
  staticTypes := #[]
  resolved := Array.replicate 62 none
  statics := none }

def pool11 : Array CpInfo := pool [(10, .class_ 12), (1, u "java/util/Collection"), (47, .class_ 61), (0, u "java/lang/Object"), (0, .class_ 63), (0, u "java/lang/Iterable")] 51

/-- java/util/Collection -/
def k11 : Class := { plain "java/util/Collection" (some 0) with
  accessFlags := 1537
  interfaces := #[10]
  cf := some (fileOf pool11 10 #[] #[] 1537 60 #[62] #[])
  fields := #[]
  methods := #[]
  instanceTypes := #[]
  staticTypes := #[]
  resolved := Array.replicate 115 none
  statics := none }

def pool12 : Array CpInfo := pool [(1, .methodref 2 3), (0, .class_ 4), (0, .nameAndType 5 6), (0, u "java/lang/Object"), (0, u "<init>"), (0, u "()V"), (1, .class_ 10), (1, u "java/util/AbstractCollection"), (66, .class_ 78), (0, u "java/util/Collection")] 81

def k12c0 : Code := { maxStack := 1, maxLocals := 1, code := jdk_22_method_1_code, exceptionTable := #[], attributes := #[] }
def k12m0 : Method := { name := "<init>", desc := "()V", sig := { parameters := [], returnType := none }, accessFlags := 4, code := some k12c0 }
/-- java/util/AbstractCollection -/
def k12 : Class := { plain "java/util/AbstractCollection" (some 0) with
  accessFlags := 1057
  interfaces := #[11]
  cf := some (fileOf pool12 8 #[] #[{ accessFlags := 4, nameIndex := 5, descriptorIndex := 6, attributes := #[] }] 1057 2 #[77] #[])
  fields := #[]
  methods := #[k12m0]
  instanceTypes := #[]
  staticTypes := #[]
  resolved := Array.replicate 160 none
  statics := none }

def pool13 : Array CpInfo := pool [(8, .class_ 10), (1, u "java/util/SequencedCollection"), (15, .class_ 27), (0, u "java/lang/Object"), (0, .class_ 29), (0, u "java/util/Collection")] 27

/-- java/util/SequencedCollection -/
def k13 : Class := { plain "java/util/SequencedCollection" (some 0) with
  accessFlags := 1537
  interfaces := #[11]
  cf := some (fileOf pool13 8 #[] #[] 1537 26 #[28] #[])
  fields := #[]
  methods := #[]
  instanceTypes := #[]
  staticTypes := #[]
  resolved := Array.replicate 57 none
  statics := none }

def pool14 : Array CpInfo := pool [(8, .class_ 10), (1, u "java/util/List"), (92, .class_ 104), (0, u "java/lang/Object"), (15, .class_ 121), (0, u "java/util/SequencedCollection")] 129

/-- java/util/List -/
def k14 : Class := { plain "java/util/List" (some 0) with
  accessFlags := 1537
  interfaces := #[13]
  cf := some (fileOf pool14 8 #[] #[] 1537 103 #[120] #[])
  fields := #[]
  methods := #[]
  instanceTypes := #[]
  staticTypes := #[]
  resolved := Array.replicate 251 none
  statics := none }

def pool15 : Array CpInfo := pool [(1, .methodref 2 3), (0, .class_ 4), (0, .nameAndType 5 6), (0, u "java/util/AbstractCollection"), (0, u "<init>"), (0, u "()V"), (0, .fieldref 8 9), (0, .class_ 10), (0, .nameAndType 11 12), (0, u "java/util/AbstractList"), (0, u "modCount"), (0, u "I"), (64, .class_ 78), (0, u "java/util/AbstractList$Itr"), (3, .class_ 83), (0, u "java/util/AbstractList$ListItr"), (9, .class_ 94), (0, u "java/util/AbstractList$RandomAccessSubList"), (3, .class_ 99), (0, u "java/util/AbstractList$SubList"), (33, .class_ 134), (0, u "java/util/List"), (73, .class_ 209), (0, u "java/util/AbstractList$SubList$1"), (0, .class_ 211), (0, u "java/util/AbstractList$RandomAccessSpliterator")] 6

def k15c0 : Code := { maxStack := 2, maxLocals := 1, code := jdk_39_method_1_code, exceptionTable := #[], attributes := #[] }
def k15m0 : Method := { name := "<init>", desc := "()V", sig := { parameters := [], returnType := none }, accessFlags := 4, code := some k15c0 }
/-- java/util/AbstractList -/
def k15 : Class := { plain "java/util/AbstractList" (some 12) with
  accessFlags := 1057
  interfaces := #[14]
  cf := some (fileOf pool15 8 #[.nestMembers #[93, 98, 208, 210, 82, 77]] #[{ accessFlags := 4, nameIndex := 5, descriptorIndex := 6, attributes := #[] }] 1057 2 #[133] #[{ accessFlags := 132, nameIndex := 11, descriptorIndex := 12, attributes := #[] }])
  fields := #[{ name := "modCount", type := .int, accessFlags := 132, slot := 0, constantValue := 0 }]
  methods := #[k15m0]
  instanceTypes := #[.int]
  staticTypes := #[]
  resolved := Array.replicate 218 none
  statics := none }

def pool16 : Array CpInfo := pool [(1, .class_ 2), (0, u "java/util/RandomAccess"), (0, .class_ 4), (0, u "java/lang/Object")] 2

/-- java/util/RandomAccess -/
def k16 : Class := { plain "java/util/RandomAccess" (some 0) with
  accessFlags := 1537
  interfaces := #[]
  cf := some (fileOf pool16 1 #[] #[] 1537 3 #[] #[])
  fields := #[]
  methods := #[]
  instanceTypes := #[]
  staticTypes := #[]
  resolved := Array.replicate 7 none
  statics := none }

def pool17 : Array CpInfo := pool [(1, .class_ 2), (0, u "java/lang/Cloneable"), (0, .class_ 4), (0, u "java/lang/Object")] 2

/-- java/lang/Cloneable -/
def k17 : Class := { plain "java/lang/Cloneable" (some 0) with
  accessFlags := 1537
  interfaces := #[]
  cf := some (fileOf pool17 1 #[] #[] 1537 3 #[] #[])
  fields := #[]
  methods := #[]
  instanceTypes := #[]
  staticTypes := #[]
  resolved := Array.replicate 7 none
  statics := none }

def pool18 : Array CpInfo := pool [(1, .methodref 2 3), (0, .class_ 4), (0, .nameAndType 5 6), (0, u "java/util/AbstractList"), (0, u "<init>"), (0, u "()V"), (2, .fieldref 10 11), (0, .class_ 12), (0, .nameAndType 13 14), (0, u "java/util/ArrayList"), (0, u "elementData"), (0, u "[Ljava/lang/Object;"), (2, u "EMPTY_ELEMENTDATA"), (21, .fieldref 10 40), (0, .nameAndType 41 14), (0, u "DEFAULTCAPACITY_EMPTY_ELEMENTDATA"), (8, u "size"), (0, u "I"), (96, .class_ 149), (0, u "java/util/List"), (112, .class_ 263), (0, u "java/util/ArrayList$ListItr"), (3, .class_ 268), (0, u "java/util/ArrayList$Itr"), (7, .class_ 277), (0, u "java/util/ArrayList$SubList"), (12, .class_ 291), (0, u "java/util/ArrayList$ArrayListSpliterator"), (37, .class_ 330), (0, u "java/util/RandomAccess"), (0, .class_ 332), (0, u "java/lang/Cloneable"), (0, .class_ 334), (0, u "java/io/Serializable"), (0, u "serialVersionUID"), (0, u "J"), (3, u "DEFAULT_CAPACITY"), (159, .class_ 501), (0, u "java/util/ArrayList$SubList$2"), (0, .class_ 503), (0, u "java/util/ArrayList$SubList$1")] 5

def k18c0 : Code := { maxStack := 2, maxLocals := 1, code := jdk_38_method_2_code, exceptionTable := #[], attributes := #[] }
def k18m0 : Method := { name := "<init>", desc := "()V", sig := { parameters := [], returnType := none }, accessFlags := 1, code := some k18c0 }
/-- java/util/ArrayList -/
def k18 : Class := { plain "java/util/ArrayList" (some 15) with
  accessFlags := 33
  interfaces := #[14, 16, 17, 2]
  cf := some (fileOf pool18 10 #[.nestMembers #[290, 276, 500, 502, 262, 267]] #[{ accessFlags := 1, nameIndex := 5, descriptorIndex := 6, attributes := #[] }] 33 2 #[148, 329, 331, 333] #[{ accessFlags := 26, nameIndex := 335, descriptorIndex := 336, attributes := #[] }, { accessFlags := 26, nameIndex := 340, descriptorIndex := 51, attributes := #[] }, { accessFlags := 26, nameIndex := 17, descriptorIndex := 14, attributes := #[] }, { accessFlags := 26, nameIndex := 41, descriptorIndex := 14, attributes := #[] }, { accessFlags := 128, nameIndex := 13, descriptorIndex := 14, attributes := #[] }, { accessFlags := 2, nameIndex := 50, descriptorIndex := 51, attributes := #[] }])
  fields := #[{ name := "serialVersionUID", type := .long, accessFlags := 26, slot := 0, constantValue := 0 }, { name := "DEFAULT_CAPACITY", type := .int, accessFlags := 26, slot := 1, constantValue := 0 }, { name := "EMPTY_ELEMENTDATA", type := (.array (.object "java/lang/Object")), accessFlags := 26, slot := 2, constantValue := 0 }, { name := "DEFAULTCAPACITY_EMPTY_ELEMENTDATA", type := (.array (.object "java/lang/Object")), accessFlags := 26, slot := 3, constantValue := 0 }, { name := "elementData", type := (.array (.object "java/lang/Object")), accessFlags := 128, slot := 1, constantValue := 0 }, { name := "size", type := .int, accessFlags := 2, slot := 2, constantValue := 0 }]
  methods := #[k18m0]
  instanceTypes := #[.int, (.array (.object "java/lang/Object")), .int]
  staticTypes := #[.long, .int, (.array (.object "java/lang/Object")), (.array (.object "java/lang/Object"))]
  resolved := Array.replicate 509 none
  statics := some 2 }

def pool19 : Array CpInfo := pool [(1, .methodref 2 3), (0, .class_ 4), (0, .nameAndType 5 6), (0, u "java/lang/Object"), (0, u "<init>"), (0, u "()V"), (0, .class_ 8), (0, u "java/lang/Record")] 13

def k19c0 : Code := { maxStack := 1, maxLocals := 1, code := jdk_30_method_1_code, exceptionTable := #[], attributes := #[] }
def k19m0 : Method := { name := "<init>", desc := "()V", sig := { parameters := [], returnType := none }, accessFlags := 4, code := some k19c0 }
/-- java/lang/Record -/
def k19 : Class := { plain "java/lang/Record" (some 0) with
  accessFlags := 1057
  interfaces := #[]
  cf := some (fileOf pool19 7 #[] #[{ accessFlags := 4, nameIndex := 5, descriptorIndex := 6, attributes := #[] }] 1057 2 #[] #[])
  fields := #[]
  methods := #[k19m0]
  instanceTypes := #[]
  staticTypes := #[]
  resolved := Array.replicate 22 none
  statics := none }

def pool20 : Array CpInfo := pool [(1, .methodref 2 3), (0, .class_ 4), (0, .nameAndType 5 6), (0, u "java/lang/Record"), (0, u "<init>"), (0, u "()V"), (0, .fieldref 8 9), (0, .class_ 10), (0, .nameAndType 11 12), (0, u "com/example/typed_api_errors/typedapierrors/error/Occurrence"), (0, u "code"), (0, u "Ljava/lang/String;"), (0, .fieldref 8 14), (0, .nameAndType 15 16), (0, u "status"), (0, u "I"), (0, .fieldref 8 18), (0, .nameAndType 19 20), (0, u "catalogueMessage"), (0, u "Ljava/util/Optional;"), (0, .fieldref 8 22), (0, .nameAndType 23 20), (0, u "ownMessage"), (0, .fieldref 8 25), (0, .nameAndType 26 20), (0, u "trace"), (0, .fieldref 8 28), (0, .nameAndType 29 20), (0, u "moreInfo"), (0, .fieldref 8 31), (0, .nameAndType 32 20), (0, u "target"), (0, .fieldref 8 34), (0, .nameAndType 35 36), (0, u "details"), (0, u "Ljava/util/List;"), (5, .class_ 44), (1, u "java/util/Optional"), (2, .class_ 48), (0, u "com/example/typed_api_errors/typedapierrors/error/Detail$Builder"), (0, .methodref 47 3), (0, .methodref 47 51), (0, .nameAndType 11 52), (0, u "(Ljava/lang/String;)Lcom/example/typed_api_errors/typedapierrors/error/Detail$Builder;"), (0, .methodref 42 54), (0, .nameAndType 55 56), (0, u "orElse"), (0, u "(Ljava/lang/Object;)Ljava/lang/Object;"), (0, .class_ 58), (0, u "java/lang/String"), (0, .methodref 47 60), (0, .nameAndType 61 52), (0, u "message"), (0, .methodref 47 63), (0, .nameAndType 29 52), (0, .class_ 65), (0, u "com/example/typed_api_errors/typedapierrors/error/Target"), (0, .methodref 47 67), (0, .nameAndType 32 68), (0, u "(Lcom/example/typed_api_errors/typedapierrors/error/Target;)Lcom/example/typed_api_errors/typedapierrors/error/Detail$Builder;"), (0, .methodref 47 70), (0, .nameAndType 71 72), (0, u "build"), (0, u "()Lcom/example/typed_api_errors/typedapierrors/error/Detail;"), (16, u "(Ljava/lang/String;ILjava/util/Optional;Ljava/util/Optional;Ljava/util/Optional;Ljava/util/Optional;Ljava/util/Optional;Ljava/util/List;)V"), (6, u "asItem"), (0, u "(Ljava/util/Optional;)Lcom/example/typed_api_errors/typedapierrors/error/Detail;")] 51

def k20c0 : Code := { maxStack := 2, maxLocals := 9, code := prog_9_method_1_code, exceptionTable := #[], attributes := #[] }
def k20m0 : Method := { name := "<init>", desc := "(Ljava/lang/String;ILjava/util/Optional;Ljava/util/Optional;Ljava/util/Optional;Ljava/util/Optional;Ljava/util/Optional;Ljava/util/List;)V", sig := { parameters := [(.object "java/lang/String"), .int, (.object "java/util/Optional"), (.object "java/util/Optional"), (.object "java/util/Optional"), (.object "java/util/Optional"), (.object "java/util/Optional"), (.object "java/util/List")], returnType := none }, accessFlags := 0, code := some k20c0 }
def k20c1 : Code := { maxStack := 3, maxLocals := 2, code := prog_9_method_3_code, exceptionTable := #[], attributes := #[] }
def k20m1 : Method := { name := "asItem", desc := "(Ljava/util/Optional;)Lcom/example/typed_api_errors/typedapierrors/error/Detail;", sig := { parameters := [(.object "java/util/Optional")], returnType := some (.object "com/example/typed_api_errors/typedapierrors/error/Detail") }, accessFlags := 0, code := some k20c1 }
/-- com/example/typed_api_errors/typedapierrors/error/Occurrence -/
def k20 : Class := { plain "com/example/typed_api_errors/typedapierrors/error/Occurrence" (some 19) with
  accessFlags := 48
  interfaces := #[]
  cf := some (fileOf pool20 8 #[] #[{ accessFlags := 0, nameIndex := 5, descriptorIndex := 89, attributes := #[] }, { accessFlags := 0, nameIndex := 96, descriptorIndex := 97, attributes := #[] }] 48 2 #[] #[{ accessFlags := 18, nameIndex := 11, descriptorIndex := 12, attributes := #[] }, { accessFlags := 18, nameIndex := 15, descriptorIndex := 16, attributes := #[] }, { accessFlags := 18, nameIndex := 19, descriptorIndex := 20, attributes := #[] }, { accessFlags := 18, nameIndex := 23, descriptorIndex := 20, attributes := #[] }, { accessFlags := 18, nameIndex := 26, descriptorIndex := 20, attributes := #[] }, { accessFlags := 18, nameIndex := 29, descriptorIndex := 20, attributes := #[] }, { accessFlags := 18, nameIndex := 32, descriptorIndex := 20, attributes := #[] }, { accessFlags := 18, nameIndex := 35, descriptorIndex := 36, attributes := #[] }])
  fields := #[{ name := "code", type := (.object "java/lang/String"), accessFlags := 18, slot := 0, constantValue := 0 }, { name := "status", type := .int, accessFlags := 18, slot := 1, constantValue := 0 }, { name := "catalogueMessage", type := (.object "java/util/Optional"), accessFlags := 18, slot := 2, constantValue := 0 }, { name := "ownMessage", type := (.object "java/util/Optional"), accessFlags := 18, slot := 3, constantValue := 0 }, { name := "trace", type := (.object "java/util/Optional"), accessFlags := 18, slot := 4, constantValue := 0 }, { name := "moreInfo", type := (.object "java/util/Optional"), accessFlags := 18, slot := 5, constantValue := 0 }, { name := "target", type := (.object "java/util/Optional"), accessFlags := 18, slot := 6, constantValue := 0 }, { name := "details", type := (.object "java/util/List"), accessFlags := 18, slot := 7, constantValue := 0 }]
  methods := #[k20m0, k20m1]
  instanceTypes := #[(.object "java/lang/String"), .int, (.object "java/util/Optional"), (.object "java/util/Optional"), (.object "java/util/Optional"), (.object "java/util/Optional"), (.object "java/util/Optional"), (.object "java/util/List")]
  staticTypes := #[]
  resolved := Array.replicate 149 none
  statics := none }

def pool21 : Array CpInfo := pool [(1, .methodref 2 3), (0, .class_ 4), (0, .nameAndType 5 6), (0, u "java/lang/Object"), (0, u "<init>"), (0, u "()V"), (0, .fieldref 8 9), (0, .class_ 10), (0, .nameAndType 11 12), (0, u "com/example/typed_api_errors/typedapierrors/error/Detail$Builder"), (0, u "code"), (0, u "Ljava/lang/String;"), (0, .fieldref 8 14), (0, .nameAndType 15 12), (0, u "message"), (2, u "type"), (0, .fieldref 8 20), (0, .nameAndType 21 22), (0, u "target"), (0, u "Lcom/example/typed_api_errors/typedapierrors/error/Target;"), (0, .fieldref 8 24), (0, .nameAndType 25 12), (0, u "moreInfo"), (2, u "constraint"), (0, u "Lcom/example/typed_api_errors/typedapierrors/error/Constraint;"), (0, .class_ 31), (0, u "com/example/typed_api_errors/typedapierrors/error/Detail"), (0, .methodref 30 33), (0, .nameAndType 5 34), (0, u "(Lcom/example/typed_api_errors/typedapierrors/error/Detail$Builder;)V"), (2, u "(Ljava/lang/String;)Lcom/example/typed_api_errors/typedapierrors/error/Detail$Builder;"), (0, u "(Lcom/example/typed_api_errors/typedapierrors/error/Target;)Lcom/example/typed_api_errors/typedapierrors/error/Detail$Builder;"), (1, u "build"), (0, u "()Lcom/example/typed_api_errors/typedapierrors/error/Detail;")] 5

def k21c0 : Code := { maxStack := 1, maxLocals := 1, code := prog_8_method_1_code, exceptionTable := #[], attributes := #[] }
def k21m0 : Method := { name := "<init>", desc := "()V", sig := { parameters := [], returnType := none }, accessFlags := 1, code := some k21c0 }
def k21c1 : Code := { maxStack := 2, maxLocals := 2, code := prog_8_method_2_code, exceptionTable := #[], attributes := #[] }
def k21m1 : Method := { name := "code", desc := "(Ljava/lang/String;)Lcom/example/typed_api_errors/typedapierrors/error/Detail$Builder;", sig := { parameters := [(.object "java/lang/String")], returnType := some (.object "com/example/typed_api_errors/typedapierrors/error/Detail$Builder") }, accessFlags := 1, code := some k21c1 }
def k21c2 : Code := { maxStack := 2, maxLocals := 2, code := prog_8_method_3_code, exceptionTable := #[], attributes := #[] }
def k21m2 : Method := { name := "message", desc := "(Ljava/lang/String;)Lcom/example/typed_api_errors/typedapierrors/error/Detail$Builder;", sig := { parameters := [(.object "java/lang/String")], returnType := some (.object "com/example/typed_api_errors/typedapierrors/error/Detail$Builder") }, accessFlags := 1, code := some k21c2 }
def k21c3 : Code := { maxStack := 2, maxLocals := 2, code := prog_8_method_5_code, exceptionTable := #[], attributes := #[] }
def k21m3 : Method := { name := "target", desc := "(Lcom/example/typed_api_errors/typedapierrors/error/Target;)Lcom/example/typed_api_errors/typedapierrors/error/Detail$Builder;", sig := { parameters := [(.object "com/example/typed_api_errors/typedapierrors/error/Target")], returnType := some (.object "com/example/typed_api_errors/typedapierrors/error/Detail$Builder") }, accessFlags := 1, code := some k21c3 }
def k21c4 : Code := { maxStack := 2, maxLocals := 2, code := prog_8_method_6_code, exceptionTable := #[], attributes := #[] }
def k21m4 : Method := { name := "moreInfo", desc := "(Ljava/lang/String;)Lcom/example/typed_api_errors/typedapierrors/error/Detail$Builder;", sig := { parameters := [(.object "java/lang/String")], returnType := some (.object "com/example/typed_api_errors/typedapierrors/error/Detail$Builder") }, accessFlags := 1, code := some k21c4 }
def k21c5 : Code := { maxStack := 3, maxLocals := 1, code := prog_8_method_8_code, exceptionTable := #[], attributes := #[] }
def k21m5 : Method := { name := "build", desc := "()Lcom/example/typed_api_errors/typedapierrors/error/Detail;", sig := { parameters := [], returnType := some (.object "com/example/typed_api_errors/typedapierrors/error/Detail") }, accessFlags := 1, code := some k21c5 }
/-- com/example/typed_api_errors/typedapierrors/error/Detail$Builder -/
def k21 : Class := { plain "com/example/typed_api_errors/typedapierrors/error/Detail$Builder" (some 0) with
  accessFlags := 49
  interfaces := #[]
  cf := some (fileOf pool21 8 #[.nestHost 30] #[{ accessFlags := 1, nameIndex := 5, descriptorIndex := 6, attributes := #[] }, { accessFlags := 1, nameIndex := 11, descriptorIndex := 37, attributes := #[] }, { accessFlags := 1, nameIndex := 15, descriptorIndex := 37, attributes := #[] }, { accessFlags := 1, nameIndex := 21, descriptorIndex := 38, attributes := #[] }, { accessFlags := 1, nameIndex := 25, descriptorIndex := 37, attributes := #[] }, { accessFlags := 1, nameIndex := 40, descriptorIndex := 41, attributes := #[] }] 49 2 #[] #[{ accessFlags := 2, nameIndex := 11, descriptorIndex := 12, attributes := #[] }, { accessFlags := 2, nameIndex := 15, descriptorIndex := 12, attributes := #[] }, { accessFlags := 2, nameIndex := 18, descriptorIndex := 12, attributes := #[] }, { accessFlags := 2, nameIndex := 21, descriptorIndex := 22, attributes := #[] }, { accessFlags := 2, nameIndex := 25, descriptorIndex := 12, attributes := #[] }, { accessFlags := 2, nameIndex := 28, descriptorIndex := 29, attributes := #[] }])
  fields := #[{ name := "code", type := (.object "java/lang/String"), accessFlags := 2, slot := 0, constantValue := 0 }, { name := "message", type := (.object "java/lang/String"), accessFlags := 2, slot := 1, constantValue := 0 }, { name := "type", type := (.object "java/lang/String"), accessFlags := 2, slot := 2, constantValue := 0 }, { name := "target", type := (.object "com/example/typed_api_errors/typedapierrors/error/Target"), accessFlags := 2, slot := 3, constantValue := 0 }, { name := "moreInfo", type := (.object "java/lang/String"), accessFlags := 2, slot := 4, constantValue := 0 }, { name := "constraint", type := (.object "com/example/typed_api_errors/typedapierrors/error/Constraint"), accessFlags := 2, slot := 5, constantValue := 0 }]
  methods := #[k21m0, k21m1, k21m2, k21m3, k21m4, k21m5]
  instanceTypes := #[(.object "java/lang/String"), (.object "java/lang/String"), (.object "java/lang/String"), (.object "com/example/typed_api_errors/typedapierrors/error/Target"), (.object "java/lang/String"), (.object "com/example/typed_api_errors/typedapierrors/error/Constraint")]
  staticTypes := #[]
  resolved := Array.replicate 47 none
  statics := none }

def pool22 : Array CpInfo := pool [(1, .methodref 2 3), (0, .class_ 4), (0, .nameAndType 5 6), (0, u "java/lang/Object"), (0, u "<init>"), (0, u "()V"), (0, .fieldref 8 9), (0, .class_ 10), (0, .nameAndType 11 12), (0, u "com/example/typed_api_errors/typedapierrors/error/Detail$Builder"), (0, u "code"), (0, u "Ljava/lang/String;"), (0, .fieldref 14 9), (0, .class_ 15), (0, u "com/example/typed_api_errors/typedapierrors/error/Detail"), (0, .fieldref 8 17), (0, .nameAndType 18 12), (0, u "message"), (0, .fieldref 14 17), (0, .fieldref 8 21), (0, .nameAndType 22 12), (0, u "type"), (0, .fieldref 14 21), (0, .fieldref 8 25), (0, .nameAndType 26 27), (0, u "target"), (0, u "Lcom/example/typed_api_errors/typedapierrors/error/Target;"), (0, .fieldref 14 25), (0, .fieldref 8 30), (0, .nameAndType 31 12), (0, u "moreInfo"), (0, .fieldref 14 30), (0, .fieldref 8 34), (0, .nameAndType 35 36), (0, u "constraint"), (0, u "Lcom/example/typed_api_errors/typedapierrors/error/Constraint;"), (0, .fieldref 14 34), (0, .methodref 39 40), (0, .class_ 41), (0, .nameAndType 42 43), (0, u "java/util/Optional"), (0, u "ofNullable"), (0, u "(Ljava/lang/Object;)Ljava/util/Optional;"), (7, u "UNTYPED"), (0, u "Lcom/example/typed_api_errors/typedapierrors/error/Detail;"), (0, u "(Lcom/example/typed_api_errors/typedapierrors/error/Detail$Builder;)V"), (2, u "()Ljava/util/Optional;")] 10

def k22c0 : Code := { maxStack := 2, maxLocals := 2, code := prog_7_method_1_code, exceptionTable := #[], attributes := #[] }
def k22m0 : Method := { name := "<init>", desc := "(Lcom/example/typed_api_errors/typedapierrors/error/Detail$Builder;)V", sig := { parameters := [(.object "com/example/typed_api_errors/typedapierrors/error/Detail$Builder")], returnType := none }, accessFlags := 2, code := some k22c0 }
def k22c1 : Code := { maxStack := 1, maxLocals := 1, code := prog_7_method_2_code, exceptionTable := #[], attributes := #[] }
def k22m1 : Method := { name := "code", desc := "()Ljava/util/Optional;", sig := { parameters := [], returnType := some (.object "java/util/Optional") }, accessFlags := 1, code := some k22c1 }
def k22c2 : Code := { maxStack := 1, maxLocals := 1, code := prog_7_method_3_code, exceptionTable := #[], attributes := #[] }
def k22m2 : Method := { name := "message", desc := "()Ljava/util/Optional;", sig := { parameters := [], returnType := some (.object "java/util/Optional") }, accessFlags := 1, code := some k22c2 }
def k22c3 : Code := { maxStack := 1, maxLocals := 1, code := prog_7_method_4_code, exceptionTable := #[], attributes := #[] }
def k22m3 : Method := { name := "type", desc := "()Ljava/util/Optional;", sig := { parameters := [], returnType := some (.object "java/util/Optional") }, accessFlags := 1, code := some k22c3 }
def k22c4 : Code := { maxStack := 1, maxLocals := 1, code := prog_7_method_5_code, exceptionTable := #[], attributes := #[] }
def k22m4 : Method := { name := "target", desc := "()Ljava/util/Optional;", sig := { parameters := [], returnType := some (.object "java/util/Optional") }, accessFlags := 1, code := some k22c4 }
def k22c5 : Code := { maxStack := 1, maxLocals := 1, code := prog_7_method_6_code, exceptionTable := #[], attributes := #[] }
def k22m5 : Method := { name := "moreInfo", desc := "()Ljava/util/Optional;", sig := { parameters := [], returnType := some (.object "java/util/Optional") }, accessFlags := 1, code := some k22c5 }
def k22c6 : Code := { maxStack := 1, maxLocals := 1, code := prog_7_method_7_code, exceptionTable := #[], attributes := #[] }
def k22m6 : Method := { name := "constraint", desc := "()Ljava/util/Optional;", sig := { parameters := [], returnType := some (.object "java/util/Optional") }, accessFlags := 1, code := some k22c6 }
/-- com/example/typed_api_errors/typedapierrors/error/Detail -/
def k22 : Class := { plain "com/example/typed_api_errors/typedapierrors/error/Detail" (some 0) with
  accessFlags := 49
  interfaces := #[]
  cf := some (fileOf pool22 14 #[.nestMembers #[8]] #[{ accessFlags := 2, nameIndex := 5, descriptorIndex := 53, attributes := #[] }, { accessFlags := 1, nameIndex := 11, descriptorIndex := 56, attributes := #[] }, { accessFlags := 1, nameIndex := 18, descriptorIndex := 56, attributes := #[] }, { accessFlags := 1, nameIndex := 22, descriptorIndex := 56, attributes := #[] }, { accessFlags := 1, nameIndex := 26, descriptorIndex := 56, attributes := #[] }, { accessFlags := 1, nameIndex := 31, descriptorIndex := 56, attributes := #[] }, { accessFlags := 1, nameIndex := 35, descriptorIndex := 56, attributes := #[] }] 49 2 #[] #[{ accessFlags := 24, nameIndex := 51, descriptorIndex := 52, attributes := #[] }, { accessFlags := 18, nameIndex := 11, descriptorIndex := 12, attributes := #[] }, { accessFlags := 18, nameIndex := 18, descriptorIndex := 12, attributes := #[] }, { accessFlags := 18, nameIndex := 22, descriptorIndex := 12, attributes := #[] }, { accessFlags := 18, nameIndex := 26, descriptorIndex := 27, attributes := #[] }, { accessFlags := 18, nameIndex := 31, descriptorIndex := 12, attributes := #[] }, { accessFlags := 18, nameIndex := 35, descriptorIndex := 36, attributes := #[] }])
  fields := #[{ name := "UNTYPED", type := (.object "com/example/typed_api_errors/typedapierrors/error/Detail"), accessFlags := 24, slot := 0, constantValue := 0 }, { name := "code", type := (.object "java/lang/String"), accessFlags := 18, slot := 0, constantValue := 0 }, { name := "message", type := (.object "java/lang/String"), accessFlags := 18, slot := 1, constantValue := 0 }, { name := "type", type := (.object "java/lang/String"), accessFlags := 18, slot := 2, constantValue := 0 }, { name := "target", type := (.object "com/example/typed_api_errors/typedapierrors/error/Target"), accessFlags := 18, slot := 3, constantValue := 0 }, { name := "moreInfo", type := (.object "java/lang/String"), accessFlags := 18, slot := 4, constantValue := 0 }, { name := "constraint", type := (.object "com/example/typed_api_errors/typedapierrors/error/Constraint"), accessFlags := 18, slot := 5, constantValue := 0 }]
  methods := #[k22m0, k22m1, k22m2, k22m3, k22m4, k22m5, k22m6]
  instanceTypes := #[(.object "java/lang/String"), (.object "java/lang/String"), (.object "java/lang/String"), (.object "com/example/typed_api_errors/typedapierrors/error/Target"), (.object "java/lang/String"), (.object "com/example/typed_api_errors/typedapierrors/error/Constraint")]
  staticTypes := #[(.object "com/example/typed_api_errors/typedapierrors/error/Detail")]
  resolved := ((((((Array.replicate 67 none).setIfInBounds 7 (some (.field 21 0))).setIfInBounds 16 (some (.field 21 1))).setIfInBounds 20 (some (.field 21 2))).setIfInBounds 24 (some (.field 21 3))).setIfInBounds 29 (some (.field 21 4))).setIfInBounds 33 (some (.field 21 5))
  statics := none }

def pool23 : Array CpInfo := pool [(2, .class_ 4), (1, u "java/lang/Object"), (0, u "<init>"), (0, u "()V"), (35, .class_ 44), (1, u "java/util/Objects"), (0, u "requireNonNull"), (0, u "(Ljava/lang/Object;)Ljava/lang/Object;"), (47, u "(Ljava/lang/Object;Ljava/lang/String;)Ljava/lang/Object;")] 89

def k23m0 : Method := { name := "<init>", desc := "()V", sig := { parameters := [], returnType := none }, accessFlags := 2, code := none }
def k23c1 : Code := { maxStack := 2, maxLocals := 1, code := jdk_31_method_10_code, exceptionTable := #[], attributes := #[] }
def k23m1 : Method := { name := "requireNonNull", desc := "(Ljava/lang/Object;)Ljava/lang/Object;", sig := { parameters := [(.object "java/lang/Object")], returnType := some (.object "java/lang/Object") }, accessFlags := 9, code := some k23c1 }
def k23c2 : Code := { maxStack := 3, maxLocals := 2, code := jdk_31_method_11_code, exceptionTable := #[], attributes := #[] }
def k23m2 : Method := { name := "requireNonNull", desc := "(Ljava/lang/Object;Ljava/lang/String;)Ljava/lang/Object;", sig := { parameters := [(.object "java/lang/Object"), (.object "java/lang/String")], returnType := some (.object "java/lang/Object") }, accessFlags := 9, code := some k23c2 }
/-- java/util/Objects -/
def k23 : Class := { plain "java/util/Objects" (some 0) with
  accessFlags := 49
  interfaces := #[]
  cf := some (fileOf pool23 42 #[] #[{ accessFlags := 2, nameIndex := 5, descriptorIndex := 6, attributes := #[] }, { accessFlags := 9, nameIndex := 45, descriptorIndex := 46, attributes := #[] }, { accessFlags := 9, nameIndex := 45, descriptorIndex := 94, attributes := #[] }] 49 2 #[] #[])
  fields := #[]
  methods := #[k23m0, k23m1, k23m2]
  instanceTypes := #[]
  staticTypes := #[]
  resolved := Array.replicate 184 none
  statics := none }

def pool24 : Array CpInfo := pool [(1, .methodref 2 3), (0, .class_ 4), (0, .nameAndType 5 6), (0, u "java/lang/Object"), (0, u "<init>"), (0, u "()V"), (0, .string 8), (0, u "name"), (0, .methodref 10 11), (0, .class_ 12), (0, .nameAndType 13 14), (0, u "java/util/Objects"), (0, u "requireNonNull"), (0, u "(Ljava/lang/Object;Ljava/lang/String;)Ljava/lang/Object;"), (0, .class_ 16), (0, u "java/lang/String"), (0, .fieldref 18 19), (0, .class_ 20), (0, .nameAndType 8 21), (0, u "com/example/typed_api_errors/typedapierrors/error/Target"), (0, u "Ljava/lang/String;"), (0, .fieldref 18 23), (0, .nameAndType 24 21), (0, u "type"), (0, .fieldref 18 26), (0, .nameAndType 27 21), (0, u "value"), (6, u "(Ljava/lang/String;Ljava/lang/String;Ljava/lang/String;)V")] 8

def k24c0 : Code := { maxStack := 3, maxLocals := 4, code := prog_13_method_1_code, exceptionTable := #[], attributes := #[] }
def k24m0 : Method := { name := "<init>", desc := "(Ljava/lang/String;Ljava/lang/String;Ljava/lang/String;)V", sig := { parameters := [(.object "java/lang/String"), (.object "java/lang/String"), (.object "java/lang/String")], returnType := none }, accessFlags := 1, code := some k24c0 }
/-- com/example/typed_api_errors/typedapierrors/error/Target -/
def k24 : Class := { plain "com/example/typed_api_errors/typedapierrors/error/Target" (some 0) with
  accessFlags := 49
  interfaces := #[]
  cf := some (fileOf pool24 18 #[] #[{ accessFlags := 1, nameIndex := 5, descriptorIndex := 34, attributes := #[] }] 49 2 #[] #[{ accessFlags := 18, nameIndex := 8, descriptorIndex := 21, attributes := #[] }, { accessFlags := 18, nameIndex := 24, descriptorIndex := 21, attributes := #[] }, { accessFlags := 18, nameIndex := 27, descriptorIndex := 21, attributes := #[] }])
  fields := #[{ name := "name", type := (.object "java/lang/String"), accessFlags := 18, slot := 0, constantValue := 0 }, { name := "type", type := (.object "java/lang/String"), accessFlags := 18, slot := 1, constantValue := 0 }, { name := "value", type := (.object "java/lang/String"), accessFlags := 18, slot := 2, constantValue := 0 }]
  methods := #[k24m0]
  instanceTypes := #[(.object "java/lang/String"), (.object "java/lang/String"), (.object "java/lang/String")]
  staticTypes := #[]
  resolved := Array.replicate 43 none
  statics := none }

def pool25 : Array CpInfo := pool [(4, .class_ 6), (1, u "java/lang/Object"), (0, u "<init>"), (0, u "()V"), (5, .class_ 16), (1, u "java/lang/StringLatin1"), (104, u "$assertionsDisabled"), (0, u "Z"), (98, .class_ 223), (1, u "java/lang/StringLatin1$LinesSpliterator"), (166, .class_ 391), (0, u "java/lang/StringLatin1$CharsSpliterator")] 3

def k25m0 : Method := { name := "<init>", desc := "()V", sig := { parameters := [], returnType := none }, accessFlags := 0, code := none }
/-- java/lang/StringLatin1 -/
def k25 : Class := { plain "java/lang/StringLatin1" (some 0) with
  accessFlags := 48
  interfaces := #[]
  cf := some (fileOf pool25 14 #[.nestMembers #[390, 221]] #[{ accessFlags := 0, nameIndex := 7, descriptorIndex := 8, attributes := #[] }] 48 4 #[] #[{ accessFlags := 4120, nameIndex := 121, descriptorIndex := 122, attributes := #[] }])
  fields := #[{ name := "$assertionsDisabled", type := .boolean, accessFlags := 4120, slot := 0, constantValue := 0 }]
  methods := #[k25m0]
  instanceTypes := #[]
  staticTypes := #[.boolean]
  resolved := Array.replicate 395 none
  statics := none }

def pool26 : Array CpInfo := pool [(2, .class_ 4), (1, u "java/lang/Object"), (0, u "<init>"), (0, u "()V"), (17, .class_ 26), (1, u "jdk/internal/util/Preconditions"), (28, .class_ 56), (0, u "jdk/internal/util/Preconditions$4"), (57, .class_ 115), (0, u "jdk/internal/util/Preconditions$1"), (7, u "SIOOBE_FORMATTER"), (0, u "Ljava/util/function/BiFunction;"), (0, .class_ 126), (0, u "jdk/internal/util/Preconditions$2"), (3, u "AIOOBE_FORMATTER"), (0, .class_ 132), (0, u "jdk/internal/util/Preconditions$3"), (3, u "IOOBE_FORMATTER")] 57

def k26m0 : Method := { name := "<init>", desc := "()V", sig := { parameters := [], returnType := none }, accessFlags := 1, code := none }
/-- jdk/internal/util/Preconditions -/
def k26 : Class := { plain "jdk/internal/util/Preconditions" (some 0) with
  accessFlags := 33
  interfaces := #[]
  cf := some (fileOf pool26 24 #[.nestMembers #[55, 131, 125, 114]] #[{ accessFlags := 1, nameIndex := 5, descriptorIndex := 6, attributes := #[] }] 33 2 #[] #[{ accessFlags := 25, nameIndex := 123, descriptorIndex := 124, attributes := #[] }, { accessFlags := 25, nameIndex := 130, descriptorIndex := 124, attributes := #[] }, { accessFlags := 25, nameIndex := 136, descriptorIndex := 124, attributes := #[] }])
  fields := #[{ name := "SIOOBE_FORMATTER", type := (.object "java/util/function/BiFunction"), accessFlags := 25, slot := 0, constantValue := 0 }, { name := "AIOOBE_FORMATTER", type := (.object "java/util/function/BiFunction"), accessFlags := 25, slot := 1, constantValue := 0 }, { name := "IOOBE_FORMATTER", type := (.object "java/util/function/BiFunction"), accessFlags := 25, slot := 2, constantValue := 0 }]
  methods := #[k26m0]
  instanceTypes := #[]
  staticTypes := #[(.object "java/util/function/BiFunction"), (.object "java/util/function/BiFunction"), (.object "java/util/function/BiFunction")]
  resolved := Array.replicate 194 none
  statics := some 3 }

def pool27 : Array CpInfo := pool [(9, u "<init>"), (6, .class_ 18), (1, u "java/lang/Object"), (0, u "()V"), (1, .class_ 23), (1, u "jdk/internal/util/ArraysSupport"), (0, u "LOG2_ARRAY_LONG_INDEX_SCALE"), (0, u "I"), (2, u "U"), (0, u "Ljdk/internal/misc/Unsafe;"), (8, u "BIG_ENDIAN"), (0, u "Z"), (8, u "LOG2_BYTE_BIT_SIZE"), (4, u "LOG2_ARRAY_INT_INDEX_SCALE"), (54, u "JLA"), (0, u "Ljdk/internal/access/JavaLangAccess;"), (11, u "LOG2_ARRAY_BOOLEAN_INDEX_SCALE"), (9, u "LOG2_ARRAY_BYTE_INDEX_SCALE"), (5, u "LOG2_ARRAY_CHAR_INDEX_SCALE"), (5, u "LOG2_ARRAY_SHORT_INDEX_SCALE"), (18, u "LOG2_ARRAY_FLOAT_INDEX_SCALE"), (24, u "LOG2_ARRAY_DOUBLE_INDEX_SCALE"), (89, u "T_BOOLEAN"), (2, u "T_CHAR"), (1, u "T_FLOAT"), (1, u "T_DOUBLE"), (1, u "T_BYTE"), (1, u "T_SHORT"), (1, u "T_INT"), (1, u "T_LONG"), (1, u "SOFT_MAX_ARRAY_LENGTH")] 83

def k27m0 : Method := { name := "<init>", desc := "()V", sig := { parameters := [], returnType := none }, accessFlags := 2, code := none }
/-- jdk/internal/util/ArraysSupport -/
def k27 : Class := { plain "jdk/internal/util/ArraysSupport" (some 0) with
  accessFlags := 33
  interfaces := #[]
  cf := some (fileOf pool27 21 #[] #[{ accessFlags := 2, nameIndex := 9, descriptorIndex := 19, attributes := #[] }] 33 16 #[] #[{ accessFlags := 24, nameIndex := 28, descriptorIndex := 29, attributes := #[] }, { accessFlags := 26, nameIndex := 38, descriptorIndex := 39, attributes := #[] }, { accessFlags := 25, nameIndex := 121, descriptorIndex := 25, attributes := #[] }, { accessFlags := 25, nameIndex := 131, descriptorIndex := 25, attributes := #[] }, { accessFlags := 25, nameIndex := 137, descriptorIndex := 25, attributes := #[] }, { accessFlags := 25, nameIndex := 143, descriptorIndex := 25, attributes := #[] }, { accessFlags := 25, nameIndex := 53, descriptorIndex := 25, attributes := #[] }, { accessFlags := 25, nameIndex := 24, descriptorIndex := 25, attributes := #[] }, { accessFlags := 25, nameIndex := 162, descriptorIndex := 25, attributes := #[] }, { accessFlags := 25, nameIndex := 187, descriptorIndex := 25, attributes := #[] }, { accessFlags := 26, nameIndex := 48, descriptorIndex := 25, attributes := #[] }, { accessFlags := 25, nameIndex := 277, descriptorIndex := 25, attributes := #[] }, { accessFlags := 25, nameIndex := 280, descriptorIndex := 25, attributes := #[] }, { accessFlags := 25, nameIndex := 282, descriptorIndex := 25, attributes := #[] }, { accessFlags := 25, nameIndex := 284, descriptorIndex := 25, attributes := #[] }, { accessFlags := 25, nameIndex := 286, descriptorIndex := 25, attributes := #[] }, { accessFlags := 25, nameIndex := 288, descriptorIndex := 25, attributes := #[] }, { accessFlags := 25, nameIndex := 290, descriptorIndex := 25, attributes := #[] }, { accessFlags := 25, nameIndex := 292, descriptorIndex := 25, attributes := #[] }, { accessFlags := 26, nameIndex := 108, descriptorIndex := 109, attributes := #[] }, { accessFlags := 25, nameIndex := 294, descriptorIndex := 25, attributes := #[] }])
  fields := #[{ name := "U", type := (.object "jdk/internal/misc/Unsafe"), accessFlags := 24, slot := 0, constantValue := 0 }, { name := "BIG_ENDIAN", type := .boolean, accessFlags := 26, slot := 1, constantValue := 0 }, { name := "LOG2_ARRAY_BOOLEAN_INDEX_SCALE", type := .int, accessFlags := 25, slot := 2, constantValue := 0 }, { name := "LOG2_ARRAY_BYTE_INDEX_SCALE", type := .int, accessFlags := 25, slot := 3, constantValue := 0 }, { name := "LOG2_ARRAY_CHAR_INDEX_SCALE", type := .int, accessFlags := 25, slot := 4, constantValue := 0 }, { name := "LOG2_ARRAY_SHORT_INDEX_SCALE", type := .int, accessFlags := 25, slot := 5, constantValue := 0 }, { name := "LOG2_ARRAY_INT_INDEX_SCALE", type := .int, accessFlags := 25, slot := 6, constantValue := 0 }, { name := "LOG2_ARRAY_LONG_INDEX_SCALE", type := .int, accessFlags := 25, slot := 7, constantValue := 0 }, { name := "LOG2_ARRAY_FLOAT_INDEX_SCALE", type := .int, accessFlags := 25, slot := 8, constantValue := 0 }, { name := "LOG2_ARRAY_DOUBLE_INDEX_SCALE", type := .int, accessFlags := 25, slot := 9, constantValue := 0 }, { name := "LOG2_BYTE_BIT_SIZE", type := .int, accessFlags := 26, slot := 10, constantValue := 0 }, { name := "T_BOOLEAN", type := .int, accessFlags := 25, slot := 11, constantValue := 0 }, { name := "T_CHAR", type := .int, accessFlags := 25, slot := 12, constantValue := 0 }, { name := "T_FLOAT", type := .int, accessFlags := 25, slot := 13, constantValue := 0 }, { name := "T_DOUBLE", type := .int, accessFlags := 25, slot := 14, constantValue := 0 }, { name := "T_BYTE", type := .int, accessFlags := 25, slot := 15, constantValue := 0 }, { name := "T_SHORT", type := .int, accessFlags := 25, slot := 16, constantValue := 0 }, { name := "T_INT", type := .int, accessFlags := 25, slot := 17, constantValue := 0 }, { name := "T_LONG", type := .int, accessFlags := 25, slot := 18, constantValue := 0 }, { name := "JLA", type := (.object "jdk/internal/access/JavaLangAccess"), accessFlags := 26, slot := 19, constantValue := 0 }, { name := "SOFT_MAX_ARRAY_LENGTH", type := .int, accessFlags := 25, slot := 20, constantValue := 0 }]
  methods := #[k27m0]
  instanceTypes := #[]
  staticTypes := #[(.object "jdk/internal/misc/Unsafe"), .boolean, .int, .int, .int, .int, .int, .int, .int, .int, .int, .int, .int, .int, .int, .int, .int, .int, .int, (.object "jdk/internal/access/JavaLangAccess"), .int]
  resolved := Array.replicate 378 none
  statics := none }

/-- the primitive byte -/
def k28 : Class := { plain "byte" none with kind := .primitive 'B', accessFlags := 0x411 }
/-- [B -/
def k29 : Class := { plain "[B" (some 0) with kind := .array 28 .byte, interfaces := #[17, 2], accessFlags := 1041 }

/-- the primitive char -/
def k30 : Class := { plain "char" none with kind := .primitive 'C', accessFlags := 0x411 }
/-- [C -/
def k31 : Class := { plain "[C" (some 0) with kind := .array 30 .char, interfaces := #[17, 2], accessFlags := 1041 }

/-- the primitive int -/
def k32 : Class := { plain "int" none with kind := .primitive 'I', accessFlags := 0x411 }
/-- [I -/
def k33 : Class := { plain "[I" (some 0) with kind := .array 32 .int, interfaces := #[17, 2], accessFlags := 1041 }

/-- [Ljava/lang/Object; -/
def k34 : Class := { plain "[Ljava/lang/Object;" (some 0) with kind := .array 0 (.object "java/lang/Object"), interfaces := #[17, 2], accessFlags := 1041 }

def heap : Heap := #[{ cls := 7, slots := #[.long 0, .int 1, .null, .int 0, .null, .int 0, .int 0], vm := .statics 7 },
  { cls := 9, slots := #[.ref 6], vm := .statics 9 },
  { cls := 18, slots := #[.long 0, .int 0, .ref 4, .ref 5], vm := .statics 18 },
  { cls := 26, slots := #[.null, .null, .null], vm := .statics 26 },
  { cls := 34, slots := #[], vm := .none },
  { cls := 34, slots := #[], vm := .none },
  { cls := 9, slots := #[.null], vm := .none }]
def classes : Array Class := #[k0, k1, k2, k3, k4, k5, k6, k7, k8, k9, k10, k11, k12, k13, k14, k15, k16, k17, k18, k19, k20, k21, k22, k23, k24, k25, k26, k27, k28, k29, k30, k31, k32, k33, k34]
def interned : List (Array UInt16 × Addr) := []
def slotsUsed : Nat := 16
def theMethod : MethodId := ⟨1, 3⟩
def args0 : Array Value := #[.int 5, .int 7, .int 9, .int 5, .int 7, .int 9]
def aboutOver (below : List Frame) : State where
  vm := { classes := classes, interned := interned.toArray }
  heap := heap
  slotsUsed := slotsUsed
  threads := #[{ frames := .invoking theMethod args0 :: below }]
def below0 : List Frame := [.native { method := ⟨0, 0⟩, args := #[] }]
def about1 : State := aboutOver below0
def p0 : Program := .bare "" "" ""
def e0 : Env := launch0.env 0 0 0
theorem w_frames : about1.frames = Frame.invoking theMethod args0 :: below0 := rfl
set_option maxRecDepth 65536 in
theorem w_args : argsFit about1.vm theMethod args0 = true := by decide +kernel
set_option maxRecDepth 65536 in
theorem w_heap : heapFits about1 = true := by decide +kernel
set_option maxRecDepth 65536 in
theorem w_runnable : about1.curStatus? = some .runnable := by decide +kernel
set_option maxRecDepth 65536 in
theorem w_alone : about1.alone = true := by decide +kernel
set_option maxRecDepth 65536 in
theorem w_named : about1.methodNamed? x = some theMethod := by decide +kernel
set_option maxRecDepth 65536 in
theorem w_hears : about1.hears theMethod below0 = true := by decide +kernel
set_option maxRecDepth 65536 in
theorem w_ripe : about1.ripe theMethod args0 below0 = true := by decide +kernel
theorem w_running : about1.status = .running := rfl
set_option maxRecDepth 65536 in
theorem w_room : about1.hasRoom e0.platform room_1 = true :=
  launch0.hasRoom_least _ room_1 (by decide +kernel) (by decide +kernel) (by decide +kernel) (by decide +kernel) (by decide +kernel) (by decide +kernel)
theorem allAtoms_all (ts : List Jvm.Cond) (a : Array Jvm.Value) (st : Jvm.State) : (allAtoms ts).before a st = ts.all (fun c => c.before a st) := by
  induction ts with
  | nil => rfl
  | cons c t ih =>
    show (Jvm.Cond.and c (allAtoms t)).before a st = _
    rw [Jvm.Cond.before_and, ih, List.all_cons]
def words1 : List Jvm.Cond := Jvm.Cond.code x code maxLocals ret :: tables_1
/-- a 'code' word, met by the world's own term for the bytes: nothing is compared byte by byte -/
theorem code_word {y : MethodName} {bytes : ByteArray} {mx : Nat} {rt : Option FieldType} {a : Array Value} {s : State} {m : MethodId} {meth : Method} {c : Code} (h1 : s.methodNamed? y = some m) (h2 : s.vm.method? m = some meth) (h3 : meth.code = some c) (h4 : c.code = bytes)
    (h5 : (c.maxLocals == mx && c.exceptionTable.isEmpty && decide (c.maxStack ≤ mostOperands) && decide (meth.sig.returnType = rt) && !meth.locks && decide (parseMethodDescriptor y.desc = some meth.sig)) = true) : (Jvm.Cond.code y bytes mx rt).before a s = true := by
  simp only [Bool.and_eq_true, beq_iff_eq, Bool.not_eq_true', decide_eq_true_eq] at h5
  obtain ⟨⟨⟨⟨⟨g1, g2⟩, g3⟩, g4⟩, g5⟩, g6⟩ := h5
  simp [Cond.before, Cond.holds, Cond.value, h1, h2, h3, h4, g1, g2, g3, g4, g5, g6]
def isCode : Jvm.Cond → Bool
  | .code _ _ _ _ => true
  | _ => false
theorem all_split {L : List Jvm.Cond} {P : Jvm.Cond → Bool} (h1 : L.all (fun c => isCode c || P c) = true) (h2 : ∀ c ∈ L.filter isCode, P c = true) : L.all P = true := by
  refine List.all_eq_true.mpr fun c hc => ?_
  have h := List.all_eq_true.mp h1 c hc
  rcases Bool.eq_false_or_eq_true (isCode c) with hi | hi
  · exact h2 c (List.mem_filter.mpr ⟨hc, hi⟩)
  · simpa [hi] using h
set_option maxRecDepth 65536 in
theorem w_c0 : (Jvm.Cond.code x code maxLocals ret).before args0 about1 = true := code_word (m := ⟨1, 3⟩) (meth := k1m3) (c := k1c3) (by decide +kernel) rfl rfl rfl (by decide +kernel)
set_option maxRecDepth 65536 in
theorem w_c1 : (Jvm.Cond.code ({ cls := "com/example/typed_api_errors/typedapierrors/error/OccurrenceAsItemPinLaw", name := "str2", desc := "(II)Ljava/lang/String;" } : Jvm.MethodName) method_2_code (3 : Nat) (Option.some (Jvm.ClassFile.FieldType.object "java/lang/String"))).before args0 about1 = true := code_word (m := ⟨1, 1⟩) (meth := k1m1) (c := k1c1) (by decide +kernel) rfl rfl rfl (by decide +kernel)
set_option maxRecDepth 65536 in
theorem w_c2 : (Jvm.Cond.code ({ cls := "java/lang/String", name := "<init>", desc := "([C)V" } : Jvm.MethodName) jdk_42_method_3_code (2 : Nat) (Option.none : Option Jvm.ClassFile.FieldType)).before args0 about1 = true := code_word (m := ⟨7, 1⟩) (meth := k7m1) (c := k7c1) (by decide +kernel) rfl rfl rfl (by decide +kernel)
set_option maxRecDepth 65536 in
theorem w_c3 : (Jvm.Cond.code ({ cls := "java/lang/String", name := "<init>", desc := "([CIILjava/lang/Void;)V" } : Jvm.MethodName) jdk_42_method_149_code (6 : Nat) (Option.none : Option Jvm.ClassFile.FieldType)).before args0 about1 = true := code_word (m := ⟨7, 3⟩) (meth := k7m3) (c := k7c3) (by decide +kernel) rfl rfl rfl (by decide +kernel)
set_option maxRecDepth 65536 in
theorem w_c4 : (Jvm.Cond.code ({ cls := "java/lang/Object", name := "<init>", desc := "()V" } : Jvm.MethodName) object_method_1_code (1 : Nat) (Option.none : Option Jvm.ClassFile.FieldType)).before args0 about1 = true := code_word (m := ⟨0, 0⟩) (meth := k0m0) (c := k0c0) (by decide +kernel) rfl rfl rfl (by decide +kernel)
set_option maxRecDepth 65536 in
theorem w_c5 : (Jvm.Cond.code ({ cls := "java/lang/StringUTF16", name := "compress", desc := "([CII)[B" } : Jvm.MethodName) jdk_52_method_16_code (6 : Nat) (Option.some (Jvm.ClassFile.FieldType.array Jvm.ClassFile.FieldType.byte))).before args0 about1 = true := code_word (m := ⟨8, 2⟩) (meth := k8m2) (c := k8c2) (by decide +kernel) rfl rfl rfl (by decide +kernel)
set_option maxRecDepth 65536 in
theorem w_c6 : (Jvm.Cond.code ({ cls := "java/lang/StringUTF16", name := "compress", desc := "([CI[BII)I" } : Jvm.MethodName) jdk_52_method_21_code (7 : Nat) (Option.some Jvm.ClassFile.FieldType.int)).before args0 about1 = true := code_word (m := ⟨8, 3⟩) (meth := k8m3) (c := k8c3) (by decide +kernel) rfl rfl rfl (by decide +kernel)
set_option maxRecDepth 65536 in
theorem w_c7 : (Jvm.Cond.code ({ cls := "java/lang/StringUTF16", name := "coderFromArrayLen", desc := "([BI)B" } : Jvm.MethodName) jdk_52_method_15_code (2 : Nat) (Option.some Jvm.ClassFile.FieldType.byte)).before args0 about1 = true := code_word (m := ⟨8, 1⟩) (meth := k8m1) (c := k8c1) (by decide +kernel) rfl rfl rfl (by decide +kernel)
set_option maxRecDepth 65536 in
theorem w_c8 : (Jvm.Cond.code ({ cls := "java/util/Optional", name := "empty", desc := "()Ljava/util/Optional;" } : Jvm.MethodName) jdk_32_method_1_code (1 : Nat) (Option.some (Jvm.ClassFile.FieldType.object "java/util/Optional"))).before args0 about1 = true := code_word (m := ⟨9, 0⟩) (meth := k9m0) (c := k9c0) (by decide +kernel) rfl rfl rfl (by decide +kernel)
set_option maxRecDepth 65536 in
theorem w_c9 : (Jvm.Cond.code ({ cls := "java/util/ArrayList", name := "<init>", desc := "()V" } : Jvm.MethodName) jdk_38_method_2_code (1 : Nat) (Option.none : Option Jvm.ClassFile.FieldType)).before args0 about1 = true := code_word (m := ⟨18, 0⟩) (meth := k18m0) (c := k18c0) (by decide +kernel) rfl rfl rfl (by decide +kernel)
set_option maxRecDepth 65536 in
theorem w_c10 : (Jvm.Cond.code ({ cls := "java/util/AbstractList", name := "<init>", desc := "()V" } : Jvm.MethodName) jdk_39_method_1_code (1 : Nat) (Option.none : Option Jvm.ClassFile.FieldType)).before args0 about1 = true := code_word (m := ⟨15, 0⟩) (meth := k15m0) (c := k15c0) (by decide +kernel) rfl rfl rfl (by decide +kernel)
set_option maxRecDepth 65536 in
theorem w_c11 : (Jvm.Cond.code ({ cls := "java/util/AbstractCollection", name := "<init>", desc := "()V" } : Jvm.MethodName) jdk_22_method_1_code (1 : Nat) (Option.none : Option Jvm.ClassFile.FieldType)).before args0 about1 = true := code_word (m := ⟨12, 0⟩) (meth := k12m0) (c := k12c0) (by decide +kernel) rfl rfl rfl (by decide +kernel)
set_option maxRecDepth 65536 in
theorem w_c12 : (Jvm.Cond.code ({ cls := "com/example/typed_api_errors/typedapierrors/error/Occurrence", name := "<init>", desc := "(Ljava/lang/String;ILjava/util/Optional;Ljava/util/Optional;Ljava/util/Optional;Ljava/util/Optional;Ljava/util/Optional;Ljava/util/List;)V" } : Jvm.MethodName) prog_9_method_1_code (9 : Nat) (Option.none : Option Jvm.ClassFile.FieldType)).before args0 about1 = true := code_word (m := ⟨20, 0⟩) (meth := k20m0) (c := k20c0) (by decide +kernel) rfl rfl rfl (by decide +kernel)
set_option maxRecDepth 65536 in
theorem w_c13 : (Jvm.Cond.code ({ cls := "java/lang/Record", name := "<init>", desc := "()V" } : Jvm.MethodName) jdk_30_method_1_code (1 : Nat) (Option.none : Option Jvm.ClassFile.FieldType)).before args0 about1 = true := code_word (m := ⟨19, 0⟩) (meth := k19m0) (c := k19c0) (by decide +kernel) rfl rfl rfl (by decide +kernel)
set_option maxRecDepth 65536 in
theorem w_c14 : (Jvm.Cond.code ({ cls := "com/example/typed_api_errors/typedapierrors/error/Occurrence", name := "asItem", desc := "(Ljava/util/Optional;)Lcom/example/typed_api_errors/typedapierrors/error/Detail;" } : Jvm.MethodName) prog_9_method_3_code (2 : Nat) (Option.some (Jvm.ClassFile.FieldType.object "com/example/typed_api_errors/typedapierrors/error/Detail"))).before args0 about1 = true := code_word (m := ⟨20, 1⟩) (meth := k20m1) (c := k20c1) (by decide +kernel) rfl rfl rfl (by decide +kernel)
set_option maxRecDepth 65536 in
theorem w_c15 : (Jvm.Cond.code ({ cls := "com/example/typed_api_errors/typedapierrors/error/Detail$Builder", name := "<init>", desc := "()V" } : Jvm.MethodName) prog_8_method_1_code (1 : Nat) (Option.none : Option Jvm.ClassFile.FieldType)).before args0 about1 = true := code_word (m := ⟨21, 0⟩) (meth := k21m0) (c := k21c0) (by decide +kernel) rfl rfl rfl (by decide +kernel)
set_option maxRecDepth 65536 in
theorem w_c16 : (Jvm.Cond.code ({ cls := "com/example/typed_api_errors/typedapierrors/error/Detail$Builder", name := "code", desc := "(Ljava/lang/String;)Lcom/example/typed_api_errors/typedapierrors/error/Detail$Builder;" } : Jvm.MethodName) prog_8_method_2_code (2 : Nat) (Option.some (Jvm.ClassFile.FieldType.object "com/example/typed_api_errors/typedapierrors/error/Detail$Builder"))).before args0 about1 = true := code_word (m := ⟨21, 1⟩) (meth := k21m1) (c := k21c1) (by decide +kernel) rfl rfl rfl (by decide +kernel)
set_option maxRecDepth 65536 in
theorem w_c17 : (Jvm.Cond.code ({ cls := "java/util/Optional", name := "orElse", desc := "(Ljava/lang/Object;)Ljava/lang/Object;" } : Jvm.MethodName) jdk_32_method_15_code (2 : Nat) (Option.some (Jvm.ClassFile.FieldType.object "java/lang/Object"))).before args0 about1 = true := code_word (m := ⟨9, 6⟩) (meth := k9m6) (c := k9c6) (by decide +kernel) rfl rfl rfl (by decide +kernel)
set_option maxRecDepth 65536 in
theorem w_c18 : (Jvm.Cond.code ({ cls := "com/example/typed_api_errors/typedapierrors/error/Detail$Builder", name := "message", desc := "(Ljava/lang/String;)Lcom/example/typed_api_errors/typedapierrors/error/Detail$Builder;" } : Jvm.MethodName) prog_8_method_3_code (2 : Nat) (Option.some (Jvm.ClassFile.FieldType.object "com/example/typed_api_errors/typedapierrors/error/Detail$Builder"))).before args0 about1 = true := code_word (m := ⟨21, 2⟩) (meth := k21m2) (c := k21c2) (by decide +kernel) rfl rfl rfl (by decide +kernel)
set_option maxRecDepth 65536 in
theorem w_c19 : (Jvm.Cond.code ({ cls := "com/example/typed_api_errors/typedapierrors/error/Detail$Builder", name := "moreInfo", desc := "(Ljava/lang/String;)Lcom/example/typed_api_errors/typedapierrors/error/Detail$Builder;" } : Jvm.MethodName) prog_8_method_6_code (2 : Nat) (Option.some (Jvm.ClassFile.FieldType.object "com/example/typed_api_errors/typedapierrors/error/Detail$Builder"))).before args0 about1 = true := code_word (m := ⟨21, 4⟩) (meth := k21m4) (c := k21c4) (by decide +kernel) rfl rfl rfl (by decide +kernel)
set_option maxRecDepth 65536 in
theorem w_c20 : (Jvm.Cond.code ({ cls := "com/example/typed_api_errors/typedapierrors/error/Detail$Builder", name := "target", desc := "(Lcom/example/typed_api_errors/typedapierrors/error/Target;)Lcom/example/typed_api_errors/typedapierrors/error/Detail$Builder;" } : Jvm.MethodName) prog_8_method_5_code (2 : Nat) (Option.some (Jvm.ClassFile.FieldType.object "com/example/typed_api_errors/typedapierrors/error/Detail$Builder"))).before args0 about1 = true := code_word (m := ⟨21, 3⟩) (meth := k21m3) (c := k21c3) (by decide +kernel) rfl rfl rfl (by decide +kernel)
set_option maxRecDepth 65536 in
theorem w_c21 : (Jvm.Cond.code ({ cls := "com/example/typed_api_errors/typedapierrors/error/Detail$Builder", name := "build", desc := "()Lcom/example/typed_api_errors/typedapierrors/error/Detail;" } : Jvm.MethodName) prog_8_method_8_code (1 : Nat) (Option.some (Jvm.ClassFile.FieldType.object "com/example/typed_api_errors/typedapierrors/error/Detail"))).before args0 about1 = true := code_word (m := ⟨21, 5⟩) (meth := k21m5) (c := k21c5) (by decide +kernel) rfl rfl rfl (by decide +kernel)
set_option maxRecDepth 65536 in
theorem w_c22 : (Jvm.Cond.code ({ cls := "com/example/typed_api_errors/typedapierrors/error/Detail", name := "<init>", desc := "(Lcom/example/typed_api_errors/typedapierrors/error/Detail$Builder;)V" } : Jvm.MethodName) prog_7_method_1_code (2 : Nat) (Option.none : Option Jvm.ClassFile.FieldType)).before args0 about1 = true := code_word (m := ⟨22, 0⟩) (meth := k22m0) (c := k22c0) (by decide +kernel) rfl rfl rfl (by decide +kernel)
set_option maxRecDepth 65536 in
theorem w_c23 : (Jvm.Cond.code ({ cls := "com/example/typed_api_errors/typedapierrors/error/Detail", name := "code", desc := "()Ljava/util/Optional;" } : Jvm.MethodName) prog_7_method_2_code (1 : Nat) (Option.some (Jvm.ClassFile.FieldType.object "java/util/Optional"))).before args0 about1 = true := code_word (m := ⟨22, 1⟩) (meth := k22m1) (c := k22c1) (by decide +kernel) rfl rfl rfl (by decide +kernel)
set_option maxRecDepth 65536 in
theorem w_c24 : (Jvm.Cond.code ({ cls := "java/util/Optional", name := "ofNullable", desc := "(Ljava/lang/Object;)Ljava/util/Optional;" } : Jvm.MethodName) jdk_32_method_4_code (1 : Nat) (Option.some (Jvm.ClassFile.FieldType.object "java/util/Optional"))).before args0 about1 = true := code_word (m := ⟨9, 3⟩) (meth := k9m3) (c := k9c3) (by decide +kernel) rfl rfl rfl (by decide +kernel)
set_option maxRecDepth 65536 in
theorem w_c25 : (Jvm.Cond.code ({ cls := "java/util/Optional", name := "<init>", desc := "(Ljava/lang/Object;)V" } : Jvm.MethodName) jdk_32_method_2_code (2 : Nat) (Option.none : Option Jvm.ClassFile.FieldType)).before args0 about1 = true := code_word (m := ⟨9, 1⟩) (meth := k9m1) (c := k9c1) (by decide +kernel) rfl rfl rfl (by decide +kernel)
set_option maxRecDepth 65536 in
theorem w_c26 : (Jvm.Cond.code ({ cls := "com/example/typed_api_errors/typedapierrors/error/Detail", name := "message", desc := "()Ljava/util/Optional;" } : Jvm.MethodName) prog_7_method_3_code (1 : Nat) (Option.some (Jvm.ClassFile.FieldType.object "java/util/Optional"))).before args0 about1 = true := code_word (m := ⟨22, 2⟩) (meth := k22m2) (c := k22c2) (by decide +kernel) rfl rfl rfl (by decide +kernel)
set_option maxRecDepth 65536 in
theorem w_c27 : (Jvm.Cond.code ({ cls := "com/example/typed_api_errors/typedapierrors/error/Detail", name := "moreInfo", desc := "()Ljava/util/Optional;" } : Jvm.MethodName) prog_7_method_6_code (1 : Nat) (Option.some (Jvm.ClassFile.FieldType.object "java/util/Optional"))).before args0 about1 = true := code_word (m := ⟨22, 5⟩) (meth := k22m5) (c := k22c5) (by decide +kernel) rfl rfl rfl (by decide +kernel)
set_option maxRecDepth 65536 in
theorem w_c28 : (Jvm.Cond.code ({ cls := "com/example/typed_api_errors/typedapierrors/error/Detail", name := "target", desc := "()Ljava/util/Optional;" } : Jvm.MethodName) prog_7_method_5_code (1 : Nat) (Option.some (Jvm.ClassFile.FieldType.object "java/util/Optional"))).before args0 about1 = true := code_word (m := ⟨22, 4⟩) (meth := k22m4) (c := k22c4) (by decide +kernel) rfl rfl rfl (by decide +kernel)
set_option maxRecDepth 65536 in
theorem w_c29 : (Jvm.Cond.code ({ cls := "com/example/typed_api_errors/typedapierrors/error/Detail", name := "type", desc := "()Ljava/util/Optional;" } : Jvm.MethodName) prog_7_method_4_code (1 : Nat) (Option.some (Jvm.ClassFile.FieldType.object "java/util/Optional"))).before args0 about1 = true := code_word (m := ⟨22, 3⟩) (meth := k22m3) (c := k22c3) (by decide +kernel) rfl rfl rfl (by decide +kernel)
set_option maxRecDepth 65536 in
theorem w_c30 : (Jvm.Cond.code ({ cls := "com/example/typed_api_errors/typedapierrors/error/Detail", name := "constraint", desc := "()Ljava/util/Optional;" } : Jvm.MethodName) prog_7_method_7_code (1 : Nat) (Option.some (Jvm.ClassFile.FieldType.object "java/util/Optional"))).before args0 about1 = true := code_word (m := ⟨22, 6⟩) (meth := k22m6) (c := k22c6) (by decide +kernel) rfl rfl rfl (by decide +kernel)
set_option maxRecDepth 65536 in
theorem w_c31 : (Jvm.Cond.code ({ cls := "com/example/typed_api_errors/typedapierrors/error/OccurrenceAsItemPinLaw", name := "same", desc := "(Ljava/util/Optional;ZLjava/lang/String;)Z" } : Jvm.MethodName) method_3_code (3 : Nat) (Option.some Jvm.ClassFile.FieldType.boolean)).before args0 about1 = true := code_word (m := ⟨1, 2⟩) (meth := k1m2) (c := k1c2) (by decide +kernel) rfl rfl rfl (by decide +kernel)
set_option maxRecDepth 65536 in
theorem w_c32 : (Jvm.Cond.code ({ cls := "java/util/Optional", name := "isPresent", desc := "()Z" } : Jvm.MethodName) jdk_32_method_6_code (1 : Nat) (Option.some Jvm.ClassFile.FieldType.boolean)).before args0 about1 = true := code_word (m := ⟨9, 5⟩) (meth := k9m5) (c := k9c5) (by decide +kernel) rfl rfl rfl (by decide +kernel)
set_option maxRecDepth 65536 in
theorem w_c33 : (Jvm.Cond.code ({ cls := "java/util/Optional", name := "get", desc := "()Ljava/lang/Object;" } : Jvm.MethodName) jdk_32_method_5_code (1 : Nat) (Option.some (Jvm.ClassFile.FieldType.object "java/lang/Object"))).before args0 about1 = true := code_word (m := ⟨9, 4⟩) (meth := k9m4) (c := k9c4) (by decide +kernel) rfl rfl rfl (by decide +kernel)
set_option maxRecDepth 65536 in
theorem w_c34 : (Jvm.Cond.code ({ cls := "java/lang/String", name := "equals", desc := "(Ljava/lang/Object;)Z" } : Jvm.MethodName) jdk_42_method_66_code (3 : Nat) (Option.some Jvm.ClassFile.FieldType.boolean)).before args0 about1 = true := code_word (m := ⟨7, 2⟩) (meth := k7m2) (c := k7c2) (by decide +kernel) rfl rfl rfl (by decide +kernel)
set_option maxRecDepth 65536 in
theorem w_c35 : (Jvm.Cond.code ({ cls := "java/util/Optional", name := "of", desc := "(Ljava/lang/Object;)Ljava/util/Optional;" } : Jvm.MethodName) jdk_32_method_3_code (1 : Nat) (Option.some (Jvm.ClassFile.FieldType.object "java/util/Optional"))).before args0 about1 = true := code_word (m := ⟨9, 2⟩) (meth := k9m2) (c := k9c2) (by decide +kernel) rfl rfl rfl (by decide +kernel)
set_option maxRecDepth 65536 in
theorem w_c36 : (Jvm.Cond.code ({ cls := "java/util/Objects", name := "requireNonNull", desc := "(Ljava/lang/Object;)Ljava/lang/Object;" } : Jvm.MethodName) jdk_31_method_10_code (1 : Nat) (Option.some (Jvm.ClassFile.FieldType.object "java/lang/Object"))).before args0 about1 = true := code_word (m := ⟨23, 1⟩) (meth := k23m1) (c := k23c1) (by decide +kernel) rfl rfl rfl (by decide +kernel)
set_option maxRecDepth 65536 in
theorem w_c37 : (Jvm.Cond.code ({ cls := "com/example/typed_api_errors/typedapierrors/error/Target", name := "<init>", desc := "(Ljava/lang/String;Ljava/lang/String;Ljava/lang/String;)V" } : Jvm.MethodName) prog_13_method_1_code (4 : Nat) (Option.none : Option Jvm.ClassFile.FieldType)).before args0 about1 = true := code_word (m := ⟨24, 0⟩) (meth := k24m0) (c := k24c0) (by decide +kernel) rfl rfl rfl (by decide +kernel)
set_option maxRecDepth 65536 in
theorem w_c38 : (Jvm.Cond.code ({ cls := "java/util/Objects", name := "requireNonNull", desc := "(Ljava/lang/Object;Ljava/lang/String;)Ljava/lang/Object;" } : Jvm.MethodName) jdk_31_method_11_code (2 : Nat) (Option.some (Jvm.ClassFile.FieldType.object "java/lang/Object"))).before args0 about1 = true := code_word (m := ⟨23, 2⟩) (meth := k23m2) (c := k23c2) (by decide +kernel) rfl rfl rfl (by decide +kernel)
def codes1 : List Jvm.Cond := [Jvm.Cond.code x code maxLocals ret, Jvm.Cond.code ({ cls := "com/example/typed_api_errors/typedapierrors/error/OccurrenceAsItemPinLaw", name := "str2", desc := "(II)Ljava/lang/String;" } : Jvm.MethodName) method_2_code (3 : Nat) (Option.some (Jvm.ClassFile.FieldType.object "java/lang/String")), Jvm.Cond.code ({ cls := "java/lang/String", name := "<init>", desc := "([C)V" } : Jvm.MethodName) jdk_42_method_3_code (2 : Nat) (Option.none : Option Jvm.ClassFile.FieldType), Jvm.Cond.code ({ cls := "java/lang/String", name := "<init>", desc := "([CIILjava/lang/Void;)V" } : Jvm.MethodName) jdk_42_method_149_code (6 : Nat) (Option.none : Option Jvm.ClassFile.FieldType), Jvm.Cond.code ({ cls := "java/lang/Object", name := "<init>", desc := "()V" } : Jvm.MethodName) object_method_1_code (1 : Nat) (Option.none : Option Jvm.ClassFile.FieldType), Jvm.Cond.code ({ cls := "java/lang/StringUTF16", name := "compress", desc := "([CII)[B" } : Jvm.MethodName) jdk_52_method_16_code (6 : Nat) (Option.some (Jvm.ClassFile.FieldType.array Jvm.ClassFile.FieldType.byte)), Jvm.Cond.code ({ cls := "java/lang/StringUTF16", name := "compress", desc := "([CI[BII)I" } : Jvm.MethodName) jdk_52_method_21_code (7 : Nat) (Option.some Jvm.ClassFile.FieldType.int), Jvm.Cond.code ({ cls := "java/lang/StringUTF16", name := "coderFromArrayLen", desc := "([BI)B" } : Jvm.MethodName) jdk_52_method_15_code (2 : Nat) (Option.some Jvm.ClassFile.FieldType.byte), Jvm.Cond.code ({ cls := "java/util/Optional", name := "empty", desc := "()Ljava/util/Optional;" } : Jvm.MethodName) jdk_32_method_1_code (1 : Nat) (Option.some (Jvm.ClassFile.FieldType.object "java/util/Optional")), Jvm.Cond.code ({ cls := "java/util/ArrayList", name := "<init>", desc := "()V" } : Jvm.MethodName) jdk_38_method_2_code (1 : Nat) (Option.none : Option Jvm.ClassFile.FieldType), Jvm.Cond.code ({ cls := "java/util/AbstractList", name := "<init>", desc := "()V" } : Jvm.MethodName) jdk_39_method_1_code (1 : Nat) (Option.none : Option Jvm.ClassFile.FieldType), Jvm.Cond.code ({ cls := "java/util/AbstractCollection", name := "<init>", desc := "()V" } : Jvm.MethodName) jdk_22_method_1_code (1 : Nat) (Option.none : Option Jvm.ClassFile.FieldType), Jvm.Cond.code ({ cls := "com/example/typed_api_errors/typedapierrors/error/Occurrence", name := "<init>", desc := "(Ljava/lang/String;ILjava/util/Optional;Ljava/util/Optional;Ljava/util/Optional;Ljava/util/Optional;Ljava/util/Optional;Ljava/util/List;)V" } : Jvm.MethodName) prog_9_method_1_code (9 : Nat) (Option.none : Option Jvm.ClassFile.FieldType), Jvm.Cond.code ({ cls := "java/lang/Record", name := "<init>", desc := "()V" } : Jvm.MethodName) jdk_30_method_1_code (1 : Nat) (Option.none : Option Jvm.ClassFile.FieldType), Jvm.Cond.code ({ cls := "com/example/typed_api_errors/typedapierrors/error/Occurrence", name := "asItem", desc := "(Ljava/util/Optional;)Lcom/example/typed_api_errors/typedapierrors/error/Detail;" } : Jvm.MethodName) prog_9_method_3_code (2 : Nat) (Option.some (Jvm.ClassFile.FieldType.object "com/example/typed_api_errors/typedapierrors/error/Detail")), Jvm.Cond.code ({ cls := "com/example/typed_api_errors/typedapierrors/error/Detail$Builder", name := "<init>", desc := "()V" } : Jvm.MethodName) prog_8_method_1_code (1 : Nat) (Option.none : Option Jvm.ClassFile.FieldType), Jvm.Cond.code ({ cls := "com/example/typed_api_errors/typedapierrors/error/Detail$Builder", name := "code", desc := "(Ljava/lang/String;)Lcom/example/typed_api_errors/typedapierrors/error/Detail$Builder;" } : Jvm.MethodName) prog_8_method_2_code (2 : Nat) (Option.some (Jvm.ClassFile.FieldType.object "com/example/typed_api_errors/typedapierrors/error/Detail$Builder")), Jvm.Cond.code ({ cls := "java/util/Optional", name := "orElse", desc := "(Ljava/lang/Object;)Ljava/lang/Object;" } : Jvm.MethodName) jdk_32_method_15_code (2 : Nat) (Option.some (Jvm.ClassFile.FieldType.object "java/lang/Object")), Jvm.Cond.code ({ cls := "com/example/typed_api_errors/typedapierrors/error/Detail$Builder", name := "message", desc := "(Ljava/lang/String;)Lcom/example/typed_api_errors/typedapierrors/error/Detail$Builder;" } : Jvm.MethodName) prog_8_method_3_code (2 : Nat) (Option.some (Jvm.ClassFile.FieldType.object "com/example/typed_api_errors/typedapierrors/error/Detail$Builder")), Jvm.Cond.code ({ cls := "com/example/typed_api_errors/typedapierrors/error/Detail$Builder", name := "moreInfo", desc := "(Ljava/lang/String;)Lcom/example/typed_api_errors/typedapierrors/error/Detail$Builder;" } : Jvm.MethodName) prog_8_method_6_code (2 : Nat) (Option.some (Jvm.ClassFile.FieldType.object "com/example/typed_api_errors/typedapierrors/error/Detail$Builder")), Jvm.Cond.code ({ cls := "com/example/typed_api_errors/typedapierrors/error/Detail$Builder", name := "target", desc := "(Lcom/example/typed_api_errors/typedapierrors/error/Target;)Lcom/example/typed_api_errors/typedapierrors/error/Detail$Builder;" } : Jvm.MethodName) prog_8_method_5_code (2 : Nat) (Option.some (Jvm.ClassFile.FieldType.object "com/example/typed_api_errors/typedapierrors/error/Detail$Builder")), Jvm.Cond.code ({ cls := "com/example/typed_api_errors/typedapierrors/error/Detail$Builder", name := "build", desc := "()Lcom/example/typed_api_errors/typedapierrors/error/Detail;" } : Jvm.MethodName) prog_8_method_8_code (1 : Nat) (Option.some (Jvm.ClassFile.FieldType.object "com/example/typed_api_errors/typedapierrors/error/Detail")), Jvm.Cond.code ({ cls := "com/example/typed_api_errors/typedapierrors/error/Detail", name := "<init>", desc := "(Lcom/example/typed_api_errors/typedapierrors/error/Detail$Builder;)V" } : Jvm.MethodName) prog_7_method_1_code (2 : Nat) (Option.none : Option Jvm.ClassFile.FieldType), Jvm.Cond.code ({ cls := "com/example/typed_api_errors/typedapierrors/error/Detail", name := "code", desc := "()Ljava/util/Optional;" } : Jvm.MethodName) prog_7_method_2_code (1 : Nat) (Option.some (Jvm.ClassFile.FieldType.object "java/util/Optional")), Jvm.Cond.code ({ cls := "java/util/Optional", name := "ofNullable", desc := "(Ljava/lang/Object;)Ljava/util/Optional;" } : Jvm.MethodName) jdk_32_method_4_code (1 : Nat) (Option.some (Jvm.ClassFile.FieldType.object "java/util/Optional")), Jvm.Cond.code ({ cls := "java/util/Optional", name := "<init>", desc := "(Ljava/lang/Object;)V" } : Jvm.MethodName) jdk_32_method_2_code (2 : Nat) (Option.none : Option Jvm.ClassFile.FieldType), Jvm.Cond.code ({ cls := "com/example/typed_api_errors/typedapierrors/error/Detail", name := "message", desc := "()Ljava/util/Optional;" } : Jvm.MethodName) prog_7_method_3_code (1 : Nat) (Option.some (Jvm.ClassFile.FieldType.object "java/util/Optional")), Jvm.Cond.code ({ cls := "com/example/typed_api_errors/typedapierrors/error/Detail", name := "moreInfo", desc := "()Ljava/util/Optional;" } : Jvm.MethodName) prog_7_method_6_code (1 : Nat) (Option.some (Jvm.ClassFile.FieldType.object "java/util/Optional")), Jvm.Cond.code ({ cls := "com/example/typed_api_errors/typedapierrors/error/Detail", name := "target", desc := "()Ljava/util/Optional;" } : Jvm.MethodName) prog_7_method_5_code (1 : Nat) (Option.some (Jvm.ClassFile.FieldType.object "java/util/Optional")), Jvm.Cond.code ({ cls := "com/example/typed_api_errors/typedapierrors/error/Detail", name := "type", desc := "()Ljava/util/Optional;" } : Jvm.MethodName) prog_7_method_4_code (1 : Nat) (Option.some (Jvm.ClassFile.FieldType.object "java/util/Optional")), Jvm.Cond.code ({ cls := "com/example/typed_api_errors/typedapierrors/error/Detail", name := "constraint", desc := "()Ljava/util/Optional;" } : Jvm.MethodName) prog_7_method_7_code (1 : Nat) (Option.some (Jvm.ClassFile.FieldType.object "java/util/Optional")), Jvm.Cond.code ({ cls := "com/example/typed_api_errors/typedapierrors/error/OccurrenceAsItemPinLaw", name := "same", desc := "(Ljava/util/Optional;ZLjava/lang/String;)Z" } : Jvm.MethodName) method_3_code (3 : Nat) (Option.some Jvm.ClassFile.FieldType.boolean), Jvm.Cond.code ({ cls := "java/util/Optional", name := "isPresent", desc := "()Z" } : Jvm.MethodName) jdk_32_method_6_code (1 : Nat) (Option.some Jvm.ClassFile.FieldType.boolean), Jvm.Cond.code ({ cls := "java/util/Optional", name := "get", desc := "()Ljava/lang/Object;" } : Jvm.MethodName) jdk_32_method_5_code (1 : Nat) (Option.some (Jvm.ClassFile.FieldType.object "java/lang/Object")), Jvm.Cond.code ({ cls := "java/lang/String", name := "equals", desc := "(Ljava/lang/Object;)Z" } : Jvm.MethodName) jdk_42_method_66_code (3 : Nat) (Option.some Jvm.ClassFile.FieldType.boolean), Jvm.Cond.code ({ cls := "java/util/Optional", name := "of", desc := "(Ljava/lang/Object;)Ljava/util/Optional;" } : Jvm.MethodName) jdk_32_method_3_code (1 : Nat) (Option.some (Jvm.ClassFile.FieldType.object "java/util/Optional")), Jvm.Cond.code ({ cls := "java/util/Objects", name := "requireNonNull", desc := "(Ljava/lang/Object;)Ljava/lang/Object;" } : Jvm.MethodName) jdk_31_method_10_code (1 : Nat) (Option.some (Jvm.ClassFile.FieldType.object "java/lang/Object")), Jvm.Cond.code ({ cls := "com/example/typed_api_errors/typedapierrors/error/Target", name := "<init>", desc := "(Ljava/lang/String;Ljava/lang/String;Ljava/lang/String;)V" } : Jvm.MethodName) prog_13_method_1_code (4 : Nat) (Option.none : Option Jvm.ClassFile.FieldType), Jvm.Cond.code ({ cls := "java/util/Objects", name := "requireNonNull", desc := "(Ljava/lang/Object;Ljava/lang/String;)Ljava/lang/Object;" } : Jvm.MethodName) jdk_31_method_11_code (2 : Nat) (Option.some (Jvm.ClassFile.FieldType.object "java/lang/Object"))]
set_option maxRecDepth 65536 in
theorem codes_eq : words1.filter isCode = codes1 := rfl
theorem w_codes : ∀ c ∈ words1.filter isCode, c.before args0 about1 = true := by
  rw [codes_eq]
  intro c hc
  simp only [codes1, List.mem_cons, List.not_mem_nil, or_false] at hc
  rcases hc with rfl | rfl | rfl | rfl | rfl | rfl | rfl | rfl | rfl | rfl | rfl | rfl | rfl | rfl | rfl | rfl | rfl | rfl | rfl | rfl | rfl | rfl | rfl | rfl | rfl | rfl | rfl | rfl | rfl | rfl | rfl | rfl | rfl | rfl | rfl | rfl | rfl | rfl | rfl
  · exact w_c0
  · exact w_c1
  · exact w_c2
  · exact w_c3
  · exact w_c4
  · exact w_c5
  · exact w_c6
  · exact w_c7
  · exact w_c8
  · exact w_c9
  · exact w_c10
  · exact w_c11
  · exact w_c12
  · exact w_c13
  · exact w_c14
  · exact w_c15
  · exact w_c16
  · exact w_c17
  · exact w_c18
  · exact w_c19
  · exact w_c20
  · exact w_c21
  · exact w_c22
  · exact w_c23
  · exact w_c24
  · exact w_c25
  · exact w_c26
  · exact w_c27
  · exact w_c28
  · exact w_c29
  · exact w_c30
  · exact w_c31
  · exact w_c32
  · exact w_c33
  · exact w_c34
  · exact w_c35
  · exact w_c36
  · exact w_c37
  · exact w_c38
set_option maxRecDepth 65536 in
theorem w_t1 : (words1.take 24).all (fun c => isCode c || c.before args0 about1) = true := by decide +kernel
set_option maxRecDepth 65536 in
theorem w_t2 : ((words1.drop 24).take 24).all (fun c => isCode c || c.before args0 about1) = true := by decide +kernel
set_option maxRecDepth 65536 in
theorem w_t3 : (((words1.drop 24).drop 24).take 24).all (fun c => isCode c || c.before args0 about1) = true := by decide +kernel
set_option maxRecDepth 65536 in
theorem w_t4 : ((((words1.drop 24).drop 24).drop 24).take 24).all (fun c => isCode c || c.before args0 about1) = true := by decide +kernel
set_option maxRecDepth 65536 in
theorem w_t5 : (((((words1.drop 24).drop 24).drop 24).drop 24).take 24).all (fun c => isCode c || c.before args0 about1) = true := by decide +kernel
set_option maxRecDepth 65536 in
theorem w_t6 : ((((((words1.drop 24).drop 24).drop 24).drop 24).drop 24).take 24).all (fun c => isCode c || c.before args0 about1) = true := by decide +kernel
set_option maxRecDepth 65536 in
theorem w_t7 : (((((((words1.drop 24).drop 24).drop 24).drop 24).drop 24).drop 24).take 24).all (fun c => isCode c || c.before args0 about1) = true := by decide +kernel
set_option maxRecDepth 65536 in
theorem w_t8 : ((((((((words1.drop 24).drop 24).drop 24).drop 24).drop 24).drop 24).drop 24).take 24).all (fun c => isCode c || c.before args0 about1) = true := by decide +kernel
set_option maxRecDepth 65536 in
theorem w_t9 : (((((((((words1.drop 24).drop 24).drop 24).drop 24).drop 24).drop 24).drop 24).drop 24).take 24).all (fun c => isCode c || c.before args0 about1) = true := by decide +kernel
set_option maxRecDepth 65536 in
theorem w_t10 : ((((((((((words1.drop 24).drop 24).drop 24).drop 24).drop 24).drop 24).drop 24).drop 24).drop 24).take 24).all (fun c => isCode c || c.before args0 about1) = true := by decide +kernel
set_option maxRecDepth 65536 in
theorem w_t11 : ((((((((((words1.drop 24).drop 24).drop 24).drop 24).drop 24).drop 24).drop 24).drop 24).drop 24).drop 24).all (fun c => isCode c || c.before args0 about1) = true := by decide +kernel
theorem w_tables : (allAtoms (Jvm.Cond.code x code maxLocals ret :: tables_1)).before args0 about1 = true := by
  rw [allAtoms_all]
  show words1.all (fun c => c.before args0 about1) = true
  refine all_split ?_ w_codes
  rw [← List.take_append_drop 24 words1, List.all_append, w_t1, ← List.take_append_drop 24 (words1.drop 24), List.all_append, w_t2, ← List.take_append_drop 24 ((words1.drop 24).drop 24), List.all_append, w_t3, ← List.take_append_drop 24 (((words1.drop 24).drop 24).drop 24), List.all_append, w_t4, ← List.take_append_drop 24 ((((words1.drop 24).drop 24).drop 24).drop 24), List.all_append, w_t5, ← List.take_append_drop 24 (((((words1.drop 24).drop 24).drop 24).drop 24).drop 24), List.all_append, w_t6, ← List.take_append_drop 24 ((((((words1.drop 24).drop 24).drop 24).drop 24).drop 24).drop 24), List.all_append, w_t7, ← List.take_append_drop 24 (((((((words1.drop 24).drop 24).drop 24).drop 24).drop 24).drop 24).drop 24), List.all_append, w_t8, ← List.take_append_drop 24 ((((((((words1.drop 24).drop 24).drop 24).drop 24).drop 24).drop 24).drop 24).drop 24), List.all_append, w_t9, ← List.take_append_drop 24 (((((((((words1.drop 24).drop 24).drop 24).drop 24).drop 24).drop 24).drop 24).drop 24).drop 24), List.all_append, w_t10, w_t11]
  rfl
set_option maxRecDepth 65536 in
theorem w_rest : rest_1_c.before args0 about1 = true := by decide +kernel
set_option maxRecDepth 65536 in
theorem w_case : (Jvm.Cond.and given_1 narrow_1).before args0 about1 = true := by decide +kernel
theorem w_applies : (headSpec (Jvm.Cond.code x code maxLocals ret :: tables_1) room_1).applies x e0.platform about1 = true :=
  (Spec.applies_iff w_frames).mpr ⟨w_running, w_runnable, w_alone, w_named, w_hears, w_ripe, w_room, w_tables⟩
theorem atStart : AtStart classFile x code maxLocals ret World_1 tables_1 room_1 Calls_1 rest_1 Pre_1 launch0 p0 e0 about1 theMethod args0 below0 :=
  ⟨lists_1, trivial, launch0.admits_env _ _ _, launch0.least_env, fairChoices_fair.cas, fairChoices_fair.clock, w_frames, w_args, w_heap, w_applies, trivial, w_rest, w_case⟩
end start1
theorem witness_1 : WitnessClaimed_1 := ⟨start1.p0, start1.e0, start1.about1, start1.theMethod, start1.args0, start1.below0, start1.atStart⟩
end Jvm.Pilot.@@N@@
