import JvmDerived
import JvmDerived.Pilot.@@N@@Statement
import JvmDerived.Pilot.@@N@@Code
set_option linter.unusedVariables false
set_option linter.unusedSimpArgs false
namespace Jvm.RoadKit
open Sem ClassFile Op Lib Jvm.Stand Jvm.Free Jvm.LawKit
section New
variable {p : Program} {l : Launch} {e : Env} {R : Room} {s : State} {m : MethodId} {args : Array Value} {below : List Frame} {meth : Method} {c : Code} {T : State} {locs : List Loc} {cells slots : Nat}
theorem retI (X : Stand p l e R s m args below meth c T locs cells slots) (hx : p.tables.exec = Jvm.exec) {pc : Nat} {Ls : Array Slot} {z : Int32} {rest : List Value} (hret : meth.sig.returnType = some .int) (hd : decode c.code pc = .ok (.ireturn, 1)) {fs : List Frame}
    (hl : ∀ (f : JFrame) (acts : List Action), f.method = m → f.locked = none → f.entered = [] → (doReturn e (T.setTop f) acts (some (.int z))).1 = T.setFrames fs) : Steps p.tables e below (T.setTop (mkF m pc Ls (.int z :: rest))) (T.setFrames fs) :=
  retOut X hx hret rfl (Or.inl ⟨rfl, Or.inl rfl, z, rfl⟩) hd hl
theorem own_lremM {g : JFrame} {target : State} (X : Stand p l e R s m args below meth c T locs cells slots) (hx : p.tables.exec = Jvm.exec) (hg : g.method = m) {x y : Int64} {rest : List Value} (hd : decode c.code g.pc = .ok (.lrem, 1)) (hs : g.stack = .long y :: .long x :: rest) (hy : y ≠ 0)
    (hr : Steps p.tables e below (T.setTop { g with pc := g.pc + 1, stack := .long (x % y) :: rest }) target) : Steps p.tables e below (T.setTop g) target := by
  have q : x - x / y * y = x % y := lrem_mod x y
  exact XS.lrem X.here hx hg hd hs hy (by rw [q]; exact hr)
theorem own_evInt {Z : State} {args : Array Value} {t : Term} {k : Int32} (h : (Jvm.Cond.eq t (.int k)).value args Z none Z [] = some true) : t.eval args Z none [] Z = some (.int k) := by
  obtain ⟨x, y, h1, h2, -, -⟩ := cmp_v (Or.inl h)
  have hy : y = .int k := Option.some.inj (h2.symm.trans (Term.int_eval k))
  subst hy
  have hx : x = .int k := by
    cases x <;> simp [Cond.value, h1, h2] at h ⊢
    exact h
  rw [h1, hx]
theorem own_selPriv {y : MethodName} {kI : Nat} (hI : (Jvm.Cond.instantiable y.cls kI).before args s = true) (hpriv : s.PrivateAt y) (hinst : (Jvm.Cond.instanceMethod y).before args s = true) (hy : y.cls ≠ "java/lang/invoke/MethodHandle" ∧ y.cls ≠ "java/lang/invoke/VarHandle") : (Jvm.Cond.selects y.cls y y).before args s = true := by
  obtain ⟨c, k, h1, h2, -, h4, -⟩ := Cond.instantiable_spec hI
  exact selects_self_of_private h1 h2 (Bool.or_eq_false_iff.mp h4).1 hpriv hinst hy
theorem own_since0 (s : State) : s.Since s.vm 0 := (State.WarmedH.refl s).since _
theorem own_irr32 (x : Int32) : ¬ (x < x) := Int32.lt_irrefl
theorem own_irr64 (x : Int64) : ¬ (x < x) := Int64.lt_irrefl
theorem own_fldInt {Z : State} {args : Array Value} {t : Term} {a : Addr} {C n d : String} {k : Int32} (ev : t.eval args Z none [] Z = some (.ref a)) (h : (Jvm.Cond.eq (.field t C n d) (.int k)).value args Z none Z [] = some true) : Fld Z Z.heap a C n d (.int k) := by
  obtain ⟨x, y, h1, h2, -, -⟩ := cmp_v (Or.inl h)
  have hy : y = .int k := Option.some.inj (h2.symm.trans (Term.int_eval k))
  subst hy
  have hx : x = .int k := by
    cases x <;> simp [Cond.value, h1, h2] at h ⊢
    exact h
  rw [fld_at ev] at h1
  exact Fld.start (hx ▸ h1)
end New
end Jvm.RoadKit
namespace Jvm.RoadKit
open Sem ClassFile Op Lib Bundle Jvm.Stand Jvm.Free Jvm.LawKit Jvm.Free.SB Jvm.Free.SBG
theorem own_safeArv {Z : State} {EL : List (String × Nat)} {vm : Vm} {h : Heap} {x : Addr} {k : ClassId} {ty : FieldType} {z : Int32} {vs : List Value} {d : Value} (hal : Z.vm.Alike vm) (V : Arv Z h x k ty z vs d) (ht : ty ≠ .byte) : Safe Z EL vm h x := by
  obtain ⟨c, A, -⟩ := V; exact Safe.arr hal A ht
theorem own_backSafe {p : Program} {l : Launch} {e : Env} {R : Room} {s : State} {args : Array Value} {below : List Frame} {Z : State} {a0 : Array Value} {EL : List (String × Nat)} {h : Heap} {vm0 : Vm} {ss : List Addr} {y : MethodName} {bytes : ByteArray} {maxL : Nat} {ret : Option FieldType} {rm : Room} {len W : Nat} {as' : Array Value} {Q : Option Value → Heap → List Loc → Prop}
    (hM : MetFree l y (head1 [Cond.code y bytes maxL ret] rm) (fun a U => a = as' ∧ Z.Warmed39 U.vm ∧ U.heap = h ∧ CHv Z EL U.vm h ∧ ∀ x ∈ ss, Safe Z EL U.vm h x) (fun _ _ _ _ _ => True) (fun _ U o U' => ∃ v L, o = .returned v ∧ Q v U'.heap L ∧ CHr Z EL U.vm U.heap U'.vm U'.heap ∧ ReturnedEndW U o U' L rm.cells rm.slots))
    (hZ : Z.Warmed39 vm0) (wc : (Cond.code y bytes maxL ret).before a0 Z = true) (wz : (Cond.initialized y.cls).before a0 Z = true) (hf : rm.frames + 1 ≤ R.frames) (hl : W + (maxL + 11) + rm.locals ≤ R.locals) (hEL : EW Z a0 EL) (H : CHv Z EL vm0 h) (hs : ∀ x ∈ ss, x < h.size ∧ Safe Z EL vm0 h x) :
    BackS l R p e below (s.setVm vm0) args y len W (fun A a => a = as' ∧ A.U.heap = h ∧ A.cells + rm.cells ≤ R.cells ∧ A.slots + rm.slots ≤ R.slots)
      (fun A _ v B => ∃ L, Q v B.U.heap L ∧ B.locs = A.locs ++ L ∧ B.cells = A.cells + rm.cells ∧ B.slots = A.slots + rm.slots ∧ CHr Z EL vm0 h B.U.vm B.U.heap) := by
  refine BackS.of_freeW (bytes := bytes) (maxL := maxL) (ret := ret) (E := fun _ first o t L k n => k = rm.cells ∧ n = rm.slots ∧ (∃ v, o = .returned v ∧ Q v t.heap L) ∧ CHr Z EL first.vm first.heap t.vm t.heap) hM hf hl ?_ ?_ (fun _ _ _ _ _ _ _ _ _ => trivial) ?_ ?_
  · intro m meth c A a Y hp
    have hU : Z.Warmed39 A.U.vm := wtrans (s := s.setVm vm0) hZ Y.warmed
    exact ⟨by show (Cond.and _ .tt).before a A.U = true; rw [Cond.before_and, mv hU wc]; rfl, mv hU wc, mv hU wz, hp.2.2.1, hp.2.2.2⟩
  · intro m meth c A a g mk Y hp
    have q := CHv.at Y hZ hEL H
    exact ⟨hp.1, wtrans (s := s.setVm vm0) hZ Y.warmed, hp.2.1, q.1, fun x hx => q.safe (hs x hx).1 (hs x hx).2⟩
  · intro a first o t hq
    obtain ⟨v, L, h1, h2, h3, h4⟩ := hq
    exact ⟨L, _, _, h4, rfl, rfl, ⟨v, h1, h2⟩, h3⟩
  · intro m meth c A a g mk v t L k n Y hp _ _ hE
    obtain ⟨e1, e2, ⟨v', e3, e4⟩, e5⟩ := hE
    cases e3; subst e1 e2
    refine ⟨L, e4, rfl, rfl, rfl, (CHv.at Y hZ hEL H).trans ?_⟩
    rw [← hp.2.1]; exact e5
end Jvm.RoadKit
/- laws to paste: Road.backV (cut by pick.py; bodies as the Statement names them) -/
namespace Jvm.Pilot.@@N@@
namespace StrChars
open Jvm Sem ClassFile Op Lib Jvm.Stand Jvm.Free.XT Jvm.Free.ALB Jvm.Free.JM Jvm.Free
open Jvm.Lib.Cold (StaticIs)
/-- a char array whose places are chars -/
def Ch (a : Addr) (A : Cell) (U : State) : Prop := Arr .char a A U ∧ Typed .char A
theorem Ch.mv {a : Addr} {A : Cell} {U U' : State} (h : Ch a A U) (hal : U.vm.Alike U'.vm) (hh : U'.heap = U.heap) : Ch a A U' := ⟨h.1.mv hal hh, h.2⟩
theorem Ch.keep {a : Addr} {A : Cell} {U U' : State} (h : Ch a A U) (hal : U.vm.Alike U'.vm) (hk : U'.heap[a]? = some A) : Ch a A U' := ⟨h.1.keep hal hk, h.2⟩
/-- what place i of a char[]'s cell holds -/
def cv (A : Cell) (i : Nat) : Int32 := match A.slots[i]? with | some (.int x) => x | _ => 0
theorem Ch.get {a : Addr} {A : Cell} {U : State} (h : Ch a A U) {i : Nat} (hi : i < A.slots.size) : A.slots[i]? = some (.int (cv A i)) := by
  have e := Array.getElem?_eq_getElem hi
  have f := h.2 i _ e
  unfold cv; rw [e]
  generalize A.slots[i] = v at f
  cases v <;> simp [fits] at f ⊢
/-- the byte that i2b leaves of a char -/
def lo8 (x : Int32) : Int32 := x.toInt8.toInt32
theorem fits_lo8 (y : Int32) : fits .byte (.int (lo8 y)) = true := by
  have h1 := y.toInt8.le_toInt
  have h2 := y.toInt8.toInt_lt
  simp only [lo8, fits, Bool.and_eq_true, decide_eq_true_eq, Int32.le_iff_toInt_le, Int8.toInt_toInt32, show (-128 : Int32).toInt = -128 from by decide, show (127 : Int32).toInt = 127 from by decide]
  omega
/-- A' is A but that each place j of lo .. hi - 1 holds f j -/
def Laid (A A' : Cell) (lo hi : Nat) (f : Nat → Value) : Prop := A'.cls = A.cls ∧ A'.vm = A.vm ∧ A'.slots.size = A.slots.size ∧ ∀ i, A'.slots[i]? = if lo ≤ i ∧ i < hi then some (f i) else A.slots[i]?
theorem Laid.zero (A : Cell) (lo : Nat) (f : Nat → Value) : Laid A A lo (lo + 0) f := ⟨rfl, rfl, rfl, fun i => by rw [if_neg (by omega)]⟩
theorem Laid.step {A Ak : Cell} {lo k : Nat} {f : Nat → Value} {v : Value} (h : Laid A Ak lo k f) (hlo : lo ≤ k) (hk : k < Ak.slots.size) (hv : v = f k) : Laid A (Ak.setSlot k v) lo (k + 1) f := by
  refine ⟨h.1, h.2.1, by simpa [Cell.setSlot] using h.2.2.1, fun i => ?_⟩
  by_cases e : k = i
  · subst e; rw [Cell.slots_setSlot_self v hk, if_pos (by omega), hv]
  · rw [Cell.slots_setSlot_ne v e, h.2.2.2 i]
    by_cases q : lo ≤ i ∧ i < k
    · rw [if_pos q, if_pos (by omega)]
    · rw [if_neg q, if_neg (by omega)]
def U16 : String := "java/lang/StringUTF16"
namespace Cmp5
def yN : MethodName := ⟨"java/lang/StringUTF16", "compress", "([CI[BII)I"⟩
abbrev yB : ByteArray := jdk_52_method_21_code
theorem d0 : decode yB 0 = .ok (.iconst 0, 1) := by decide +kernel
theorem d1 : decode yB 1 = .ok (.istore 5, 2) := by decide +kernel
theorem d3 : decode yB 3 = .ok (.iload 5, 2) := by decide +kernel
theorem d5 : decode yB 5 = .ok (.iload 4, 2) := by decide +kernel
theorem d7 : decode yB 7 = .ok (.if_icmp (.ge) 37, 3) := by decide +kernel
theorem d10 : decode yB 10 = .ok (.aload_n 0, 1) := by decide +kernel
theorem d11 : decode yB 11 = .ok (.iload_n 1, 1) := by decide +kernel
theorem d12 : decode yB 12 = .ok (.caload, 1) := by decide +kernel
theorem d13 : decode yB 13 = .ok (.istore 6, 2) := by decide +kernel
theorem d15 : decode yB 15 = .ok (.iload 6, 2) := by decide +kernel
theorem d17 : decode yB 17 = .ok (.sipush 255, 3) := by decide +kernel
theorem d20 : decode yB 20 = .ok (.if_icmp (.le) 6, 3) := by decide +kernel
theorem d26 : decode yB 26 = .ok (.aload_n 2, 1) := by decide +kernel
theorem d27 : decode yB 27 = .ok (.iload_n 3, 1) := by decide +kernel
theorem d28 : decode yB 28 = .ok (.iload 6, 2) := by decide +kernel
theorem d30 : decode yB 30 = .ok (.i2b, 1) := by decide +kernel
theorem d31 : decode yB 31 = .ok (.bastore, 1) := by decide +kernel
theorem d32 : decode yB 32 = .ok (.iinc 1 1, 3) := by decide +kernel
theorem d35 : decode yB 35 = .ok (.iinc 3 1, 3) := by decide +kernel
theorem d38 : decode yB 38 = .ok (.iinc 5 1, 3) := by decide +kernel
theorem d41 : decode yB 41 = .ok (.goto (-38), 3) := by decide +kernel
theorem d44 : decode yB 44 = .ok (.iload 4, 2) := by decide +kernel
theorem d46 : decode yB 46 = .ok (.ireturn, 1) := by decide +kernel
def site : List Cond := []
def tab : Cond := tabOf yN yB 7 (some .int) site
def P (b : Addr) (A : Cell) (d : Addr) (B : Cell) (o q len : Nat) (args : Array Value) (s : State) : Prop := args = #[.ref b, .int (Int32.ofNat o), .ref d, .int (Int32.ofNat q), .int (Int32.ofNat len)] ∧ Ch b A s ∧ Arr .byte d B s ∧ b ≠ d ∧ o + len ≤ A.slots.size ∧ q + len ≤ B.slots.size ∧ ∀ i, i < len → ¬ 255 < cv A (o + i)
def E (b : Addr) (A : Cell) (d : Addr) (B : Cell) (o q len : Nat) (r : Option Value) (s u : State) : Prop := r = some (.int (Int32.ofNat len)) ∧ ∃ B', Put d B' s u ∧ Laid B B' q (q + len) (fun j => Value.int (lo8 (cv A (o + (j - q)))))
/-- no char of the range above 255: len; the places written hold each char's low byte -/
theorem law (l : Launch) (b : Addr) (A : Cell) (d : Addr) (B : Cell) (o q len : Nat) : Law l yN 5 5 0 0 yB 7 (some .int) site (P b A d B o q len) (E b A d B o q len) (copyLocs d q len) 0 0 := by
  refine Law.of_walk (plainFor_of_name (by decide +kernel)) (by decide +kernel) (by decide +kernel) (by decide) (fun _ _ h => by rw [h.1]; rfl) (fun _ U U' hal hh h => ⟨h.1, h.2.1.mv hal hh, h.2.2.1.mv hal hh, h.2.2.2⟩) (fun r U U' V V' h1 hal h2 h => ⟨h.1, h.2.elim fun B' q => ⟨B', q.1.mv h1 h2, q.2⟩⟩) ?_
  intro p e s m args below meth c s₁ X0 hexec hbytes hml hret hlk hnm hown hh0 W hP
  obtain ⟨rfl, hA, hB, hne, l1, l2, hp⟩ := hP
  have c1 : Steps p.tables e below (s₁.setTop (entryFrame m #[.ref b, .int (Int32.ofNat o), .ref d, .int (Int32.ofNat q), .int (Int32.ofNat len)] 7)) (s₁.setTop (mkF m 0 #[.val (.ref b), .val (.int (Int32.ofNat o)), .val (.ref d), .val (.int (Int32.ofNat q)), .val (.int (Int32.ofNat len)), .unset, .unset] [])) := entry rfl
  have hA0 := hA.1.mv X0.warmed.alike hh0
  have hB0 := hB.mv X0.warmed.alike hh0
  have a31 := hA.1.2.2.2
  have c2 : Steps p.tables e below (s₁.setTop (entryFrame m #[.ref b, .int (Int32.ofNat o), .ref d, .int (Int32.ofNat q), .int (Int32.ofNat len)] 7)) (s₁.setTop (mkF m 3 #[.val (.ref b), .val (.int (Int32.ofNat o)), .val (.ref d), .val (.int (Int32.ofNat q)), .val (.int (Int32.ofNat len)), .val (.int 0), .unset] [])) := c1.trans (by
    refine iconstV X0.here hexec rfl 0 (hb hbytes d0) (by decide) ?_
    refine XS.istore X0.here hexec rfl (hb hbytes d1) rfl rfl ?_
    exact Steps.refl _)
  have loop : ∀ (r i : Nat), i + r = len → ∀ (z : Slot), (z = .unset ∨ ∃ w, z = .val w ∧ w.category = 1) → ∀ (Tl : State) (Bk : Cell), Stand p l e { frames := 0, locals := 0, cells := 0, slots := 0 } s m #[.ref b, .int (Int32.ofNat o), .ref d, .int (Int32.ofNat q), .int (Int32.ofNat len)] below meth c Tl ([] ++ copyLocs d q i) 0 0 → Put d Bk s₁ Tl → Laid B Bk q (q + i) (fun j => Value.int (lo8 (cv A (o + (j - q))))) →
      Steps p.tables e below (s₁.setTop (entryFrame m #[.ref b, .int (Int32.ofNat o), .ref d, .int (Int32.ofNat q), .int (Int32.ofNat len)] 7)) (Tl.setTop (mkF m 3 #[.val (.ref b), .val (.int (Int32.ofNat (o + i))), .val (.ref d), .val (.int (Int32.ofNat (q + i))), .val (.int (Int32.ofNat len)), .val (.int (Int32.ofNat i)), z] [])) → ∃ (T' : State) (B' : Cell) (z' : Slot), Stand p l e { frames := 0, locals := 0, cells := 0, slots := 0 } s m #[.ref b, .int (Int32.ofNat o), .ref d, .int (Int32.ofNat q), .int (Int32.ofNat len)] below meth c T' ([] ++ copyLocs d q len) 0 0 ∧ Put d B' s₁ T' ∧ Laid B B' q (q + len) (fun j => Value.int (lo8 (cv A (o + (j - q))))) ∧
      Steps p.tables e below (s₁.setTop (entryFrame m #[.ref b, .int (Int32.ofNat o), .ref d, .int (Int32.ofNat q), .int (Int32.ofNat len)] 7)) (T'.setTop (mkF m 3 #[.val (.ref b), .val (.int (Int32.ofNat (o + len))), .val (.ref d), .val (.int (Int32.ofNat (q + len))), .val (.int (Int32.ofNat len)), .val (.int (Int32.ofNat len)), z'] [])) := by
    intro r
    induction r with
    | zero =>
      intro i hi z hz Tl Bk Xl pl fl cl
      have hil : i = len := by omega
      rw [hil] at Xl fl cl
      exact ⟨Tl, Bk, z, Xl, pl, fl, cl⟩
    | succ r ih =>
      intro i hi z hz Tl Bk Xl pl fl cl
      have all := X0.warmed.alike.symm.trans Xl.warmed.alike
      have hAl := hA0.keep all (pl.other hne hA0.1)
      have hBk := hB0.like all pl.1 fl.1 fl.2.1 fl.2.2.1
      have hlt : q + i < Bk.slots.size := by rw [fl.2.2.1]; omega
      have c3 : Steps p.tables e below (s₁.setTop (entryFrame m #[.ref b, .int (Int32.ofNat o), .ref d, .int (Int32.ofNat q), .int (Int32.ofNat len)] 7)) (Tl.setTop (mkF m 12 #[.val (.ref b), .val (.int (Int32.ofNat (o + i))), .val (.ref d), .val (.int (Int32.ofNat (q + i))), .val (.int (Int32.ofNat len)), .val (.int (Int32.ofNat i)), z] [.int (Int32.ofNat (o + i)), .ref b])) := cl.trans (by
        refine XS.iload Xl.here hexec rfl (hb hbytes d3) rfl ?_
        refine XS.iload Xl.here hexec rfl (hb hbytes d5) rfl ?_
        refine XS.icmpNo Xl.here hexec rfl (hb hbytes d7) rfl (ii_ge_f (lt32 (by omega) (by omega))) ?_
        refine XS.aloadN Xl.here hexec rfl (hb hbytes d10) rfl rfl ?_
        refine XS.iloadN Xl.here hexec rfl (hb hbytes d11) rfl ?_
        exact Steps.refl _)
      have c4 : Steps p.tables e below (s₁.setTop (entryFrame m #[.ref b, .int (Int32.ofNat o), .ref d, .int (Int32.ofNat q), .int (Int32.ofNat len)] 7)) (Tl.setTop (mkF m 13 #[.val (.ref b), .val (.int (Int32.ofNat (o + i))), .val (.ref d), .val (.int (Int32.ofNat (q + i))), .val (.int (Int32.ofNat len)), .val (.int (Int32.ofNat i)), z] [.int (cv A (o + i))])) := c3.trans (by
        refine Xl.aget hexec hAl rfl (hA.get (i := o + i) (by omega)) rfl rfl (hb hbytes d12) ?_
        exact Steps.refl _)
      have c5 : Steps p.tables e below (s₁.setTop (entryFrame m #[.ref b, .int (Int32.ofNat o), .ref d, .int (Int32.ofNat q), .int (Int32.ofNat len)] 7)) (Tl.setTop (mkF m 15 #[.val (.ref b), .val (.int (Int32.ofNat (o + i))), .val (.ref d), .val (.int (Int32.ofNat (q + i))), .val (.int (Int32.ofNat len)), .val (.int (Int32.ofNat i)), .val (.int (cv A (o + i)))] [])) := c4.trans (by
        refine XS.istoreS Xl.here hexec rfl (hb hbytes d13) rfl rfl hz ?_
        exact Steps.refl _)
      have c6 : Steps p.tables e below (s₁.setTop (entryFrame m #[.ref b, .int (Int32.ofNat o), .ref d, .int (Int32.ofNat q), .int (Int32.ofNat len)] 7)) (Tl.setTop (mkF m 31 #[.val (.ref b), .val (.int (Int32.ofNat (o + i))), .val (.ref d), .val (.int (Int32.ofNat (q + i))), .val (.int (Int32.ofNat len)), .val (.int (Int32.ofNat i)), .val (.int (cv A (o + i)))] [.int (lo8 (cv A (o + i))), .int (Int32.ofNat (q + i)), .ref d])) := c5.trans (by
        refine XS.iload Xl.here hexec rfl (hb hbytes d15) rfl ?_
        refine sipushV Xl.here hexec rfl 255 (hb hbytes d17) (by decide) ?_
        refine XS.icmpYes Xl.here hexec rfl (pc0 := 20) rfl (hb hbytes d20) rfl (ii_le_t (hp i (by omega))) (by decide) rfl ?_
        refine XS.aloadN Xl.here hexec rfl (hb hbytes d26) rfl rfl ?_
        refine XS.iloadN Xl.here hexec rfl (hb hbytes d27) rfl ?_
        refine XS.iload Xl.here hexec rfl (hb hbytes d28) rfl ?_
        refine i2b Xl.here hexec rfl (hb hbytes d30) rfl ?_
        exact Steps.refl _)
      obtain ⟨T7, X7, p7, st7⟩ := Xl.aput hexec hBk rfl hlt rfl (fits_lo8 (cv A (o + i))) (g := (mkF m 31 #[.val (.ref b), .val (.int (Int32.ofNat (o + i))), .val (.ref d), .val (.int (Int32.ofNat (q + i))), .val (.int (Int32.ofNat len)), .val (.int (Int32.ofNat i)), .val (.int (cv A (o + i)))] [.int (lo8 (cv A (o + i))), .int (Int32.ofNat (q + i)), .ref d])) rfl (rest := []) rfl (hb hbytes d31)
      have c8 : Steps p.tables e below (s₁.setTop (entryFrame m #[.ref b, .int (Int32.ofNat o), .ref d, .int (Int32.ofNat q), .int (Int32.ofNat len)] 7)) (T7.setTop (mkF m 32 #[.val (.ref b), .val (.int (Int32.ofNat (o + i))), .val (.ref d), .val (.int (Int32.ofNat (q + i))), .val (.int (Int32.ofNat len)), .val (.int (Int32.ofNat i)), .val (.int (cv A (o + i)))] [])) := c6.trans (st7 _ (Steps.refl _))
      have c9 : Steps p.tables e below (s₁.setTop (entryFrame m #[.ref b, .int (Int32.ofNat o), .ref d, .int (Int32.ofNat q), .int (Int32.ofNat len)] 7)) (T7.setTop (mkF m 3 #[.val (.ref b), .val (.int (Int32.ofNat (o + i) + 1)), .val (.ref d), .val (.int (Int32.ofNat (q + i) + 1)), .val (.int (Int32.ofNat len)), .val (.int (Int32.ofNat i + 1)), .val (.int (cv A (o + i)))] [])) := c8.trans (by
        refine iincV X7.here hexec rfl 1 (hb hbytes d32) (by decide) rfl rfl ?_
        refine iincV X7.here hexec rfl 1 (hb hbytes d35) (by decide) rfl rfl ?_
        refine iincV X7.here hexec rfl 1 (hb hbytes d38) (by decide) rfl rfl ?_
        refine XS.goto X7.here hexec rfl (pc0 := 41) rfl (hb hbytes d41) (by decide) rfl ?_
        exact Steps.refl _)
      have c10 : Steps p.tables e below (s₁.setTop (entryFrame m #[.ref b, .int (Int32.ofNat o), .ref d, .int (Int32.ofNat q), .int (Int32.ofNat len)] 7)) (T7.setTop (mkF m 3 #[.val (.ref b), .val (.int (Int32.ofNat (o + (i + 1)))), .val (.ref d), .val (.int (Int32.ofNat (q + (i + 1)))), .val (.int (Int32.ofNat len)), .val (.int (Int32.ofNat (i + 1))), .val (.int (cv A (o + i)))] [])) := by
        have := c9
        rw [succ32, succ32, succ32] at this
        exact this
      exact ih (i + 1) (by omega) _ (Or.inr ⟨_, rfl, rfl⟩) T7 _ (by rw [copyLocs_step, ← List.append_assoc]; exact X7) (pl.trans p7) (fl.step (by omega) hlt (by simp)) c10
  obtain ⟨T9, B9, z9, X9, p9, f9, g9⟩ := loop len 0 (by omega) .unset (Or.inl rfl) s₁ B (by simpa [copyLocs] using X0) ⟨hB0.1, fun _ _ => rfl, rfl⟩ (Laid.zero _ _ _) c2
  have c11 : Steps p.tables e below (s₁.setTop (entryFrame m #[.ref b, .int (Int32.ofNat o), .ref d, .int (Int32.ofNat q), .int (Int32.ofNat len)] 7)) (T9.setTop (mkF m 46 #[.val (.ref b), .val (.int (Int32.ofNat (o + len))), .val (.ref d), .val (.int (Int32.ofNat (q + len))), .val (.int (Int32.ofNat len)), .val (.int (Int32.ofNat len)), z9] [.int (Int32.ofNat len)])) := g9.trans (by
    refine XS.iload X9.here hexec rfl (hb hbytes d3) rfl ?_
    refine XS.iload X9.here hexec rfl (hb hbytes d5) rfl ?_
    refine XS.icmpYes X9.here hexec rfl (pc0 := 7) rfl (hb hbytes d7) rfl (ii_ge_t (nlt32 (by omega) (Nat.le_refl _))) (by decide) rfl ?_
    refine XS.iload X9.here hexec rfl (hb hbytes d44) rfl ?_
    exact Steps.refl _)
  exact ⟨T9, some (.int (Int32.ofNat len)), _, _, _, X9, by simp, rfl, rfl, (fun h => by cases h), ⟨rfl, B9, p9.from hh0, f9⟩, fun fs hl => c11.trans (X9.ireturnOut hexec hret rfl (Or.inl rfl) (hb hbytes d46) hl)⟩
end Cmp5
namespace Cmp3
def yN : MethodName := ⟨"java/lang/StringUTF16", "compress", "([CII)[B"⟩
abbrev yB : ByteArray := jdk_52_method_16_code
theorem d0 : decode yB 0 = .ok (.iload_n 2, 1) := by decide +kernel
theorem d1 : decode yB 1 = .ok (.newarray .byte, 2) := by decide +kernel
theorem d3 : decode yB 3 = .ok (.astore_n 3, 1) := by decide +kernel
theorem d4 : decode yB 4 = .ok (.aload_n 0, 1) := by decide +kernel
theorem d5 : decode yB 5 = .ok (.iload_n 1, 1) := by decide +kernel
theorem d6 : decode yB 6 = .ok (.aload_n 3, 1) := by decide +kernel
theorem d7 : decode yB 7 = .ok (.iconst 0, 1) := by decide +kernel
theorem d8 : decode yB 8 = .ok (.iload_n 2, 1) := by decide +kernel
theorem d9 : decode yB 9 = .ok (.invokestatic 115, 3) := by decide +kernel
theorem d12 : decode yB 12 = .ok (.istore 4, 2) := by decide +kernel
theorem d14 : decode yB 14 = .ok (.iload 4, 2) := by decide +kernel
theorem d16 : decode yB 16 = .ok (.iload_n 2, 1) := by decide +kernel
theorem d17 : decode yB 17 = .ok (.if_icmp (.eq) 40, 3) := by decide +kernel
theorem d57 : decode yB 57 = .ok (.aload_n 3, 1) := by decide +kernel
theorem d58 : decode yB 58 = .ok (.areturn, 1) := by decide +kernel
def site : List Cond := [.arrayClass .byte, Cmp5.tab] ++ staticW U16 115 Cmp5.yN
def tab : Cond := tabOf yN yB 6 (some (.array .byte)) site
def P (b : Addr) (A : Cell) (o len : Nat) (args : Array Value) (s : State) : Prop := args = #[.ref b, .int (Int32.ofNat o), .int (Int32.ofNat len)] ∧ Ch b A s ∧ o + len ≤ A.slots.size ∧ len ≤ 536870912 ∧ ∀ i, i < len → ¬ 255 < cv A (o + i)
def E (b : Addr) (A : Cell) (o len : Nat) (r : Option Value) (s u : State) : Prop := NewArr .byte "[B" len (fun j => .int (lo8 (cv A (o + j)))) r s u ∧ u.heap.size = s.heap.size + 1
/-- no char of the range above 255: a new byte[] of their low bytes -/
theorem law (l : Launch) (b : Addr) (A : Cell) (o len : Nat) : Law l yN 3 3 1 18 yB 6 (some (.array .byte)) site (P b A o len) (E b A o len) [] 1 len := by
  refine Law.of_walk (plainFor_of_name (by decide +kernel)) (by decide +kernel) (by decide +kernel) (by decide) (fun _ _ h => by rw [h.1]; rfl) (fun _ U U' hal hh h => ⟨h.1, h.2.1.mv hal hh, h.2.2⟩) (fun r U U' V V' h1 hal h2 h => ⟨NewArr.mv r U U' V V' h1 hal h2 h.1, by rw [h1, h2]; exact h.2⟩) ?_
  intro p e s m args below meth c s₁ X0 hexec hbytes hml hret hlk hnm hown hh0 W hP
  obtain ⟨rfl, hA, l1, l2, hp⟩ := hP
  have a31 := hA.1.2.2.2
  have c1 : Steps p.tables e below (s₁.setTop (entryFrame m #[.ref b, .int (Int32.ofNat o), .int (Int32.ofNat len)] 6)) (s₁.setTop (mkF m 0 #[.val (.ref b), .val (.int (Int32.ofNat o)), .val (.int (Int32.ofNat len)), .unset, .unset, .unset] [])) := entry rfl
  have c2 : Steps p.tables e below (s₁.setTop (entryFrame m #[.ref b, .int (Int32.ofNat o), .int (Int32.ofNat len)] 6)) (s₁.setTop (mkF m 1 #[.val (.ref b), .val (.int (Int32.ofNat o)), .val (.int (Int32.ofNat len)), .unset, .unset, .unset] [.int (Int32.ofNat len)])) := c1.trans (by
    refine XS.iloadN X0.here hexec rfl (hb hbytes d0) rfl ?_
    exact Steps.refl _)
  obtain ⟨T3, B3, X3, ba3, bs3, bv3, bh3, bf3, st3⟩ := X0.anew hexec (atype := .byte) (wk W (.arrayClass .byte)) rfl (by show len * 1 ≤ _; omega) (by omega) (g := (mkF m 1 #[.val (.ref b), .val (.int (Int32.ofNat o)), .val (.int (Int32.ofNat len)), .unset, .unset, .unset] [.int (Int32.ofNat len)])) rfl (hb hbytes d1) (rest := []) rfl (Nat.le_refl _) (by show 0 + len ≤ len; omega)
  rw [hh0] at ba3 st3
  have kp3 : XT.Kept s T3 := (XT.Kept.of_eq hh0).push bh3
  have hA3 := hA.keep X3.warmed.alike (kp3 _ _ hA.1.1)
  have hne : b ≠ s.heap.size := hA.1.ne
  have c4 : Steps p.tables e below (s₁.setTop (entryFrame m #[.ref b, .int (Int32.ofNat o), .int (Int32.ofNat len)] 6)) (T3.setTop (mkF m 3 #[.val (.ref b), .val (.int (Int32.ofNat o)), .val (.int (Int32.ofNat len)), .unset, .unset, .unset] [.ref s.heap.size])) := c2.trans (st3 _ (Steps.refl _))
  have c5 : Steps p.tables e below (s₁.setTop (entryFrame m #[.ref b, .int (Int32.ofNat o), .int (Int32.ofNat len)] 6)) (T3.setTop (mkF m 9 #[.val (.ref b), .val (.int (Int32.ofNat o)), .val (.int (Int32.ofNat len)), .val (.ref s.heap.size), .unset, .unset] [.int (Int32.ofNat len), .int 0, .ref s.heap.size, .int (Int32.ofNat o), .ref b])) := c4.trans (by
    refine XS.astoreN X3.here hexec rfl (hb hbytes d3) rfl rfl rfl ?_
    refine XS.aloadN X3.here hexec rfl (hb hbytes d4) rfl rfl ?_
    refine XS.iloadN X3.here hexec rfl (hb hbytes d5) rfl ?_
    refine XS.aloadN X3.here hexec rfl (hb hbytes d6) rfl rfl ?_
    refine iconstV X3.here hexec rfl 0 (hb hbytes d7) (by decide) ?_
    refine XS.iloadN X3.here hexec rfl (hb hbytes d8) rfl ?_
    exact Steps.refl _)
  obtain ⟨v6, T6, X6, E6, g6⟩ := X3.callS hexec (Cmp5.law l b A s.heap.size B3 o 0 len) hown (wks W (staticW U16 115 Cmp5.yN)) (wk W Cmp5.tab) (W := 0) (Nat.le_of_ble_eq_true rfl) (Nat.le_of_ble_eq_true rfl) (Nat.le_refl _) (by show 0 + len + 0 ≤ len; omega) (g := (mkF m 9 #[.val (.ref b), .val (.int (Int32.ofNat o)), .val (.int (Int32.ofNat len)), .val (.ref s.heap.size), .unset, .unset] [.int (Int32.ofNat len), .int (Int32.ofNat 0), .ref s.heap.size, .int (Int32.ofNat o), .ref b])) rfl (by rw [hml]; rfl) c5 (argsL := [.ref b, .int (Int32.ofNat o), .ref s.heap.size, .int (Int32.ofNat 0), .int (Int32.ofNat len)]) (rest := []) rfl rfl (by show 2 * 0 + 0 ≤ _; decide) (hb hbytes d9) (⟨rfl, hA3, ba3, hne, l1, by rw [bs3]; simp, hp⟩)
  obtain ⟨rfl, B6, p6, f6⟩ := E6
  have c7 : Steps p.tables e below (s₁.setTop (entryFrame m #[.ref b, .int (Int32.ofNat o), .int (Int32.ofNat len)] 6)) (T6.setTop (mkF m 12 #[.val (.ref b), .val (.int (Int32.ofNat o)), .val (.int (Int32.ofNat len)), .val (.ref s.heap.size), .unset, .unset] [.int (Int32.ofNat len)])) := g6
  have c8 : Steps p.tables e below (s₁.setTop (entryFrame m #[.ref b, .int (Int32.ofNat o), .int (Int32.ofNat len)] 6)) (T6.setTop (mkF m 58 #[.val (.ref b), .val (.int (Int32.ofNat o)), .val (.int (Int32.ofNat len)), .val (.ref s.heap.size), .val (.int (Int32.ofNat len)), .unset] [.ref s.heap.size])) := c7.trans (by
    refine XS.istore X6.here hexec rfl (hb hbytes d12) rfl rfl ?_
    refine XS.iload X6.here hexec rfl (hb hbytes d14) rfl ?_
    refine XS.iloadN X6.here hexec rfl (hb hbytes d16) rfl ?_
    refine XS.icmpYes X6.here hexec rfl (pc0 := 17) rfl (hb hbytes d17) rfl (ii_eq_t rfl) (by decide) rfl ?_
    refine XS.aloadN X6.here hexec rfl (hb hbytes d57) rfl rfl ?_
    exact Steps.refl _)
  have X8 := X6.wide (L' := []) (cells' := 1) (slots' := len) (fun x hx hlt => by
    simp only [List.nil_append, copyLocs, List.mem_map, List.mem_range] at hx
    obtain ⟨i, -, rfl⟩ := hx
    exact absurd hlt (Nat.lt_irrefl _)) (Nat.le_refl _) (by omega)
  exact ⟨T6, some (.ref s.heap.size), _, _, _, X8, rfl, rfl, rfl, (fun h => by cases h), ⟨⟨rfl, B6, ba3.like (X3.warmed.alike.symm.trans X6.warmed.alike) p6.1 f6.1 f6.2.1 f6.2.2.1, f6.2.1.trans bv3, by rw [X6.warmed.alike.findClass, f6.1]; exact bf3, by rw [f6.2.2.1, bs3]; simp, fun j hj => by rw [f6.2.2.2 j, if_pos (by omega)]; rfl, kp3.put p6 (Nat.le_refl _)⟩, by rw [p6.2.2, bh3, hh0]; simp⟩, fun fs hl => c8.trans (X8.areturnOut hexec rfl hret rfl (hb hbytes d58) hl)⟩
end Cmp3
namespace CodL
def yN : MethodName := ⟨"java/lang/StringUTF16", "coderFromArrayLen", "([BI)B"⟩
abbrev yB : ByteArray := jdk_52_method_15_code
theorem d0 : decode yB 0 = .ok (.iload_n 1, 1) := by decide +kernel
theorem d1 : decode yB 1 = .ok (.aload_n 0, 1) := by decide +kernel
theorem d2 : decode yB 2 = .ok (.arraylength, 1) := by decide +kernel
theorem d3 : decode yB 3 = .ok (.isub, 1) := by decide +kernel
theorem d4 : decode yB 4 = .ok (.bipush 31, 2) := by decide +kernel
theorem d6 : decode yB 6 = .ok (.iushr, 1) := by decide +kernel
theorem d7 : decode yB 7 = .ok (.i2b, 1) := by decide +kernel
theorem d8 : decode yB 8 = .ok (.ireturn, 1) := by decide +kernel
def site : List Cond := []
def tab : Cond := tabOf yN yB 2 (some .byte) site
def P (d : Addr) (B : Cell) (args : Array Value) (s : State) : Prop := args = #[.ref d, .int (Int32.ofNat B.slots.size)] ∧ Arr .byte d B s
def E (r : Option Value) (s u : State) : Prop := XT.PureE (some (.int 0)) r s u
/-- an array as long as the number of chars: LATIN1 -/
theorem law (l : Launch) (d : Addr) (B : Cell) : Law l yN 2 2 0 0 yB 2 (some .byte) site (P d B) E [] 0 0 := by
  refine Law.of_walk (plainFor_of_name (by decide +kernel)) (by decide +kernel) (by decide +kernel) (by decide) (fun _ _ h => by rw [h.1]; rfl) (fun _ U U' hal hh h => ⟨h.1, h.2.mv hal hh⟩) (fun r U U' V V' h1 hal h2 h => XT.PureE.mv r U U' V V' h1 hal h2 h) ?_
  intro p e s m args below meth c s₁ X0 hexec hbytes hml hret hlk hnm hown hh0 W hP
  obtain ⟨rfl, hB⟩ := hP
  have hB0 := hB.mv X0.warmed.alike hh0
  have c1 : Steps p.tables e below (s₁.setTop (entryFrame m #[.ref d, .int (Int32.ofNat B.slots.size)] 2)) (s₁.setTop (mkF m 0 #[.val (.ref d), .val (.int (Int32.ofNat B.slots.size))] [])) := entry rfl
  have c2 : Steps p.tables e below (s₁.setTop (entryFrame m #[.ref d, .int (Int32.ofNat B.slots.size)] 2)) (s₁.setTop (mkF m 2 #[.val (.ref d), .val (.int (Int32.ofNat B.slots.size))] [.ref d, .int (Int32.ofNat B.slots.size)])) := c1.trans (by
    refine XS.iloadN X0.here hexec rfl (hb hbytes d0) rfl ?_
    refine XS.aloadN X0.here hexec rfl (hb hbytes d1) rfl rfl ?_
    exact Steps.refl _)
  have c3 : Steps p.tables e below (s₁.setTop (entryFrame m #[.ref d, .int (Int32.ofNat B.slots.size)] 2)) (s₁.setTop (mkF m 8 #[.val (.ref d), .val (.int (Int32.ofNat B.slots.size))] [.int (lo8 (ushr (Int32.ofNat B.slots.size - Int32.ofNat B.slots.size) 31))])) := c2.trans (by
    refine X0.alen hexec hB0 rfl rfl (hb hbytes d2) ?_
    refine XS.isub X0.here hexec rfl (hb hbytes d3) rfl ?_
    refine bipushV X0.here hexec rfl 31 (hb hbytes d4) (by decide) ?_
    refine iushr X0.here hexec rfl (hb hbytes d6) rfl ?_
    refine i2b X0.here hexec rfl (hb hbytes d7) rfl ?_
    exact Steps.refl _)
  have e0 : lo8 (ushr (Int32.ofNat B.slots.size - Int32.ofNat B.slots.size) 31) = 0 := by rw [Int32.sub_self]; decide
  rw [e0] at c3
  exact ⟨s₁, some (.int 0), _, _, _, X0, rfl, rfl, rfl, (fun h => by cases h), ⟨rfl, hh0⟩, fun fs hl => c3.trans (X0.ireturnOut hexec hret rfl (Or.inr (Or.inr (Or.inl rfl))) (hb hbytes d8) hl)⟩
end CodL
/-- the String at a is Latin-1 over a new byte[] (the heap's one new cell): the low bytes of the len chars of A from o on; every cell but a is kept -/
def Got (a : Addr) (D : Cell) (fV fC : Field) (A : Cell) (o len : Nat) (r : Option Value) (s u : State) : Prop := r = none ∧ ∃ D' V : Cell, Blank "java/lang/String" a D' u ∧ Same D D' [fV.slot, fC.slot] ∧ D'.slots[fV.slot]? = some (.ref s.heap.size) ∧ D'.slots[fC.slot]? = some (.int 0) ∧ Arr .byte s.heap.size V u ∧ V.vm = .none ∧ u.vm.findClass "[B" = some V.cls ∧ V.slots.size = len ∧ (∀ j, j < len → V.slots[j]? = some (.int (lo8 (cv A (o + j))))) ∧ (∀ (y : Addr) (c : Cell), y ≠ a → s.heap[y]? = some c → u.heap[y]? = some c) ∧ u.heap.size = s.heap.size + 1
theorem Got.mv {a : Addr} {D A : Cell} {fV fC : Field} {o len : Nat} : ∀ r (U U' V V' : State), U'.heap = U.heap → V.vm.Alike V'.vm → V'.heap = V.heap → Got a D fV fC A o len r U V → Got a D fV fC A o len r U' V' :=
  fun r U U' V V' h1 hal h2 ⟨e0, D', X, a1, a2, a3, a4, a5, a6, a7, a8, a9, a10, a11⟩ => ⟨e0, D', X, a1.mv hal h2, a2, by rw [h1]; exact a3, a4, by rw [h1]; exact a5.mv hal h2, a6, by rw [hal.findClass]; exact a7, a8, a9, by rw [h1, h2]; exact a10, by rw [h1, h2]; exact a11⟩
namespace New4
def yN : MethodName := ⟨"java/lang/String", "<init>", "([CIILjava/lang/Void;)V"⟩
abbrev yB : ByteArray := jdk_42_method_149_code
theorem d0 : decode yB 0 = .ok (.aload_n 0, 1) := by decide +kernel
theorem d1 : decode yB 1 = .ok (.invokespecial 1, 3) := by decide +kernel
theorem d4 : decode yB 4 = .ok (.iload_n 3, 1) := by decide +kernel
theorem d5 : decode yB 5 = .ok (.ifCond (.ne) 22, 3) := by decide +kernel
theorem d27 : decode yB 27 = .ok (.getstatic 38, 3) := by decide +kernel
theorem d30 : decode yB 30 = .ok (.ifCond (.eq) 28, 3) := by decide +kernel
theorem d33 : decode yB 33 = .ok (.aload_n 1, 1) := by decide +kernel
theorem d34 : decode yB 34 = .ok (.iload_n 2, 1) := by decide +kernel
theorem d35 : decode yB 35 = .ok (.iload_n 3, 1) := by decide +kernel
theorem d36 : decode yB 36 = .ok (.invokestatic 177, 3) := by decide +kernel
theorem d39 : decode yB 39 = .ok (.astore 5, 2) := by decide +kernel
theorem d41 : decode yB 41 = .ok (.aload_n 0, 1) := by decide +kernel
theorem d42 : decode yB 42 = .ok (.aload 5, 2) := by decide +kernel
theorem d44 : decode yB 44 = .ok (.iload_n 3, 1) := by decide +kernel
theorem d45 : decode yB 45 = .ok (.invokestatic 47, 3) := by decide +kernel
theorem d48 : decode yB 48 = .ok (.putfield 15, 3) := by decide +kernel
theorem d51 : decode yB 51 = .ok (.aload_n 0, 1) := by decide +kernel
theorem d52 : decode yB 52 = .ok (.aload 5, 2) := by decide +kernel
theorem d54 : decode yB 54 = .ok (.putfield 9, 3) := by decide +kernel
theorem d57 : decode yB 57 = .ok (.return_, 1) := by decide +kernel
def site : List Cond := [.fieldLink "java/lang/String" 38 "java/lang/String" "COMPACT_STRINGS" "Z", Cmp3.tab, CodL.tab, .laysFinal "java/lang/String" "java/lang/String" "value" "[B", .fieldLink "java/lang/String" 9 "java/lang/String" "value" "[B", .laysFinal "java/lang/String" "java/lang/String" "coder" "B", .fieldLink "java/lang/String" 15 "java/lang/String" "coder" "B"] ++ objW "java/lang/String" 1 ++ staticW "java/lang/String" 177 Cmp3.yN ++ staticW "java/lang/String" 47 CodL.yN
def tab : Cond := tabOf yN yB 6 none site
def P (a : Addr) (D : Cell) (fV fC : Field) (b : Addr) (A : Cell) (z : Int32) (o len : Nat) (args : Array Value) (s : State) : Prop := args = #[.ref a, .ref b, .int (Int32.ofNat o), .int (Int32.ofNat len), .null] ∧ Blank "java/lang/String" a D s ∧ Found "java/lang/String" "value" "[B" fV s ∧ Found "java/lang/String" "coder" "B" fC s ∧ Ch b A s ∧ StaticIs s "java/lang/String" "COMPACT_STRINGS" "Z" (.int z) ∧ ¬ z = 0 ∧ 0 < len ∧ o + len ≤ A.slots.size ∧ len ≤ 536870912 ∧ ∀ i, i < len → ¬ 255 < cv A (o + i)
def E (a : Addr) (D : Cell) (fV fC : Field) (A : Cell) (o len : Nat) (r : Option Value) (s u : State) : Prop := Got a D fV fC A o len r s u
/-- len > 0, no char of the range above 255: a Latin-1 String of their low bytes -/
theorem law (l : Launch) (a : Addr) (D : Cell) (fV fC : Field) (b : Addr) (A : Cell) (z : Int32) (o len : Nat) : Law l yN 5 4 2 35 yB 6 none site (P a D fV fC b A z o len) (E a D fV fC A o len) [⟨a, fC.slot⟩, ⟨a, fV.slot⟩] 1 len := by
  refine Law.of_walk (plainFor_of_name (by decide +kernel)) (by decide +kernel) (by decide +kernel) (by decide) (fun _ _ h => by rw [h.1]; rfl) (fun _ U U' hal hh h => ⟨h.1, h.2.1.mv hal hh, h.2.2.1.al hal, h.2.2.2.1.al hal, h.2.2.2.2.1.mv hal hh, h.2.2.2.2.2.1.there hal hh, h.2.2.2.2.2.2⟩) (fun r U U' V V' h1 hal h2 h => Got.mv r U U' V V' h1 hal h2 h) ?_
  intro p e s m args below meth c s₁ X0 hexec hbytes hml hret hlk hnm hown hh0 W hP
  obtain ⟨rfl, hB, f1, f2, hA, s1, hz, l0, l1, l2, hp⟩ := hP
  have a31 := hA.1.2.2.2
  have c1 : Steps p.tables e below (s₁.setTop (entryFrame m #[.ref a, .ref b, .int (Int32.ofNat o), .int (Int32.ofNat len), .null] 6)) (s₁.setTop (mkF m 0 #[.val (.ref a), .val (.ref b), .val (.int (Int32.ofNat o)), .val (.int (Int32.ofNat len)), .val .null, .unset] [])) := entry rfl
  have c2 : Steps p.tables e below (s₁.setTop (entryFrame m #[.ref a, .ref b, .int (Int32.ofNat o), .int (Int32.ofNat len), .null] 6)) (s₁.setTop (mkF m 1 #[.val (.ref a), .val (.ref b), .val (.int (Int32.ofNat o)), .val (.int (Int32.ofNat len)), .val .null, .unset] [.ref a])) := c1.trans (by
    refine XS.aloadN X0.here hexec rfl (hb hbytes d0) rfl rfl ?_
    exact Steps.refl _)
  obtain ⟨T3, X3, q3, st3⟩ := X0.oinit hexec hown (wks W (objW "java/lang/String" 1)) (g := (mkF m 1 #[.val (.ref a), .val (.ref b), .val (.int (Int32.ofNat o)), .val (.int (Int32.ofNat len)), .val .null, .unset] [.ref a])) rfl (by rw [hml]; rfl) (rest := []) rfl (hb hbytes d1) (W := 0) (by show 2 * 0 + 0 ≤ _; decide) (Nat.le_of_ble_eq_true rfl) (Nat.le_of_ble_eq_true rfl)
  have hh3 := q3.trans hh0
  have c4 : Steps p.tables e below (s₁.setTop (entryFrame m #[.ref a, .ref b, .int (Int32.ofNat o), .int (Int32.ofNat len), .null] 6)) (T3.setTop (mkF m 27 #[.val (.ref a), .val (.ref b), .val (.int (Int32.ofNat o)), .val (.int (Int32.ofNat len)), .val .null, .unset] [])) := (c2.trans (st3 _ (Steps.refl _))).trans (by
    refine XS.iloadN X3.here hexec rfl (hb hbytes d4) rfl ?_
    refine XS.ifYes X3.here hexec rfl (pc0 := 5) rfl (hb hbytes d5) rfl (i0_ne_t (nz32 (by omega) l0)) (by decide) rfl ?_
    exact Steps.refl _)
  obtain ⟨T5, X5, q5, st5⟩ := X3.sget hexec hown (wk W (.fieldLink "java/lang/String" 38 "java/lang/String" "COMPACT_STRINGS" "Z")) s1 (fun _ _ h => by rw [hh3]; exact h) (g := (mkF m 27 #[.val (.ref a), .val (.ref b), .val (.int (Int32.ofNat o)), .val (.int (Int32.ofNat len)), .val .null, .unset] [])) rfl (hb hbytes d27)
  have hh5 := q5.trans hh3
  have c6 : Steps p.tables e below (s₁.setTop (entryFrame m #[.ref a, .ref b, .int (Int32.ofNat o), .int (Int32.ofNat len), .null] 6)) (T5.setTop (mkF m 30 #[.val (.ref a), .val (.ref b), .val (.int (Int32.ofNat o)), .val (.int (Int32.ofNat len)), .val .null, .unset] [.int z])) := c4.trans (st5 _ (Steps.refl _))
  have c7 : Steps p.tables e below (s₁.setTop (entryFrame m #[.ref a, .ref b, .int (Int32.ofNat o), .int (Int32.ofNat len), .null] 6)) (T5.setTop (mkF m 36 #[.val (.ref a), .val (.ref b), .val (.int (Int32.ofNat o)), .val (.int (Int32.ofNat len)), .val .null, .unset] [.int (Int32.ofNat len), .int (Int32.ofNat o), .ref b])) := c6.trans (by
    refine XS.ifNo X5.here hexec rfl (hb hbytes d30) rfl (i0_eq_f hz) ?_
    refine XS.aloadN X5.here hexec rfl (hb hbytes d33) rfl rfl ?_
    refine XS.iloadN X5.here hexec rfl (hb hbytes d34) rfl ?_
    refine XS.iloadN X5.here hexec rfl (hb hbytes d35) rfl ?_
    exact Steps.refl _)
  obtain ⟨v8, T8, X8, E8, g8⟩ := X5.callS hexec (Cmp3.law l b A o len) hown (wks W (staticW "java/lang/String" 177 Cmp3.yN)) (wk W Cmp3.tab) (W := 0) (Nat.le_of_ble_eq_true rfl) (Nat.le_of_ble_eq_true rfl) (Nat.le_refl _) (by show 0 + len ≤ len; omega) (g := (mkF m 36 #[.val (.ref a), .val (.ref b), .val (.int (Int32.ofNat o)), .val (.int (Int32.ofNat len)), .val .null, .unset] [.int (Int32.ofNat len), .int (Int32.ofNat o), .ref b])) rfl (by rw [hml]; rfl) c7 (argsL := [.ref b, .int (Int32.ofNat o), .int (Int32.ofNat len)]) (rest := []) rfl rfl (by show 2 * 0 + 0 ≤ _; decide) (hb hbytes d36) (⟨rfl, hA.mv X5.warmed.alike hh5, l1, l2, hp⟩)
  obtain ⟨e8, z8⟩ := E8
  obtain ⟨rfl, N, n1, n2, n3, n4, n5, n6⟩ := NewArr.mv _ T5 s _ _ hh5.symm (Vm.Alike.refl _) rfl e8
  rw [hh5] at z8
  have hB1 := hB.keep X8.warmed.alike (n6 _ _ hB.1)
  have hne : s.heap.size ≠ a := (Nat.ne_of_lt (Array.getElem?_eq_some_iff.mp hB.1).1).symm
  have c9 : Steps p.tables e below (s₁.setTop (entryFrame m #[.ref a, .ref b, .int (Int32.ofNat o), .int (Int32.ofNat len), .null] 6)) (T8.setTop (mkF m 39 #[.val (.ref a), .val (.ref b), .val (.int (Int32.ofNat o)), .val (.int (Int32.ofNat len)), .val .null, .unset] [.ref s.heap.size])) := g8
  have c10 : Steps p.tables e below (s₁.setTop (entryFrame m #[.ref a, .ref b, .int (Int32.ofNat o), .int (Int32.ofNat len), .null] 6)) (T8.setTop (mkF m 45 #[.val (.ref a), .val (.ref b), .val (.int (Int32.ofNat o)), .val (.int (Int32.ofNat len)), .val .null, .val (.ref s.heap.size)] [.int (Int32.ofNat N.slots.size), .ref s.heap.size, .ref a])) := by
    have hc : Steps p.tables e below (s₁.setTop (entryFrame m #[.ref a, .ref b, .int (Int32.ofNat o), .int (Int32.ofNat len), .null] 6)) (T8.setTop (mkF m 45 #[.val (.ref a), .val (.ref b), .val (.int (Int32.ofNat o)), .val (.int (Int32.ofNat len)), .val .null, .val (.ref s.heap.size)] [.int (Int32.ofNat len), .ref s.heap.size, .ref a])) := c9.trans (by
      refine XS.astore X8.here hexec rfl (hb hbytes d39) rfl rfl rfl ?_
      refine XS.aloadN X8.here hexec rfl (hb hbytes d41) rfl rfl ?_
      refine XS.aload X8.here hexec rfl (hb hbytes d42) rfl rfl ?_
      refine XS.iloadN X8.here hexec rfl (hb hbytes d44) rfl ?_
      exact Steps.refl _)
    rw [n4]; exact hc
  obtain ⟨v11, T11, X11, E11, g11⟩ := X8.callS hexec (CodL.law l s.heap.size N) hown (wks W (staticW "java/lang/String" 47 CodL.yN)) (wk W CodL.tab) (W := 1) (Nat.le_of_ble_eq_true rfl) (Nat.le_of_ble_eq_true rfl) (Nat.le_refl _) (by show 0 + len + 0 ≤ len; omega) (g := (mkF m 45 #[.val (.ref a), .val (.ref b), .val (.int (Int32.ofNat o)), .val (.int (Int32.ofNat len)), .val .null, .val (.ref s.heap.size)] [.int (Int32.ofNat N.slots.size), .ref s.heap.size, .ref a])) rfl (by rw [hml]; rfl) c10 (argsL := [.ref s.heap.size, .int (Int32.ofNat N.slots.size)]) (rest := [.ref a]) rfl rfl (by show 2 * 0 + (1 + 0) ≤ _; decide) (hb hbytes d45) (⟨rfl, n1⟩)
  obtain ⟨rfl, q11⟩ := E11
  have hB11 := hB1.mv (X8.warmed.alike.symm.trans X11.warmed.alike) q11
  have c12 : Steps p.tables e below (s₁.setTop (entryFrame m #[.ref a, .ref b, .int (Int32.ofNat o), .int (Int32.ofNat len), .null] 6)) (T11.setTop (mkF m 48 #[.val (.ref a), .val (.ref b), .val (.int (Int32.ofNat o)), .val (.int (Int32.ofNat len)), .val .null, .val (.ref s.heap.size)] [.int 0, .ref a])) := g11
  obtain ⟨T13, X13, p13, bl13, sl13, st13⟩ := X11.finit hexec hown (wk W (.fieldLink "java/lang/String" 15 "java/lang/String" "coder" "B")) (Or.inr ⟨_, (wk W (.laysFinal "java/lang/String" "java/lang/String" "coder" "B"))⟩) (Or.inl ⟨rfl, hnm⟩) f2 (Or.inl rfl) hB11 (t := .byte) (by decide +kernel) rfl (g := (mkF m 48 #[.val (.ref a), .val (.ref b), .val (.int (Int32.ofNat o)), .val (.int (Int32.ofNat len)), .val .null, .val (.ref s.heap.size)] [.int 0, .ref a])) rfl (rest := []) rfl (hb hbytes d48)
  have c14 : Steps p.tables e below (s₁.setTop (entryFrame m #[.ref a, .ref b, .int (Int32.ofNat o), .int (Int32.ofNat len), .null] 6)) (T13.setTop (mkF m 54 #[.val (.ref a), .val (.ref b), .val (.int (Int32.ofNat o)), .val (.int (Int32.ofNat len)), .val .null, .val (.ref s.heap.size)] [.ref s.heap.size, .ref a])) := (c12.trans (st13 _ (Steps.refl _))).trans (by
    refine XS.aloadN X13.here hexec rfl (hb hbytes d51) rfl rfl ?_
    refine XS.aload X13.here hexec rfl (hb hbytes d52) rfl rfl ?_
    exact Steps.refl _)
  obtain ⟨T15, X15, p15, bl15, sl15, st15⟩ := X13.finit hexec hown (wk W (.fieldLink "java/lang/String" 9 "java/lang/String" "value" "[B")) (Or.inr ⟨_, (wk W (.laysFinal "java/lang/String" "java/lang/String" "value" "[B"))⟩) (Or.inl ⟨rfl, hnm⟩) f1 (Or.inl rfl) bl13 (t := (.array .byte)) (by decide +kernel) rfl (g := (mkF m 54 #[.val (.ref a), .val (.ref b), .val (.int (Int32.ofNat o)), .val (.int (Int32.ofNat len)), .val .null, .val (.ref s.heap.size)] [.ref s.heap.size, .ref a])) rfl (rest := []) rfl (hb hbytes d54)
  have c16 : Steps p.tables e below (s₁.setTop (entryFrame m #[.ref a, .ref b, .int (Int32.ofNat o), .int (Int32.ofNat len), .null] 6)) (T15.setTop (mkF m 57 #[.val (.ref a), .val (.ref b), .val (.int (Int32.ofNat o)), .val (.int (Int32.ofNat len)), .val .null, .val (.ref s.heap.size)] [])) := c14.trans (st15 _ (Steps.refl _))
  have ap := apart (Or.inr ⟨_, (wk W (.laysFinal "java/lang/String" "java/lang/String" "value" "[B"))⟩) (Or.inr ⟨_, (wk W (.laysFinal "java/lang/String" "java/lang/String" "coder" "B"))⟩) f1 f2 (t₁ := .array .byte) (t₂ := .byte) (by decide +kernel) (by decide +kernel) (by decide)
  have al := X8.warmed.alike.symm.trans X15.warmed.alike
  have n7 : T11.heap[s.heap.size]? = some N := by rw [q11]; exact n1.1
  exact ⟨T15, none, _, _, _, X15, by simp, rfl, by omega, (fun _ => rfl), ⟨rfl, _, N, bl15, ((Same.refl D _).set _ (by simp)).set _ (by simp), sl15, (Cell.slots_setSlot_ne _ ap).trans sl13, n1.keep al (p15.other hne (p13.other hne n7)), n2, by rw [al.findClass]; exact n3, n4, n5, fun y c h1 h2 => p15.other h1 (p13.other h1 (by rw [q11]; exact n6 y c h2)), by rw [p15.2.2, p13.2.2, q11]; exact z8⟩, fun fs hl => c16.trans (X15.returnOut hexec hret (hb hbytes d57) hl)⟩
end New4
namespace New1
def yN : MethodName := ⟨"java/lang/String", "<init>", "([C)V"⟩
abbrev yB : ByteArray := jdk_42_method_3_code
theorem d0 : decode yB 0 = .ok (.aload_n 0, 1) := by decide +kernel
theorem d1 : decode yB 1 = .ok (.aload_n 1, 1) := by decide +kernel
theorem d2 : decode yB 2 = .ok (.iconst 0, 1) := by decide +kernel
theorem d3 : decode yB 3 = .ok (.aload_n 1, 1) := by decide +kernel
theorem d4 : decode yB 4 = .ok (.arraylength, 1) := by decide +kernel
theorem d5 : decode yB 5 = .ok (.aconst_null, 1) := by decide +kernel
theorem d6 : decode yB 6 = .ok (.invokespecial 27, 3) := by decide +kernel
theorem d9 : decode yB 9 = .ok (.return_, 1) := by decide +kernel
def site : List Cond := [New4.tab] ++ initW "java/lang/String" 27 New4.yN
def tab : Cond := tabOf yN yB 2 none site
def P (a : Addr) (D : Cell) (fV fC : Field) (b : Addr) (A : Cell) (z : Int32) (args : Array Value) (s : State) : Prop := args = #[.ref a, .ref b] ∧ Blank "java/lang/String" a D s ∧ Found "java/lang/String" "value" "[B" fV s ∧ Found "java/lang/String" "coder" "B" fC s ∧ Ch b A s ∧ StaticIs s "java/lang/String" "COMPACT_STRINGS" "Z" (.int z) ∧ ¬ z = 0 ∧ 0 < A.slots.size ∧ A.slots.size ≤ 536870912 ∧ ∀ i, i < A.slots.size → ¬ 255 < cv A i
def E (a : Addr) (D : Cell) (fV fC : Field) (A : Cell) (r : Option Value) (s u : State) : Prop := Got a D fV fC A 0 A.slots.size r s u
/-- new String(chars), not empty, no char above 255: a Latin-1 String of their low bytes -/
theorem law (l : Launch) (a : Addr) (D : Cell) (fV fC : Field) (b : Addr) (A : Cell) (z : Int32) : Law l yN 2 1 3 52 yB 2 none site (P a D fV fC b A z) (E a D fV fC A) [⟨a, fC.slot⟩, ⟨a, fV.slot⟩] 1 A.slots.size := by
  refine Law.of_walk (plainFor_of_name (by decide +kernel)) (by decide +kernel) (by decide +kernel) (by decide) (fun _ _ h => by rw [h.1]; rfl) (fun _ U U' hal hh h => ⟨h.1, h.2.1.mv hal hh, h.2.2.1.al hal, h.2.2.2.1.al hal, h.2.2.2.2.1.mv hal hh, h.2.2.2.2.2.1.there hal hh, h.2.2.2.2.2.2⟩) (fun r U U' V V' h1 hal h2 h => Got.mv r U U' V V' h1 hal h2 h) ?_
  intro p e s m args below meth c s₁ X0 hexec hbytes hml hret hlk hnm hown hh0 W hP
  obtain ⟨rfl, hB, f1, f2, hA, s1, hz, l0, l2, hp⟩ := hP
  have c1 : Steps p.tables e below (s₁.setTop (entryFrame m #[.ref a, .ref b] 2)) (s₁.setTop (mkF m 0 #[.val (.ref a), .val (.ref b)] [])) := entry rfl
  have c2 : Steps p.tables e below (s₁.setTop (entryFrame m #[.ref a, .ref b] 2)) (s₁.setTop (mkF m 6 #[.val (.ref a), .val (.ref b)] [.null, .int (Int32.ofNat A.slots.size), .int 0, .ref b, .ref a])) := c1.trans (by
    refine XS.aloadN X0.here hexec rfl (hb hbytes d0) rfl rfl ?_
    refine XS.aloadN X0.here hexec rfl (hb hbytes d1) rfl rfl ?_
    refine iconstV X0.here hexec rfl 0 (hb hbytes d2) (by decide) ?_
    refine XS.aloadN X0.here hexec rfl (hb hbytes d3) rfl rfl ?_
    refine X0.alen hexec (hA.1.mv X0.warmed.alike hh0) rfl rfl (hb hbytes d4) ?_
    refine XS.aconstNull X0.here hexec rfl (hb hbytes d5) ?_
    exact Steps.refl _)
  obtain ⟨v3, T3, X3, E3, g3⟩ := X0.callN hexec (New4.law l a D fV fC b A z 0 A.slots.size) rfl hown (wks W (initW "java/lang/String" 27 New4.yN)) (W New4.tab (by simp only [site, List.mem_cons, List.mem_append, true_or, or_true])) (W := 0) (Nat.le_of_ble_eq_true rfl) (Nat.le_of_ble_eq_true rfl) (Nat.le_refl _) (by show 0 + A.slots.size ≤ A.slots.size; omega) (g := (mkF m 6 #[.val (.ref a), .val (.ref b)] [.null, .int (Int32.ofNat A.slots.size), .int (Int32.ofNat 0), .ref b, .ref a])) rfl (by rw [hml]; rfl) c2 (argsL := [.ref b, .int (Int32.ofNat 0), .int (Int32.ofNat A.slots.size), .null]) (rest := []) rfl rfl (by show 2 * 0 + 0 ≤ _; decide) (hb hbytes d6) (⟨rfl, hB.mv X0.warmed.alike hh0, f1.al X0.warmed.alike, f2.al X0.warmed.alike, hA.mv X0.warmed.alike hh0, s1.there X0.warmed.alike hh0, hz, l0, by omega, l2, fun i hi => by rw [Nat.zero_add]; exact hp i hi⟩)
  have e0 := Got.mv _ s₁ s _ _ hh0.symm (Vm.Alike.refl _) rfl E3
  obtain rfl := e0.1
  have c4 : Steps p.tables e below (s₁.setTop (entryFrame m #[.ref a, .ref b] 2)) (T3.setTop (mkF m 9 #[.val (.ref a), .val (.ref b)] [])) := g3
  exact ⟨T3, none, _, _, _, X3, by simp, rfl, by omega, (fun _ => rfl), e0, fun fs hl => c4.trans (X3.returnOut hexec hret (hb hbytes d9) hl)⟩
theorem pays {l : Launch} {R : Room} {p : Program} {e : Env} {below : List Frame} {s : State} {sargs : Array Value} {len W : Nat} (a : Addr) (D : Cell) (fV fC : Field) (b : Addr) (A : Cell) (z : Int32) (htab : tab.before sargs s = true) (hfr : 4 ≤ R.frames) (hlo : W + 65 ≤ R.locals) :
    Back l R p e below s sargs yN len W (fun A₁ a₁ => A₁.cells + 1 ≤ R.cells ∧ A₁.slots + A.slots.size ≤ R.slots ∧ P a D fV fC b A z a₁ A₁.U) (fun A₁ _ v₁ B₁ => E a D fV fC A v₁ A₁.U B₁.U ∧ B₁.locs = A₁.locs ++ [⟨a, fC.slot⟩, ⟨a, fV.slot⟩] ∧ B₁.cells = A₁.cells + 1 ∧ B₁.slots = A₁.slots + A.slots.size) :=
  (law l a D fV fC b A z).pays htab hfr (by omega)
end New1
end StrChars
namespace StrChars.Road
open Jvm Sem ClassFile Op Lib Jvm.Stand Jvm.Free Jvm.Free.XT
open Jvm.Lib.Cold (StaticIs)
abbrev ST : String := "java/lang/String"
/-- every table word that New1's law asks, flat -/
abbrev words : List Jvm.Cond := [.code New1.yN New1.yB 2 none, .initialized ST, .methodLink ST 27 New4.yN, .instanceMethod New4.yN,
  .code New4.yN New4.yB 6 none, .fieldLink ST 38 ST "COMPACT_STRINGS" "Z", .laysFinal ST ST "value" "[B", .fieldLink ST 9 ST "value" "[B", .laysFinal ST ST "coder" "B", .fieldLink ST 15 ST "coder" "B",
  .methodLink ST 1 Lib.objectInit, .instanceMethod Lib.objectInit, .code Lib.objectInit ⟨#[0xb1]⟩ 1 none, .methodLink ST 177 Cmp3.yN, .static Cmp3.yN, .methodLink ST 47 CodL.yN, .static CodL.yN,
  .code Cmp3.yN Cmp3.yB 6 (some (.array .byte)), .initialized U16, .arrayClass .byte, .methodLink U16 115 Cmp5.yN, .static Cmp5.yN, .code Cmp5.yN Cmp5.yB 7 (some .int), .code CodL.yN CodL.yB 2 (some .byte)]
theorem tab_of {a : Array Value} {s : State} (h : ∀ w ∈ words, w.before a s = true) : New1.tab.before a s = true := by
  have h5 : Cmp5.tab.before a s = true := unparts (wk h (.code Cmp5.yN Cmp5.yB 7 (some .int))) (wks h (.initialized Cmp5.yN.cls :: Cmp5.site))
  have hc : CodL.tab.before a s = true := unparts (wk h (.code CodL.yN CodL.yB 2 (some .byte))) (wks h (.initialized CodL.yN.cls :: CodL.site))
  have q5 : ∀ w ∈ Cmp5.tab :: words, w.before a s = true := fun w hw => (List.mem_cons.mp hw).elim (fun e => e ▸ h5) (h w)
  have h3 : Cmp3.tab.before a s = true := unparts (wk q5 (.code Cmp3.yN Cmp3.yB 6 (some (.array .byte)))) (wks q5 (.initialized Cmp3.yN.cls :: Cmp3.site))
  have q3 : ∀ w ∈ Cmp3.tab :: CodL.tab :: words, w.before a s = true := fun w hw => (List.mem_cons.mp hw).elim (fun e => e ▸ h3) fun hw => (List.mem_cons.mp hw).elim (fun e => e ▸ hc) (h w)
  have h4 : New4.tab.before a s = true := unparts (wk q3 (.code New4.yN New4.yB 6 none)) (wks q3 (.initialized New4.yN.cls :: New4.site))
  have q4 : ∀ w ∈ New4.tab :: words, w.before a s = true := fun w hw => (List.mem_cons.mp hw).elim (fun e => e ▸ h4) (h w)
  exact unparts (wk q4 (.code New1.yN New1.yB 2 none)) (wks q4 (.initialized New1.yN.cls :: New1.site))
/-- the words ride from the start Z to the walk's own state -/
theorem moved {Z s : State} {a0 args : Array Value} (hZ : Z.Warmed39 s.vm) (hw : ∀ d ∈ words, d.before a0 Z = true) : ∀ d ∈ words, d.before args s = true := fun d hd => by
  have q := hw d hd
  have t : ∀ d ∈ words, d = .arrayClass .byte ∨ (d.onTables && d.keepsFace) = true := by decide +kernel
  rcases t d hd with rfl | t
  · exact RoadKit.mvA hZ q
  · exact RoadKit.mv hZ q t
/-- WHAT COMES BACK, over the tables of the start Z: h the heap at the call, h' behind it -/
def Q (Z : State) (x : Addr) (A : Cell) (h : Heap) (v : Option Value) (h' : Heap) (L : List Loc) : Prop := v = none ∧ (∀ y ∈ L, y.base = x) ∧ RoadKit.Keep h h' [x] ∧ h'.size = h.size + 1 ∧ RoadKit.Exa Z h' x ST ∧ RoadKit.Fld Z h' x ST "value" "[B" (.ref h.size) ∧ RoadKit.Fld Z h' x ST "coder" "B" (.int 0) ∧
  (∃ V : Cell, RoadKit.Arr Z h' h.size V .byte ∧ V.vm = .none ∧ Z.vm.findClass "[B" = some V.cls ∧ V.slots.size = A.slots.size ∧ ∀ j, j < A.slots.size → V.slots[j]? = some (.int (lo8 (cv A j)))) ∧
  ∀ (O n d : String) (w : Value), RoadKit.Fld Z h x O n d w → RoadKit.slotOf Z O n d ≠ RoadKit.slotOf Z ST "value" "[B" → RoadKit.slotOf Z O n d ≠ RoadKit.slotOf Z ST "coder" "B" → RoadKit.Fld Z h' x O n d w
/-- **new String(chars) AT A CALL, IN THE ROAD'S FORM**: for specialBack behind newO: x the fresh String, b the char[] with the cell A -/
theorem back {p : Program} {l : Launch} {e : Env} {R : Room} {s : State} {args : Array Value} {below : List Frame} {len W : Nat} {Z : State} {a0 : Array Value} {h : Heap} (hZ : Z.Warmed39 s.vm) (hw : ∀ d ∈ words, d.before a0 Z = true) {kI : Nat} (wi : (Jvm.Cond.instantiable ST kI).before a0 Z = true)
    {x b : Addr} {A : Cell} {z : Int32} {v0 c0 : Value} (E : RoadKit.Exa Z h x ST) (V : RoadKit.Fld Z h x ST "value" "[B" v0) (C : RoadKit.Fld Z h x ST "coder" "B" c0) (K : RoadKit.Arr Z h b A .char) (hty : Typed .char A) (S : RoadKit.Sta Z h ST "COMPACT_STRINGS" "Z" (.int z)) (hz : ¬ z = 0)
    (l0 : 0 < A.slots.size) (l2 : A.slots.size ≤ 536870912) (hp : ∀ i, i < A.slots.size → ¬ 255 < cv A i) (hfr : 4 ≤ R.frames) (hlo : W + 65 ≤ R.locals) :
    Back l R p e below s args New1.yN len W (fun P a => a = #[.ref x, .ref b] ∧ P.U.heap = h ∧ P.cells + 1 ≤ R.cells ∧ P.slots + A.slots.size ≤ R.slots)
      (fun P _ v B => ∃ L, Q Z x A h v B.U.heap L ∧ B.locs = P.locs ++ L ∧ B.cells = P.cells + 1 ∧ B.slots = P.slots + A.slots.size) := by
  intro m meth c P g ig mk a X hg hsize hdg hW hn hp'
  obtain ⟨rfl, rfl, r1, r2⟩ := hp'
  have al : Z.vm.Alike P.U.vm := hZ.alike.trans X.warmed.alike
  obtain ⟨D, cfV, kV, iV, fV, hD, gV, stV, knV, obV, asV, slV⟩ := id V
  obtain ⟨D', cfC, kC, iC, fC, hD', gC, stC, -, -, asC, slC⟩ := id C
  cases hD.symm.trans hD'
  obtain ⟨D2, kD, e1, e2, e3, e4, e5⟩ := id E
  cases hD.symm.trans e1
  obtain ⟨c2, k2, i1, i2, i3, -⟩ := Cond.instantiable_spec wi
  cases e2.symm.trans i1
  cases e3.symm.trans i2
  obtain ⟨kU, u1, u2⟩ := al.2.2 _ _ e3
  have hB : Blank ST x D P.U := ⟨hD, ⟨knV, fun q hq => by rw [hq] at obV; cases obV⟩, by rw [al.findClass]; exact e2, kU, u1, by rw [u2]; exact i3, by rw [u2]; exact e5 i3⟩
  have F1 : Found ST "value" "[B" fV P.U := ⟨SBG.found_only al ⟨cfV, kV, iV, gV⟩, stV⟩
  have F2 : Found ST "coder" "B" fC P.U := ⟨SBG.found_only al ⟨cfC, kC, iC, gC⟩, stC⟩
  have hA : Ch b A P.U := ⟨⟨K.1, State.isArrayOf_alike al K.2.1, K.2.2, by omega⟩, hty⟩
  have hS : StaticIs P.U ST "COMPACT_STRINGS" "Z" (.int z) := by
    obtain ⟨cfS, iS, kS, fS, st, cS, t1, t2, t3, t4, t5, t6, t7⟩ := S
    exact StaticIs.there (s := { Z with heap := P.U.heap }) ⟨cfS, iS, kS, fS, st, cS, t1, t2, t3, t4, t5, (fun q => by rw [q] at t6; cases t6), t7⟩ al rfl
  obtain ⟨v, B, X', ⟨⟨hv, E', V', q1, q2, q3, q4, q5, q6, q7, q8, q9, q10, q11⟩, hl, hc, hs⟩, st⟩ := New1.pays x D fV fC b A z (tab_of (moved hZ hw)) hfr hlo m meth c P g ig mk _ X hg hsize hdg hW hn ⟨r1, r2, rfl, hB, F1, F2, hA, hS, hz, l0, l2, hp⟩
  have al' : Z.vm.Alike B.U.vm := hZ.alike.trans X'.warmed.alike
  have hsz : E'.slots.size = D.slots.size := by
    obtain ⟨-, -, -, kB, w1, w2, w3⟩ := q1
    obtain ⟨kB', y1, y2⟩ := al'.2.2 _ _ e3
    rw [q2.2.1] at w1
    cases w1.symm.trans y1
    rw [w3, e5 i3, y2]
  refine ⟨v, B, X', ⟨_, ⟨hv, ?_, ⟨by omega, fun y cy hy hn' => q10 y cy (by simpa using hn') hy, fun y cy hy => ?_⟩, q11, ⟨E', _, q1.1, by rw [q2.2.1]; exact e2, by rw [q2.2.1]; exact e3, by rw [q2.1]; exact obV, fun _ => by rw [hsz]; exact e5 i3⟩,
    ⟨E', cfV, kV, iV, fV, q1.1, gV, stV, by rw [q2.1]; exact knV, by rw [q2.1]; exact obV, by rw [q2.2.1]; exact asV, q3⟩, ⟨E', cfC, kC, iC, fC, q1.1, gC, stC, by rw [q2.1]; exact knV, by rw [q2.1]; exact obV, by rw [q2.2.1]; exact asC, q4⟩,
    ⟨V', ⟨q5.1, State.isArrayOf_alike al'.symm q5.2.1, q5.2.2.1⟩, q6, by rw [← al'.findClass]; exact q7, q8, fun j hj => by have := q9 j hj; rwa [Nat.zero_add] at this⟩, fun O n d w F n1 n2 => ?_⟩, hl, hc, hs⟩, st⟩
  · intro y hy
    simp only [List.mem_cons, List.not_mem_nil, or_false] at hy
    rcases hy with rfl | rfl <;> rfl
  · by_cases q : y = x
    · subst q
      cases hD.symm.trans hy
      exact ⟨E', q1.1, q2.2.1, q2.1, hsz⟩
    · exact ⟨cy, q10 y cy q hy, rfl, rfl, rfl⟩
  · obtain ⟨D3, cf, k, i, f, g1, g2, g3, g4, g5, g6, g7⟩ := F
    cases hD.symm.trans g1
    simp only [RoadKit.slotOf, g2, gV, gC, Option.map_some, Option.getD_some] at n1 n2
    exact ⟨E', cf, k, i, f, q1.1, g2, g3, by rw [q2.1]; exact g4, by rw [q2.1]; exact g5, by rw [q2.2.1]; exact g6, by rw [q2.2.2 f.slot (by simp [n1, n2])]; exact g7⟩
end StrChars.Road
namespace StrChars.Road
open Jvm Sem ClassFile Op Lib Jvm.Stand Jvm.Free Jvm.Free.XT
/-- WHAT COMES BACK, the byte[] as a list of values -/
def QA (Z : State) (x : Addr) (zn : Int32) (cs : List Int32) (h : Heap) (v : Option Value) (h' : Heap) (L : List Loc) : Prop := v = none ∧ (∀ y ∈ L, y.base = x) ∧ RoadKit.Keep h h' [x] ∧ h'.size = h.size + 1 ∧ RoadKit.Exa Z h' x ST ∧ RoadKit.Fld Z h' x ST "value" "[B" (.ref h.size) ∧ RoadKit.Fld Z h' x ST "coder" "B" (.int 0) ∧
  (∃ kb, Z.vm.findClass "[B" = some kb ∧ RoadKit.Arv Z h' h.size kb .byte zn (cs.map fun c => .int (lo8 c)) (.int 0)) ∧
  ∀ (O n d : String) (w : Value), RoadKit.Fld Z h x O n d w → RoadKit.slotOf Z O n d ≠ RoadKit.slotOf Z ST "value" "[B" → RoadKit.slotOf Z O n d ≠ RoadKit.slotOf Z ST "coder" "B" → RoadKit.Fld Z h' x O n d w
/-- **new String(chars) AT A CALL, THE ARRAYS AS LISTS**: the char[] at b holds cs, not empty, no char above 255 -/
theorem backArv {p : Program} {l : Launch} {e : Env} {R : Room} {s : State} {args : Array Value} {below : List Frame} {len W : Nat} {Z : State} {a0 : Array Value} {h : Heap} (hZ : Z.Warmed39 s.vm) (hw : ∀ d ∈ words, d.before a0 Z = true) {kI : Nat} (wi : (Jvm.Cond.instantiable ST kI).before a0 Z = true)
    {x b : Addr} {k : ClassId} {zn z : Int32} {cs : List Int32} {dv v0 c0 : Value} (E : RoadKit.Exa Z h x ST) (V : RoadKit.Fld Z h x ST "value" "[B" v0) (C : RoadKit.Fld Z h x ST "coder" "B" c0) (K : RoadKit.Arv Z h b k .char zn (cs.map Value.int) dv) (S : RoadKit.Sta Z h ST "COMPACT_STRINGS" "Z" (.int z)) (hz : ¬ z = 0)
    (hlen : zn.toNatClampNeg = cs.length) (h0 : 0 < cs.length) (hbig : cs.length ≤ 536870912) (hall : ∀ c ∈ cs, ¬ 255 < c) (hfr : 4 ≤ R.frames) (hlo : W + 65 ≤ R.locals) :
    Back l R p e below s args New1.yN len W (fun P a => a = #[.ref x, .ref b] ∧ P.U.heap = h ∧ P.cells + 1 ≤ R.cells ∧ P.slots + cs.length ≤ R.slots)
      (fun P _ v B => ∃ L, QA Z x zn cs h v B.U.heap L ∧ B.locs = P.locs ++ L ∧ B.cells = P.cells + 1 ∧ B.slots = P.slots + cs.length) := by
  obtain ⟨A, K1, K2, K3, K4, K5, K6⟩ := K
  have e : A.slots.size = cs.length := K3.trans hlen
  have hat : ∀ (i : Nat) (hi : i < cs.length), A.slots[i]? = some (.int cs[i]) := fun i hi => by rw [K5 i (by omega)]; simp [List.getD_eq_getElem?_getD, hi]
  have hcv : ∀ (i : Nat) (hi : i < cs.length), cv A i = cs[i] := fun i hi => by unfold cv; rw [hat i hi]
  have hty : Typed .char A := fun i v hv => by
    have hi : i < A.slots.size := (Array.getElem?_eq_some_iff.mp hv).1
    have q := K5 i hi
    rw [hv] at q
    rw [Option.some.inj q]
    exact K6 i hi
  refine Back.mono (back hZ hw wi E V C K1 hty S hz (by omega) (by omega) (fun i hi => by rw [hcv i (by omega)]; exact hall _ (List.getElem_mem _)) hfr hlo) (fun P a hp => ⟨hp.1, hp.2.1, hp.2.2.1, by rw [e]; exact hp.2.2.2⟩) (fun P a v B hp hq => ?_)
  obtain ⟨L, ⟨q1, q2, q3, q4, q5, q6, q7, ⟨V', v1, v2, v3, v4, v5⟩, q9⟩, hl, hc, hs⟩ := hq
  refine ⟨L, ⟨q1, q2, q3, q4, q5, q6, q7, ⟨V'.cls, v3, V', v1, rfl, by rw [v4, e, hlen], K4, fun i hi => ?_, fun i hi => ?_⟩, q9⟩, hl, hc, by rw [hs, e]⟩
  · have hi' : i < cs.length := by omega
    rw [v5 i (by omega), hcv i hi']; simp [List.getD_eq_getElem?_getD, hi']
  · have hi' : i < cs.length := by omega
    simp only [List.getD_eq_getElem?_getD, List.getElem?_map, List.getElem?_eq_getElem hi', Option.map_some, Option.getD_some]
    exact fits_lo8 _
end StrChars.Road
namespace StrChars.Road
open Jvm Sem ClassFile Op Lib Jvm.Stand Jvm.Free Jvm.Free.XT
/-- WHAT COMES BACK, in the writer's own shape -/
def QV (Z : State) (x : Addr) (N : Int32) (bs : List Int32) (h : Heap) (n0 : Nat) (v : Option Value) (h' : Heap) (L : List Loc) : Prop := v = none ∧ RoadKit.Fr n0 L ∧ RoadKit.Keep h h' [x] ∧ RoadKit.Exa Z h' x ST ∧ RoadKit.Fld Z h' x ST "coder" "B" (.int 0) ∧
  ∃ (t : Addr) (kb : ClassId), n0 ≤ t ∧ h.size ≤ t ∧ ¬ t = x ∧ RoadKit.Fld Z h' x ST "value" "[B" (.ref t) ∧ RoadKit.Arv Z h' t kb .byte N (bs.map Value.int) (.int 0)
/-- **new String(chars) AT A CALL, FOR THE WRITER**: a char[] of n known ints, each 0 to 255 -/
theorem backV {p : Program} {l : Launch} {e : Env} {R : Room} {s : State} {args : Array Value} {below : List Frame} {len W : Nat} {Z : State} {a0 : Array Value} {h : Heap} (hZ : Z.Warmed39 s.vm) (hw : ∀ d ∈ words, d.before a0 Z = true) {kI : Nat} (wi : (Jvm.Cond.instantiable ST kI).before a0 Z = true)
    {x b : Addr} {kC : ClassId} {cs bs : List Int32} {d v0 c0 : Value} {z N : Int32} {n n0 : Nat} (hx0 : n0 ≤ x) (hh0 : n0 ≤ h.size) (E : RoadKit.Exa Z h x ST) (V : RoadKit.Fld Z h x ST "value" "[B" v0) (C : RoadKit.Fld Z h x ST "coder" "B" c0) (K : RoadKit.Arv Z h b kC .char N (cs.map Value.int) d) (S : RoadKit.Sta Z h ST "COMPACT_STRINGS" "Z" (.int z)) (hz : ¬ z = 0)
    (hn : cs.length = n) (hN : N = Int32.ofNat n) (l0 : 0 < n) (l2 : n ≤ 4000) (hp : ∀ c ∈ cs, ¬ c < 0 ∧ ¬ (255 : Int32) < c) (hb : bs = cs.map (fun c => c.toInt8.toInt32)) (hfr : 4 ≤ R.frames) (hlo : W + 65 ≤ R.locals) :
    Back l R p e below s args (⟨"java/lang/String", "<init>", "([C)V"⟩ : MethodName) len W (fun P a => a = #[.ref x, .ref b] ∧ P.U.heap = h ∧ P.cells + 1 ≤ R.cells ∧ P.slots + n ≤ R.slots)
      (fun P _ v B => ∃ L, QV Z x N bs h n0 v B.U.heap L ∧ B.locs = P.locs ++ L ∧ B.cells = P.cells + 1 ∧ B.slots = P.slots + n) := by
  subst hn hN hb
  refine Back.mono (backArv hZ hw wi E V C K S hz (n32 (by omega)) l0 (by omega) (fun c hc => (hp c hc).2) hfr hlo) (fun P a hp => hp) (fun P a v B hp hq => ?_)
  obtain ⟨L, ⟨q1, q2, q3, q4, q5, q6, q7, ⟨kb, v1, v2⟩, q9⟩, hl, hc, hs⟩ := hq
  exact ⟨L, ⟨q1, fun y hy => by rw [q2 y hy]; exact hx0, q3, q5, q7, h.size, kb, hh0, Nat.le_refl _, Nat.ne_of_gt E.lt, q6, by rw [List.map_map]; exact v2⟩, hl, hc, hs⟩
end StrChars.Road
end Jvm.Pilot.@@N@@
namespace Jvm.Pilot.@@N@@
open Jvm Jvm.ClassFile Sem Op Lib Jvm.Free Jvm.Stand Jvm.LawKit Jvm.RoadKit Bundle Jvm.Pilot.@@N@@.Jvm.D
theorem wd0 {a0 : Array Value} {Z : State} (hw : ∀ d ∈ tables_1, d.before a0 Z = true) : (Jvm.Cond.methodLink "com/example/tickreel/tickreel/BinaryFieldI64PinLaw" (12 : Nat) ({ cls := "com/example/tickreel/tickreel/BinaryFieldI64PinLaw", name := "drawName", desc := "(IIII)Ljava/lang/String;" } : Jvm.MethodName)).before a0 Z = true := hw _ (List.mem_of_getElem? (i := 0) rfl)
theorem wd1 {a0 : Array Value} {Z : State} (hw : ∀ d ∈ tables_1, d.before a0 Z = true) : (Jvm.Cond.static ({ cls := "com/example/tickreel/tickreel/BinaryFieldI64PinLaw", name := "drawName", desc := "(IIII)Ljava/lang/String;" } : Jvm.MethodName)).before a0 Z = true := hw _ (List.mem_of_getElem? (i := 1) rfl)
theorem wd2 {a0 : Array Value} {Z : State} (hw : ∀ d ∈ tables_1, d.before a0 Z = true) : (Jvm.Cond.initialized "com/example/tickreel/tickreel/BinaryFieldI64PinLaw").before a0 Z = true := hw _ (List.mem_of_getElem? (i := 2) rfl)
theorem wd3 {a0 : Array Value} {Z : State} (hw : ∀ d ∈ tables_1, d.before a0 Z = true) : (Jvm.Cond.code ({ cls := "com/example/tickreel/tickreel/BinaryFieldI64PinLaw", name := "drawName", desc := "(IIII)Ljava/lang/String;" } : Jvm.MethodName) method_2_code (8 : Nat) (Option.some (Jvm.ClassFile.FieldType.object "java/lang/String"))).before a0 Z = true := hw _ (List.mem_of_getElem? (i := 3) rfl)
theorem wd4 {a0 : Array Value} {Z : State} (hw : ∀ d ∈ tables_1, d.before a0 Z = true) : (Jvm.Cond.classLink "com/example/tickreel/tickreel/BinaryFieldI64PinLaw" (7 : Nat) "java/lang/String").before a0 Z = true := hw _ (List.mem_of_getElem? (i := 4) rfl)
theorem wd5 {a0 : Array Value} {Z : State} (hw : ∀ d ∈ tables_1, d.before a0 Z = true) : (Jvm.Cond.instantiable "java/lang/String" (4 : Nat)).before a0 Z = true := hw _ (List.mem_of_getElem? (i := 5) rfl)
theorem wd6 {a0 : Array Value} {Z : State} (hw : ∀ d ∈ tables_1, d.before a0 Z = true) : (Jvm.Cond.initialized "java/lang/String").before a0 Z = true := hw _ (List.mem_of_getElem? (i := 6) rfl)
theorem wd7 {a0 : Array Value} {Z : State} (hw : ∀ d ∈ tables_1, d.before a0 Z = true) : (Jvm.Cond.arrayClass Jvm.ClassFile.FieldType.char).before a0 Z = true := hw _ (List.mem_of_getElem? (i := 7) rfl)
theorem wd8 {a0 : Array Value} {Z : State} (hw : ∀ d ∈ tables_1, d.before a0 Z = true) : (Jvm.Cond.methodLink "com/example/tickreel/tickreel/BinaryFieldI64PinLaw" (9 : Nat) ({ cls := "java/lang/String", name := "<init>", desc := "([C)V" } : Jvm.MethodName)).before a0 Z = true := hw _ (List.mem_of_getElem? (i := 8) rfl)
theorem wd9 {a0 : Array Value} {Z : State} (hw : ∀ d ∈ tables_1, d.before a0 Z = true) : (Jvm.Cond.instanceMethod ({ cls := "java/lang/String", name := "<init>", desc := "([C)V" } : Jvm.MethodName)).before a0 Z = true := hw _ (List.mem_of_getElem? (i := 9) rfl)
theorem wd10 {a0 : Array Value} {Z : State} (hw : ∀ d ∈ tables_1, d.before a0 Z = true) : (Jvm.Cond.code ({ cls := "java/lang/String", name := "<init>", desc := "([C)V" } : Jvm.MethodName) jdk_42_method_3_code (2 : Nat) (Option.none : Option Jvm.ClassFile.FieldType)).before a0 Z = true := hw _ (List.mem_of_getElem? (i := 10) rfl)
theorem wd11 {a0 : Array Value} {Z : State} (hw : ∀ d ∈ tables_1, d.before a0 Z = true) : (Jvm.Cond.methodLink "java/lang/String" (27 : Nat) ({ cls := "java/lang/String", name := "<init>", desc := "([CIILjava/lang/Void;)V" } : Jvm.MethodName)).before a0 Z = true := hw _ (List.mem_of_getElem? (i := 11) rfl)
theorem wd12 {a0 : Array Value} {Z : State} (hw : ∀ d ∈ tables_1, d.before a0 Z = true) : (Jvm.Cond.instanceMethod ({ cls := "java/lang/String", name := "<init>", desc := "([CIILjava/lang/Void;)V" } : Jvm.MethodName)).before a0 Z = true := hw _ (List.mem_of_getElem? (i := 12) rfl)
theorem wd14 {a0 : Array Value} {Z : State} (hw : ∀ d ∈ tables_1, d.before a0 Z = true) : (Jvm.Cond.code ({ cls := "java/lang/String", name := "<init>", desc := "([CIILjava/lang/Void;)V" } : Jvm.MethodName) jdk_42_method_149_code (6 : Nat) (Option.none : Option Jvm.ClassFile.FieldType)).before a0 Z = true := hw _ (List.mem_of_getElem? (i := 14) rfl)
theorem wd15 {a0 : Array Value} {Z : State} (hw : ∀ d ∈ tables_1, d.before a0 Z = true) : (Jvm.Cond.methodLink "java/lang/String" (1 : Nat) ({ cls := "java/lang/Object", name := "<init>", desc := "()V" } : Jvm.MethodName)).before a0 Z = true := hw _ (List.mem_of_getElem? (i := 15) rfl)
theorem wd16 {a0 : Array Value} {Z : State} (hw : ∀ d ∈ tables_1, d.before a0 Z = true) : (Jvm.Cond.instanceMethod ({ cls := "java/lang/Object", name := "<init>", desc := "()V" } : Jvm.MethodName)).before a0 Z = true := hw _ (List.mem_of_getElem? (i := 16) rfl)
theorem wd17 {a0 : Array Value} {Z : State} (hw : ∀ d ∈ tables_1, d.before a0 Z = true) : (Jvm.Cond.code ({ cls := "java/lang/Object", name := "<init>", desc := "()V" } : Jvm.MethodName) object_method_1_code (1 : Nat) (Option.none : Option Jvm.ClassFile.FieldType)).before a0 Z = true := hw _ (List.mem_of_getElem? (i := 17) rfl)
theorem wd23 {a0 : Array Value} {Z : State} (hw : ∀ d ∈ tables_1, d.before a0 Z = true) : (Jvm.Cond.arrayClass Jvm.ClassFile.FieldType.byte).before a0 Z = true := hw _ (List.mem_of_getElem? (i := 23) rfl)
theorem wd30 {a0 : Array Value} {Z : State} (hw : ∀ d ∈ tables_1, d.before a0 Z = true) : (Jvm.Cond.fieldLink "java/lang/String" (15 : Nat) "java/lang/String" "coder" "B").before a0 Z = true := hw _ (List.mem_of_getElem? (i := 30) rfl)
theorem wd31 {a0 : Array Value} {Z : State} (hw : ∀ d ∈ tables_1, d.before a0 Z = true) : (Jvm.Cond.laysFinal "java/lang/String" "java/lang/String" "coder" "B").before a0 Z = true := hw _ (List.mem_of_getElem? (i := 31) rfl)
theorem wd32 {a0 : Array Value} {Z : State} (hw : ∀ d ∈ tables_1, d.before a0 Z = true) : (Jvm.Cond.fieldLink "java/lang/String" (9 : Nat) "java/lang/String" "value" "[B").before a0 Z = true := hw _ (List.mem_of_getElem? (i := 32) rfl)
theorem wd33 {a0 : Array Value} {Z : State} (hw : ∀ d ∈ tables_1, d.before a0 Z = true) : (Jvm.Cond.laysFinal "java/lang/String" "java/lang/String" "value" "[B").before a0 Z = true := hw _ (List.mem_of_getElem? (i := 33) rfl)
theorem wd34 {a0 : Array Value} {Z : State} (hw : ∀ d ∈ tables_1, d.before a0 Z = true) : (Jvm.Cond.methodLink "com/example/tickreel/tickreel/BinaryFieldI64PinLaw" (18 : Nat) ({ cls := "com/example/tickreel/tickreel/BinaryField", name := "i64", desc := "(Ljava/lang/String;I)Lcom/example/tickreel/tickreel/BinaryField;" } : Jvm.MethodName)).before a0 Z = true := hw _ (List.mem_of_getElem? (i := 34) rfl)
theorem wd35 {a0 : Array Value} {Z : State} (hw : ∀ d ∈ tables_1, d.before a0 Z = true) : (Jvm.Cond.static ({ cls := "com/example/tickreel/tickreel/BinaryField", name := "i64", desc := "(Ljava/lang/String;I)Lcom/example/tickreel/tickreel/BinaryField;" } : Jvm.MethodName)).before a0 Z = true := hw _ (List.mem_of_getElem? (i := 35) rfl)
theorem wd36 {a0 : Array Value} {Z : State} (hw : ∀ d ∈ tables_1, d.before a0 Z = true) : (Jvm.Cond.initialized "com/example/tickreel/tickreel/BinaryField").before a0 Z = true := hw _ (List.mem_of_getElem? (i := 36) rfl)
theorem wd37 {a0 : Array Value} {Z : State} (hw : ∀ d ∈ tables_1, d.before a0 Z = true) : (Jvm.Cond.code ({ cls := "com/example/tickreel/tickreel/BinaryField", name := "i64", desc := "(Ljava/lang/String;I)Lcom/example/tickreel/tickreel/BinaryField;" } : Jvm.MethodName) prog_1_method_8_code (2 : Nat) (Option.some (Jvm.ClassFile.FieldType.object "com/example/tickreel/tickreel/BinaryField"))).before a0 Z = true := hw _ (List.mem_of_getElem? (i := 37) rfl)
theorem wd38 {a0 : Array Value} {Z : State} (hw : ∀ d ∈ tables_1, d.before a0 Z = true) : (Jvm.Cond.classLink "com/example/tickreel/tickreel/BinaryField" (8 : Nat) "com/example/tickreel/tickreel/BinaryField").before a0 Z = true := hw _ (List.mem_of_getElem? (i := 38) rfl)
theorem wd39 {a0 : Array Value} {Z : State} (hw : ∀ d ∈ tables_1, d.before a0 Z = true) : (Jvm.Cond.instantiable "com/example/tickreel/tickreel/BinaryField" (5 : Nat)).before a0 Z = true := hw _ (List.mem_of_getElem? (i := 39) rfl)
theorem wd40 {a0 : Array Value} {Z : State} (hw : ∀ d ∈ tables_1, d.before a0 Z = true) : (Jvm.Cond.fieldLink "com/example/tickreel/tickreel/BinaryField" (38 : Nat) "com/example/tickreel/tickreel/BinaryField$Type" "SIGNED" "Lcom/example/tickreel/tickreel/BinaryField$Type;").before a0 Z = true := hw _ (List.mem_of_getElem? (i := 40) rfl)
theorem wd41 {a0 : Array Value} {Z : State} (hw : ∀ d ∈ tables_1, d.before a0 Z = true) : (Jvm.Cond.initialized "com/example/tickreel/tickreel/BinaryField$Type").before a0 Z = true := hw _ (List.mem_of_getElem? (i := 41) rfl)
theorem wd42 {a0 : Array Value} {Z : State} (hw : ∀ d ∈ tables_1, d.before a0 Z = true) : (Jvm.Cond.laysStatic "com/example/tickreel/tickreel/BinaryField$Type" "SIGNED" "Lcom/example/tickreel/tickreel/BinaryField$Type;").before a0 Z = true := hw _ (List.mem_of_getElem? (i := 42) rfl)
theorem wd43 {a0 : Array Value} {Z : State} (hw : ∀ d ∈ tables_1, d.before a0 Z = true) : (Jvm.Cond.methodLink "com/example/tickreel/tickreel/BinaryField" (35 : Nat) ({ cls := "com/example/tickreel/tickreel/BinaryField", name := "<init>", desc := "(Ljava/lang/String;Lcom/example/tickreel/tickreel/BinaryField$Type;II)V" } : Jvm.MethodName)).before a0 Z = true := hw _ (List.mem_of_getElem? (i := 43) rfl)
theorem wd44 {a0 : Array Value} {Z : State} (hw : ∀ d ∈ tables_1, d.before a0 Z = true) : (Jvm.Cond.instanceMethod ({ cls := "com/example/tickreel/tickreel/BinaryField", name := "<init>", desc := "(Ljava/lang/String;Lcom/example/tickreel/tickreel/BinaryField$Type;II)V" } : Jvm.MethodName)).before a0 Z = true := hw _ (List.mem_of_getElem? (i := 44) rfl)
theorem wd45 {a0 : Array Value} {Z : State} (hw : ∀ d ∈ tables_1, d.before a0 Z = true) : (Jvm.Cond.code ({ cls := "com/example/tickreel/tickreel/BinaryField", name := "<init>", desc := "(Ljava/lang/String;Lcom/example/tickreel/tickreel/BinaryField$Type;II)V" } : Jvm.MethodName) prog_1_method_2_code (5 : Nat) (Option.none : Option Jvm.ClassFile.FieldType)).before a0 Z = true := hw _ (List.mem_of_getElem? (i := 45) rfl)
theorem wd46 {a0 : Array Value} {Z : State} (hw : ∀ d ∈ tables_1, d.before a0 Z = true) : (Jvm.Cond.methodLink "com/example/tickreel/tickreel/BinaryField" (27 : Nat) ({ cls := "com/example/tickreel/tickreel/BinaryField", name := "<init>", desc := "(Ljava/lang/String;Lcom/example/tickreel/tickreel/BinaryField$Type;III)V" } : Jvm.MethodName)).before a0 Z = true := hw _ (List.mem_of_getElem? (i := 46) rfl)
theorem wd47 {a0 : Array Value} {Z : State} (hw : ∀ d ∈ tables_1, d.before a0 Z = true) : (Jvm.Cond.instanceMethod ({ cls := "com/example/tickreel/tickreel/BinaryField", name := "<init>", desc := "(Ljava/lang/String;Lcom/example/tickreel/tickreel/BinaryField$Type;III)V" } : Jvm.MethodName)).before a0 Z = true := hw _ (List.mem_of_getElem? (i := 47) rfl)
theorem wd48 {a0 : Array Value} {Z : State} (hw : ∀ d ∈ tables_1, d.before a0 Z = true) : (Jvm.Cond.code ({ cls := "com/example/tickreel/tickreel/BinaryField", name := "<init>", desc := "(Ljava/lang/String;Lcom/example/tickreel/tickreel/BinaryField$Type;III)V" } : Jvm.MethodName) prog_1_method_1_code (6 : Nat) (Option.none : Option Jvm.ClassFile.FieldType)).before a0 Z = true := hw _ (List.mem_of_getElem? (i := 48) rfl)
theorem wd49 {a0 : Array Value} {Z : State} (hw : ∀ d ∈ tables_1, d.before a0 Z = true) : (Jvm.Cond.methodLink "com/example/tickreel/tickreel/BinaryField" (1 : Nat) ({ cls := "java/lang/Object", name := "<init>", desc := "()V" } : Jvm.MethodName)).before a0 Z = true := hw _ (List.mem_of_getElem? (i := 49) rfl)
theorem wd50 {a0 : Array Value} {Z : State} (hw : ∀ d ∈ tables_1, d.before a0 Z = true) : (Jvm.Cond.fieldLink "com/example/tickreel/tickreel/BinaryField" (7 : Nat) "com/example/tickreel/tickreel/BinaryField" "name" "Ljava/lang/String;").before a0 Z = true := hw _ (List.mem_of_getElem? (i := 50) rfl)
theorem wd51 {a0 : Array Value} {Z : State} (hw : ∀ d ∈ tables_1, d.before a0 Z = true) : (Jvm.Cond.laysFinal "com/example/tickreel/tickreel/BinaryField" "com/example/tickreel/tickreel/BinaryField" "name" "Ljava/lang/String;").before a0 Z = true := hw _ (List.mem_of_getElem? (i := 51) rfl)
theorem wd52 {a0 : Array Value} {Z : State} (hw : ∀ d ∈ tables_1, d.before a0 Z = true) : (Jvm.Cond.fieldLink "com/example/tickreel/tickreel/BinaryField" (13 : Nat) "com/example/tickreel/tickreel/BinaryField" "type" "Lcom/example/tickreel/tickreel/BinaryField$Type;").before a0 Z = true := hw _ (List.mem_of_getElem? (i := 52) rfl)
theorem wd53 {a0 : Array Value} {Z : State} (hw : ∀ d ∈ tables_1, d.before a0 Z = true) : (Jvm.Cond.laysFinal "com/example/tickreel/tickreel/BinaryField" "com/example/tickreel/tickreel/BinaryField" "type" "Lcom/example/tickreel/tickreel/BinaryField$Type;").before a0 Z = true := hw _ (List.mem_of_getElem? (i := 53) rfl)
theorem wd54 {a0 : Array Value} {Z : State} (hw : ∀ d ∈ tables_1, d.before a0 Z = true) : (Jvm.Cond.fieldLink "com/example/tickreel/tickreel/BinaryField" (17 : Nat) "com/example/tickreel/tickreel/BinaryField" "offset" "I").before a0 Z = true := hw _ (List.mem_of_getElem? (i := 54) rfl)
theorem wd55 {a0 : Array Value} {Z : State} (hw : ∀ d ∈ tables_1, d.before a0 Z = true) : (Jvm.Cond.laysFinal "com/example/tickreel/tickreel/BinaryField" "com/example/tickreel/tickreel/BinaryField" "offset" "I").before a0 Z = true := hw _ (List.mem_of_getElem? (i := 55) rfl)
theorem wd56 {a0 : Array Value} {Z : State} (hw : ∀ d ∈ tables_1, d.before a0 Z = true) : (Jvm.Cond.fieldLink "com/example/tickreel/tickreel/BinaryField" (21 : Nat) "com/example/tickreel/tickreel/BinaryField" "width" "I").before a0 Z = true := hw _ (List.mem_of_getElem? (i := 56) rfl)
theorem wd57 {a0 : Array Value} {Z : State} (hw : ∀ d ∈ tables_1, d.before a0 Z = true) : (Jvm.Cond.laysFinal "com/example/tickreel/tickreel/BinaryField" "com/example/tickreel/tickreel/BinaryField" "width" "I").before a0 Z = true := hw _ (List.mem_of_getElem? (i := 57) rfl)
theorem wd58 {a0 : Array Value} {Z : State} (hw : ∀ d ∈ tables_1, d.before a0 Z = true) : (Jvm.Cond.fieldLink "com/example/tickreel/tickreel/BinaryField" (24 : Nat) "com/example/tickreel/tickreel/BinaryField" "decimalsAt" "I").before a0 Z = true := hw _ (List.mem_of_getElem? (i := 58) rfl)
theorem wd59 {a0 : Array Value} {Z : State} (hw : ∀ d ∈ tables_1, d.before a0 Z = true) : (Jvm.Cond.laysFinal "com/example/tickreel/tickreel/BinaryField" "com/example/tickreel/tickreel/BinaryField" "decimalsAt" "I").before a0 Z = true := hw _ (List.mem_of_getElem? (i := 59) rfl)
theorem wd60 {a0 : Array Value} {Z : State} (hw : ∀ d ∈ tables_1, d.before a0 Z = true) : (Jvm.Cond.methodLink "com/example/tickreel/tickreel/BinaryFieldI64PinLaw" (24 : Nat) ({ cls := "com/example/tickreel/tickreel/BinaryField", name := "name", desc := "()Ljava/lang/String;" } : Jvm.MethodName)).before a0 Z = true := hw _ (List.mem_of_getElem? (i := 60) rfl)
theorem wd61 {a0 : Array Value} {Z : State} (hw : ∀ d ∈ tables_1, d.before a0 Z = true) : (Jvm.Cond.declares ({ cls := "com/example/tickreel/tickreel/BinaryField", name := "name", desc := "()Ljava/lang/String;" } : Jvm.MethodName)).before a0 Z = true := hw _ (List.mem_of_getElem? (i := 61) rfl)
theorem wd62 {a0 : Array Value} {Z : State} (hw : ∀ d ∈ tables_1, d.before a0 Z = true) : (Jvm.Cond.instanceMethod ({ cls := "com/example/tickreel/tickreel/BinaryField", name := "name", desc := "()Ljava/lang/String;" } : Jvm.MethodName)).before a0 Z = true := hw _ (List.mem_of_getElem? (i := 62) rfl)
theorem wd63 {a0 : Array Value} {Z : State} (hw : ∀ d ∈ tables_1, d.before a0 Z = true) : (Jvm.Cond.selects "com/example/tickreel/tickreel/BinaryField" ({ cls := "com/example/tickreel/tickreel/BinaryField", name := "name", desc := "()Ljava/lang/String;" } : Jvm.MethodName) ({ cls := "com/example/tickreel/tickreel/BinaryField", name := "name", desc := "()Ljava/lang/String;" } : Jvm.MethodName)).before a0 Z = true := hw _ (List.mem_of_getElem? (i := 63) rfl)
theorem wd64 {a0 : Array Value} {Z : State} (hw : ∀ d ∈ tables_1, d.before a0 Z = true) : (Jvm.Cond.code ({ cls := "com/example/tickreel/tickreel/BinaryField", name := "name", desc := "()Ljava/lang/String;" } : Jvm.MethodName) prog_1_method_15_code (1 : Nat) (Option.some (Jvm.ClassFile.FieldType.object "java/lang/String"))).before a0 Z = true := hw _ (List.mem_of_getElem? (i := 64) rfl)
theorem wd65 {a0 : Array Value} {Z : State} (hw : ∀ d ∈ tables_1, d.before a0 Z = true) : (Jvm.Cond.methodLink "com/example/tickreel/tickreel/BinaryFieldI64PinLaw" (28 : Nat) ({ cls := "java/lang/String", name := "equals", desc := "(Ljava/lang/Object;)Z" } : Jvm.MethodName)).before a0 Z = true := hw _ (List.mem_of_getElem? (i := 65) rfl)
theorem wd66 {a0 : Array Value} {Z : State} (hw : ∀ d ∈ tables_1, d.before a0 Z = true) : (Jvm.Cond.declares ({ cls := "java/lang/String", name := "equals", desc := "(Ljava/lang/Object;)Z" } : Jvm.MethodName)).before a0 Z = true := hw _ (List.mem_of_getElem? (i := 66) rfl)
theorem wd67 {a0 : Array Value} {Z : State} (hw : ∀ d ∈ tables_1, d.before a0 Z = true) : (Jvm.Cond.instanceMethod ({ cls := "java/lang/String", name := "equals", desc := "(Ljava/lang/Object;)Z" } : Jvm.MethodName)).before a0 Z = true := hw _ (List.mem_of_getElem? (i := 67) rfl)
theorem wd68 {a0 : Array Value} {Z : State} (hw : ∀ d ∈ tables_1, d.before a0 Z = true) : (Jvm.Cond.selects "java/lang/String" ({ cls := "java/lang/String", name := "equals", desc := "(Ljava/lang/Object;)Z" } : Jvm.MethodName) ({ cls := "java/lang/String", name := "equals", desc := "(Ljava/lang/Object;)Z" } : Jvm.MethodName)).before a0 Z = true := hw _ (List.mem_of_getElem? (i := 68) rfl)
theorem wd69 {a0 : Array Value} {Z : State} (hw : ∀ d ∈ tables_1, d.before a0 Z = true) : (Jvm.Cond.code ({ cls := "java/lang/String", name := "equals", desc := "(Ljava/lang/Object;)Z" } : Jvm.MethodName) jdk_42_method_66_code (3 : Nat) (Option.some Jvm.ClassFile.FieldType.boolean)).before a0 Z = true := hw _ (List.mem_of_getElem? (i := 69) rfl)
theorem wd70 {a0 : Array Value} {Z : State} (hw : ∀ d ∈ tables_1, d.before a0 Z = true) : (Jvm.Cond.methodLink "com/example/tickreel/tickreel/BinaryFieldI64PinLaw" (32 : Nat) ({ cls := "com/example/tickreel/tickreel/BinaryField", name := "written", desc := "()Z" } : Jvm.MethodName)).before a0 Z = true := hw _ (List.mem_of_getElem? (i := 70) rfl)
theorem wd71 {a0 : Array Value} {Z : State} (hw : ∀ d ∈ tables_1, d.before a0 Z = true) : (Jvm.Cond.declares ({ cls := "com/example/tickreel/tickreel/BinaryField", name := "written", desc := "()Z" } : Jvm.MethodName)).before a0 Z = true := hw _ (List.mem_of_getElem? (i := 71) rfl)
theorem wd72 {a0 : Array Value} {Z : State} (hw : ∀ d ∈ tables_1, d.before a0 Z = true) : (Jvm.Cond.instanceMethod ({ cls := "com/example/tickreel/tickreel/BinaryField", name := "written", desc := "()Z" } : Jvm.MethodName)).before a0 Z = true := hw _ (List.mem_of_getElem? (i := 72) rfl)
theorem wd73 {a0 : Array Value} {Z : State} (hw : ∀ d ∈ tables_1, d.before a0 Z = true) : (Jvm.Cond.selects "com/example/tickreel/tickreel/BinaryField" ({ cls := "com/example/tickreel/tickreel/BinaryField", name := "written", desc := "()Z" } : Jvm.MethodName) ({ cls := "com/example/tickreel/tickreel/BinaryField", name := "written", desc := "()Z" } : Jvm.MethodName)).before a0 Z = true := hw _ (List.mem_of_getElem? (i := 73) rfl)
theorem wd74 {a0 : Array Value} {Z : State} (hw : ∀ d ∈ tables_1, d.before a0 Z = true) : (Jvm.Cond.code ({ cls := "com/example/tickreel/tickreel/BinaryField", name := "written", desc := "()Z" } : Jvm.MethodName) prog_1_method_16_code (1 : Nat) (Option.some Jvm.ClassFile.FieldType.boolean)).before a0 Z = true := hw _ (List.mem_of_getElem? (i := 74) rfl)
theorem wd75 {a0 : Array Value} {Z : State} (hw : ∀ d ∈ tables_1, d.before a0 Z = true) : (Jvm.Cond.fieldLink "com/example/tickreel/tickreel/BinaryField" (50 : Nat) "com/example/tickreel/tickreel/BinaryField$Type" "OMITTED" "Lcom/example/tickreel/tickreel/BinaryField$Type;").before a0 Z = true := hw _ (List.mem_of_getElem? (i := 75) rfl)
theorem wd76 {a0 : Array Value} {Z : State} (hw : ∀ d ∈ tables_1, d.before a0 Z = true) : (Jvm.Cond.laysStatic "com/example/tickreel/tickreel/BinaryField$Type" "OMITTED" "Lcom/example/tickreel/tickreel/BinaryField$Type;").before a0 Z = true := hw _ (List.mem_of_getElem? (i := 76) rfl)
theorem wd77 {a0 : Array Value} {Z : State} (hw : ∀ d ∈ tables_1, d.before a0 Z = true) : (Jvm.Cond.fieldLink "com/example/tickreel/tickreel/BinaryField" (55 : Nat) "com/example/tickreel/tickreel/BinaryField$Type" "FILLER" "Lcom/example/tickreel/tickreel/BinaryField$Type;").before a0 Z = true := hw _ (List.mem_of_getElem? (i := 77) rfl)
theorem wd78 {a0 : Array Value} {Z : State} (hw : ∀ d ∈ tables_1, d.before a0 Z = true) : (Jvm.Cond.laysStatic "com/example/tickreel/tickreel/BinaryField$Type" "FILLER" "Lcom/example/tickreel/tickreel/BinaryField$Type;").before a0 Z = true := hw _ (List.mem_of_getElem? (i := 78) rfl)
theorem wd79 {a0 : Array Value} {Z : State} (hw : ∀ d ∈ tables_1, d.before a0 Z = true) : (Jvm.Cond.methodLink "com/example/tickreel/tickreel/BinaryFieldI64PinLaw" (36 : Nat) ({ cls := "com/example/tickreel/tickreel/BinaryField", name := "offset", desc := "()I" } : Jvm.MethodName)).before a0 Z = true := hw _ (List.mem_of_getElem? (i := 79) rfl)
theorem wd80 {a0 : Array Value} {Z : State} (hw : ∀ d ∈ tables_1, d.before a0 Z = true) : (Jvm.Cond.declares ({ cls := "com/example/tickreel/tickreel/BinaryField", name := "offset", desc := "()I" } : Jvm.MethodName)).before a0 Z = true := hw _ (List.mem_of_getElem? (i := 80) rfl)
theorem wd81 {a0 : Array Value} {Z : State} (hw : ∀ d ∈ tables_1, d.before a0 Z = true) : (Jvm.Cond.instanceMethod ({ cls := "com/example/tickreel/tickreel/BinaryField", name := "offset", desc := "()I" } : Jvm.MethodName)).before a0 Z = true := hw _ (List.mem_of_getElem? (i := 81) rfl)
theorem wd82 {a0 : Array Value} {Z : State} (hw : ∀ d ∈ tables_1, d.before a0 Z = true) : (Jvm.Cond.selects "com/example/tickreel/tickreel/BinaryField" ({ cls := "com/example/tickreel/tickreel/BinaryField", name := "offset", desc := "()I" } : Jvm.MethodName) ({ cls := "com/example/tickreel/tickreel/BinaryField", name := "offset", desc := "()I" } : Jvm.MethodName)).before a0 Z = true := hw _ (List.mem_of_getElem? (i := 82) rfl)
theorem wd83 {a0 : Array Value} {Z : State} (hw : ∀ d ∈ tables_1, d.before a0 Z = true) : (Jvm.Cond.code ({ cls := "com/example/tickreel/tickreel/BinaryField", name := "offset", desc := "()I" } : Jvm.MethodName) prog_1_method_17_code (1 : Nat) (Option.some Jvm.ClassFile.FieldType.int)).before a0 Z = true := hw _ (List.mem_of_getElem? (i := 83) rfl)
theorem wd84 {a0 : Array Value} {Z : State} (hw : ∀ d ∈ tables_1, d.before a0 Z = true) : (Jvm.Cond.methodLink "com/example/tickreel/tickreel/BinaryFieldI64PinLaw" (40 : Nat) ({ cls := "com/example/tickreel/tickreel/BinaryField", name := "end", desc := "()I" } : Jvm.MethodName)).before a0 Z = true := hw _ (List.mem_of_getElem? (i := 84) rfl)
theorem wd85 {a0 : Array Value} {Z : State} (hw : ∀ d ∈ tables_1, d.before a0 Z = true) : (Jvm.Cond.declares ({ cls := "com/example/tickreel/tickreel/BinaryField", name := "end", desc := "()I" } : Jvm.MethodName)).before a0 Z = true := hw _ (List.mem_of_getElem? (i := 85) rfl)
theorem wd86 {a0 : Array Value} {Z : State} (hw : ∀ d ∈ tables_1, d.before a0 Z = true) : (Jvm.Cond.instanceMethod ({ cls := "com/example/tickreel/tickreel/BinaryField", name := "end", desc := "()I" } : Jvm.MethodName)).before a0 Z = true := hw _ (List.mem_of_getElem? (i := 86) rfl)
theorem wd87 {a0 : Array Value} {Z : State} (hw : ∀ d ∈ tables_1, d.before a0 Z = true) : (Jvm.Cond.selects "com/example/tickreel/tickreel/BinaryField" ({ cls := "com/example/tickreel/tickreel/BinaryField", name := "end", desc := "()I" } : Jvm.MethodName) ({ cls := "com/example/tickreel/tickreel/BinaryField", name := "end", desc := "()I" } : Jvm.MethodName)).before a0 Z = true := hw _ (List.mem_of_getElem? (i := 87) rfl)
theorem wd88 {a0 : Array Value} {Z : State} (hw : ∀ d ∈ tables_1, d.before a0 Z = true) : (Jvm.Cond.code ({ cls := "com/example/tickreel/tickreel/BinaryField", name := "end", desc := "()I" } : Jvm.MethodName) prog_1_method_18_code (1 : Nat) (Option.some Jvm.ClassFile.FieldType.int)).before a0 Z = true := hw _ (List.mem_of_getElem? (i := 88) rfl)
theorem wd89 {a0 : Array Value} {Z : State} (hw : ∀ d ∈ tables_1, d.before a0 Z = true) : (Jvm.Cond.methodLink "com/example/tickreel/tickreel/BinaryFieldI64PinLaw" (43 : Nat) ({ cls := "com/example/tickreel/tickreel/BinaryField", name := "scaledBy", desc := "(I)Lcom/example/tickreel/tickreel/BinaryField;" } : Jvm.MethodName)).before a0 Z = true := hw _ (List.mem_of_getElem? (i := 89) rfl)
theorem wd90 {a0 : Array Value} {Z : State} (hw : ∀ d ∈ tables_1, d.before a0 Z = true) : (Jvm.Cond.declares ({ cls := "com/example/tickreel/tickreel/BinaryField", name := "scaledBy", desc := "(I)Lcom/example/tickreel/tickreel/BinaryField;" } : Jvm.MethodName)).before a0 Z = true := hw _ (List.mem_of_getElem? (i := 90) rfl)
theorem wd91 {a0 : Array Value} {Z : State} (hw : ∀ d ∈ tables_1, d.before a0 Z = true) : (Jvm.Cond.instanceMethod ({ cls := "com/example/tickreel/tickreel/BinaryField", name := "scaledBy", desc := "(I)Lcom/example/tickreel/tickreel/BinaryField;" } : Jvm.MethodName)).before a0 Z = true := hw _ (List.mem_of_getElem? (i := 91) rfl)
theorem wd92 {a0 : Array Value} {Z : State} (hw : ∀ d ∈ tables_1, d.before a0 Z = true) : (Jvm.Cond.selects "com/example/tickreel/tickreel/BinaryField" ({ cls := "com/example/tickreel/tickreel/BinaryField", name := "scaledBy", desc := "(I)Lcom/example/tickreel/tickreel/BinaryField;" } : Jvm.MethodName) ({ cls := "com/example/tickreel/tickreel/BinaryField", name := "scaledBy", desc := "(I)Lcom/example/tickreel/tickreel/BinaryField;" } : Jvm.MethodName)).before a0 Z = true := hw _ (List.mem_of_getElem? (i := 92) rfl)
theorem wd93 {a0 : Array Value} {Z : State} (hw : ∀ d ∈ tables_1, d.before a0 Z = true) : (Jvm.Cond.code ({ cls := "com/example/tickreel/tickreel/BinaryField", name := "scaledBy", desc := "(I)Lcom/example/tickreel/tickreel/BinaryField;" } : Jvm.MethodName) prog_1_method_14_code (2 : Nat) (Option.some (Jvm.ClassFile.FieldType.object "com/example/tickreel/tickreel/BinaryField"))).before a0 Z = true := hw _ (List.mem_of_getElem? (i := 93) rfl)
theorem wd94 {a0 : Array Value} {Z : State} (hw : ∀ d ∈ tables_1, d.before a0 Z = true) : (Jvm.Cond.stringLink "java/lang/String" (7 : Nat) "").before a0 Z = true := hw _ (List.mem_of_getElem? (i := 94) rfl)
theorem own_and255 (x : Int32) : ¬ nar .char ((x &&& (255 : Int32)).toUInt32.toUInt16.toUInt32.toInt32) < 0 ∧ ¬ (255 : Int32) < nar .char ((x &&& (255 : Int32)).toUInt32.toUInt16.toUInt32.toInt32) := by
  have t : ∀ k : Fin 256, ¬ nar .char ((Int32.ofNat k.val).toUInt32.toUInt16.toUInt32.toInt32) < 0 ∧ ¬ (255 : Int32) < nar .char ((Int32.ofNat k.val).toUInt32.toUInt16.toUInt32.toInt32) := by decide +kernel
  have h : (x &&& 255).toBitVec.toNat < 256 := by
    simp only [Int32.toBitVec_and, BitVec.toNat_and]
    exact Nat.lt_succ_of_le Nat.and_le_right
  have e : (x &&& 255) = Int32.ofNat (x &&& 255).toBitVec.toNat := by
    apply Int32.toBitVec_inj.mp
    show _ = BitVec.ofNat 32 _
    rw [BitVec.ofNat_toNat]; simp
  rw [e]
  exact t ⟨_, h⟩
theorem own_up (cs : List Int32) (h : ∀ c ∈ cs, ¬ c < 0 ∧ ¬ (255 : Int32) < c) : ∀ c ∈ cs, ¬ c < 0 ∧ ¬ (65535 : Int32) < c := fun c hc => ⟨(h c hc).1, fun q => (h c hc).2 (by rw [Int32.lt_iff_toInt_lt] at q ⊢; have e1 : (65535 : Int32).toInt = 65535 := rfl; have e2 : (255 : Int32).toInt = 255 := rfl; omega)⟩
def own_EL : List (String × Nat) := [("java/lang/String", 7)]
theorem own_EW (a0 : Array Value) (Z : State) (hw : ∀ d ∈ tables_1, d.before a0 Z = true) : EW Z a0 own_EL := (EW.cons (wd94 hw) (by decide +kernel) EW.nil)
theorem ef_I5 (m : MethodId) (x0 : Addr) (x1 : Addr) (x2 : Addr) (x3 : Int32) (x4 : Int32) (x5 : Int32) : entryFrame m #[(.ref x0), (.ref x1), (.ref x2), (.int x3), (.int x4), (.int x5)] 6 = mkF m 0 #[.val (.ref x0), .val (.ref x1), .val (.ref x2), .val (.int x3), .val (.int x4), .val (.int x5)] [] := by first | (simp [entryFrame, mkF, argsToLocals, Value.category]; done) | rfl
theorem pn_com_example_tickreel_tickreel_BinaryField : plainName "com/example/tickreel/tickreel/BinaryField" = true := by first | (simp [plainName, overriddenIn]; done) | decide +kernel
theorem dd_prog_1_method_1_code_0 : decode prog_1_method_1_code 0 = .ok (.aload_n 0, 1) := by decide +kernel
theorem dd_prog_1_method_1_code_1 : decode prog_1_method_1_code 1 = .ok (.invokespecial 1, 3) := by decide +kernel
theorem dd_prog_1_method_1_code_4 : decode prog_1_method_1_code 4 = .ok (.aload_n 0, 1) := by decide +kernel
theorem dd_prog_1_method_1_code_5 : decode prog_1_method_1_code 5 = .ok (.aload_n 1, 1) := by decide +kernel
theorem dd_prog_1_method_1_code_6 : decode prog_1_method_1_code 6 = .ok (.putfield 7, 3) := by decide +kernel
theorem dd_prog_1_method_1_code_9 : decode prog_1_method_1_code 9 = .ok (.aload_n 0, 1) := by decide +kernel
theorem dd_prog_1_method_1_code_10 : decode prog_1_method_1_code 10 = .ok (.aload_n 2, 1) := by decide +kernel
theorem dd_prog_1_method_1_code_11 : decode prog_1_method_1_code 11 = .ok (.putfield 13, 3) := by decide +kernel
theorem dd_prog_1_method_1_code_14 : decode prog_1_method_1_code 14 = .ok (.aload_n 0, 1) := by decide +kernel
theorem dd_prog_1_method_1_code_15 : decode prog_1_method_1_code 15 = .ok (.iload_n 3, 1) := by decide +kernel
theorem dd_prog_1_method_1_code_16 : decode prog_1_method_1_code 16 = .ok (.putfield 17, 3) := by decide +kernel
theorem dd_prog_1_method_1_code_19 : decode prog_1_method_1_code 19 = .ok (.aload_n 0, 1) := by decide +kernel
theorem dd_prog_1_method_1_code_20 : decode prog_1_method_1_code 20 = .ok (.iload 4, 2) := by decide +kernel
theorem dd_prog_1_method_1_code_22 : decode prog_1_method_1_code 22 = .ok (.putfield 21, 3) := by decide +kernel
theorem dd_prog_1_method_1_code_25 : decode prog_1_method_1_code 25 = .ok (.aload_n 0, 1) := by decide +kernel
theorem dd_prog_1_method_1_code_26 : decode prog_1_method_1_code 26 = .ok (.iload 5, 2) := by decide +kernel
theorem dd_prog_1_method_1_code_28 : decode prog_1_method_1_code 28 = .ok (.putfield 24, 3) := by decide +kernel
theorem dd_prog_1_method_1_code_31 : decode prog_1_method_1_code 31 = .ok (.return_, 1) := by decide +kernel
def QI5 (Z : State) (o : Addr) (nm : Addr) (ty : Addr) (x3 : Int32) (x4 : Int32) (x5 : Int32) (u0 : Value) (u1 : Value) (u2 : Value) (u3 : Value) (u4 : Value) (h0 : Heap) (n0 : Nat) (v : Option Value) (h : Heap) (L : List Loc) : Prop := v = none ∧ Fr n0 L ∧ Keep h0 h [o] ∧ Exa Z h o "com/example/tickreel/tickreel/BinaryField" ∧ Fld Z h o "com/example/tickreel/tickreel/BinaryField" "name" "Ljava/lang/String;" (.ref nm) ∧ Fld Z h o "com/example/tickreel/tickreel/BinaryField" "type" "Lcom/example/tickreel/tickreel/BinaryField$Type;" (.ref ty) ∧ Fld Z h o "com/example/tickreel/tickreel/BinaryField" "offset" "I" (.int x3) ∧ Fld Z h o "com/example/tickreel/tickreel/BinaryField" "width" "I" (.int x4) ∧ Fld Z h o "com/example/tickreel/tickreel/BinaryField" "decimalsAt" "I" (.int x5)
set_option maxRecDepth 65536 in
set_option maxHeartbeats 40000000 in
theorem rmI5 (l : Launch) (Z : State) (a0 : Array Value) (hw : ∀ d ∈ tables_1, d.before a0 Z = true) (ws : List Jvm.Cond) (o : Addr) (nm : Addr) (ty : Addr) (x3 : Int32) (x4 : Int32) (x5 : Int32) (u0 : Value) (u1 : Value) (u2 : Value) (u3 : Value) (u4 : Value) (h0 : Heap) (n0 : Nat) (Z0 : n0 ≤ h0.size) (g_o : n0 ≤ o) (E_o : Exa Z h0 o "com/example/tickreel/tickreel/BinaryField") (F_name : Fld Z h0 o "com/example/tickreel/tickreel/BinaryField" "name" "Ljava/lang/String;" u0) (F_type : Fld Z h0 o "com/example/tickreel/tickreel/BinaryField" "type" "Lcom/example/tickreel/tickreel/BinaryField$Type;" u1) (F_offset : Fld Z h0 o "com/example/tickreel/tickreel/BinaryField" "offset" "I" u2) (F_width : Fld Z h0 o "com/example/tickreel/tickreel/BinaryField" "width" "I" u3) (F_decimalsAt : Fld Z h0 o "com/example/tickreel/tickreel/BinaryField" "decimalsAt" "I" u4) :
    MetFree l (⟨"com/example/tickreel/tickreel/BinaryField", "<init>", "(Ljava/lang/String;Lcom/example/tickreel/tickreel/BinaryField$Type;III)V"⟩ : MethodName) (head1 (Jvm.Cond.code (⟨"com/example/tickreel/tickreel/BinaryField", "<init>", "(Ljava/lang/String;Lcom/example/tickreel/tickreel/BinaryField$Type;III)V"⟩ : MethodName) prog_1_method_1_code 6 none :: ws) ({ frames := 1, cells := 0, slots := 0, locals := 12 } : Room)) (fun a U => a = #[(.ref o), (.ref nm), (.ref ty), (.int x3), (.int x4), (.int x5)] ∧ Z.Warmed39 U.vm ∧ U.heap = h0) (fun _ _ _ _ _ => True) (fun _ U oc_ U' => ∃ v L, oc_ = .returned v ∧ QI5 Z o nm ty x3 x4 x5 u0 u1 u2 u3 u4 h0 n0 v U'.heap L ∧ FrameEnd U oc_ U' L ({ frames := 1, cells := 0, slots := 0, locals := 12 } : Room).cells ({ frames := 1, cells := 0, slots := 0, locals := 12 } : Room).slots) := by
  refine MetFree.of_bodySF (plainFor_of_name pn_com_example_tickreel_tickreel_BinaryField) hisR ?_
  intro p e s m args below meth c s₁ Bd hml0 hP hK
  obtain ⟨rfl, hZ, hh⟩ := hP
  have hx := Bd.exec
  have hby := Bd.bytes
  have hml : c.maxLocals = 6 := hml0
  have hown : s.vm.findClass "com/example/tickreel/tickreel/BinaryField" = some m.cls := findClass_of_methodNamed Bd.named
  have hnm := (name_of_methodNamed Bd.named Bd.method).1
  have X0 : Stand p l e ({ frames := 1, cells := 0, slots := 0, locals := 12 } : Room) s m #[(.ref o), (.ref nm), (.ref ty), (.int x3), (.int x4), (.int x5)] below meth c s₁ [] 0 0 := Stand.of_body Bd
  have e0 : s₁.heap = h0 := by rw [← hh, Bd.state]; rfl
  have N0 := Fr.nil n0
  have pre0 : ∀ t, Steps p.tables e below (s₁.setTop (mkF m 0 #[.val (.ref o), .val (.ref nm), .val (.ref ty), .val (.int x3), .val (.int x4), .val (.int x5)] [])) t → Steps p.tables e below (s₁.setTop (entryFrame m #[(.ref o), (.ref nm), (.ref ty), (.int x3), (.int x4), (.int x5)] 6)) t := fun t k => castTop (ef_I5 m o nm ty x3 x4 x5) k
  obtain ⟨T1, X1, e1, st1⟩ := initO X0 hx hZ hown (wd49 hw) (wd16 hw) (wd17 hw) e0 (g := (mkF m 1 #[.val (.ref o), .val (.ref nm), .val (.ref ty), .val (.int x3), .val (.int x4), .val (.int x5)] [(.ref o)])) rfl (by rw [hml]; rfl) rfl (hb hby dd_prog_1_method_1_code_1) (by decide) (W := 0) (by show 2 * 0 + _ ≤ _; exact Nat.le_of_eq rfl) (by decide)
  obtain ⟨T2, h2, X2, e2, W2, st2⟩ := putF X1 hx hZ hown (host := "") (Or.inl (wd50 hw)) Via.refl e1 F_name E_o (Or.inr ⟨(wd51 hw), rfl, hnm⟩) (wd39 hw) (ty := (.object "java/lang/String")) (by decide) rfl rfl (g := (mkF m 6 #[.val (.ref o), .val (.ref nm), .val (.ref ty), .val (.int x3), .val (.int x4), .val (.int x5)] [(.ref nm), (.ref o)])) rfl rfl (hb hby dd_prog_1_method_1_code_6)
  have N2 := Fr.snoc X2 N0 g_o
  have Z2 : n0 ≤ h2.size := by rw [W2.size]; exact Z0
  have K2 : Keep h0 h2 [o] := ((Keep.refl h0 [o]).wr W2 (Or.inl (List.mem_of_getElem? (i := 0) rfl)))
  have Fw2 := F_name.same W2
  have f3 := (E_o.wr W2)
  have f4 := (F_type.other W2 (Or.inr (slot_ne (Or.inr (wd53 hw)) (Or.inr (wd51 hw)) (by decide) (t := (.object "com/example/tickreel/tickreel/BinaryField$Type")) (t' := (.object "java/lang/String")) (by decide) (by decide))))
  obtain ⟨T5, h5, X5, e5, W5, st5⟩ := putF X2 hx hZ hown (host := "") (Or.inl (wd52 hw)) Via.refl e2 f4 f3 (Or.inr ⟨(wd53 hw), rfl, hnm⟩) (wd39 hw) (ty := (.object "com/example/tickreel/tickreel/BinaryField$Type")) (by decide) rfl rfl (g := (mkF m 11 #[.val (.ref o), .val (.ref nm), .val (.ref ty), .val (.int x3), .val (.int x4), .val (.int x5)] [(.ref ty), (.ref o)])) rfl rfl (hb hby dd_prog_1_method_1_code_11)
  have N5 := Fr.snoc X5 N2 g_o
  have Z5 : n0 ≤ h5.size := by rw [W5.size]; exact Z2
  have K5 : Keep h0 h5 [o] := (K2.wr W5 (Or.inl (List.mem_of_getElem? (i := 0) rfl)))
  have Fw5 := f4.same W5
  have f6 := (f3.wr W5)
  have f7 := ((F_offset.other W2 (Or.inr (slot_ne (Or.inr (wd55 hw)) (Or.inr (wd51 hw)) (by decide) (t := .int) (t' := (.object "java/lang/String")) (by decide) (by decide)))).other W5 (Or.inr (slot_ne (Or.inr (wd55 hw)) (Or.inr (wd53 hw)) (by decide) (t := .int) (t' := (.object "com/example/tickreel/tickreel/BinaryField$Type")) (by decide) (by decide))))
  obtain ⟨T8, h8, X8, e8, W8, st8⟩ := putF X5 hx hZ hown (host := "") (Or.inl (wd54 hw)) Via.refl e5 f7 f6 (Or.inr ⟨(wd55 hw), rfl, hnm⟩) (wd39 hw) (ty := .int) (by decide) rfl rfl (g := (mkF m 16 #[.val (.ref o), .val (.ref nm), .val (.ref ty), .val (.int x3), .val (.int x4), .val (.int x5)] [(.int x3), (.ref o)])) rfl rfl (hb hby dd_prog_1_method_1_code_16)
  have N8 := Fr.snoc X8 N5 g_o
  have Z8 : n0 ≤ h8.size := by rw [W8.size]; exact Z5
  have K8 : Keep h0 h8 [o] := (K5.wr W8 (Or.inl (List.mem_of_getElem? (i := 0) rfl)))
  have Fw8 := f7.same W8
  have f9 := (f6.wr W8)
  have f10 := (((F_width.other W2 (Or.inr (slot_ne (Or.inr (wd57 hw)) (Or.inr (wd51 hw)) (by decide) (t := .int) (t' := (.object "java/lang/String")) (by decide) (by decide)))).other W5 (Or.inr (slot_ne (Or.inr (wd57 hw)) (Or.inr (wd53 hw)) (by decide) (t := .int) (t' := (.object "com/example/tickreel/tickreel/BinaryField$Type")) (by decide) (by decide)))).other W8 (Or.inr (slot_ne (Or.inr (wd57 hw)) (Or.inr (wd55 hw)) (by decide) (t := .int) (t' := .int) (by decide) (by decide))))
  obtain ⟨T11, h11, X11, e11, W11, st11⟩ := putF X8 hx hZ hown (host := "") (Or.inl (wd56 hw)) Via.refl e8 f10 f9 (Or.inr ⟨(wd57 hw), rfl, hnm⟩) (wd39 hw) (ty := .int) (by decide) rfl rfl (g := (mkF m 22 #[.val (.ref o), .val (.ref nm), .val (.ref ty), .val (.int x3), .val (.int x4), .val (.int x5)] [(.int x4), (.ref o)])) rfl rfl (hb hby dd_prog_1_method_1_code_22)
  have N11 := Fr.snoc X11 N8 g_o
  have Z11 : n0 ≤ h11.size := by rw [W11.size]; exact Z8
  have K11 : Keep h0 h11 [o] := (K8.wr W11 (Or.inl (List.mem_of_getElem? (i := 0) rfl)))
  have Fw11 := f10.same W11
  have f12 := (f9.wr W11)
  have f13 := ((((F_decimalsAt.other W2 (Or.inr (slot_ne (Or.inr (wd59 hw)) (Or.inr (wd51 hw)) (by decide) (t := .int) (t' := (.object "java/lang/String")) (by decide) (by decide)))).other W5 (Or.inr (slot_ne (Or.inr (wd59 hw)) (Or.inr (wd53 hw)) (by decide) (t := .int) (t' := (.object "com/example/tickreel/tickreel/BinaryField$Type")) (by decide) (by decide)))).other W8 (Or.inr (slot_ne (Or.inr (wd59 hw)) (Or.inr (wd55 hw)) (by decide) (t := .int) (t' := .int) (by decide) (by decide)))).other W11 (Or.inr (slot_ne (Or.inr (wd59 hw)) (Or.inr (wd57 hw)) (by decide) (t := .int) (t' := .int) (by decide) (by decide))))
  obtain ⟨T14, h14, X14, e14, W14, st14⟩ := putF X11 hx hZ hown (host := "") (Or.inl (wd58 hw)) Via.refl e11 f13 f12 (Or.inr ⟨(wd59 hw), rfl, hnm⟩) (wd39 hw) (ty := .int) (by decide) rfl rfl (g := (mkF m 28 #[.val (.ref o), .val (.ref nm), .val (.ref ty), .val (.int x3), .val (.int x4), .val (.int x5)] [(.int x5), (.ref o)])) rfl rfl (hb hby dd_prog_1_method_1_code_28)
  have N14 := Fr.snoc X14 N11 g_o
  have Z14 : n0 ≤ h14.size := by rw [W14.size]; exact Z11
  have K14 : Keep h0 h14 [o] := (K11.wr W14 (Or.inl (List.mem_of_getElem? (i := 0) rfl)))
  have Fw14 := f13.same W14
  obtain ⟨lfs, lhr, lhrun, lhended, lhW, lhsame⟩ := X14.leave (v := none) (fun _ => rfl)
  refine ⟨_, _, pre0 _ ?_, lhrun, lhended, _, _, rfl, ?_, ⟨_, rfl⟩, lhW, lhsame.mono (by decide) (by decide)⟩
  · skip
    show Steps p.tables e below (s₁.setTop (mkF m 0 #[.val (.ref o), .val (.ref nm), .val (.ref ty), .val (.int x3), .val (.int x4), .val (.int x5)] [])) _
    refine XS.aloadN X0.here hx rfl (hb hby dd_prog_1_method_1_code_0) rfl rfl ?_
    show Steps p.tables e below (s₁.setTop (mkF m 1 #[.val (.ref o), .val (.ref nm), .val (.ref ty), .val (.int x3), .val (.int x4), .val (.int x5)] [(.ref o)])) _
    refine st1 _ ?_
    show Steps p.tables e below (T1.setTop (mkF m 4 #[.val (.ref o), .val (.ref nm), .val (.ref ty), .val (.int x3), .val (.int x4), .val (.int x5)] [])) _
    refine XS.aloadN X1.here hx rfl (hb hby dd_prog_1_method_1_code_4) rfl rfl ?_
    show Steps p.tables e below (T1.setTop (mkF m 5 #[.val (.ref o), .val (.ref nm), .val (.ref ty), .val (.int x3), .val (.int x4), .val (.int x5)] [(.ref o)])) _
    refine XS.aloadN X1.here hx rfl (hb hby dd_prog_1_method_1_code_5) rfl rfl ?_
    show Steps p.tables e below (T1.setTop (mkF m 6 #[.val (.ref o), .val (.ref nm), .val (.ref ty), .val (.int x3), .val (.int x4), .val (.int x5)] [(.ref nm), (.ref o)])) _
    refine st2 _ ?_
    show Steps p.tables e below (T2.setTop (mkF m 9 #[.val (.ref o), .val (.ref nm), .val (.ref ty), .val (.int x3), .val (.int x4), .val (.int x5)] [])) _
    refine XS.aloadN X2.here hx rfl (hb hby dd_prog_1_method_1_code_9) rfl rfl ?_
    show Steps p.tables e below (T2.setTop (mkF m 10 #[.val (.ref o), .val (.ref nm), .val (.ref ty), .val (.int x3), .val (.int x4), .val (.int x5)] [(.ref o)])) _
    refine XS.aloadN X2.here hx rfl (hb hby dd_prog_1_method_1_code_10) rfl rfl ?_
    show Steps p.tables e below (T2.setTop (mkF m 11 #[.val (.ref o), .val (.ref nm), .val (.ref ty), .val (.int x3), .val (.int x4), .val (.int x5)] [(.ref ty), (.ref o)])) _
    refine st5 _ ?_
    show Steps p.tables e below (T5.setTop (mkF m 14 #[.val (.ref o), .val (.ref nm), .val (.ref ty), .val (.int x3), .val (.int x4), .val (.int x5)] [])) _
    refine XS.aloadN X5.here hx rfl (hb hby dd_prog_1_method_1_code_14) rfl rfl ?_
    show Steps p.tables e below (T5.setTop (mkF m 15 #[.val (.ref o), .val (.ref nm), .val (.ref ty), .val (.int x3), .val (.int x4), .val (.int x5)] [(.ref o)])) _
    refine XS.iloadN X5.here hx rfl (hb hby dd_prog_1_method_1_code_15) rfl ?_
    show Steps p.tables e below (T5.setTop (mkF m 16 #[.val (.ref o), .val (.ref nm), .val (.ref ty), .val (.int x3), .val (.int x4), .val (.int x5)] [(.int x3), (.ref o)])) _
    refine st8 _ ?_
    show Steps p.tables e below (T8.setTop (mkF m 19 #[.val (.ref o), .val (.ref nm), .val (.ref ty), .val (.int x3), .val (.int x4), .val (.int x5)] [])) _
    refine XS.aloadN X8.here hx rfl (hb hby dd_prog_1_method_1_code_19) rfl rfl ?_
    show Steps p.tables e below (T8.setTop (mkF m 20 #[.val (.ref o), .val (.ref nm), .val (.ref ty), .val (.int x3), .val (.int x4), .val (.int x5)] [(.ref o)])) _
    refine XS.iload X8.here hx rfl (hb hby dd_prog_1_method_1_code_20) rfl ?_
    show Steps p.tables e below (T8.setTop (mkF m 22 #[.val (.ref o), .val (.ref nm), .val (.ref ty), .val (.int x3), .val (.int x4), .val (.int x5)] [(.int x4), (.ref o)])) _
    refine st11 _ ?_
    show Steps p.tables e below (T11.setTop (mkF m 25 #[.val (.ref o), .val (.ref nm), .val (.ref ty), .val (.int x3), .val (.int x4), .val (.int x5)] [])) _
    refine XS.aloadN X11.here hx rfl (hb hby dd_prog_1_method_1_code_25) rfl rfl ?_
    show Steps p.tables e below (T11.setTop (mkF m 26 #[.val (.ref o), .val (.ref nm), .val (.ref ty), .val (.int x3), .val (.int x4), .val (.int x5)] [(.ref o)])) _
    refine XS.iload X11.here hx rfl (hb hby dd_prog_1_method_1_code_26) rfl ?_
    show Steps p.tables e below (T11.setTop (mkF m 28 #[.val (.ref o), .val (.ref nm), .val (.ref ty), .val (.int x3), .val (.int x4), .val (.int x5)] [(.int x5), (.ref o)])) _
    refine st14 _ ?_
    show Steps p.tables e below (T14.setTop (mkF m 31 #[.val (.ref o), .val (.ref nm), .val (.ref ty), .val (.int x3), .val (.int x4), .val (.int x5)] [])) _
    exact X14.returnOut hx Bd.returns (hb hby dd_prog_1_method_1_code_31) lhr
  · skip
    show QI5 Z o nm ty x3 x4 x5 u0 u1 u2 u3 u4 h0 n0 _ T14.heap _
    rw [e14]
    have f15 := (f12.wr W14)
    have f16 := ((((Fw2.other W5 (Or.inr (slot_ne (Or.inr (wd51 hw)) (Or.inr (wd53 hw)) (by decide) (t := (.object "java/lang/String")) (t' := (.object "com/example/tickreel/tickreel/BinaryField$Type")) (by decide) (by decide)))).other W8 (Or.inr (slot_ne (Or.inr (wd51 hw)) (Or.inr (wd55 hw)) (by decide) (t := (.object "java/lang/String")) (t' := .int) (by decide) (by decide)))).other W11 (Or.inr (slot_ne (Or.inr (wd51 hw)) (Or.inr (wd57 hw)) (by decide) (t := (.object "java/lang/String")) (t' := .int) (by decide) (by decide)))).other W14 (Or.inr (slot_ne (Or.inr (wd51 hw)) (Or.inr (wd59 hw)) (by decide) (t := (.object "java/lang/String")) (t' := .int) (by decide) (by decide))))
    have f17 := (((Fw5.other W8 (Or.inr (slot_ne (Or.inr (wd53 hw)) (Or.inr (wd55 hw)) (by decide) (t := (.object "com/example/tickreel/tickreel/BinaryField$Type")) (t' := .int) (by decide) (by decide)))).other W11 (Or.inr (slot_ne (Or.inr (wd53 hw)) (Or.inr (wd57 hw)) (by decide) (t := (.object "com/example/tickreel/tickreel/BinaryField$Type")) (t' := .int) (by decide) (by decide)))).other W14 (Or.inr (slot_ne (Or.inr (wd53 hw)) (Or.inr (wd59 hw)) (by decide) (t := (.object "com/example/tickreel/tickreel/BinaryField$Type")) (t' := .int) (by decide) (by decide))))
    have f18 := ((Fw8.other W11 (Or.inr (slot_ne (Or.inr (wd55 hw)) (Or.inr (wd57 hw)) (by decide) (t := .int) (t' := .int) (by decide) (by decide)))).other W14 (Or.inr (slot_ne (Or.inr (wd55 hw)) (Or.inr (wd59 hw)) (by decide) (t := .int) (t' := .int) (by decide) (by decide))))
    have f19 := (Fw11.other W14 (Or.inr (slot_ne (Or.inr (wd57 hw)) (Or.inr (wd59 hw)) (by decide) (t := .int) (t' := .int) (by decide) (by decide))))
    exact ⟨rfl, N14, K14, f15, f16, f17, f18, f19, Fw14⟩
theorem ef_I4 (m : MethodId) (x0 : Addr) (x1 : Addr) (x2 : Addr) (x3 : Int32) (x4 : Int32) : entryFrame m #[(.ref x0), (.ref x1), (.ref x2), (.int x3), (.int x4)] 5 = mkF m 0 #[.val (.ref x0), .val (.ref x1), .val (.ref x2), .val (.int x3), .val (.int x4)] [] := by first | (simp [entryFrame, mkF, argsToLocals, Value.category]; done) | rfl
theorem dd_prog_1_method_2_code_0 : decode prog_1_method_2_code 0 = .ok (.aload_n 0, 1) := by decide +kernel
theorem dd_prog_1_method_2_code_1 : decode prog_1_method_2_code 1 = .ok (.aload_n 1, 1) := by decide +kernel
theorem dd_prog_1_method_2_code_2 : decode prog_1_method_2_code 2 = .ok (.aload_n 2, 1) := by decide +kernel
theorem dd_prog_1_method_2_code_3 : decode prog_1_method_2_code 3 = .ok (.iload_n 3, 1) := by decide +kernel
theorem dd_prog_1_method_2_code_4 : decode prog_1_method_2_code 4 = .ok (.iload 4, 2) := by decide +kernel
theorem dd_prog_1_method_2_code_6 : decode prog_1_method_2_code 6 = .ok (.iconst (-1), 1) := by decide +kernel
theorem dd_prog_1_method_2_code_7 : decode prog_1_method_2_code 7 = .ok (.invokespecial 27, 3) := by decide +kernel
theorem pd__Ljava_lang_String_Lcom_example_tickreel_tickreel_BinaryField_Type_III_V : parseMethodDescriptor "(Ljava/lang/String;Lcom/example/tickreel/tickreel/BinaryField$Type;III)V" = some ⟨[(.object "java/lang/String"), (.object "com/example/tickreel/tickreel/BinaryField$Type"), .int, .int, .int], none⟩ := by decide +kernel
theorem dd_prog_1_method_2_code_10 : decode prog_1_method_2_code 10 = .ok (.return_, 1) := by decide +kernel
def QI4 (Z : State) (o : Addr) (nm : Addr) (ty : Addr) (x3 : Int32) (x4 : Int32) (u0 : Value) (u1 : Value) (u2 : Value) (u3 : Value) (u4 : Value) (h0 : Heap) (n0 : Nat) (v : Option Value) (h : Heap) (L : List Loc) : Prop := v = none ∧ Fr n0 L ∧ Keep h0 h [o] ∧ Exa Z h o "com/example/tickreel/tickreel/BinaryField" ∧ Fld Z h o "com/example/tickreel/tickreel/BinaryField" "name" "Ljava/lang/String;" (.ref nm) ∧ Fld Z h o "com/example/tickreel/tickreel/BinaryField" "type" "Lcom/example/tickreel/tickreel/BinaryField$Type;" (.ref ty) ∧ Fld Z h o "com/example/tickreel/tickreel/BinaryField" "offset" "I" (.int x3) ∧ Fld Z h o "com/example/tickreel/tickreel/BinaryField" "width" "I" (.int x4) ∧ Fld Z h o "com/example/tickreel/tickreel/BinaryField" "decimalsAt" "I" (.int (-1 : Int32))
set_option maxRecDepth 65536 in
set_option maxHeartbeats 40000000 in
theorem rmI4 (l : Launch) (Z : State) (a0 : Array Value) (hw : ∀ d ∈ tables_1, d.before a0 Z = true) (ws : List Jvm.Cond) (o : Addr) (nm : Addr) (ty : Addr) (x3 : Int32) (x4 : Int32) (u0 : Value) (u1 : Value) (u2 : Value) (u3 : Value) (u4 : Value) (h0 : Heap) (n0 : Nat) (Z0 : n0 ≤ h0.size) (g_o : n0 ≤ o) (E_o : Exa Z h0 o "com/example/tickreel/tickreel/BinaryField") (F_name : Fld Z h0 o "com/example/tickreel/tickreel/BinaryField" "name" "Ljava/lang/String;" u0) (F_type : Fld Z h0 o "com/example/tickreel/tickreel/BinaryField" "type" "Lcom/example/tickreel/tickreel/BinaryField$Type;" u1) (F_offset : Fld Z h0 o "com/example/tickreel/tickreel/BinaryField" "offset" "I" u2) (F_width : Fld Z h0 o "com/example/tickreel/tickreel/BinaryField" "width" "I" u3) (F_decimalsAt : Fld Z h0 o "com/example/tickreel/tickreel/BinaryField" "decimalsAt" "I" u4) :
    MetFree l (⟨"com/example/tickreel/tickreel/BinaryField", "<init>", "(Ljava/lang/String;Lcom/example/tickreel/tickreel/BinaryField$Type;II)V"⟩ : MethodName) (head1 (Jvm.Cond.code (⟨"com/example/tickreel/tickreel/BinaryField", "<init>", "(Ljava/lang/String;Lcom/example/tickreel/tickreel/BinaryField$Type;II)V"⟩ : MethodName) prog_1_method_2_code 5 none :: ws) ({ frames := 2, cells := 0, slots := 0, locals := 29 } : Room)) (fun a U => a = #[(.ref o), (.ref nm), (.ref ty), (.int x3), (.int x4)] ∧ Z.Warmed39 U.vm ∧ U.heap = h0) (fun _ _ _ _ _ => True) (fun _ U oc_ U' => ∃ v L, oc_ = .returned v ∧ QI4 Z o nm ty x3 x4 u0 u1 u2 u3 u4 h0 n0 v U'.heap L ∧ FrameEnd U oc_ U' L ({ frames := 2, cells := 0, slots := 0, locals := 29 } : Room).cells ({ frames := 2, cells := 0, slots := 0, locals := 29 } : Room).slots) := by
  refine MetFree.of_bodySF (plainFor_of_name pn_com_example_tickreel_tickreel_BinaryField) hisR ?_
  intro p e s m args below meth c s₁ Bd hml0 hP hK
  obtain ⟨rfl, hZ, hh⟩ := hP
  have hx := Bd.exec
  have hby := Bd.bytes
  have hml : c.maxLocals = 5 := hml0
  have hown : s.vm.findClass "com/example/tickreel/tickreel/BinaryField" = some m.cls := findClass_of_methodNamed Bd.named
  have hnm := (name_of_methodNamed Bd.named Bd.method).1
  have X0 : Stand p l e ({ frames := 2, cells := 0, slots := 0, locals := 29 } : Room) s m #[(.ref o), (.ref nm), (.ref ty), (.int x3), (.int x4)] below meth c s₁ [] 0 0 := Stand.of_body Bd
  have e0 : s₁.heap = h0 := by rw [← hh, Bd.state]; rfl
  have N0 := Fr.nil n0
  have pre0 : ∀ t, Steps p.tables e below (s₁.setTop (mkF m 0 #[.val (.ref o), .val (.ref nm), .val (.ref ty), .val (.int x3), .val (.int x4)] [])) t → Steps p.tables e below (s₁.setTop (entryFrame m #[(.ref o), (.ref nm), (.ref ty), (.int x3), (.int x4)] 5)) t := fun t k => castTop (ef_I4 m o nm ty x3 x4) k
  obtain ⟨_, _, ⟨T1, L1, kc1, ks1⟩, -, X1, ⟨Lc1, hQ1, l1, y1, z1⟩, st1⟩ := X0.specialBack hx (y := (⟨"com/example/tickreel/tickreel/BinaryField", "<init>", "(Ljava/lang/String;Lcom/example/tickreel/tickreel/BinaryField$Type;III)V"⟩ : MethodName)) rfl hown (mvT hZ (wd46 hw)) (mvT hZ (wd47 hw)) (mvT hZ (wd48 hw)) (by decide) (backOf (W := 0) (rmI5 l Z a0 hw [] o nm ty x3 x4 (-1 : Int32) _ _ _ _ _ h0 n0 Z0 g_o E_o F_name F_type F_offset F_width F_decimalsAt) hZ (wd48 hw) (wd36 hw) (by decide) (by decide)) (g := (mkF m 7 #[.val (.ref o), .val (.ref nm), .val (.ref ty), .val (.int x3), .val (.int x4)] [(.int (-1 : Int32)), (.int x4), (.int x3), (.ref ty), (.ref nm), (.ref o)])) rfl (by rw [hml]; rfl) (Steps.refl _) (a := o) (argsL := [(.ref nm), (.ref ty), (.int x3), (.int x4), (.int (-1 : Int32))]) (rest := []) (lenOf pd__Ljava_lang_String_Lcom_example_tickreel_tickreel_BinaryField_Type_III_V rfl) rfl (by show 2 * 0 + _ ≤ _; exact Nat.le_of_eq rfl) (hb hby dd_prog_1_method_2_code_7) (fun _ _ => ⟨rfl, e0, (by decide : 0 + 0 ≤ _), (by decide : 0 + 0 ≤ _)⟩)
  dsimp only [Pt.U, Pt.locs, Pt.cells, Pt.slots] at X1 l1 y1 z1 st1 hQ1
  subst l1 y1 z1
  obtain ⟨rfl, Nq1, Kq1, gE1, gF0_1, gF1_1, gF2_1, gF3_1, gF4_1⟩ := hQ1
  have N1 := Fr.app N0 Nq1
  have Z1 : n0 ≤ T1.heap.size := Nat.le_trans Z0 Kq1.1
  have K1 : Keep h0 T1.heap [o] := Keep.trans (Keep.refl h0 [o]) Kq1 (allS (Or.inl (List.mem_of_getElem? (i := 0) rfl)) all0)
  obtain ⟨lfs, lhr, lhrun, lhended, lhW, lhsame⟩ := X1.leave (v := none) (fun _ => rfl)
  refine ⟨_, _, pre0 _ ?_, lhrun, lhended, _, _, rfl, ?_, ⟨_, rfl⟩, lhW, lhsame.mono (by decide) (by decide)⟩
  · skip
    show Steps p.tables e below (s₁.setTop (mkF m 0 #[.val (.ref o), .val (.ref nm), .val (.ref ty), .val (.int x3), .val (.int x4)] [])) _
    refine XS.aloadN X0.here hx rfl (hb hby dd_prog_1_method_2_code_0) rfl rfl ?_
    show Steps p.tables e below (s₁.setTop (mkF m 1 #[.val (.ref o), .val (.ref nm), .val (.ref ty), .val (.int x3), .val (.int x4)] [(.ref o)])) _
    refine XS.aloadN X0.here hx rfl (hb hby dd_prog_1_method_2_code_1) rfl rfl ?_
    show Steps p.tables e below (s₁.setTop (mkF m 2 #[.val (.ref o), .val (.ref nm), .val (.ref ty), .val (.int x3), .val (.int x4)] [(.ref nm), (.ref o)])) _
    refine XS.aloadN X0.here hx rfl (hb hby dd_prog_1_method_2_code_2) rfl rfl ?_
    show Steps p.tables e below (s₁.setTop (mkF m 3 #[.val (.ref o), .val (.ref nm), .val (.ref ty), .val (.int x3), .val (.int x4)] [(.ref ty), (.ref nm), (.ref o)])) _
    refine XS.iloadN X0.here hx rfl (hb hby dd_prog_1_method_2_code_3) rfl ?_
    show Steps p.tables e below (s₁.setTop (mkF m 4 #[.val (.ref o), .val (.ref nm), .val (.ref ty), .val (.int x3), .val (.int x4)] [(.int x3), (.ref ty), (.ref nm), (.ref o)])) _
    refine XS.iload X0.here hx rfl (hb hby dd_prog_1_method_2_code_4) rfl ?_
    show Steps p.tables e below (s₁.setTop (mkF m 6 #[.val (.ref o), .val (.ref nm), .val (.ref ty), .val (.int x3), .val (.int x4)] [(.int x4), (.int x3), (.ref ty), (.ref nm), (.ref o)])) _
    refine XS.iconst X0.here hx rfl (hb hby dd_prog_1_method_2_code_6) ?_
    show Steps p.tables e below (s₁.setTop (mkF m 7 #[.val (.ref o), .val (.ref nm), .val (.ref ty), .val (.int x3), .val (.int x4)] [(.int (-1 : Int32)), (.int x4), (.int x3), (.ref ty), (.ref nm), (.ref o)])) _
    refine st1.trans ?_
    show Steps p.tables e below (T1.setTop (mkF m 10 #[.val (.ref o), .val (.ref nm), .val (.ref ty), .val (.int x3), .val (.int x4)] [])) _
    exact X1.returnOut hx Bd.returns (hb hby dd_prog_1_method_2_code_10) lhr
  · skip
    show QI4 Z o nm ty x3 x4 u0 u1 u2 u3 u4 h0 n0 _ T1.heap _
    skip
    exact ⟨rfl, N1, K1, gE1, gF0_1, gF1_1, gF2_1, gF3_1, gF4_1⟩
theorem ef_I64 (m : MethodId) (x0 : Addr) (x1 : Int32) : entryFrame m #[(.ref x0), (.int x1)] 2 = mkF m 0 #[.val (.ref x0), .val (.int x1)] [] := by first | (simp [entryFrame, mkF, argsToLocals, Value.category]; done) | rfl
theorem dd_prog_1_method_8_code_0 : decode prog_1_method_8_code 0 = .ok (.new 8, 3) := by decide +kernel
theorem dd_prog_1_method_8_code_3 : decode prog_1_method_8_code 3 = .ok (.dup, 1) := by decide +kernel
theorem dd_prog_1_method_8_code_4 : decode prog_1_method_8_code 4 = .ok (.aload_n 0, 1) := by decide +kernel
theorem dd_prog_1_method_8_code_5 : decode prog_1_method_8_code 5 = .ok (.getstatic 38, 3) := by decide +kernel
theorem dd_prog_1_method_8_code_8 : decode prog_1_method_8_code 8 = .ok (.iload_n 1, 1) := by decide +kernel
theorem dd_prog_1_method_8_code_9 : decode prog_1_method_8_code 9 = .ok (.bipush 8, 2) := by decide +kernel
theorem dd_prog_1_method_8_code_11 : decode prog_1_method_8_code 11 = .ok (.invokespecial 35, 3) := by decide +kernel
theorem pd__Ljava_lang_String_Lcom_example_tickreel_tickreel_BinaryField_Type_II_V : parseMethodDescriptor "(Ljava/lang/String;Lcom/example/tickreel/tickreel/BinaryField$Type;II)V" = some ⟨[(.object "java/lang/String"), (.object "com/example/tickreel/tickreel/BinaryField$Type"), .int, .int], none⟩ := by decide +kernel
theorem dd_prog_1_method_8_code_14 : decode prog_1_method_8_code 14 = .ok (.areturn, 1) := by decide +kernel
def QI64 (Z : State) (a1 : Addr) (x1 : Int32) (wt : Addr) (h0 : Heap) (n0 : Nat) (v : Option Value) (h : Heap) (L : List Loc) : Prop := ∃ b : Addr, v = some (.ref b) ∧ Fr n0 L ∧ Keep h0 h [] ∧ h0.size ≤ b ∧ Exa Z h b "com/example/tickreel/tickreel/BinaryField" ∧ Fld Z h b "com/example/tickreel/tickreel/BinaryField" "name" "Ljava/lang/String;" (.ref a1) ∧ Fld Z h b "com/example/tickreel/tickreel/BinaryField" "type" "Lcom/example/tickreel/tickreel/BinaryField$Type;" (.ref wt) ∧ Fld Z h b "com/example/tickreel/tickreel/BinaryField" "offset" "I" (.int x1) ∧ Fld Z h b "com/example/tickreel/tickreel/BinaryField" "width" "I" (.int (8 : Int32)) ∧ Fld Z h b "com/example/tickreel/tickreel/BinaryField" "decimalsAt" "I" (.int (-1 : Int32))
set_option maxRecDepth 65536 in
set_option maxHeartbeats 40000000 in
theorem rmI64 (l : Launch) (Z : State) (a0 : Array Value) (hw : ∀ d ∈ tables_1, d.before a0 Z = true) (ws : List Jvm.Cond) (a1 : Addr) (x1 : Int32) (wt : Addr) (h0 : Heap) (n0 : Nat) (Z0 : n0 ≤ h0.size) (S_T : Sta Z Z.heap "com/example/tickreel/tickreel/BinaryField$Type" "SIGNED" "Lcom/example/tickreel/tickreel/BinaryField$Type;" (.ref wt)) (X00 : Old Z n0 h0) :
    MetFree l (⟨"com/example/tickreel/tickreel/BinaryField", "i64", "(Ljava/lang/String;I)Lcom/example/tickreel/tickreel/BinaryField;"⟩ : MethodName) (head1 (Jvm.Cond.code (⟨"com/example/tickreel/tickreel/BinaryField", "i64", "(Ljava/lang/String;I)Lcom/example/tickreel/tickreel/BinaryField;"⟩ : MethodName) prog_1_method_8_code 2 (some (.object "com/example/tickreel/tickreel/BinaryField")) :: ws) ({ frames := 3, cells := 1, slots := 5, locals := 46 } : Room)) (fun a U => a = #[(.ref a1), (.int x1)] ∧ Z.Warmed39 U.vm ∧ U.heap = h0) (fun _ _ _ _ _ => True) (fun _ U oc_ U' => ∃ v L, oc_ = .returned v ∧ QI64 Z a1 x1 wt h0 n0 v U'.heap L ∧ FrameEnd U oc_ U' L ({ frames := 3, cells := 1, slots := 5, locals := 46 } : Room).cells ({ frames := 3, cells := 1, slots := 5, locals := 46 } : Room).slots) := by
  refine MetFree.of_bodySF (plainFor_of_name pn_com_example_tickreel_tickreel_BinaryField) hisR ?_
  intro p e s m args below meth c s₁ Bd hml0 hP hK
  obtain ⟨rfl, hZ, hh⟩ := hP
  have hx := Bd.exec
  have hby := Bd.bytes
  have hml : c.maxLocals = 2 := hml0
  have hown : s.vm.findClass "com/example/tickreel/tickreel/BinaryField" = some m.cls := findClass_of_methodNamed Bd.named
  have hnm := (name_of_methodNamed Bd.named Bd.method).1
  have X0 : Stand p l e ({ frames := 3, cells := 1, slots := 5, locals := 46 } : Room) s m #[(.ref a1), (.int x1)] below meth c s₁ [] 0 0 := Stand.of_body Bd
  have e0 : s₁.heap = h0 := by rw [← hh, Bd.state]; rfl
  have N0 := Fr.nil n0
  have pre0 : ∀ t, Steps p.tables e below (s₁.setTop (mkF m 0 #[.val (.ref a1), .val (.int x1)] [])) t → Steps p.tables e below (s₁.setTop (entryFrame m #[(.ref a1), (.int x1)] 2)) t := fun t k => castTop (ef_I64 m a1 x1) k
  obtain ⟨T1, h1, X1, e1, E1, A1, D1, -, st1⟩ := newO X0 hx hZ hown (wd38 hw) (wd39 hw) (wd36 hw) e0 (g := (mkF m 0 #[.val (.ref a1), .val (.int x1)] [])) rfl (hb hby dd_prog_1_method_8_code_0) (by decide) (by decide)
  obtain ⟨b1, g1⟩ : ∃ z, z = h0.size := ⟨_, rfl⟩
  rw [← g1] at A1 D1 st1
  have ge_b1 : n0 ≤ b1 := Nat.le_trans Z0 (Nat.le_of_eq g1.symm)
  have sz_b1 : h0.size ≤ b1 := Nat.le_trans (Nat.le_refl _) (Nat.le_of_eq g1.symm)
  have Z1 : n0 ≤ h1.size := Nat.le_trans Z0 E1.1
  have K1 : Keep h0 h1 [] := ((Keep.refl h0 []).ext E1)
  have F1_name : Fld Z h1 b1 "com/example/tickreel/tickreel/BinaryField" "name" "Ljava/lang/String;" .null := D1 (Or.inr (wd51 hw)) (ty := (.object "java/lang/String")) (by decide)
  have F1_type : Fld Z h1 b1 "com/example/tickreel/tickreel/BinaryField" "type" "Lcom/example/tickreel/tickreel/BinaryField$Type;" .null := D1 (Or.inr (wd53 hw)) (ty := (.object "com/example/tickreel/tickreel/BinaryField$Type")) (by decide)
  have F1_offset : Fld Z h1 b1 "com/example/tickreel/tickreel/BinaryField" "offset" "I" (.int (0 : Int32)) := D1 (Or.inr (wd55 hw)) (ty := .int) (by decide)
  have F1_width : Fld Z h1 b1 "com/example/tickreel/tickreel/BinaryField" "width" "I" (.int (0 : Int32)) := D1 (Or.inr (wd57 hw)) (ty := .int) (by decide)
  have F1_decimalsAt : Fld Z h1 b1 "com/example/tickreel/tickreel/BinaryField" "decimalsAt" "I" (.int (0 : Int32)) := D1 (Or.inr (wd59 hw)) (ty := .int) (by decide)
  have f2 := (X00.ext E1)
  obtain ⟨T3, X3, e3, st3⟩ := getS2 X1 hx hZ hown (host := "") (Or.inl (wd40 hw)) Via.refl e1 (S_T.ext f2.2) (g := (mkF m 5 #[.val (.ref a1), .val (.int x1)] [(.ref a1), (.ref b1), (.ref b1)])) rfl (hb hby dd_prog_1_method_8_code_5)
  obtain ⟨_, _, ⟨T4, L4, kc4, ks4⟩, -, X4, ⟨Lc4, hQ4, l4, y4, z4⟩, st4⟩ := X3.specialBack hx (y := (⟨"com/example/tickreel/tickreel/BinaryField", "<init>", "(Ljava/lang/String;Lcom/example/tickreel/tickreel/BinaryField$Type;II)V"⟩ : MethodName)) rfl hown (mvT hZ (wd43 hw)) (mvT hZ (wd44 hw)) (mvT hZ (wd45 hw)) (by decide) (backOf (W := 1) (rmI4 l Z a0 hw [] b1 a1 wt x1 (8 : Int32) _ _ _ _ _ h1 n0 Z1 ge_b1 A1 F1_name F1_type F1_offset F1_width F1_decimalsAt) hZ (wd45 hw) (wd36 hw) (by decide) (by decide)) (g := (mkF m 11 #[.val (.ref a1), .val (.int x1)] [(.int (8 : Int32)), (.int x1), (.ref wt), (.ref a1), (.ref b1), (.ref b1)])) rfl (by rw [hml]; rfl) (Steps.refl _) (a := b1) (argsL := [(.ref a1), (.ref wt), (.int x1), (.int (8 : Int32))]) (rest := [(.ref b1)]) (lenOf pd__Ljava_lang_String_Lcom_example_tickreel_tickreel_BinaryField_Type_II_V rfl) rfl (by show 2 * 0 + _ ≤ _; exact Nat.le_of_eq rfl) (hb hby dd_prog_1_method_8_code_11) (fun _ _ => ⟨rfl, e3, (by decide : 1 + 0 ≤ _), (by decide : 5 + 0 ≤ _)⟩)
  dsimp only [Pt.U, Pt.locs, Pt.cells, Pt.slots] at X4 l4 y4 z4 st4 hQ4
  subst l4 y4 z4
  obtain ⟨rfl, Nq4, Kq4, gE4, gF0_4, gF1_4, gF2_4, gF3_4, gF4_4⟩ := hQ4
  have N4 := Fr.app N0 Nq4
  have Z4 : n0 ≤ T4.heap.size := Nat.le_trans Z1 Kq4.1
  have K4 : Keep h0 T4.heap [] := Keep.trans K1 Kq4 (allS (Or.inr sz_b1) all0)
  obtain ⟨lfs, lhr, lhrun, lhended, lhW, lhsame⟩ := X4.leave (v := some (.ref b1)) (fun h => by rw [Bd.returns] at h; cases h)
  refine ⟨_, _, pre0 _ ?_, lhrun, lhended, _, _, rfl, ?_, ⟨_, rfl⟩, lhW, lhsame.mono (by decide) (by decide)⟩
  · skip
    show Steps p.tables e below (s₁.setTop (mkF m 0 #[.val (.ref a1), .val (.int x1)] [])) _
    refine st1 _ ?_
    show Steps p.tables e below (T1.setTop (mkF m 3 #[.val (.ref a1), .val (.int x1)] [(.ref b1)])) _
    refine XS.dup X1.here hx rfl (hb hby dd_prog_1_method_8_code_3) rfl rfl ?_
    show Steps p.tables e below (T1.setTop (mkF m 4 #[.val (.ref a1), .val (.int x1)] [(.ref b1), (.ref b1)])) _
    refine XS.aloadN X1.here hx rfl (hb hby dd_prog_1_method_8_code_4) rfl rfl ?_
    show Steps p.tables e below (T1.setTop (mkF m 5 #[.val (.ref a1), .val (.int x1)] [(.ref a1), (.ref b1), (.ref b1)])) _
    refine st3 _ ?_
    show Steps p.tables e below (T3.setTop (mkF m 8 #[.val (.ref a1), .val (.int x1)] [(.ref wt), (.ref a1), (.ref b1), (.ref b1)])) _
    refine XS.iloadN X3.here hx rfl (hb hby dd_prog_1_method_8_code_8) rfl ?_
    show Steps p.tables e below (T3.setTop (mkF m 9 #[.val (.ref a1), .val (.int x1)] [(.int x1), (.ref wt), (.ref a1), (.ref b1), (.ref b1)])) _
    refine XS.bipush X3.here hx rfl (hb hby dd_prog_1_method_8_code_9) ?_
    show Steps p.tables e below (T3.setTop (mkF m 11 #[.val (.ref a1), .val (.int x1)] [(.int (8 : Int32)), (.int x1), (.ref wt), (.ref a1), (.ref b1), (.ref b1)])) _
    refine st4.trans ?_
    show Steps p.tables e below (T4.setTop (mkF m 14 #[.val (.ref a1), .val (.int x1)] [(.ref b1)])) _
    exact retOut X4 hx Bd.returns rfl (Or.inr (Or.inr (Or.inr (Or.inr ⟨rfl, rfl, rfl⟩)))) (hb hby dd_prog_1_method_8_code_14) lhr
  · skip
    show QI64 Z a1 x1 wt h0 n0 _ T4.heap _
    skip
    exact ⟨b1, rfl, N4, K4, sz_b1, gE4, gF0_4, gF1_4, gF2_4, gF3_4, gF4_4⟩
theorem ef_Sca (m : MethodId) (x0 : Addr) (x1 : Int32) : entryFrame m #[(.ref x0), (.int x1)] 2 = mkF m 0 #[.val (.ref x0), .val (.int x1)] [] := by first | (simp [entryFrame, mkF, argsToLocals, Value.category]; done) | rfl
theorem dd_prog_1_method_14_code_0 : decode prog_1_method_14_code 0 = .ok (.aload_n 0, 1) := by decide +kernel
theorem dd_prog_1_method_14_code_1 : decode prog_1_method_14_code 1 = .ok (.getfield 13, 3) := by decide +kernel
theorem dd_prog_1_method_14_code_4 : decode prog_1_method_14_code 4 = .ok (.getstatic 38, 3) := by decide +kernel
theorem dd_prog_1_method_14_code_7 : decode prog_1_method_14_code 7 = .ok (.if_acmp .eq 20, 3) := by decide +kernel
theorem dd_prog_1_method_14_code_27 : decode prog_1_method_14_code 27 = .ok (.new 8, 3) := by decide +kernel
theorem dd_prog_1_method_14_code_30 : decode prog_1_method_14_code 30 = .ok (.dup, 1) := by decide +kernel
theorem dd_prog_1_method_14_code_31 : decode prog_1_method_14_code 31 = .ok (.aload_n 0, 1) := by decide +kernel
theorem dd_prog_1_method_14_code_32 : decode prog_1_method_14_code 32 = .ok (.getfield 7, 3) := by decide +kernel
theorem dd_prog_1_method_14_code_35 : decode prog_1_method_14_code 35 = .ok (.aload_n 0, 1) := by decide +kernel
theorem dd_prog_1_method_14_code_36 : decode prog_1_method_14_code 36 = .ok (.getfield 13, 3) := by decide +kernel
theorem dd_prog_1_method_14_code_39 : decode prog_1_method_14_code 39 = .ok (.aload_n 0, 1) := by decide +kernel
theorem dd_prog_1_method_14_code_40 : decode prog_1_method_14_code 40 = .ok (.getfield 17, 3) := by decide +kernel
theorem dd_prog_1_method_14_code_43 : decode prog_1_method_14_code 43 = .ok (.aload_n 0, 1) := by decide +kernel
theorem dd_prog_1_method_14_code_44 : decode prog_1_method_14_code 44 = .ok (.getfield 21, 3) := by decide +kernel
theorem dd_prog_1_method_14_code_47 : decode prog_1_method_14_code 47 = .ok (.iload_n 1, 1) := by decide +kernel
theorem dd_prog_1_method_14_code_48 : decode prog_1_method_14_code 48 = .ok (.invokespecial 27, 3) := by decide +kernel
theorem dd_prog_1_method_14_code_51 : decode prog_1_method_14_code 51 = .ok (.areturn, 1) := by decide +kernel
def QSca (Z : State) (o : Addr) (x1 : Int32) (wt : Addr) (nm : Addr) (off : Int32) (wd : Int32) (h0 : Heap) (n0 : Nat) (v : Option Value) (h : Heap) (L : List Loc) : Prop := ∃ b : Addr, v = some (.ref b) ∧ Fr n0 L ∧ Keep h0 h [] ∧ h0.size ≤ b ∧ Exa Z h b "com/example/tickreel/tickreel/BinaryField" ∧ Fld Z h b "com/example/tickreel/tickreel/BinaryField" "name" "Ljava/lang/String;" (.ref nm) ∧ Fld Z h b "com/example/tickreel/tickreel/BinaryField" "type" "Lcom/example/tickreel/tickreel/BinaryField$Type;" (.ref wt) ∧ Fld Z h b "com/example/tickreel/tickreel/BinaryField" "offset" "I" (.int off) ∧ Fld Z h b "com/example/tickreel/tickreel/BinaryField" "width" "I" (.int wd) ∧ Fld Z h b "com/example/tickreel/tickreel/BinaryField" "decimalsAt" "I" (.int x1)
set_option maxRecDepth 65536 in
set_option maxHeartbeats 40000000 in
theorem rmSca (l : Launch) (Z : State) (a0 : Array Value) (hw : ∀ d ∈ tables_1, d.before a0 Z = true) (ws : List Jvm.Cond) (o : Addr) (x1 : Int32) (wt : Addr) (nm : Addr) (off : Int32) (wd : Int32) (h0 : Heap) (n0 : Nat) (Z0 : n0 ≤ h0.size) (F_n : Fld Z h0 o "com/example/tickreel/tickreel/BinaryField" "name" "Ljava/lang/String;" (.ref nm)) (F_t : Fld Z h0 o "com/example/tickreel/tickreel/BinaryField" "type" "Lcom/example/tickreel/tickreel/BinaryField$Type;" (.ref wt)) (F_o : Fld Z h0 o "com/example/tickreel/tickreel/BinaryField" "offset" "I" (.int off)) (F_w : Fld Z h0 o "com/example/tickreel/tickreel/BinaryField" "width" "I" (.int wd)) (S_T : Sta Z h0 "com/example/tickreel/tickreel/BinaryField$Type" "SIGNED" "Lcom/example/tickreel/tickreel/BinaryField$Type;" (.ref wt)) :
    MetFree l (⟨"com/example/tickreel/tickreel/BinaryField", "scaledBy", "(I)Lcom/example/tickreel/tickreel/BinaryField;"⟩ : MethodName) (head1 (Jvm.Cond.code (⟨"com/example/tickreel/tickreel/BinaryField", "scaledBy", "(I)Lcom/example/tickreel/tickreel/BinaryField;"⟩ : MethodName) prog_1_method_14_code 2 (some (.object "com/example/tickreel/tickreel/BinaryField")) :: ws) ({ frames := 2, cells := 1, slots := 5, locals := 30 } : Room)) (fun a U => a = #[(.ref o), (.int x1)] ∧ Z.Warmed39 U.vm ∧ U.heap = h0) (fun _ _ _ _ _ => True) (fun _ U oc_ U' => ∃ v L, oc_ = .returned v ∧ QSca Z o x1 wt nm off wd h0 n0 v U'.heap L ∧ FrameEnd U oc_ U' L ({ frames := 2, cells := 1, slots := 5, locals := 30 } : Room).cells ({ frames := 2, cells := 1, slots := 5, locals := 30 } : Room).slots) := by
  refine MetFree.of_bodySF (plainFor_of_name pn_com_example_tickreel_tickreel_BinaryField) hisR ?_
  intro p e s m args below meth c s₁ Bd hml0 hP hK
  obtain ⟨rfl, hZ, hh⟩ := hP
  have hx := Bd.exec
  have hby := Bd.bytes
  have hml : c.maxLocals = 2 := hml0
  have hown : s.vm.findClass "com/example/tickreel/tickreel/BinaryField" = some m.cls := findClass_of_methodNamed Bd.named
  have hnm := (name_of_methodNamed Bd.named Bd.method).1
  have X0 : Stand p l e ({ frames := 2, cells := 1, slots := 5, locals := 30 } : Room) s m #[(.ref o), (.int x1)] below meth c s₁ [] 0 0 := Stand.of_body Bd
  have e0 : s₁.heap = h0 := by rw [← hh, Bd.state]; rfl
  have N0 := Fr.nil n0
  have pre0 : ∀ t, Steps p.tables e below (s₁.setTop (mkF m 0 #[.val (.ref o), .val (.int x1)] [])) t → Steps p.tables e below (s₁.setTop (entryFrame m #[(.ref o), (.int x1)] 2)) t := fun t k => castTop (ef_Sca m o x1) k
  obtain ⟨T1, X1, e1, st1⟩ := getF X0 hx hZ hown (host := "") (Or.inl (wd52 hw)) Via.refl e0 F_t (g := (mkF m 1 #[.val (.ref o), .val (.int x1)] [(.ref o)])) rfl rfl (hb hby dd_prog_1_method_14_code_1)
  obtain ⟨T2, X2, e2, st2⟩ := getS2 X1 hx hZ hown (host := "") (Or.inl (wd40 hw)) Via.refl e1 S_T (g := (mkF m 4 #[.val (.ref o), .val (.int x1)] [(.ref wt)])) rfl (hb hby dd_prog_1_method_14_code_4)
  obtain ⟨T3, h3, X3, e3, E3, A3, D3, -, st3⟩ := newO X2 hx hZ hown (wd38 hw) (wd39 hw) (wd36 hw) e2 (g := (mkF m 27 #[.val (.ref o), .val (.int x1)] [])) rfl (hb hby dd_prog_1_method_14_code_27) (by decide) (by decide)
  obtain ⟨b3, g3⟩ : ∃ z, z = h0.size := ⟨_, rfl⟩
  rw [← g3] at A3 D3 st3
  have ne_o_b3 : o ≠ b3 := Nat.ne_of_lt (Nat.lt_of_lt_of_le F_n.lt (Nat.le_of_eq g3.symm))
  have ge_b3 : n0 ≤ b3 := Nat.le_trans Z0 (Nat.le_of_eq g3.symm)
  have sz_b3 : h0.size ≤ b3 := Nat.le_trans (Nat.le_refl _) (Nat.le_of_eq g3.symm)
  have Z3 : n0 ≤ h3.size := Nat.le_trans Z0 E3.1
  have K3 : Keep h0 h3 [] := ((Keep.refl h0 []).ext E3)
  have F3_name : Fld Z h3 b3 "com/example/tickreel/tickreel/BinaryField" "name" "Ljava/lang/String;" .null := D3 (Or.inr (wd51 hw)) (ty := (.object "java/lang/String")) (by decide)
  have F3_type : Fld Z h3 b3 "com/example/tickreel/tickreel/BinaryField" "type" "Lcom/example/tickreel/tickreel/BinaryField$Type;" .null := D3 (Or.inr (wd53 hw)) (ty := (.object "com/example/tickreel/tickreel/BinaryField$Type")) (by decide)
  have F3_offset : Fld Z h3 b3 "com/example/tickreel/tickreel/BinaryField" "offset" "I" (.int (0 : Int32)) := D3 (Or.inr (wd55 hw)) (ty := .int) (by decide)
  have F3_width : Fld Z h3 b3 "com/example/tickreel/tickreel/BinaryField" "width" "I" (.int (0 : Int32)) := D3 (Or.inr (wd57 hw)) (ty := .int) (by decide)
  have F3_decimalsAt : Fld Z h3 b3 "com/example/tickreel/tickreel/BinaryField" "decimalsAt" "I" (.int (0 : Int32)) := D3 (Or.inr (wd59 hw)) (ty := .int) (by decide)
  have f4 := (F_n.ext E3)
  obtain ⟨T5, X5, e5, st5⟩ := getF X3 hx hZ hown (host := "") (Or.inl (wd50 hw)) Via.refl e3 f4 (g := (mkF m 32 #[.val (.ref o), .val (.int x1)] [(.ref o), (.ref b3), (.ref b3)])) rfl rfl (hb hby dd_prog_1_method_14_code_32)
  have f6 := (F_t.ext E3)
  obtain ⟨T7, X7, e7, st7⟩ := getF X5 hx hZ hown (host := "") (Or.inl (wd52 hw)) Via.refl e5 f6 (g := (mkF m 36 #[.val (.ref o), .val (.int x1)] [(.ref o), (.ref nm), (.ref b3), (.ref b3)])) rfl rfl (hb hby dd_prog_1_method_14_code_36)
  have f8 := (F_o.ext E3)
  obtain ⟨T9, X9, e9, st9⟩ := getF X7 hx hZ hown (host := "") (Or.inl (wd54 hw)) Via.refl e7 f8 (g := (mkF m 40 #[.val (.ref o), .val (.int x1)] [(.ref o), (.ref wt), (.ref nm), (.ref b3), (.ref b3)])) rfl rfl (hb hby dd_prog_1_method_14_code_40)
  have f10 := (F_w.ext E3)
  obtain ⟨T11, X11, e11, st11⟩ := getF X9 hx hZ hown (host := "") (Or.inl (wd56 hw)) Via.refl e9 f10 (g := (mkF m 44 #[.val (.ref o), .val (.int x1)] [(.ref o), (.int off), (.ref wt), (.ref nm), (.ref b3), (.ref b3)])) rfl rfl (hb hby dd_prog_1_method_14_code_44)
  obtain ⟨_, _, ⟨T12, L12, kc12, ks12⟩, -, X12, ⟨Lc12, hQ12, l12, y12, z12⟩, st12⟩ := X11.specialBack hx (y := (⟨"com/example/tickreel/tickreel/BinaryField", "<init>", "(Ljava/lang/String;Lcom/example/tickreel/tickreel/BinaryField$Type;III)V"⟩ : MethodName)) rfl hown (mvT hZ (wd46 hw)) (mvT hZ (wd47 hw)) (mvT hZ (wd48 hw)) (by decide) (backOf (W := 1) (rmI5 l Z a0 hw [] b3 nm wt off wd x1 _ _ _ _ _ h3 n0 Z3 ge_b3 A3 F3_name F3_type F3_offset F3_width F3_decimalsAt) hZ (wd48 hw) (wd36 hw) (by decide) (by decide)) (g := (mkF m 48 #[.val (.ref o), .val (.int x1)] [(.int x1), (.int wd), (.int off), (.ref wt), (.ref nm), (.ref b3), (.ref b3)])) rfl (by rw [hml]; rfl) (Steps.refl _) (a := b3) (argsL := [(.ref nm), (.ref wt), (.int off), (.int wd), (.int x1)]) (rest := [(.ref b3)]) (lenOf pd__Ljava_lang_String_Lcom_example_tickreel_tickreel_BinaryField_Type_III_V rfl) rfl (by show 2 * 0 + _ ≤ _; exact Nat.le_of_eq rfl) (hb hby dd_prog_1_method_14_code_48) (fun _ _ => ⟨rfl, e11, (by decide : 1 + 0 ≤ _), (by decide : 5 + 0 ≤ _)⟩)
  dsimp only [Pt.U, Pt.locs, Pt.cells, Pt.slots] at X12 l12 y12 z12 st12 hQ12
  subst l12 y12 z12
  obtain ⟨rfl, Nq12, Kq12, gE12, gF0_12, gF1_12, gF2_12, gF3_12, gF4_12⟩ := hQ12
  have N12 := Fr.app N0 Nq12
  have Z12 : n0 ≤ T12.heap.size := Nat.le_trans Z3 Kq12.1
  have K12 : Keep h0 T12.heap [] := Keep.trans K3 Kq12 (allS (Or.inr sz_b3) all0)
  obtain ⟨lfs, lhr, lhrun, lhended, lhW, lhsame⟩ := X12.leave (v := some (.ref b3)) (fun h => by rw [Bd.returns] at h; cases h)
  refine ⟨_, _, pre0 _ ?_, lhrun, lhended, _, _, rfl, ?_, ⟨_, rfl⟩, lhW, lhsame.mono (by decide) (by decide)⟩
  · skip
    show Steps p.tables e below (s₁.setTop (mkF m 0 #[.val (.ref o), .val (.int x1)] [])) _
    refine XS.aloadN X0.here hx rfl (hb hby dd_prog_1_method_14_code_0) rfl rfl ?_
    show Steps p.tables e below (s₁.setTop (mkF m 1 #[.val (.ref o), .val (.int x1)] [(.ref o)])) _
    refine st1 _ ?_
    show Steps p.tables e below (T1.setTop (mkF m 4 #[.val (.ref o), .val (.int x1)] [(.ref wt)])) _
    refine st2 _ ?_
    show Steps p.tables e below (T2.setTop (mkF m 7 #[.val (.ref o), .val (.int x1)] [(.ref wt), (.ref wt)])) _
    refine Jvm.RoadKit.acmp (g := (mkF m 7 #[.val (.ref o), .val (.int x1)] [(.ref wt), (.ref wt)])) X2 hx rfl rfl rfl (pc0 := 7) (pc' := 27) (same := true) rfl (hb hby dd_prog_1_method_14_code_7) rfl (decide_eq_true rfl) (by decide) (by decide) ?_
    show Steps p.tables e below (T2.setTop (mkF m 27 #[.val (.ref o), .val (.int x1)] [])) _
    refine st3 _ ?_
    show Steps p.tables e below (T3.setTop (mkF m 30 #[.val (.ref o), .val (.int x1)] [(.ref b3)])) _
    refine XS.dup X3.here hx rfl (hb hby dd_prog_1_method_14_code_30) rfl rfl ?_
    show Steps p.tables e below (T3.setTop (mkF m 31 #[.val (.ref o), .val (.int x1)] [(.ref b3), (.ref b3)])) _
    refine XS.aloadN X3.here hx rfl (hb hby dd_prog_1_method_14_code_31) rfl rfl ?_
    show Steps p.tables e below (T3.setTop (mkF m 32 #[.val (.ref o), .val (.int x1)] [(.ref o), (.ref b3), (.ref b3)])) _
    refine st5 _ ?_
    show Steps p.tables e below (T5.setTop (mkF m 35 #[.val (.ref o), .val (.int x1)] [(.ref nm), (.ref b3), (.ref b3)])) _
    refine XS.aloadN X5.here hx rfl (hb hby dd_prog_1_method_14_code_35) rfl rfl ?_
    show Steps p.tables e below (T5.setTop (mkF m 36 #[.val (.ref o), .val (.int x1)] [(.ref o), (.ref nm), (.ref b3), (.ref b3)])) _
    refine st7 _ ?_
    show Steps p.tables e below (T7.setTop (mkF m 39 #[.val (.ref o), .val (.int x1)] [(.ref wt), (.ref nm), (.ref b3), (.ref b3)])) _
    refine XS.aloadN X7.here hx rfl (hb hby dd_prog_1_method_14_code_39) rfl rfl ?_
    show Steps p.tables e below (T7.setTop (mkF m 40 #[.val (.ref o), .val (.int x1)] [(.ref o), (.ref wt), (.ref nm), (.ref b3), (.ref b3)])) _
    refine st9 _ ?_
    show Steps p.tables e below (T9.setTop (mkF m 43 #[.val (.ref o), .val (.int x1)] [(.int off), (.ref wt), (.ref nm), (.ref b3), (.ref b3)])) _
    refine XS.aloadN X9.here hx rfl (hb hby dd_prog_1_method_14_code_43) rfl rfl ?_
    show Steps p.tables e below (T9.setTop (mkF m 44 #[.val (.ref o), .val (.int x1)] [(.ref o), (.int off), (.ref wt), (.ref nm), (.ref b3), (.ref b3)])) _
    refine st11 _ ?_
    show Steps p.tables e below (T11.setTop (mkF m 47 #[.val (.ref o), .val (.int x1)] [(.int wd), (.int off), (.ref wt), (.ref nm), (.ref b3), (.ref b3)])) _
    refine XS.iloadN X11.here hx rfl (hb hby dd_prog_1_method_14_code_47) rfl ?_
    show Steps p.tables e below (T11.setTop (mkF m 48 #[.val (.ref o), .val (.int x1)] [(.int x1), (.int wd), (.int off), (.ref wt), (.ref nm), (.ref b3), (.ref b3)])) _
    refine st12.trans ?_
    show Steps p.tables e below (T12.setTop (mkF m 51 #[.val (.ref o), .val (.int x1)] [(.ref b3)])) _
    exact retOut X12 hx Bd.returns rfl (Or.inr (Or.inr (Or.inr (Or.inr ⟨rfl, rfl, rfl⟩)))) (hb hby dd_prog_1_method_14_code_51) lhr
  · skip
    show QSca Z o x1 wt nm off wd h0 n0 _ T12.heap _
    skip
    exact ⟨b3, rfl, N12, K12, sz_b3, gE12, gF0_12, gF1_12, gF2_12, gF3_12, gF4_12⟩
theorem ef_Name (m : MethodId) (x0 : Addr) : entryFrame m #[(.ref x0)] 1 = mkF m 0 #[.val (.ref x0)] [] := by first | (simp [entryFrame, mkF, argsToLocals, Value.category]; done) | rfl
theorem dd_prog_1_method_15_code_0 : decode prog_1_method_15_code 0 = .ok (.aload_n 0, 1) := by decide +kernel
theorem dd_prog_1_method_15_code_1 : decode prog_1_method_15_code 1 = .ok (.getfield 7, 3) := by decide +kernel
theorem dd_prog_1_method_15_code_4 : decode prog_1_method_15_code 4 = .ok (.areturn, 1) := by decide +kernel
def QName (Z : State) (o : Addr) (w : Addr) (h0 : Heap) (n0 : Nat) (v : Option Value) (h : Heap) (L : List Loc) : Prop := v = some (.ref w) ∧ Fr n0 L ∧ h = h0
set_option maxRecDepth 65536 in
set_option maxHeartbeats 40000000 in
theorem rmName (l : Launch) (Z : State) (a0 : Array Value) (hw : ∀ d ∈ tables_1, d.before a0 Z = true) (ws : List Jvm.Cond) (o : Addr) (w : Addr) (h0 : Heap) (n0 : Nat) (Z0 : n0 ≤ h0.size) (F_n : Fld Z h0 o "com/example/tickreel/tickreel/BinaryField" "name" "Ljava/lang/String;" (.ref w)) :
    MetFree l (⟨"com/example/tickreel/tickreel/BinaryField", "name", "()Ljava/lang/String;"⟩ : MethodName) (head1 (Jvm.Cond.code (⟨"com/example/tickreel/tickreel/BinaryField", "name", "()Ljava/lang/String;"⟩ : MethodName) prog_1_method_15_code 1 (some (.object "java/lang/String")) :: ws) ({ frames := 0, cells := 0, slots := 0, locals := 0 } : Room)) (fun a U => a = #[(.ref o)] ∧ Z.Warmed39 U.vm ∧ U.heap = h0) (fun _ _ _ _ _ => True) (fun _ U oc_ U' => ∃ v L, oc_ = .returned v ∧ QName Z o w h0 n0 v U'.heap L ∧ FrameEnd U oc_ U' L ({ frames := 0, cells := 0, slots := 0, locals := 0 } : Room).cells ({ frames := 0, cells := 0, slots := 0, locals := 0 } : Room).slots) := by
  refine MetFree.of_bodySF (plainFor_of_name pn_com_example_tickreel_tickreel_BinaryField) hisR ?_
  intro p e s m args below meth c s₁ Bd hml0 hP hK
  obtain ⟨rfl, hZ, hh⟩ := hP
  have hx := Bd.exec
  have hby := Bd.bytes
  have hml : c.maxLocals = 1 := hml0
  have hown : s.vm.findClass "com/example/tickreel/tickreel/BinaryField" = some m.cls := findClass_of_methodNamed Bd.named
  have hnm := (name_of_methodNamed Bd.named Bd.method).1
  have X0 : Stand p l e ({ frames := 0, cells := 0, slots := 0, locals := 0 } : Room) s m #[(.ref o)] below meth c s₁ [] 0 0 := Stand.of_body Bd
  have e0 : s₁.heap = h0 := by rw [← hh, Bd.state]; rfl
  have N0 := Fr.nil n0
  have pre0 : ∀ t, Steps p.tables e below (s₁.setTop (mkF m 0 #[.val (.ref o)] [])) t → Steps p.tables e below (s₁.setTop (entryFrame m #[(.ref o)] 1)) t := fun t k => castTop (ef_Name m o) k
  obtain ⟨T1, X1, e1, st1⟩ := getF X0 hx hZ hown (host := "") (Or.inl (wd50 hw)) Via.refl e0 F_n (g := (mkF m 1 #[.val (.ref o)] [(.ref o)])) rfl rfl (hb hby dd_prog_1_method_15_code_1)
  obtain ⟨lfs, lhr, lhrun, lhended, lhW, lhsame⟩ := X1.leave (v := some (.ref w)) (fun h => by rw [Bd.returns] at h; cases h)
  refine ⟨_, _, pre0 _ ?_, lhrun, lhended, _, _, rfl, ?_, ⟨_, rfl⟩, lhW, lhsame.mono (by decide) (by decide)⟩
  · skip
    show Steps p.tables e below (s₁.setTop (mkF m 0 #[.val (.ref o)] [])) _
    refine XS.aloadN X0.here hx rfl (hb hby dd_prog_1_method_15_code_0) rfl rfl ?_
    show Steps p.tables e below (s₁.setTop (mkF m 1 #[.val (.ref o)] [(.ref o)])) _
    refine st1 _ ?_
    show Steps p.tables e below (T1.setTop (mkF m 4 #[.val (.ref o)] [(.ref w)])) _
    exact retOut X1 hx Bd.returns rfl (Or.inr (Or.inr (Or.inr (Or.inr ⟨rfl, rfl, rfl⟩)))) (hb hby dd_prog_1_method_15_code_4) lhr
  · skip
    show QName Z o w h0 n0 _ T1.heap _
    rw [e1]
    exact ⟨rfl, N0, rfl⟩
theorem ef_Off (m : MethodId) (x0 : Addr) : entryFrame m #[(.ref x0)] 1 = mkF m 0 #[.val (.ref x0)] [] := by first | (simp [entryFrame, mkF, argsToLocals, Value.category]; done) | rfl
theorem dd_prog_1_method_17_code_0 : decode prog_1_method_17_code 0 = .ok (.aload_n 0, 1) := by decide +kernel
theorem dd_prog_1_method_17_code_1 : decode prog_1_method_17_code 1 = .ok (.getfield 17, 3) := by decide +kernel
theorem dd_prog_1_method_17_code_4 : decode prog_1_method_17_code 4 = .ok (.ireturn, 1) := by decide +kernel
def QOff (Z : State) (o : Addr) (w : Int32) (h0 : Heap) (n0 : Nat) (v : Option Value) (h : Heap) (L : List Loc) : Prop := v = some (.int w) ∧ Fr n0 L ∧ h = h0
set_option maxRecDepth 65536 in
set_option maxHeartbeats 40000000 in
theorem rmOff (l : Launch) (Z : State) (a0 : Array Value) (hw : ∀ d ∈ tables_1, d.before a0 Z = true) (ws : List Jvm.Cond) (o : Addr) (w : Int32) (h0 : Heap) (n0 : Nat) (Z0 : n0 ≤ h0.size) (F_n : Fld Z h0 o "com/example/tickreel/tickreel/BinaryField" "offset" "I" (.int w)) :
    MetFree l (⟨"com/example/tickreel/tickreel/BinaryField", "offset", "()I"⟩ : MethodName) (head1 (Jvm.Cond.code (⟨"com/example/tickreel/tickreel/BinaryField", "offset", "()I"⟩ : MethodName) prog_1_method_17_code 1 (some .int) :: ws) ({ frames := 0, cells := 0, slots := 0, locals := 0 } : Room)) (fun a U => a = #[(.ref o)] ∧ Z.Warmed39 U.vm ∧ U.heap = h0) (fun _ _ _ _ _ => True) (fun _ U oc_ U' => ∃ v L, oc_ = .returned v ∧ QOff Z o w h0 n0 v U'.heap L ∧ FrameEnd U oc_ U' L ({ frames := 0, cells := 0, slots := 0, locals := 0 } : Room).cells ({ frames := 0, cells := 0, slots := 0, locals := 0 } : Room).slots) := by
  refine MetFree.of_bodySF (plainFor_of_name pn_com_example_tickreel_tickreel_BinaryField) hisR ?_
  intro p e s m args below meth c s₁ Bd hml0 hP hK
  obtain ⟨rfl, hZ, hh⟩ := hP
  have hx := Bd.exec
  have hby := Bd.bytes
  have hml : c.maxLocals = 1 := hml0
  have hown : s.vm.findClass "com/example/tickreel/tickreel/BinaryField" = some m.cls := findClass_of_methodNamed Bd.named
  have hnm := (name_of_methodNamed Bd.named Bd.method).1
  have X0 : Stand p l e ({ frames := 0, cells := 0, slots := 0, locals := 0 } : Room) s m #[(.ref o)] below meth c s₁ [] 0 0 := Stand.of_body Bd
  have e0 : s₁.heap = h0 := by rw [← hh, Bd.state]; rfl
  have N0 := Fr.nil n0
  have pre0 : ∀ t, Steps p.tables e below (s₁.setTop (mkF m 0 #[.val (.ref o)] [])) t → Steps p.tables e below (s₁.setTop (entryFrame m #[(.ref o)] 1)) t := fun t k => castTop (ef_Off m o) k
  obtain ⟨T1, X1, e1, st1⟩ := getF X0 hx hZ hown (host := "") (Or.inl (wd54 hw)) Via.refl e0 F_n (g := (mkF m 1 #[.val (.ref o)] [(.ref o)])) rfl rfl (hb hby dd_prog_1_method_17_code_1)
  obtain ⟨lfs, lhr, lhrun, lhended, lhW, lhsame⟩ := X1.leave (v := some (.int w)) (fun h => by rw [Bd.returns] at h; cases h)
  refine ⟨_, _, pre0 _ ?_, lhrun, lhended, _, _, rfl, ?_, ⟨_, rfl⟩, lhW, lhsame.mono (by decide) (by decide)⟩
  · skip
    show Steps p.tables e below (s₁.setTop (mkF m 0 #[.val (.ref o)] [])) _
    refine XS.aloadN X0.here hx rfl (hb hby dd_prog_1_method_17_code_0) rfl rfl ?_
    show Steps p.tables e below (s₁.setTop (mkF m 1 #[.val (.ref o)] [(.ref o)])) _
    refine st1 _ ?_
    show Steps p.tables e below (T1.setTop (mkF m 4 #[.val (.ref o)] [(.int w)])) _
    exact retI X1 hx Bd.returns (hb hby dd_prog_1_method_17_code_4) lhr
  · skip
    show QOff Z o w h0 n0 _ T1.heap _
    rw [e1]
    exact ⟨rfl, N0, rfl⟩
theorem ef_End (m : MethodId) (x0 : Addr) : entryFrame m #[(.ref x0)] 1 = mkF m 0 #[.val (.ref x0)] [] := by first | (simp [entryFrame, mkF, argsToLocals, Value.category]; done) | rfl
theorem dd_prog_1_method_18_code_0 : decode prog_1_method_18_code 0 = .ok (.aload_n 0, 1) := by decide +kernel
theorem dd_prog_1_method_18_code_1 : decode prog_1_method_18_code 1 = .ok (.getfield 17, 3) := by decide +kernel
theorem dd_prog_1_method_18_code_4 : decode prog_1_method_18_code 4 = .ok (.aload_n 0, 1) := by decide +kernel
theorem dd_prog_1_method_18_code_5 : decode prog_1_method_18_code 5 = .ok (.getfield 21, 3) := by decide +kernel
theorem dd_prog_1_method_18_code_8 : decode prog_1_method_18_code 8 = .ok (.iadd, 1) := by decide +kernel
theorem dd_prog_1_method_18_code_9 : decode prog_1_method_18_code 9 = .ok (.ireturn, 1) := by decide +kernel
def QEnd (Z : State) (o : Addr) (w : Int32) (u : Int32) (h0 : Heap) (n0 : Nat) (v : Option Value) (h : Heap) (L : List Loc) : Prop := v = some (.int (w + u)) ∧ Fr n0 L ∧ h = h0
set_option maxRecDepth 65536 in
set_option maxHeartbeats 40000000 in
theorem rmEnd (l : Launch) (Z : State) (a0 : Array Value) (hw : ∀ d ∈ tables_1, d.before a0 Z = true) (ws : List Jvm.Cond) (o : Addr) (w : Int32) (u : Int32) (h0 : Heap) (n0 : Nat) (Z0 : n0 ≤ h0.size) (F_n : Fld Z h0 o "com/example/tickreel/tickreel/BinaryField" "offset" "I" (.int w)) (F_w : Fld Z h0 o "com/example/tickreel/tickreel/BinaryField" "width" "I" (.int u)) :
    MetFree l (⟨"com/example/tickreel/tickreel/BinaryField", "end", "()I"⟩ : MethodName) (head1 (Jvm.Cond.code (⟨"com/example/tickreel/tickreel/BinaryField", "end", "()I"⟩ : MethodName) prog_1_method_18_code 1 (some .int) :: ws) ({ frames := 0, cells := 0, slots := 0, locals := 0 } : Room)) (fun a U => a = #[(.ref o)] ∧ Z.Warmed39 U.vm ∧ U.heap = h0) (fun _ _ _ _ _ => True) (fun _ U oc_ U' => ∃ v L, oc_ = .returned v ∧ QEnd Z o w u h0 n0 v U'.heap L ∧ FrameEnd U oc_ U' L ({ frames := 0, cells := 0, slots := 0, locals := 0 } : Room).cells ({ frames := 0, cells := 0, slots := 0, locals := 0 } : Room).slots) := by
  refine MetFree.of_bodySF (plainFor_of_name pn_com_example_tickreel_tickreel_BinaryField) hisR ?_
  intro p e s m args below meth c s₁ Bd hml0 hP hK
  obtain ⟨rfl, hZ, hh⟩ := hP
  have hx := Bd.exec
  have hby := Bd.bytes
  have hml : c.maxLocals = 1 := hml0
  have hown : s.vm.findClass "com/example/tickreel/tickreel/BinaryField" = some m.cls := findClass_of_methodNamed Bd.named
  have hnm := (name_of_methodNamed Bd.named Bd.method).1
  have X0 : Stand p l e ({ frames := 0, cells := 0, slots := 0, locals := 0 } : Room) s m #[(.ref o)] below meth c s₁ [] 0 0 := Stand.of_body Bd
  have e0 : s₁.heap = h0 := by rw [← hh, Bd.state]; rfl
  have N0 := Fr.nil n0
  have pre0 : ∀ t, Steps p.tables e below (s₁.setTop (mkF m 0 #[.val (.ref o)] [])) t → Steps p.tables e below (s₁.setTop (entryFrame m #[(.ref o)] 1)) t := fun t k => castTop (ef_End m o) k
  obtain ⟨T1, X1, e1, st1⟩ := getF X0 hx hZ hown (host := "") (Or.inl (wd54 hw)) Via.refl e0 F_n (g := (mkF m 1 #[.val (.ref o)] [(.ref o)])) rfl rfl (hb hby dd_prog_1_method_18_code_1)
  obtain ⟨T2, X2, e2, st2⟩ := getF X1 hx hZ hown (host := "") (Or.inl (wd56 hw)) Via.refl e1 F_w (g := (mkF m 5 #[.val (.ref o)] [(.ref o), (.int w)])) rfl rfl (hb hby dd_prog_1_method_18_code_5)
  obtain ⟨lfs, lhr, lhrun, lhended, lhW, lhsame⟩ := X2.leave (v := some (.int (w + u))) (fun h => by rw [Bd.returns] at h; cases h)
  refine ⟨_, _, pre0 _ ?_, lhrun, lhended, _, _, rfl, ?_, ⟨_, rfl⟩, lhW, lhsame.mono (by decide) (by decide)⟩
  · skip
    show Steps p.tables e below (s₁.setTop (mkF m 0 #[.val (.ref o)] [])) _
    refine XS.aloadN X0.here hx rfl (hb hby dd_prog_1_method_18_code_0) rfl rfl ?_
    show Steps p.tables e below (s₁.setTop (mkF m 1 #[.val (.ref o)] [(.ref o)])) _
    refine st1 _ ?_
    show Steps p.tables e below (T1.setTop (mkF m 4 #[.val (.ref o)] [(.int w)])) _
    refine XS.aloadN X1.here hx rfl (hb hby dd_prog_1_method_18_code_4) rfl rfl ?_
    show Steps p.tables e below (T1.setTop (mkF m 5 #[.val (.ref o)] [(.ref o), (.int w)])) _
    refine st2 _ ?_
    show Steps p.tables e below (T2.setTop (mkF m 8 #[.val (.ref o)] [(.int u), (.int w)])) _
    refine XS.iadd X2.here hx rfl (hb hby dd_prog_1_method_18_code_8) rfl ?_
    show Steps p.tables e below (T2.setTop (mkF m 9 #[.val (.ref o)] [(.int (w + u))])) _
    exact retI X2 hx Bd.returns (hb hby dd_prog_1_method_18_code_9) lhr
  · skip
    show QEnd Z o w u h0 n0 _ T2.heap _
    rw [e2]
    exact ⟨rfl, N0, rfl⟩
theorem ef_Wri (m : MethodId) (x0 : Addr) : entryFrame m #[(.ref x0)] 1 = mkF m 0 #[.val (.ref x0)] [] := by first | (simp [entryFrame, mkF, argsToLocals, Value.category]; done) | rfl
theorem dd_prog_1_method_16_code_0 : decode prog_1_method_16_code 0 = .ok (.aload_n 0, 1) := by decide +kernel
theorem dd_prog_1_method_16_code_1 : decode prog_1_method_16_code 1 = .ok (.getfield 13, 3) := by decide +kernel
theorem dd_prog_1_method_16_code_4 : decode prog_1_method_16_code 4 = .ok (.getstatic 50, 3) := by decide +kernel
theorem dd_prog_1_method_16_code_7 : decode prog_1_method_16_code 7 = .ok (.if_acmp .eq 17, 3) := by decide +kernel
theorem dd_prog_1_method_16_code_24 : decode prog_1_method_16_code 24 = .ok (.iconst 0, 1) := by decide +kernel
theorem dd_prog_1_method_16_code_25 : decode prog_1_method_16_code 25 = .ok (.ireturn, 1) := by decide +kernel
theorem dd_prog_1_method_16_code_10 : decode prog_1_method_16_code 10 = .ok (.aload_n 0, 1) := by decide +kernel
theorem dd_prog_1_method_16_code_11 : decode prog_1_method_16_code 11 = .ok (.getfield 13, 3) := by decide +kernel
theorem dd_prog_1_method_16_code_14 : decode prog_1_method_16_code 14 = .ok (.getstatic 55, 3) := by decide +kernel
theorem dd_prog_1_method_16_code_17 : decode prog_1_method_16_code 17 = .ok (.if_acmp .eq 7, 3) := by decide +kernel
theorem dd_prog_1_method_16_code_20 : decode prog_1_method_16_code 20 = .ok (.iconst 1, 1) := by decide +kernel
theorem dd_prog_1_method_16_code_21 : decode prog_1_method_16_code 21 = .ok (.goto 4, 3) := by decide +kernel
def QWri (Z : State) (o : Addr) (wt : Addr) (wom : Addr) (wfi : Addr) (r : Int32) (h0 : Heap) (n0 : Nat) (v : Option Value) (h : Heap) (L : List Loc) : Prop := v = some (.int r) ∧ Fr n0 L ∧ h = h0
set_option maxRecDepth 65536 in
set_option maxHeartbeats 40000000 in
theorem rmWri (l : Launch) (Z : State) (a0 : Array Value) (hw : ∀ d ∈ tables_1, d.before a0 Z = true) (ws : List Jvm.Cond) (o : Addr) (wt : Addr) (wom : Addr) (wfi : Addr) (r : Int32) (h0 : Heap) (n0 : Nat) (Z0 : n0 ≤ h0.size) (F_t : Fld Z h0 o "com/example/tickreel/tickreel/BinaryField" "type" "Lcom/example/tickreel/tickreel/BinaryField$Type;" (.ref wt)) (S_O : Sta Z h0 "com/example/tickreel/tickreel/BinaryField$Type" "OMITTED" "Lcom/example/tickreel/tickreel/BinaryField$Type;" (.ref wom)) (S_F : Sta Z h0 "com/example/tickreel/tickreel/BinaryField$Type" "FILLER" "Lcom/example/tickreel/tickreel/BinaryField$Type;" (.ref wfi)) (hres : ((wt = wom ∨ wt = wfi) ∧ r = 0) ∨ (¬ wt = wom ∧ ¬ wt = wfi ∧ r = 1)) :
    MetFree l (⟨"com/example/tickreel/tickreel/BinaryField", "written", "()Z"⟩ : MethodName) (head1 (Jvm.Cond.code (⟨"com/example/tickreel/tickreel/BinaryField", "written", "()Z"⟩ : MethodName) prog_1_method_16_code 1 (some .boolean) :: ws) ({ frames := 0, cells := 0, slots := 0, locals := 0 } : Room)) (fun a U => a = #[(.ref o)] ∧ Z.Warmed39 U.vm ∧ U.heap = h0) (fun _ _ _ _ _ => True) (fun _ U oc_ U' => ∃ v L, oc_ = .returned v ∧ QWri Z o wt wom wfi r h0 n0 v U'.heap L ∧ FrameEnd U oc_ U' L ({ frames := 0, cells := 0, slots := 0, locals := 0 } : Room).cells ({ frames := 0, cells := 0, slots := 0, locals := 0 } : Room).slots) := by
  refine MetFree.of_bodySF (plainFor_of_name pn_com_example_tickreel_tickreel_BinaryField) hisR ?_
  intro p e s m args below meth c s₁ Bd hml0 hP hK
  obtain ⟨rfl, hZ, hh⟩ := hP
  have hx := Bd.exec
  have hby := Bd.bytes
  have hml : c.maxLocals = 1 := hml0
  have hown : s.vm.findClass "com/example/tickreel/tickreel/BinaryField" = some m.cls := findClass_of_methodNamed Bd.named
  have hnm := (name_of_methodNamed Bd.named Bd.method).1
  have X0 : Stand p l e ({ frames := 0, cells := 0, slots := 0, locals := 0 } : Room) s m #[(.ref o)] below meth c s₁ [] 0 0 := Stand.of_body Bd
  have e0 : s₁.heap = h0 := by rw [← hh, Bd.state]; rfl
  have N0 := Fr.nil n0
  have pre0 : ∀ t, Steps p.tables e below (s₁.setTop (mkF m 0 #[.val (.ref o)] [])) t → Steps p.tables e below (s₁.setTop (entryFrame m #[(.ref o)] 1)) t := fun t k => castTop (ef_Wri m o) k
  obtain ⟨T1, X1, e1, st1⟩ := getF X0 hx hZ hown (host := "") (Or.inl (wd52 hw)) Via.refl e0 F_t (g := (mkF m 1 #[.val (.ref o)] [(.ref o)])) rfl rfl (hb hby dd_prog_1_method_16_code_1)
  obtain ⟨T2, X2, e2, st2⟩ := getS2 X1 hx hZ hown (host := "") (Or.inl (wd75 hw)) Via.refl e1 S_O (g := (mkF m 4 #[.val (.ref o)] [(.ref wt)])) rfl (hb hby dd_prog_1_method_16_code_4)
  have k3 : ∀ t, Steps p.tables e below (T2.setTop (mkF m 7 #[.val (.ref o)] [(.ref wom), (.ref wt)])) t → Steps p.tables e below (s₁.setTop (entryFrame m #[(.ref o)] 1)) t := by
    intro t kt
    refine pre0 t ?_
    show Steps p.tables e below (s₁.setTop (mkF m 0 #[.val (.ref o)] [])) _
    refine XS.aloadN X0.here hx rfl (hb hby dd_prog_1_method_16_code_0) rfl rfl ?_
    show Steps p.tables e below (s₁.setTop (mkF m 1 #[.val (.ref o)] [(.ref o)])) _
    refine st1 _ ?_
    show Steps p.tables e below (T1.setTop (mkF m 4 #[.val (.ref o)] [(.ref wt)])) _
    refine st2 _ ?_
    exact kt
  by_cases hc4 : wt = wom
  · skip
    obtain ⟨lfs, lhr, lhrun, lhended, lhW, lhsame⟩ := X2.leave (v := some (.int (0 : Int32))) (fun h => by rw [Bd.returns] at h; cases h)
    refine ⟨_, _, k3 _ ?_, lhrun, lhended, _, _, rfl, ?_, ⟨_, rfl⟩, lhW, lhsame.mono (by decide) (by decide)⟩
    · skip
      show Steps p.tables e below (T2.setTop (mkF m 7 #[.val (.ref o)] [(.ref wom), (.ref wt)])) _
      refine Jvm.RoadKit.acmp (g := (mkF m 7 #[.val (.ref o)] [(.ref wom), (.ref wt)])) X2 hx rfl rfl rfl (pc0 := 7) (pc' := 24) (same := true) rfl (hb hby dd_prog_1_method_16_code_7) rfl (decide_eq_true (congrArg Value.ref hc4)) (by decide) (by decide) ?_
      show Steps p.tables e below (T2.setTop (mkF m 24 #[.val (.ref o)] [])) _
      refine XS.iconst X2.here hx rfl (hb hby dd_prog_1_method_16_code_24) ?_
      show Steps p.tables e below (T2.setTop (mkF m 25 #[.val (.ref o)] [(.int (0 : Int32))])) _
      exact retN X2 hx (t := .boolean) Bd.returns (by simp) (hb hby dd_prog_1_method_16_code_25) lhr
    · skip
      show QWri Z o wt wom wfi r h0 n0 _ T2.heap _
      rw [e2]
      refine ⟨?_, N0, rfl⟩
      rcases hres with ⟨q1, q2⟩ | ⟨q1, q2, q3⟩
      · subst q2; rcases q1 with q1 | q1 <;> first | rfl | (exact absurd q1 (by assumption))
      · subst q3; first | rfl | (exact absurd (by assumption) q1) | (exact absurd (by assumption) q2)
  · skip
    obtain ⟨T5, X5, e5, st5⟩ := getF X2 hx hZ hown (host := "") (Or.inl (wd52 hw)) Via.refl e2 F_t (g := (mkF m 11 #[.val (.ref o)] [(.ref o)])) rfl rfl (hb hby dd_prog_1_method_16_code_11)
    obtain ⟨T6, X6, e6, st6⟩ := getS2 X5 hx hZ hown (host := "") (Or.inl (wd77 hw)) Via.refl e5 S_F (g := (mkF m 14 #[.val (.ref o)] [(.ref wt)])) rfl (hb hby dd_prog_1_method_16_code_14)
    have k7 : ∀ t, Steps p.tables e below (T6.setTop (mkF m 17 #[.val (.ref o)] [(.ref wfi), (.ref wt)])) t → Steps p.tables e below (s₁.setTop (entryFrame m #[(.ref o)] 1)) t := by
      intro t kt
      refine k3 t ?_
      show Steps p.tables e below (T2.setTop (mkF m 7 #[.val (.ref o)] [(.ref wom), (.ref wt)])) _
      refine Jvm.RoadKit.acmp (g := (mkF m 7 #[.val (.ref o)] [(.ref wom), (.ref wt)])) X2 hx rfl rfl rfl (pc0 := 7) (pc' := 10) (same := false) rfl (hb hby dd_prog_1_method_16_code_7) rfl (decide_eq_false fun q => hc4 (Value.ref.inj q)) (by decide) (by decide) ?_
      show Steps p.tables e below (T2.setTop (mkF m 10 #[.val (.ref o)] [])) _
      refine XS.aloadN X2.here hx rfl (hb hby dd_prog_1_method_16_code_10) rfl rfl ?_
      show Steps p.tables e below (T2.setTop (mkF m 11 #[.val (.ref o)] [(.ref o)])) _
      refine st5 _ ?_
      show Steps p.tables e below (T5.setTop (mkF m 14 #[.val (.ref o)] [(.ref wt)])) _
      refine st6 _ ?_
      exact kt
    by_cases hc8 : wt = wfi
    · skip
      obtain ⟨lfs, lhr, lhrun, lhended, lhW, lhsame⟩ := X6.leave (v := some (.int (0 : Int32))) (fun h => by rw [Bd.returns] at h; cases h)
      refine ⟨_, _, k7 _ ?_, lhrun, lhended, _, _, rfl, ?_, ⟨_, rfl⟩, lhW, lhsame.mono (by decide) (by decide)⟩
      · skip
        show Steps p.tables e below (T6.setTop (mkF m 17 #[.val (.ref o)] [(.ref wfi), (.ref wt)])) _
        refine Jvm.RoadKit.acmp (g := (mkF m 17 #[.val (.ref o)] [(.ref wfi), (.ref wt)])) X6 hx rfl rfl rfl (pc0 := 17) (pc' := 24) (same := true) rfl (hb hby dd_prog_1_method_16_code_17) rfl (decide_eq_true (congrArg Value.ref hc8)) (by decide) (by decide) ?_
        show Steps p.tables e below (T6.setTop (mkF m 24 #[.val (.ref o)] [])) _
        refine XS.iconst X6.here hx rfl (hb hby dd_prog_1_method_16_code_24) ?_
        show Steps p.tables e below (T6.setTop (mkF m 25 #[.val (.ref o)] [(.int (0 : Int32))])) _
        exact retN X6 hx (t := .boolean) Bd.returns (by simp) (hb hby dd_prog_1_method_16_code_25) lhr
      · skip
        show QWri Z o wt wom wfi r h0 n0 _ T6.heap _
        rw [e6]
        refine ⟨?_, N0, rfl⟩
        rcases hres with ⟨q1, q2⟩ | ⟨q1, q2, q3⟩
        · subst q2; rcases q1 with q1 | q1 <;> first | rfl | (exact absurd q1 (by assumption))
        · subst q3; first | rfl | (exact absurd (by assumption) q1) | (exact absurd (by assumption) q2)
    · skip
      obtain ⟨lfs, lhr, lhrun, lhended, lhW, lhsame⟩ := X6.leave (v := some (.int (1 : Int32))) (fun h => by rw [Bd.returns] at h; cases h)
      refine ⟨_, _, k7 _ ?_, lhrun, lhended, _, _, rfl, ?_, ⟨_, rfl⟩, lhW, lhsame.mono (by decide) (by decide)⟩
      · skip
        show Steps p.tables e below (T6.setTop (mkF m 17 #[.val (.ref o)] [(.ref wfi), (.ref wt)])) _
        refine Jvm.RoadKit.acmp (g := (mkF m 17 #[.val (.ref o)] [(.ref wfi), (.ref wt)])) X6 hx rfl rfl rfl (pc0 := 17) (pc' := 20) (same := false) rfl (hb hby dd_prog_1_method_16_code_17) rfl (decide_eq_false fun q => hc8 (Value.ref.inj q)) (by decide) (by decide) ?_
        show Steps p.tables e below (T6.setTop (mkF m 20 #[.val (.ref o)] [])) _
        refine XS.iconst X6.here hx rfl (hb hby dd_prog_1_method_16_code_20) ?_
        show Steps p.tables e below (T6.setTop (mkF m 21 #[.val (.ref o)] [(.int (1 : Int32))])) _
        refine XS.goto X6.here hx rfl (pc0 := 21) (pc' := 25) rfl (hb hby dd_prog_1_method_16_code_21) (by decide) (by decide) ?_
        show Steps p.tables e below (T6.setTop (mkF m 25 #[.val (.ref o)] [(.int (1 : Int32))])) _
        exact retN X6 hx (t := .boolean) Bd.returns (by simp) (hb hby dd_prog_1_method_16_code_25) lhr
      · skip
        show QWri Z o wt wom wfi r h0 n0 _ T6.heap _
        rw [e6]
        refine ⟨?_, N0, rfl⟩
        rcases hres with ⟨q1, q2⟩ | ⟨q1, q2, q3⟩
        · subst q2; rcases q1 with q1 | q1 <;> first | rfl | (exact absurd q1 (by assumption))
        · subst q3; first | rfl | (exact absurd (by assumption) q1) | (exact absurd (by assumption) q2)
theorem ef_Eqs (m : MethodId) (x0 : Addr) (x1 : Addr) : entryFrame m #[(.ref x0), (.ref x1)] 3 = mkF m 0 #[.val (.ref x0), .val (.ref x1), .unset] [] := by first | (simp [entryFrame, mkF, argsToLocals, Value.category]; done) | rfl
theorem pn_java_lang_String : plainName "java/lang/String" = true := by first | (simp [plainName, overriddenIn]; done) | decide +kernel
theorem dd_jdk_42_method_66_code_0 : decode jdk_42_method_66_code 0 = .ok (.aload_n 0, 1) := by decide +kernel
theorem dd_jdk_42_method_66_code_1 : decode jdk_42_method_66_code 1 = .ok (.aload_n 1, 1) := by decide +kernel
theorem dd_jdk_42_method_66_code_2 : decode jdk_42_method_66_code 2 = .ok (.if_acmp .ne 5, 3) := by decide +kernel
theorem dd_jdk_42_method_66_code_5 : decode jdk_42_method_66_code 5 = .ok (.iconst 1, 1) := by decide +kernel
theorem dd_jdk_42_method_66_code_6 : decode jdk_42_method_66_code 6 = .ok (.ireturn, 1) := by decide +kernel
def QEqs (Z : State) (a1 : Addr) (h0 : Heap) (n0 : Nat) (v : Option Value) (h : Heap) (L : List Loc) : Prop := v = some (.int 1) ∧ Fr n0 L ∧ h = h0
set_option maxRecDepth 65536 in
set_option maxHeartbeats 40000000 in
theorem rmEqs (l : Launch) (Z : State) (a0 : Array Value) (hw : ∀ d ∈ tables_1, d.before a0 Z = true) (ws : List Jvm.Cond) (a1 : Addr) (h0 : Heap) (n0 : Nat) (Z0 : n0 ≤ h0.size) :
    MetFree l (⟨"java/lang/String", "equals", "(Ljava/lang/Object;)Z"⟩ : MethodName) (head1 (Jvm.Cond.code (⟨"java/lang/String", "equals", "(Ljava/lang/Object;)Z"⟩ : MethodName) jdk_42_method_66_code 3 (some .boolean) :: ws) ({ frames := 0, cells := 0, slots := 0, locals := 0 } : Room)) (fun a U => a = #[(.ref a1), (.ref a1)] ∧ Z.Warmed39 U.vm ∧ U.heap = h0) (fun _ _ _ _ _ => True) (fun _ U oc_ U' => ∃ v L, oc_ = .returned v ∧ QEqs Z a1 h0 n0 v U'.heap L ∧ FrameEnd U oc_ U' L ({ frames := 0, cells := 0, slots := 0, locals := 0 } : Room).cells ({ frames := 0, cells := 0, slots := 0, locals := 0 } : Room).slots) := by
  refine MetFree.of_bodySF (plainFor_of_name pn_java_lang_String) hisR ?_
  intro p e s m args below meth c s₁ Bd hml0 hP hK
  obtain ⟨rfl, hZ, hh⟩ := hP
  have hx := Bd.exec
  have hby := Bd.bytes
  have hml : c.maxLocals = 3 := hml0
  have hown : s.vm.findClass "java/lang/String" = some m.cls := findClass_of_methodNamed Bd.named
  have hnm := (name_of_methodNamed Bd.named Bd.method).1
  have X0 : Stand p l e ({ frames := 0, cells := 0, slots := 0, locals := 0 } : Room) s m #[(.ref a1), (.ref a1)] below meth c s₁ [] 0 0 := Stand.of_body Bd
  have e0 : s₁.heap = h0 := by rw [← hh, Bd.state]; rfl
  have N0 := Fr.nil n0
  have pre0 : ∀ t, Steps p.tables e below (s₁.setTop (mkF m 0 #[.val (.ref a1), .val (.ref a1), .unset] [])) t → Steps p.tables e below (s₁.setTop (entryFrame m #[(.ref a1), (.ref a1)] 3)) t := fun t k => castTop (ef_Eqs m a1 a1) k
  obtain ⟨lfs, lhr, lhrun, lhended, lhW, lhsame⟩ := X0.leave (v := some (.int (1 : Int32))) (fun h => by rw [Bd.returns] at h; cases h)
  refine ⟨_, _, pre0 _ ?_, lhrun, lhended, _, _, rfl, ?_, ⟨_, rfl⟩, lhW, lhsame.mono (by decide) (by decide)⟩
  · skip
    show Steps p.tables e below (s₁.setTop (mkF m 0 #[.val (.ref a1), .val (.ref a1), .unset] [])) _
    refine XS.aloadN X0.here hx rfl (hb hby dd_jdk_42_method_66_code_0) rfl rfl ?_
    show Steps p.tables e below (s₁.setTop (mkF m 1 #[.val (.ref a1), .val (.ref a1), .unset] [(.ref a1)])) _
    refine XS.aloadN X0.here hx rfl (hb hby dd_jdk_42_method_66_code_1) rfl rfl ?_
    show Steps p.tables e below (s₁.setTop (mkF m 2 #[.val (.ref a1), .val (.ref a1), .unset] [(.ref a1), (.ref a1)])) _
    refine Jvm.RoadKit.acmp (g := (mkF m 2 #[.val (.ref a1), .val (.ref a1), .unset] [(.ref a1), (.ref a1)])) X0 hx rfl rfl rfl (pc0 := 2) (pc' := 5) (same := true) rfl (hb hby dd_jdk_42_method_66_code_2) rfl (decide_eq_true rfl) (by decide) (by decide) ?_
    show Steps p.tables e below (s₁.setTop (mkF m 5 #[.val (.ref a1), .val (.ref a1), .unset] [])) _
    refine XS.iconst X0.here hx rfl (hb hby dd_jdk_42_method_66_code_5) ?_
    show Steps p.tables e below (s₁.setTop (mkF m 6 #[.val (.ref a1), .val (.ref a1), .unset] [(.int (1 : Int32))])) _
    exact retN X0 hx (t := .boolean) Bd.returns (by simp) (hb hby dd_jdk_42_method_66_code_6) lhr
  · skip
    show QEqs Z a1 h0 n0 _ s₁.heap _
    rw [e0]
    exact ⟨rfl, N0, rfl⟩
theorem ef_Se4 (m : MethodId) (x0 : Addr) (x1 : Addr) (x2 : Int32) (x3 : Int32) : entryFrame m #[(.ref x0), (.ref x1), (.int x2), (.int x3), .null] 6 = mkF m 0 #[.val (.ref x0), .val (.ref x1), .val (.int x2), .val (.int x3), .val .null, .unset] [] := by first | (simp [entryFrame, mkF, argsToLocals, Value.category]; done) | rfl
theorem dd_jdk_42_method_149_code_0 : decode jdk_42_method_149_code 0 = .ok (.aload_n 0, 1) := by decide +kernel
theorem dd_jdk_42_method_149_code_1 : decode jdk_42_method_149_code 1 = .ok (.invokespecial 1, 3) := by decide +kernel
theorem dd_jdk_42_method_149_code_4 : decode jdk_42_method_149_code 4 = .ok (.iload_n 3, 1) := by decide +kernel
theorem dd_jdk_42_method_149_code_5 : decode jdk_42_method_149_code 5 = .ok (.ifCond .ne 22, 3) := by decide +kernel
theorem dd_jdk_42_method_149_code_8 : decode jdk_42_method_149_code 8 = .ok (.aload_n 0, 1) := by decide +kernel
theorem dd_jdk_42_method_149_code_9 : decode jdk_42_method_149_code 9 = .ok (.ldc 7, 2) := by decide +kernel
theorem dd_jdk_42_method_149_code_11 : decode jdk_42_method_149_code 11 = .ok (.getfield 9, 3) := by decide +kernel
theorem dd_jdk_42_method_149_code_14 : decode jdk_42_method_149_code 14 = .ok (.putfield 9, 3) := by decide +kernel
theorem dd_jdk_42_method_149_code_17 : decode jdk_42_method_149_code 17 = .ok (.aload_n 0, 1) := by decide +kernel
theorem dd_jdk_42_method_149_code_18 : decode jdk_42_method_149_code 18 = .ok (.ldc 7, 2) := by decide +kernel
theorem dd_jdk_42_method_149_code_20 : decode jdk_42_method_149_code 20 = .ok (.getfield 15, 3) := by decide +kernel
theorem dd_jdk_42_method_149_code_23 : decode jdk_42_method_149_code 23 = .ok (.putfield 15, 3) := by decide +kernel
theorem dd_jdk_42_method_149_code_26 : decode jdk_42_method_149_code 26 = .ok (.return_, 1) := by decide +kernel
def QSe4 (Z : State) (o : Addr) (a1 : Addr) (x2 : Int32) (x3 : Int32) (u0 : Value) (u1 : Value) (h0 : Heap) (n0 : Nat) (v : Option Value) (h : Heap) (L : List Loc) : Prop := v = none ∧ Fr n0 L ∧ Keep h0 h [o] ∧ Exa Z h o "java/lang/String" ∧ Fld Z h o "java/lang/String" "coder" "B" (.int (0 : Int32)) ∧ ∃ (t : Addr) (kb : ClassId), Fld Z h o "java/lang/String" "value" "[B" (.ref t) ∧ Arv Z h t kb .byte (0 : Int32) [] (.int (0 : Int32))
set_option maxRecDepth 65536 in
set_option maxHeartbeats 40000000 in
theorem rmSe4 (l : Launch) (Z : State) (a0 : Array Value) (hw : ∀ d ∈ tables_1, d.before a0 Z = true) (ws : List Jvm.Cond) (o : Addr) (a1 : Addr) (x2 : Int32) (x3 : Int32) (u0 : Value) (u1 : Value) (h0 : Heap) (n0 : Nat) (Z0 : n0 ≤ h0.size) (g_o : n0 ≤ o) (E_o : Exa Z h0 o "java/lang/String") (F_v : Fld Z h0 o "java/lang/String" "value" "[B" u0) (F_c : Fld Z h0 o "java/lang/String" "coder" "B" u1) (hz : x3 = (0 : Int32)) :
    MetFree l (⟨"java/lang/String", "<init>", "([CIILjava/lang/Void;)V"⟩ : MethodName) (head1 (Jvm.Cond.code (⟨"java/lang/String", "<init>", "([CIILjava/lang/Void;)V"⟩ : MethodName) jdk_42_method_149_code 6 none :: ws) ({ frames := 1, cells := 4, slots := 8, locals := 12 } : Room)) (fun a U => a = #[(.ref o), (.ref a1), (.int x2), (.int x3), .null] ∧ Z.Warmed39 U.vm ∧ U.heap = h0 ∧ CHv Z own_EL U.vm h0 ∧ ∀ x ∈ ([o] : List Addr), Safe Z own_EL U.vm h0 x) (fun _ _ _ _ _ => True) (fun _ U oc_ U' => ∃ v L, oc_ = .returned v ∧ QSe4 Z o a1 x2 x3 u0 u1 h0 n0 v U'.heap L ∧ CHr Z own_EL U.vm U.heap U'.vm U'.heap ∧ ReturnedEndW U oc_ U' L ({ frames := 1, cells := 4, slots := 8, locals := 12 } : Room).cells ({ frames := 1, cells := 4, slots := 8, locals := 12 } : Room).slots) := by
  refine MetFree.of_bodySF (plainFor_of_name pn_java_lang_String) hisR ?_
  intro p e s m args below meth c s₁ Bd hml0 hP hK
  obtain ⟨rfl, hZ, hh, hCH, hSS⟩ := hP
  have hx := Bd.exec
  have hby := Bd.bytes
  have hml : c.maxLocals = 6 := hml0
  have hown : s.vm.findClass "java/lang/String" = some m.cls := findClass_of_methodNamed Bd.named
  have hnm := (name_of_methodNamed Bd.named Bd.method).1
  have X0 : Stand p l e ({ frames := 1, cells := 4, slots := 8, locals := 12 } : Room) s m #[(.ref o), (.ref a1), (.int x2), (.int x3), .null] below meth c s₁ [] 0 0 := Stand.of_body Bd
  have e0 : s₁.heap = h0 := by rw [← hh, Bd.state]; rfl
  have N0 := Fr.nil n0
  have pre0 : ∀ t, Steps p.tables e below (s₁.setTop (mkF m 0 #[.val (.ref o), .val (.ref a1), .val (.int x2), .val (.int x3), .val .null, .unset] [])) t → Steps p.tables e below (s₁.setTop (entryFrame m #[(.ref o), (.ref a1), (.int x2), (.int x3), .null] 6)) t := fun t k => castTop (ef_Se4 m o a1 x2 x3) k
  have X0 : Stand p l e ({ frames := 1, cells := 4, slots := 8, locals := 12 } : Room) (s.setVm s.vm) m #[(.ref o), (.ref a1), (.int x2), (.int x3), .null] below meth c s₁ [] 0 0 := X0
  have hS0 : s.Since s.vm 0 := own_since0 s
  have hk0 : 0 ≤ h0.size := Nat.zero_le _
  have CR0 : CHr Z own_EL s.vm h0 s.vm h0 := CHr.refl hCH
  have sf_o : Safe Z own_EL s.vm h0 o := hSS _ (List.mem_of_getElem? (i := 0) rfl)
  have hEL := own_EW a0 Z hw
  have wS : ∀ a ∈ Bundle.stringAtoms, a.before a0 Z = true := fun d hd => hw d ((by decide +kernel : ∀ d ∈ Bundle.stringAtoms, d ∈ tables_1) d hd)
  obtain ⟨T1, X1, e1, st1⟩ := initO X0 hx hZ hown (wd15 hw) (wd16 hw) (wd17 hw) e0 (g := (mkF m 1 #[.val (.ref o), .val (.ref a1), .val (.int x2), .val (.int x3), .val .null, .unset] [(.ref o)])) rfl (by rw [hml]; rfl) rfl (hb hby dd_jdk_42_method_149_code_1) (by decide) (W := 0) (by show 2 * 0 + _ ≤ _; exact Nat.le_of_eq rfl) (by decide)
  obtain ⟨a2, T2, h2, kk2, t2, kb2, X2, e2, E2, hS2, hk2, hZ2, hown2, gE2, gC2, gV2, gK2, la2, lt2, CS2, LL2, sne2, st2⟩ := ldcCH (s := s) (vm0 := s.vm) (EL := own_EL) X1 hx hZ hown (wd94 hw) wS e1 hS0 hk0 hEL (by decide) CR0.1 (vs := []) (z := (0 : Int32)) ⟨by decide +kernel, by first | rfl | decide +kernel⟩ (by decide) (by decide) (g := (mkF m 9 #[.val (.ref o), .val (.ref a1), .val (.int x2), .val (.int x3), .val .null, .unset] [(.ref o)])) rfl (hb hby dd_jdk_42_method_149_code_9) (n := 0) (by decide +kernel) (by decide) (by decide) (by decide)
  have CR2 := CR0.trans CS2
  have Z2 : n0 ≤ h2.size := Nat.le_trans Z0 E2.1
  have K2 : Keep h0 h2 [o] := ((Keep.refl h0 [o]).ext E2)
  have nn_o_2 := sne2 o (CHr.safe CS2 E_o.lt sf_o)
  obtain ⟨T3, X3, e3, st3⟩ := getF X2 hx hZ2 hown2 (host := "") (Or.inl (wd32 hw)) Via.refl e2 gV2 (g := (mkF m 11 #[.val (.ref o), .val (.ref a1), .val (.int x2), .val (.int x3), .val .null, .unset] [(.ref a2), (.ref o)])) rfl rfl (hb hby dd_jdk_42_method_149_code_11)
  have f4 := (E_o.ext E2)
  have f5 := (F_v.ext E2)
  obtain ⟨T6, h6, X6, e6, W6, st6⟩ := putF X3 hx hZ2 hown2 (host := "") (Or.inl (wd32 hw)) Via.refl e3 f5 f4 (Or.inr ⟨(wd33 hw), rfl, hnm⟩) (wd5 hw) (ty := (.array .byte)) (by decide) rfl rfl (g := (mkF m 14 #[.val (.ref o), .val (.ref a1), .val (.int x2), .val (.int x3), .val .null, .unset] [(.ref t2), (.ref o)])) rfl rfl (hb hby dd_jdk_42_method_149_code_14)
  have CS6 := CHr.wr W6 (CHr.safe CS2 E_o.lt sf_o) CR2.1
  have CR6 := CR2.trans CS6
  have hk6 : _ ≤ h6.size := Nat.le_trans hk2 (Nat.le_of_eq W6.size.symm)
  have N6 := Fr.snoc X6 N0 g_o
  have Z6 : n0 ≤ h6.size := by rw [W6.size]; exact Z2
  have K6 : Keep h0 h6 [o] := (K2.wr W6 (Or.inl (List.mem_of_getElem? (i := 0) rfl)))
  have Fw6 := f5.same W6
  have f7 := (f4.wr W6)
  have f8 := (gE2.wr W6)
  have f9 := (gK2.other W6 (Ne.symm nn_o_2.2))
  obtain ⟨a10, T10, h10, kk10, t10, kb10, X10, e10, E10, hS10, hk10, hZ10, hown10, gE10, gC10, gV10, gK10, la10, lt10, CS10, LL10, sne10, st10⟩ := ldcCH (s := s) (vm0 := T2.vm) (EL := own_EL) X6 hx hZ2 hown2 (wd94 hw) wS e6 hS2 hk6 hEL (by decide) CR6.1 (vs := []) (z := (0 : Int32)) ⟨by decide +kernel, by first | rfl | decide +kernel⟩ (by decide) (by decide) (g := (mkF m 18 #[.val (.ref o), .val (.ref a1), .val (.int x2), .val (.int x3), .val .null, .unset] [(.ref o)])) rfl (hb hby dd_jdk_42_method_149_code_18) (n := 0) (by decide +kernel) (by decide) (by decide) (by decide)
  have CR10 := CR6.trans CS10
  have Z10 : n0 ≤ h10.size := Nat.le_trans Z6 E10.1
  have K10 : Keep h0 h10 [o] := (K6.ext E10)
  have nn_o_10 := sne10 o (CHr.safe ((CS2.trans CS6).trans CS10) E_o.lt sf_o)
  obtain ⟨T11, X11, e11, st11⟩ := getF X10 hx hZ10 hown10 (host := "") (Or.inl (wd30 hw)) Via.refl e10 gC10 (g := (mkF m 20 #[.val (.ref o), .val (.ref a1), .val (.int x2), .val (.int x3), .val .null, .unset] [(.ref a10), (.ref o)])) rfl rfl (hb hby dd_jdk_42_method_149_code_20)
  have f12 := (f7.ext E10)
  have f13 := (((F_c.ext E2).other W6 (Or.inr (slot_ne (Or.inr (wd31 hw)) (Or.inr (wd33 hw)) (by decide) (t := .byte) (t' := (.array .byte)) (by decide) (by decide)))).ext E10)
  obtain ⟨T14, h14, X14, e14, W14, st14⟩ := putFN X11 hx hZ10 hown10 (wd30 hw) Via.refl e11 f13 f12 (Or.inr ⟨(wd31 hw), rfl, hnm⟩) (wd5 hw) (ty := .byte) (v' := (.int (0 : Int32))) (by decide) rfl (by decide) (g := (mkF m 23 #[.val (.ref o), .val (.ref a1), .val (.int x2), .val (.int x3), .val .null, .unset] [(.int (0 : Int32)), (.ref o)])) rfl rfl (hb hby dd_jdk_42_method_149_code_23)
  have CS14 := CHr.wr W14 (CHr.safe ((CS2.trans CS6).trans CS10) E_o.lt sf_o) CR10.1
  have CR14 := CR10.trans CS14
  have hk14 : _ ≤ h14.size := Nat.le_trans hk10 (Nat.le_of_eq W14.size.symm)
  have N14 := Fr.snoc X14 N6 g_o
  have Z14 : n0 ≤ h14.size := by rw [W14.size]; exact Z10
  have K14 : Keep h0 h14 [o] := (K10.wr W14 (Or.inl (List.mem_of_getElem? (i := 0) rfl)))
  have Fw14 := f13.same W14
  obtain ⟨lfs, lhr, lhrun, lhended, lhE⟩ := X14.leaveW hS10 (by rw [e14]; exact hk14) (v := none) (fun _ => rfl)
  refine ⟨_, _, pre0 _ ?_, lhrun, lhended, _, _, rfl, ?_, ?_, lhE.1, lhE.2.1, lhE.2.2.1, lhE.2.2.2.mono (by decide) (by decide)⟩
  · skip
    show Steps p.tables e below (s₁.setTop (mkF m 0 #[.val (.ref o), .val (.ref a1), .val (.int x2), .val (.int x3), .val .null, .unset] [])) _
    refine XS.aloadN X0.here hx rfl (hb hby dd_jdk_42_method_149_code_0) rfl rfl ?_
    show Steps p.tables e below (s₁.setTop (mkF m 1 #[.val (.ref o), .val (.ref a1), .val (.int x2), .val (.int x3), .val .null, .unset] [(.ref o)])) _
    refine st1 _ ?_
    show Steps p.tables e below (T1.setTop (mkF m 4 #[.val (.ref o), .val (.ref a1), .val (.int x2), .val (.int x3), .val .null, .unset] [])) _
    refine XS.iloadN X1.here hx rfl (hb hby dd_jdk_42_method_149_code_4) rfl ?_
    show Steps p.tables e below (T1.setTop (mkF m 5 #[.val (.ref o), .val (.ref a1), .val (.int x2), .val (.int x3), .val .null, .unset] [(.int x3)])) _
    refine XS.ifNo X1.here hx rfl (hb hby dd_jdk_42_method_149_code_5) rfl ((if0 _ _).trans (teq hz).2) ?_
    show Steps p.tables e below (T1.setTop (mkF m 8 #[.val (.ref o), .val (.ref a1), .val (.int x2), .val (.int x3), .val .null, .unset] [])) _
    refine XS.aloadN X1.here hx rfl (hb hby dd_jdk_42_method_149_code_8) rfl rfl ?_
    show Steps p.tables e below (T1.setTop (mkF m 9 #[.val (.ref o), .val (.ref a1), .val (.int x2), .val (.int x3), .val .null, .unset] [(.ref o)])) _
    refine st2 _ ?_
    show Steps p.tables e below (T2.setTop (mkF m 11 #[.val (.ref o), .val (.ref a1), .val (.int x2), .val (.int x3), .val .null, .unset] [(.ref a2), (.ref o)])) _
    refine st3 _ ?_
    show Steps p.tables e below (T3.setTop (mkF m 14 #[.val (.ref o), .val (.ref a1), .val (.int x2), .val (.int x3), .val .null, .unset] [(.ref t2), (.ref o)])) _
    refine st6 _ ?_
    show Steps p.tables e below (T6.setTop (mkF m 17 #[.val (.ref o), .val (.ref a1), .val (.int x2), .val (.int x3), .val .null, .unset] [])) _
    refine XS.aloadN X6.here hx rfl (hb hby dd_jdk_42_method_149_code_17) rfl rfl ?_
    show Steps p.tables e below (T6.setTop (mkF m 18 #[.val (.ref o), .val (.ref a1), .val (.int x2), .val (.int x3), .val .null, .unset] [(.ref o)])) _
    refine st10 _ ?_
    show Steps p.tables e below (T10.setTop (mkF m 20 #[.val (.ref o), .val (.ref a1), .val (.int x2), .val (.int x3), .val .null, .unset] [(.ref a10), (.ref o)])) _
    refine st11 _ ?_
    show Steps p.tables e below (T11.setTop (mkF m 23 #[.val (.ref o), .val (.ref a1), .val (.int x2), .val (.int x3), .val .null, .unset] [(.int (0 : Int32)), (.ref o)])) _
    refine st14 _ ?_
    show Steps p.tables e below (T14.setTop (mkF m 26 #[.val (.ref o), .val (.ref a1), .val (.int x2), .val (.int x3), .val .null, .unset] [])) _
    exact X14.returnOut hx Bd.returns (hb hby dd_jdk_42_method_149_code_26) lhr
  · skip
    show QSe4 Z o a1 x2 x3 u0 u1 h0 n0 _ T14.heap _
    rw [e14]
    have f15 := (f12.wr W14)
    have f16 := ((Fw6.ext E10).other W14 (Or.inr (slot_ne (Or.inr (wd33 hw)) (Or.inr (wd31 hw)) (by decide) (t := (.array .byte)) (t' := .byte) (by decide) (by decide))))
    have f17 := ((f9.ext E10).other W14 (Ne.symm nn_o_2.2))
    exact ⟨rfl, N14, K14, f15, Fw14, t2, _, f16, f17⟩
  · skip
    show CHr Z own_EL s.vm s.heap T14.vm T14.heap
    rw [hh]
    rw [e14]
    exact CR14.trans (CHv.at X14 hZ10 hEL CR14.1)
theorem ef_Se1 (m : MethodId) (x0 : Addr) (x1 : Addr) : entryFrame m #[(.ref x0), (.ref x1)] 2 = mkF m 0 #[.val (.ref x0), .val (.ref x1)] [] := by first | (simp [entryFrame, mkF, argsToLocals, Value.category]; done) | rfl
theorem dd_jdk_42_method_3_code_0 : decode jdk_42_method_3_code 0 = .ok (.aload_n 0, 1) := by decide +kernel
theorem dd_jdk_42_method_3_code_1 : decode jdk_42_method_3_code 1 = .ok (.aload_n 1, 1) := by decide +kernel
theorem dd_jdk_42_method_3_code_2 : decode jdk_42_method_3_code 2 = .ok (.iconst 0, 1) := by decide +kernel
theorem dd_jdk_42_method_3_code_3 : decode jdk_42_method_3_code 3 = .ok (.aload_n 1, 1) := by decide +kernel
theorem dd_jdk_42_method_3_code_4 : decode jdk_42_method_3_code 4 = .ok (.arraylength, 1) := by decide +kernel
theorem dd_jdk_42_method_3_code_5 : decode jdk_42_method_3_code 5 = .ok (.aconst_null, 1) := by decide +kernel
theorem dd_jdk_42_method_3_code_6 : decode jdk_42_method_3_code 6 = .ok (.invokespecial 27, 3) := by decide +kernel
theorem pd___CIILjava_lang_Void__V : parseMethodDescriptor "([CIILjava/lang/Void;)V" = some ⟨[(.array .char), .int, .int, (.object "java/lang/Void")], none⟩ := by decide +kernel
theorem dd_jdk_42_method_3_code_9 : decode jdk_42_method_3_code 9 = .ok (.return_, 1) := by decide +kernel
def QSe1 (Z : State) (o : Addr) (a1 : Addr) (u0 : Value) (u1 : Value) (kc : ClassId) (dv : Value) (h0 : Heap) (n0 : Nat) (v : Option Value) (h : Heap) (L : List Loc) : Prop := v = none ∧ Fr n0 L ∧ Keep h0 h [o] ∧ Exa Z h o "java/lang/String" ∧ Fld Z h o "java/lang/String" "coder" "B" (.int (0 : Int32)) ∧ ∃ (t : Addr) (kb : ClassId), Fld Z h o "java/lang/String" "value" "[B" (.ref t) ∧ Arv Z h t kb .byte (0 : Int32) [] (.int (0 : Int32))
set_option maxRecDepth 65536 in
set_option maxHeartbeats 40000000 in
theorem rmSe1 (l : Launch) (Z : State) (a0 : Array Value) (hw : ∀ d ∈ tables_1, d.before a0 Z = true) (ws : List Jvm.Cond) (o : Addr) (a1 : Addr) (u0 : Value) (u1 : Value) (kc : ClassId) (dv : Value) (h0 : Heap) (n0 : Nat) (Z0 : n0 ≤ h0.size) (g_o : n0 ≤ o) (E_o : Exa Z h0 o "java/lang/String") (F_v : Fld Z h0 o "java/lang/String" "value" "[B" u0) (F_c : Fld Z h0 o "java/lang/String" "coder" "B" u1) (V_a : Arv Z h0 a1 kc .char (0 : Int32) [] dv) :
    MetFree l (⟨"java/lang/String", "<init>", "([C)V"⟩ : MethodName) (head1 (Jvm.Cond.code (⟨"java/lang/String", "<init>", "([C)V"⟩ : MethodName) jdk_42_method_3_code 2 none :: ws) ({ frames := 2, cells := 4, slots := 8, locals := 29 } : Room)) (fun a U => a = #[(.ref o), (.ref a1)] ∧ Z.Warmed39 U.vm ∧ U.heap = h0 ∧ CHv Z own_EL U.vm h0 ∧ ∀ x ∈ ([o] : List Addr), Safe Z own_EL U.vm h0 x) (fun _ _ _ _ _ => True) (fun _ U oc_ U' => ∃ v L, oc_ = .returned v ∧ QSe1 Z o a1 u0 u1 kc dv h0 n0 v U'.heap L ∧ CHr Z own_EL U.vm U.heap U'.vm U'.heap ∧ ReturnedEndW U oc_ U' L ({ frames := 2, cells := 4, slots := 8, locals := 29 } : Room).cells ({ frames := 2, cells := 4, slots := 8, locals := 29 } : Room).slots) := by
  refine MetFree.of_bodySF (plainFor_of_name pn_java_lang_String) hisR ?_
  intro p e s m args below meth c s₁ Bd hml0 hP hK
  obtain ⟨rfl, hZ, hh, hCH, hSS⟩ := hP
  have hx := Bd.exec
  have hby := Bd.bytes
  have hml : c.maxLocals = 2 := hml0
  have hown : s.vm.findClass "java/lang/String" = some m.cls := findClass_of_methodNamed Bd.named
  have hnm := (name_of_methodNamed Bd.named Bd.method).1
  have X0 : Stand p l e ({ frames := 2, cells := 4, slots := 8, locals := 29 } : Room) s m #[(.ref o), (.ref a1)] below meth c s₁ [] 0 0 := Stand.of_body Bd
  have e0 : s₁.heap = h0 := by rw [← hh, Bd.state]; rfl
  have N0 := Fr.nil n0
  have pre0 : ∀ t, Steps p.tables e below (s₁.setTop (mkF m 0 #[.val (.ref o), .val (.ref a1)] [])) t → Steps p.tables e below (s₁.setTop (entryFrame m #[(.ref o), (.ref a1)] 2)) t := fun t k => castTop (ef_Se1 m o a1) k
  have X0 : Stand p l e ({ frames := 2, cells := 4, slots := 8, locals := 29 } : Room) (s.setVm s.vm) m #[(.ref o), (.ref a1)] below meth c s₁ [] 0 0 := X0
  have hS0 : s.Since s.vm 0 := own_since0 s
  have hk0 : 0 ≤ h0.size := Nat.zero_le _
  have CR0 : CHr Z own_EL s.vm h0 s.vm h0 := CHr.refl hCH
  have sf_o : Safe Z own_EL s.vm h0 o := hSS _ (List.mem_of_getElem? (i := 0) rfl)
  have hEL := own_EW a0 Z hw
  have wS : ∀ a ∈ Bundle.stringAtoms, a.before a0 Z = true := fun d hd => hw d ((by decide +kernel : ∀ d ∈ Bundle.stringAtoms, d ∈ tables_1) d hd)
  obtain ⟨cl1, Ar1, -, S1, M1, -, -⟩ := id V_a
  obtain ⟨_, _, ⟨T2, L2, kc2, ks2⟩, -, X2, hSq2, hgr2, ⟨Lc2, hQ2, l2, y2, z2, CS2⟩, st2⟩ := X0.specialBackS hx (y := (⟨"java/lang/String", "<init>", "([CIILjava/lang/Void;)V"⟩ : MethodName)) rfl hown (mvT hZ (wd11 hw)) (mvT hZ (wd12 hw)) (mvT hZ (wd14 hw)) (by decide) (own_backSafe (s := s) (vm0 := s.vm) (EL := own_EL) (ss := [o]) (W := 0) (rmSe4 l Z a0 hw [] o a1 (0 : Int32) (0 : Int32) _ _ h0 n0 Z0 g_o E_o F_v F_c rfl) hZ (wd14 hw) (wd6 hw) (by decide) (by decide) hEL CR0.1 (allS ⟨E_o.lt, sf_o⟩ all0)) (g := (mkF m 6 #[.val (.ref o), .val (.ref a1)] [.null, (.int (0 : Int32)), (.int (0 : Int32)), (.ref a1), (.ref o)])) rfl (by rw [hml]; rfl) (Steps.refl _) (a := o) (argsL := [(.ref a1), (.int (0 : Int32)), (.int (0 : Int32)), .null]) (rest := []) (lenOf pd___CIILjava_lang_Void__V rfl) rfl (by show 2 * 0 + _ ≤ _; exact Nat.le_of_eq rfl) (hb hby dd_jdk_42_method_3_code_6) (fun _ _ => ⟨rfl, e0, (by decide : 0 + 4 ≤ _), (by decide : 0 + 8 ≤ _)⟩)
  dsimp only [Pt.U, Pt.locs, Pt.cells, Pt.slots] at X2 l2 y2 z2 st2 hQ2 hSq2 hgr2 CS2
  subst l2 y2 z2
  obtain ⟨X2, hS2, hZ2, hown2⟩ := rebS hS0 hk0 X2 hSq2 (by rw [e0] at hgr2; exact hgr2) hZ hown
  obtain ⟨rfl, Nq2, Kq2, gE2, gC2, t2, kb2, gV2, gK2⟩ := hQ2
  have N2 := Fr.app N0 Nq2
  have CR2 := CR0.trans CS2
  have Z2 : n0 ≤ T2.heap.size := Nat.le_trans Z0 Kq2.1
  have K2 : Keep h0 T2.heap [o] := Keep.trans (Keep.refl h0 [o]) Kq2 (allS (Or.inl (List.mem_of_getElem? (i := 0) rfl)) all0)
  obtain ⟨lfs, lhr, lhrun, lhended, lhE⟩ := X2.leaveW hS2 (Nat.le_refl T2.heap.size) (v := none) (fun _ => rfl)
  refine ⟨_, _, pre0 _ ?_, lhrun, lhended, _, _, rfl, ?_, ?_, lhE.1, lhE.2.1, lhE.2.2.1, lhE.2.2.2.mono (by decide) (by decide)⟩
  · skip
    show Steps p.tables e below (s₁.setTop (mkF m 0 #[.val (.ref o), .val (.ref a1)] [])) _
    refine XS.aloadN X0.here hx rfl (hb hby dd_jdk_42_method_3_code_0) rfl rfl ?_
    show Steps p.tables e below (s₁.setTop (mkF m 1 #[.val (.ref o), .val (.ref a1)] [(.ref o)])) _
    refine XS.aloadN X0.here hx rfl (hb hby dd_jdk_42_method_3_code_1) rfl rfl ?_
    show Steps p.tables e below (s₁.setTop (mkF m 2 #[.val (.ref o), .val (.ref a1)] [(.ref a1), (.ref o)])) _
    refine XS.iconst X0.here hx rfl (hb hby dd_jdk_42_method_3_code_2) ?_
    show Steps p.tables e below (s₁.setTop (mkF m 3 #[.val (.ref o), .val (.ref a1)] [(.int (0 : Int32)), (.ref a1), (.ref o)])) _
    refine XS.aloadN X0.here hx rfl (hb hby dd_jdk_42_method_3_code_3) rfl rfl ?_
    show Steps p.tables e below (s₁.setTop (mkF m 4 #[.val (.ref o), .val (.ref a1)] [(.ref a1), (.int (0 : Int32)), (.ref a1), (.ref o)])) _
    refine X0.arraylength hx (by (try rw [e0]); exact Ar1.1) (State.isArrayOf_alike hZ.alike Ar1.2.1) (g := (mkF m 4 #[.val (.ref o), .val (.ref a1)] [(.ref a1), (.int (0 : Int32)), (.ref a1), (.ref o)])) rfl rfl (hb hby dd_jdk_42_method_3_code_4) _ ?_
    rw [len_of S1 M1]
    show Steps p.tables e below (s₁.setTop (mkF m 5 #[.val (.ref o), .val (.ref a1)] [(.int (0 : Int32)), (.int (0 : Int32)), (.ref a1), (.ref o)])) _
    refine XS.aconstNull X0.here hx rfl (hb hby dd_jdk_42_method_3_code_5) ?_
    show Steps p.tables e below (s₁.setTop (mkF m 6 #[.val (.ref o), .val (.ref a1)] [.null, (.int (0 : Int32)), (.int (0 : Int32)), (.ref a1), (.ref o)])) _
    refine st2.trans ?_
    show Steps p.tables e below (T2.setTop (mkF m 9 #[.val (.ref o), .val (.ref a1)] [])) _
    exact X2.returnOut hx Bd.returns (hb hby dd_jdk_42_method_3_code_9) lhr
  · skip
    show QSe1 Z o a1 u0 u1 kc dv h0 n0 _ T2.heap _
    skip
    exact ⟨rfl, N2, K2, gE2, gC2, t2, _, gV2, gK2⟩
  · skip
    show CHr Z own_EL s.vm s.heap T2.vm T2.heap
    rw [hh]
    exact CR2.trans (CHv.at X2 hZ2 hEL CR2.1)
theorem ef_Dra (m : MethodId) (x0 : Int32) (x1 : Int32) (x2 : Int32) (x3 : Int32) : entryFrame m #[(.int x0), (.int x1), (.int x2), (.int x3)] 8 = mkF m 0 #[.val (.int x0), .val (.int x1), .val (.int x2), .val (.int x3), .unset, .unset, .unset, .unset] [] := by first | (simp [entryFrame, mkF, argsToLocals, Value.category]; done) | rfl
theorem pn_com_example_tickreel_tickreel_BinaryFieldI64PinLaw : plainName "com/example/tickreel/tickreel/BinaryFieldI64PinLaw" = true := by first | (simp [plainName, overriddenIn]; done) | decide +kernel
theorem dd_method_2_code_0 : decode method_2_code 0 = .ok (.iload_n 0, 1) := by decide +kernel
theorem dd_method_2_code_1 : decode method_2_code 1 = .ok (.iconst 3, 1) := by decide +kernel
theorem dd_method_2_code_2 : decode method_2_code 2 = .ok (.iand, 1) := by decide +kernel
theorem dd_method_2_code_3 : decode method_2_code 3 = .ok (.istore 4, 2) := by decide +kernel
theorem dd_method_2_code_5 : decode method_2_code 5 = .ok (.iload_n 1, 1) := by decide +kernel
theorem dd_method_2_code_6 : decode method_2_code 6 = .ok (.sipush 255, 3) := by decide +kernel
theorem dd_method_2_code_9 : decode method_2_code 9 = .ok (.iand, 1) := by decide +kernel
theorem dd_method_2_code_10 : decode method_2_code 10 = .ok (.i2c, 1) := by decide +kernel
theorem dd_method_2_code_11 : decode method_2_code 11 = .ok (.istore 5, 2) := by decide +kernel
theorem dd_method_2_code_13 : decode method_2_code 13 = .ok (.iload_n 2, 1) := by decide +kernel
theorem dd_method_2_code_14 : decode method_2_code 14 = .ok (.sipush 255, 3) := by decide +kernel
theorem dd_method_2_code_17 : decode method_2_code 17 = .ok (.iand, 1) := by decide +kernel
theorem dd_method_2_code_18 : decode method_2_code 18 = .ok (.i2c, 1) := by decide +kernel
theorem dd_method_2_code_19 : decode method_2_code 19 = .ok (.istore 6, 2) := by decide +kernel
theorem dd_method_2_code_21 : decode method_2_code 21 = .ok (.iload_n 3, 1) := by decide +kernel
theorem dd_method_2_code_22 : decode method_2_code 22 = .ok (.sipush 255, 3) := by decide +kernel
theorem dd_method_2_code_25 : decode method_2_code 25 = .ok (.iand, 1) := by decide +kernel
theorem dd_method_2_code_26 : decode method_2_code 26 = .ok (.i2c, 1) := by decide +kernel
theorem dd_method_2_code_27 : decode method_2_code 27 = .ok (.istore 7, 2) := by decide +kernel
theorem dd_method_2_code_29 : decode method_2_code 29 = .ok (.iload 4, 2) := by decide +kernel
theorem dd_method_2_code_31 : decode method_2_code 31 = .ok (.ifCond .ne 14, 3) := by decide +kernel
theorem dd_method_2_code_34 : decode method_2_code 34 = .ok (.new 7, 3) := by decide +kernel
theorem dd_method_2_code_37 : decode method_2_code 37 = .ok (.dup, 1) := by decide +kernel
theorem dd_method_2_code_38 : decode method_2_code 38 = .ok (.iconst 0, 1) := by decide +kernel
theorem dd_method_2_code_39 : decode method_2_code 39 = .ok (.newarray .char, 2) := by decide +kernel
theorem dd_method_2_code_41 : decode method_2_code 41 = .ok (.invokespecial 9, 3) := by decide +kernel
theorem pd___C_V : parseMethodDescriptor "([C)V" = some ⟨[(.array .char)], none⟩ := by decide +kernel
theorem dd_method_2_code_44 : decode method_2_code 44 = .ok (.areturn, 1) := by decide +kernel
theorem dd_method_2_code_45 : decode method_2_code 45 = .ok (.iload 4, 2) := by decide +kernel
theorem dd_method_2_code_47 : decode method_2_code 47 = .ok (.iconst 1, 1) := by decide +kernel
theorem dd_method_2_code_48 : decode method_2_code 48 = .ok (.if_icmp .ne 19, 3) := by decide +kernel
theorem dd_method_2_code_51 : decode method_2_code 51 = .ok (.new 7, 3) := by decide +kernel
theorem dd_method_2_code_54 : decode method_2_code 54 = .ok (.dup, 1) := by decide +kernel
theorem dd_method_2_code_55 : decode method_2_code 55 = .ok (.iconst 1, 1) := by decide +kernel
theorem dd_method_2_code_56 : decode method_2_code 56 = .ok (.newarray .char, 2) := by decide +kernel
theorem dd_method_2_code_58 : decode method_2_code 58 = .ok (.dup, 1) := by decide +kernel
theorem dd_method_2_code_59 : decode method_2_code 59 = .ok (.iconst 0, 1) := by decide +kernel
theorem dd_method_2_code_60 : decode method_2_code 60 = .ok (.iload 5, 2) := by decide +kernel
theorem dd_method_2_code_62 : decode method_2_code 62 = .ok (.castore, 1) := by decide +kernel
theorem dd_method_2_code_63 : decode method_2_code 63 = .ok (.invokespecial 9, 3) := by decide +kernel
theorem dd_method_2_code_66 : decode method_2_code 66 = .ok (.areturn, 1) := by decide +kernel
theorem dd_method_2_code_67 : decode method_2_code 67 = .ok (.iload 4, 2) := by decide +kernel
theorem dd_method_2_code_69 : decode method_2_code 69 = .ok (.iconst 2, 1) := by decide +kernel
theorem dd_method_2_code_70 : decode method_2_code 70 = .ok (.if_icmp .ne 24, 3) := by decide +kernel
theorem dd_method_2_code_73 : decode method_2_code 73 = .ok (.new 7, 3) := by decide +kernel
theorem dd_method_2_code_76 : decode method_2_code 76 = .ok (.dup, 1) := by decide +kernel
theorem dd_method_2_code_77 : decode method_2_code 77 = .ok (.iconst 2, 1) := by decide +kernel
theorem dd_method_2_code_78 : decode method_2_code 78 = .ok (.newarray .char, 2) := by decide +kernel
theorem dd_method_2_code_80 : decode method_2_code 80 = .ok (.dup, 1) := by decide +kernel
theorem dd_method_2_code_81 : decode method_2_code 81 = .ok (.iconst 0, 1) := by decide +kernel
theorem dd_method_2_code_82 : decode method_2_code 82 = .ok (.iload 5, 2) := by decide +kernel
theorem dd_method_2_code_84 : decode method_2_code 84 = .ok (.castore, 1) := by decide +kernel
theorem dd_method_2_code_85 : decode method_2_code 85 = .ok (.dup, 1) := by decide +kernel
theorem dd_method_2_code_86 : decode method_2_code 86 = .ok (.iconst 1, 1) := by decide +kernel
theorem dd_method_2_code_87 : decode method_2_code 87 = .ok (.iload 6, 2) := by decide +kernel
theorem dd_method_2_code_89 : decode method_2_code 89 = .ok (.castore, 1) := by decide +kernel
theorem dd_method_2_code_90 : decode method_2_code 90 = .ok (.invokespecial 9, 3) := by decide +kernel
theorem dd_method_2_code_93 : decode method_2_code 93 = .ok (.areturn, 1) := by decide +kernel
theorem dd_method_2_code_94 : decode method_2_code 94 = .ok (.new 7, 3) := by decide +kernel
theorem dd_method_2_code_97 : decode method_2_code 97 = .ok (.dup, 1) := by decide +kernel
theorem dd_method_2_code_98 : decode method_2_code 98 = .ok (.iconst 3, 1) := by decide +kernel
theorem dd_method_2_code_99 : decode method_2_code 99 = .ok (.newarray .char, 2) := by decide +kernel
theorem dd_method_2_code_101 : decode method_2_code 101 = .ok (.dup, 1) := by decide +kernel
theorem dd_method_2_code_102 : decode method_2_code 102 = .ok (.iconst 0, 1) := by decide +kernel
theorem dd_method_2_code_103 : decode method_2_code 103 = .ok (.iload 5, 2) := by decide +kernel
theorem dd_method_2_code_105 : decode method_2_code 105 = .ok (.castore, 1) := by decide +kernel
theorem dd_method_2_code_106 : decode method_2_code 106 = .ok (.dup, 1) := by decide +kernel
theorem dd_method_2_code_107 : decode method_2_code 107 = .ok (.iconst 1, 1) := by decide +kernel
theorem dd_method_2_code_108 : decode method_2_code 108 = .ok (.iload 6, 2) := by decide +kernel
theorem dd_method_2_code_110 : decode method_2_code 110 = .ok (.castore, 1) := by decide +kernel
theorem dd_method_2_code_111 : decode method_2_code 111 = .ok (.dup, 1) := by decide +kernel
theorem dd_method_2_code_112 : decode method_2_code 112 = .ok (.iconst 2, 1) := by decide +kernel
theorem dd_method_2_code_113 : decode method_2_code 113 = .ok (.iload 7, 2) := by decide +kernel
theorem dd_method_2_code_115 : decode method_2_code 115 = .ok (.castore, 1) := by decide +kernel
theorem dd_method_2_code_116 : decode method_2_code 116 = .ok (.invokespecial 9, 3) := by decide +kernel
theorem dd_method_2_code_119 : decode method_2_code 119 = .ok (.areturn, 1) := by decide +kernel
def QDra (Z : State) (x0 : Int32) (x1 : Int32) (x2 : Int32) (x3 : Int32) (G1 : Int32) (h0 : Heap) (n0 : Nat) (v : Option Value) (h : Heap) (L : List Loc) : Prop := ∃ b : Addr, v = some (.ref b) ∧ Fr n0 L ∧ Keep h0 h [] ∧ h0.size ≤ b ∧ Exa Z h b "java/lang/String"
set_option maxRecDepth 65536 in
set_option maxHeartbeats 40000000 in
theorem rmDra (l : Launch) (Z : State) (a0 : Array Value) (hw : ∀ d ∈ tables_1, d.before a0 Z = true) (ws : List Jvm.Cond) (x0 : Int32) (x1 : Int32) (x2 : Int32) (x3 : Int32) (G1 : Int32) (h0 : Heap) (n0 : Nat) (Z0 : n0 ≤ h0.size) (O2 : Sta Z Z.heap "java/lang/String" "COMPACT_STRINGS" "Z" (.int G1)) (P5 : ¬ (G1 = (0 : Int32))) (X00 : Old Z n0 h0) :
    MetFree l (⟨"com/example/tickreel/tickreel/BinaryFieldI64PinLaw", "drawName", "(IIII)Ljava/lang/String;"⟩ : MethodName) (head1 (Jvm.Cond.code (⟨"com/example/tickreel/tickreel/BinaryFieldI64PinLaw", "drawName", "(IIII)Ljava/lang/String;"⟩ : MethodName) method_2_code 8 (some (.object "java/lang/String")) :: ws) ({ frames := 4, cells := 6, slots := 12, locals := 66 } : Room)) (fun a U => a = #[(.int x0), (.int x1), (.int x2), (.int x3)] ∧ Z.Warmed39 U.vm ∧ U.heap = h0 ∧ CHv Z own_EL U.vm h0 ∧ ∀ x ∈ ([] : List Addr), Safe Z own_EL U.vm h0 x) (fun _ _ _ _ _ => True) (fun _ U oc_ U' => ∃ v L, oc_ = .returned v ∧ QDra Z x0 x1 x2 x3 G1 h0 n0 v U'.heap L ∧ CHr Z own_EL U.vm U.heap U'.vm U'.heap ∧ ReturnedEndW U oc_ U' L ({ frames := 4, cells := 6, slots := 12, locals := 66 } : Room).cells ({ frames := 4, cells := 6, slots := 12, locals := 66 } : Room).slots) := by
  refine MetFree.of_bodySF (plainFor_of_name pn_com_example_tickreel_tickreel_BinaryFieldI64PinLaw) hisR ?_
  intro p e s m args below meth c s₁ Bd hml0 hP hK
  obtain ⟨rfl, hZ, hh, hCH, hSS⟩ := hP
  have hx := Bd.exec
  have hby := Bd.bytes
  have hml : c.maxLocals = 8 := hml0
  have hown : s.vm.findClass "com/example/tickreel/tickreel/BinaryFieldI64PinLaw" = some m.cls := findClass_of_methodNamed Bd.named
  have hnm := (name_of_methodNamed Bd.named Bd.method).1
  have X0 : Stand p l e ({ frames := 4, cells := 6, slots := 12, locals := 66 } : Room) s m #[(.int x0), (.int x1), (.int x2), (.int x3)] below meth c s₁ [] 0 0 := Stand.of_body Bd
  have e0 : s₁.heap = h0 := by rw [← hh, Bd.state]; rfl
  have N0 := Fr.nil n0
  have pre0 : ∀ t, Steps p.tables e below (s₁.setTop (mkF m 0 #[.val (.int x0), .val (.int x1), .val (.int x2), .val (.int x3), .unset, .unset, .unset, .unset] [])) t → Steps p.tables e below (s₁.setTop (entryFrame m #[(.int x0), (.int x1), (.int x2), (.int x3)] 8)) t := fun t k => castTop (ef_Dra m x0 x1 x2 x3) k
  have X0 : Stand p l e ({ frames := 4, cells := 6, slots := 12, locals := 66 } : Room) (s.setVm s.vm) m #[(.int x0), (.int x1), (.int x2), (.int x3)] below meth c s₁ [] 0 0 := X0
  have hS0 : s.Since s.vm 0 := own_since0 s
  have hk0 : 0 ≤ h0.size := Nat.zero_le _
  have CR0 : CHr Z own_EL s.vm h0 s.vm h0 := CHr.refl hCH
  have hEL := own_EW a0 Z hw
  have wS : ∀ a ∈ Bundle.stringAtoms, a.before a0 Z = true := fun d hd => hw d ((by decide +kernel : ∀ d ∈ Bundle.stringAtoms, d ∈ tables_1) d hd)
  have hws : ∀ d ∈ StrChars.Road.words, d.before a0 Z = true := fun d hd => hw d ((by decide +kernel : ∀ d ∈ StrChars.Road.words, d ∈ tables_1) d hd)
  have k1 : ∀ t, Steps p.tables e below (s₁.setTop (mkF m 31 #[.val (.int x0), .val (.int x1), .val (.int x2), .val (.int x3), .val (.int (x0 &&& (3 : Int32))), .val (.int ((x1 &&& (255 : Int32)).toUInt32.toUInt16.toUInt32.toInt32)), .val (.int ((x2 &&& (255 : Int32)).toUInt32.toUInt16.toUInt32.toInt32)), .val (.int ((x3 &&& (255 : Int32)).toUInt32.toUInt16.toUInt32.toInt32))] [(.int (x0 &&& (3 : Int32)))])) t → Steps p.tables e below (s₁.setTop (entryFrame m #[(.int x0), (.int x1), (.int x2), (.int x3)] 8)) t := by
    intro t kt
    refine pre0 t ?_
    show Steps p.tables e below (s₁.setTop (mkF m 0 #[.val (.int x0), .val (.int x1), .val (.int x2), .val (.int x3), .unset, .unset, .unset, .unset] [])) _
    refine XS.iloadN X0.here hx rfl (hb hby dd_method_2_code_0) rfl ?_
    show Steps p.tables e below (s₁.setTop (mkF m 1 #[.val (.int x0), .val (.int x1), .val (.int x2), .val (.int x3), .unset, .unset, .unset, .unset] [(.int x0)])) _
    refine XS.iconst X0.here hx rfl (hb hby dd_method_2_code_1) ?_
    show Steps p.tables e below (s₁.setTop (mkF m 2 #[.val (.int x0), .val (.int x1), .val (.int x2), .val (.int x3), .unset, .unset, .unset, .unset] [(.int (3 : Int32)), (.int x0)])) _
    refine XS.iand X0.here hx rfl (hb hby dd_method_2_code_2) rfl ?_
    show Steps p.tables e below (s₁.setTop (mkF m 3 #[.val (.int x0), .val (.int x1), .val (.int x2), .val (.int x3), .unset, .unset, .unset, .unset] [(.int (x0 &&& (3 : Int32)))])) _
    refine XS.istore X0.here hx rfl (hb hby dd_method_2_code_3) rfl (l' := #[.val (.int x0), .val (.int x1), .val (.int x2), .val (.int x3), .val (.int (x0 &&& (3 : Int32))), .unset, .unset, .unset]) rfl ?_
    show Steps p.tables e below (s₁.setTop (mkF m 5 #[.val (.int x0), .val (.int x1), .val (.int x2), .val (.int x3), .val (.int (x0 &&& (3 : Int32))), .unset, .unset, .unset] [])) _
    refine XS.iloadN X0.here hx rfl (hb hby dd_method_2_code_5) rfl ?_
    show Steps p.tables e below (s₁.setTop (mkF m 6 #[.val (.int x0), .val (.int x1), .val (.int x2), .val (.int x3), .val (.int (x0 &&& (3 : Int32))), .unset, .unset, .unset] [(.int x1)])) _
    refine XS.sipush X0.here hx rfl (hb hby dd_method_2_code_6) ?_
    show Steps p.tables e below (s₁.setTop (mkF m 9 #[.val (.int x0), .val (.int x1), .val (.int x2), .val (.int x3), .val (.int (x0 &&& (3 : Int32))), .unset, .unset, .unset] [(.int (255 : Int32)), (.int x1)])) _
    refine XS.iand X0.here hx rfl (hb hby dd_method_2_code_9) rfl ?_
    show Steps p.tables e below (s₁.setTop (mkF m 10 #[.val (.int x0), .val (.int x1), .val (.int x2), .val (.int x3), .val (.int (x0 &&& (3 : Int32))), .unset, .unset, .unset] [(.int (x1 &&& (255 : Int32)))])) _
    refine XS.i2c X0.here hx rfl (hb hby dd_method_2_code_10) rfl ?_
    show Steps p.tables e below (s₁.setTop (mkF m 11 #[.val (.int x0), .val (.int x1), .val (.int x2), .val (.int x3), .val (.int (x0 &&& (3 : Int32))), .unset, .unset, .unset] [(.int ((x1 &&& (255 : Int32)).toUInt32.toUInt16.toUInt32.toInt32))])) _
    refine XS.istore X0.here hx rfl (hb hby dd_method_2_code_11) rfl (l' := #[.val (.int x0), .val (.int x1), .val (.int x2), .val (.int x3), .val (.int (x0 &&& (3 : Int32))), .val (.int ((x1 &&& (255 : Int32)).toUInt32.toUInt16.toUInt32.toInt32)), .unset, .unset]) rfl ?_
    show Steps p.tables e below (s₁.setTop (mkF m 13 #[.val (.int x0), .val (.int x1), .val (.int x2), .val (.int x3), .val (.int (x0 &&& (3 : Int32))), .val (.int ((x1 &&& (255 : Int32)).toUInt32.toUInt16.toUInt32.toInt32)), .unset, .unset] [])) _
    refine XS.iloadN X0.here hx rfl (hb hby dd_method_2_code_13) rfl ?_
    show Steps p.tables e below (s₁.setTop (mkF m 14 #[.val (.int x0), .val (.int x1), .val (.int x2), .val (.int x3), .val (.int (x0 &&& (3 : Int32))), .val (.int ((x1 &&& (255 : Int32)).toUInt32.toUInt16.toUInt32.toInt32)), .unset, .unset] [(.int x2)])) _
    refine XS.sipush X0.here hx rfl (hb hby dd_method_2_code_14) ?_
    show Steps p.tables e below (s₁.setTop (mkF m 17 #[.val (.int x0), .val (.int x1), .val (.int x2), .val (.int x3), .val (.int (x0 &&& (3 : Int32))), .val (.int ((x1 &&& (255 : Int32)).toUInt32.toUInt16.toUInt32.toInt32)), .unset, .unset] [(.int (255 : Int32)), (.int x2)])) _
    refine XS.iand X0.here hx rfl (hb hby dd_method_2_code_17) rfl ?_
    show Steps p.tables e below (s₁.setTop (mkF m 18 #[.val (.int x0), .val (.int x1), .val (.int x2), .val (.int x3), .val (.int (x0 &&& (3 : Int32))), .val (.int ((x1 &&& (255 : Int32)).toUInt32.toUInt16.toUInt32.toInt32)), .unset, .unset] [(.int (x2 &&& (255 : Int32)))])) _
    refine XS.i2c X0.here hx rfl (hb hby dd_method_2_code_18) rfl ?_
    show Steps p.tables e below (s₁.setTop (mkF m 19 #[.val (.int x0), .val (.int x1), .val (.int x2), .val (.int x3), .val (.int (x0 &&& (3 : Int32))), .val (.int ((x1 &&& (255 : Int32)).toUInt32.toUInt16.toUInt32.toInt32)), .unset, .unset] [(.int ((x2 &&& (255 : Int32)).toUInt32.toUInt16.toUInt32.toInt32))])) _
    refine XS.istore X0.here hx rfl (hb hby dd_method_2_code_19) rfl (l' := #[.val (.int x0), .val (.int x1), .val (.int x2), .val (.int x3), .val (.int (x0 &&& (3 : Int32))), .val (.int ((x1 &&& (255 : Int32)).toUInt32.toUInt16.toUInt32.toInt32)), .val (.int ((x2 &&& (255 : Int32)).toUInt32.toUInt16.toUInt32.toInt32)), .unset]) rfl ?_
    show Steps p.tables e below (s₁.setTop (mkF m 21 #[.val (.int x0), .val (.int x1), .val (.int x2), .val (.int x3), .val (.int (x0 &&& (3 : Int32))), .val (.int ((x1 &&& (255 : Int32)).toUInt32.toUInt16.toUInt32.toInt32)), .val (.int ((x2 &&& (255 : Int32)).toUInt32.toUInt16.toUInt32.toInt32)), .unset] [])) _
    refine XS.iloadN X0.here hx rfl (hb hby dd_method_2_code_21) rfl ?_
    show Steps p.tables e below (s₁.setTop (mkF m 22 #[.val (.int x0), .val (.int x1), .val (.int x2), .val (.int x3), .val (.int (x0 &&& (3 : Int32))), .val (.int ((x1 &&& (255 : Int32)).toUInt32.toUInt16.toUInt32.toInt32)), .val (.int ((x2 &&& (255 : Int32)).toUInt32.toUInt16.toUInt32.toInt32)), .unset] [(.int x3)])) _
    refine XS.sipush X0.here hx rfl (hb hby dd_method_2_code_22) ?_
    show Steps p.tables e below (s₁.setTop (mkF m 25 #[.val (.int x0), .val (.int x1), .val (.int x2), .val (.int x3), .val (.int (x0 &&& (3 : Int32))), .val (.int ((x1 &&& (255 : Int32)).toUInt32.toUInt16.toUInt32.toInt32)), .val (.int ((x2 &&& (255 : Int32)).toUInt32.toUInt16.toUInt32.toInt32)), .unset] [(.int (255 : Int32)), (.int x3)])) _
    refine XS.iand X0.here hx rfl (hb hby dd_method_2_code_25) rfl ?_
    show Steps p.tables e below (s₁.setTop (mkF m 26 #[.val (.int x0), .val (.int x1), .val (.int x2), .val (.int x3), .val (.int (x0 &&& (3 : Int32))), .val (.int ((x1 &&& (255 : Int32)).toUInt32.toUInt16.toUInt32.toInt32)), .val (.int ((x2 &&& (255 : Int32)).toUInt32.toUInt16.toUInt32.toInt32)), .unset] [(.int (x3 &&& (255 : Int32)))])) _
    refine XS.i2c X0.here hx rfl (hb hby dd_method_2_code_26) rfl ?_
    show Steps p.tables e below (s₁.setTop (mkF m 27 #[.val (.int x0), .val (.int x1), .val (.int x2), .val (.int x3), .val (.int (x0 &&& (3 : Int32))), .val (.int ((x1 &&& (255 : Int32)).toUInt32.toUInt16.toUInt32.toInt32)), .val (.int ((x2 &&& (255 : Int32)).toUInt32.toUInt16.toUInt32.toInt32)), .unset] [(.int ((x3 &&& (255 : Int32)).toUInt32.toUInt16.toUInt32.toInt32))])) _
    refine XS.istore X0.here hx rfl (hb hby dd_method_2_code_27) rfl (l' := #[.val (.int x0), .val (.int x1), .val (.int x2), .val (.int x3), .val (.int (x0 &&& (3 : Int32))), .val (.int ((x1 &&& (255 : Int32)).toUInt32.toUInt16.toUInt32.toInt32)), .val (.int ((x2 &&& (255 : Int32)).toUInt32.toUInt16.toUInt32.toInt32)), .val (.int ((x3 &&& (255 : Int32)).toUInt32.toUInt16.toUInt32.toInt32))]) rfl ?_
    show Steps p.tables e below (s₁.setTop (mkF m 29 #[.val (.int x0), .val (.int x1), .val (.int x2), .val (.int x3), .val (.int (x0 &&& (3 : Int32))), .val (.int ((x1 &&& (255 : Int32)).toUInt32.toUInt16.toUInt32.toInt32)), .val (.int ((x2 &&& (255 : Int32)).toUInt32.toUInt16.toUInt32.toInt32)), .val (.int ((x3 &&& (255 : Int32)).toUInt32.toUInt16.toUInt32.toInt32))] [])) _
    refine XS.iload X0.here hx rfl (hb hby dd_method_2_code_29) rfl ?_
    exact kt
  by_cases hc2 : (x0 &&& (3 : Int32)) = (0 : Int32)
  · skip
    obtain ⟨T3, h3, X3, e3, E3, A3, D3, -, st3⟩ := newO X0 hx hZ hown (wd4 hw) (wd5 hw) (wd6 hw) e0 (g := (mkF m 34 #[.val (.int x0), .val (.int x1), .val (.int x2), .val (.int x3), .val (.int (x0 &&& (3 : Int32))), .val (.int ((x1 &&& (255 : Int32)).toUInt32.toUInt16.toUInt32.toInt32)), .val (.int ((x2 &&& (255 : Int32)).toUInt32.toUInt16.toUInt32.toInt32)), .val (.int ((x3 &&& (255 : Int32)).toUInt32.toUInt16.toUInt32.toInt32))] [])) rfl (hb hby dd_method_2_code_34) (by decide) (by decide)
    obtain ⟨b3, g3⟩ : ∃ z, z = h0.size := ⟨_, rfl⟩
    rw [← g3] at A3 D3 st3
    have ge_b3 : n0 ≤ b3 := Nat.le_trans Z0 (Nat.le_of_eq g3.symm)
    have sz_b3 : h0.size ≤ b3 := Nat.le_trans (Nat.le_refl _) (Nat.le_of_eq g3.symm)
    have sf_b3 : Safe Z own_EL s.vm h0 b3 := Safe.new (Nat.le_of_eq g3.symm)
    have sf2_b3 : Safe Z own_EL s.vm h3 b3 := sf_b3.ext E3 CR0.1
    have CS3 := CHr.ext E3 CR0.1
    have CR3 := CR0.trans CS3
    have hk3 : _ ≤ h3.size := Nat.le_trans hk0 E3.1
    have Z3 : n0 ≤ h3.size := Nat.le_trans Z0 E3.1
    have K3 : Keep h0 h3 [] := ((Keep.refl h0 []).ext E3)
    have F3_coder : Fld Z h3 b3 "java/lang/String" "coder" "B" (.int (0 : Int32)) := D3 (Or.inr (wd31 hw)) (ty := .byte) (by decide)
    have F3_value : Fld Z h3 b3 "java/lang/String" "value" "[B" .null := D3 (Or.inr (wd33 hw)) (ty := (.array .byte)) (by decide)
    obtain ⟨T4, h4, kk4, X4, e4, E4, A4, st4⟩ := newP X3 hx hZ (aty := .char) (wd7 hw) e3 (g := (mkF m 39 #[.val (.int x0), .val (.int x1), .val (.int x2), .val (.int x3), .val (.int (x0 &&& (3 : Int32))), .val (.int ((x1 &&& (255 : Int32)).toUInt32.toUInt16.toUInt32.toInt32)), .val (.int ((x2 &&& (255 : Int32)).toUInt32.toUInt16.toUInt32.toInt32)), .val (.int ((x3 &&& (255 : Int32)).toUInt32.toUInt16.toUInt32.toInt32))] [(.int (0 : Int32)), (.ref b3), (.ref b3)])) rfl (hb hby dd_method_2_code_39) rfl (by decide) (cap := 0) (by decide) (by decide) (by decide) (by decide)
    obtain ⟨b4, g4⟩ : ∃ z, z = h3.size := ⟨_, rfl⟩
    rw [← g4] at A4 st4
    have ne_b3_b4 : b3 ≠ b4 := Nat.ne_of_lt (Nat.lt_of_lt_of_le A3.lt (Nat.le_of_eq g4.symm))
    have ge_b4 : n0 ≤ b4 := Nat.le_trans Z3 (Nat.le_of_eq g4.symm)
    have sz_b4 : h0.size ≤ b4 := Nat.le_trans K3.1 (Nat.le_of_eq g4.symm)
    have CS4 := CHr.ext E4 CR3.1
    have CR4 := CR3.trans CS4
    have hk4 : _ ≤ h4.size := Nat.le_trans hk3 E4.1
    have Z4 : n0 ≤ h4.size := Nat.le_trans Z3 E4.1
    have K4 : Keep h0 h4 [] := (K3.ext E4)
    have V4 : Arv Z h4 b4 kk4 .char (0 : Int32) [] (.int (0 : Int32)) := (Arv.new A4 (by decide)).pad (pad_rep [] (.int (0 : Int32)) 0)
    have f5 := (A3.ext E4)
    have f6 := (F3_value.ext E4)
    have f7 := (F3_coder.ext E4)
    obtain ⟨_, _, ⟨T8, L8, kc8, ks8⟩, -, X8, hSq8, hgr8, ⟨Lc8, hQ8, l8, y8, z8, CS8⟩, st8⟩ := X4.specialBackS hx (y := (⟨"java/lang/String", "<init>", "([C)V"⟩ : MethodName)) rfl hown (mvT hZ (wd8 hw)) (mvT hZ (wd9 hw)) (mvT hZ (wd10 hw)) (by decide) (own_backSafe (s := s) (vm0 := s.vm) (EL := own_EL) (ss := [b3]) (W := 1) (rmSe1 l Z a0 hw [] b3 b4 _ _ _ _ h4 n0 Z4 ge_b3 f5 f6 f7 V4) hZ (wd10 hw) (wd6 hw) (by decide) (by decide) hEL CR4.1 (allS ⟨f5.lt, (CHr.safe CS4 A3.lt sf2_b3)⟩ all0)) (g := (mkF m 41 #[.val (.int x0), .val (.int x1), .val (.int x2), .val (.int x3), .val (.int (x0 &&& (3 : Int32))), .val (.int ((x1 &&& (255 : Int32)).toUInt32.toUInt16.toUInt32.toInt32)), .val (.int ((x2 &&& (255 : Int32)).toUInt32.toUInt16.toUInt32.toInt32)), .val (.int ((x3 &&& (255 : Int32)).toUInt32.toUInt16.toUInt32.toInt32))] [(.ref b4), (.ref b3), (.ref b3)])) rfl (by rw [hml]; rfl) (Steps.refl _) (a := b3) (argsL := [(.ref b4)]) (rest := [(.ref b3)]) (lenOf pd___C_V rfl) rfl (by show 2 * 0 + _ ≤ _; exact Nat.le_of_eq rfl) (hb hby dd_method_2_code_41) (fun _ _ => ⟨rfl, e4, (by decide : 2 + 4 ≤ _), (by decide : 4 + 8 ≤ _)⟩)
    dsimp only [Pt.U, Pt.locs, Pt.cells, Pt.slots] at X8 l8 y8 z8 st8 hQ8 hSq8 hgr8 CS8
    subst l8 y8 z8
    obtain ⟨X8, hS8, hZ8, hown8⟩ := rebS hS0 hk4 X8 hSq8 (by rw [e4] at hgr8; exact hgr8) hZ hown
    obtain ⟨rfl, Nq8, Kq8, gE8, gC8, t8, kb8, gV8, gK8⟩ := hQ8
    have N8 := Fr.app N0 Nq8
    have CR8 := CR4.trans CS8
    have Z8 : n0 ≤ T8.heap.size := Nat.le_trans Z4 Kq8.1
    have K8 : Keep h0 T8.heap [] := Keep.trans K4 Kq8 (allS (Or.inr sz_b3) all0)
    obtain ⟨lfs, lhr, lhrun, lhended, lhE⟩ := X8.leaveW hS8 (Nat.le_refl T8.heap.size) (v := some (.ref b3)) (fun h => by rw [Bd.returns] at h; cases h)
    refine ⟨_, _, k1 _ ?_, lhrun, lhended, _, _, rfl, ?_, ?_, lhE.1, lhE.2.1, lhE.2.2.1, lhE.2.2.2.mono (by decide) (by decide)⟩
    · skip
      show Steps p.tables e below (s₁.setTop (mkF m 31 #[.val (.int x0), .val (.int x1), .val (.int x2), .val (.int x3), .val (.int (x0 &&& (3 : Int32))), .val (.int ((x1 &&& (255 : Int32)).toUInt32.toUInt16.toUInt32.toInt32)), .val (.int ((x2 &&& (255 : Int32)).toUInt32.toUInt16.toUInt32.toInt32)), .val (.int ((x3 &&& (255 : Int32)).toUInt32.toUInt16.toUInt32.toInt32))] [(.int (x0 &&& (3 : Int32)))])) _
      refine XS.ifNo X0.here hx rfl (hb hby dd_method_2_code_31) rfl ((if0 _ _).trans (teq hc2).2) ?_
      show Steps p.tables e below (s₁.setTop (mkF m 34 #[.val (.int x0), .val (.int x1), .val (.int x2), .val (.int x3), .val (.int (x0 &&& (3 : Int32))), .val (.int ((x1 &&& (255 : Int32)).toUInt32.toUInt16.toUInt32.toInt32)), .val (.int ((x2 &&& (255 : Int32)).toUInt32.toUInt16.toUInt32.toInt32)), .val (.int ((x3 &&& (255 : Int32)).toUInt32.toUInt16.toUInt32.toInt32))] [])) _
      refine st3 _ ?_
      show Steps p.tables e below (T3.setTop (mkF m 37 #[.val (.int x0), .val (.int x1), .val (.int x2), .val (.int x3), .val (.int (x0 &&& (3 : Int32))), .val (.int ((x1 &&& (255 : Int32)).toUInt32.toUInt16.toUInt32.toInt32)), .val (.int ((x2 &&& (255 : Int32)).toUInt32.toUInt16.toUInt32.toInt32)), .val (.int ((x3 &&& (255 : Int32)).toUInt32.toUInt16.toUInt32.toInt32))] [(.ref b3)])) _
      refine XS.dup X3.here hx rfl (hb hby dd_method_2_code_37) rfl rfl ?_
      show Steps p.tables e below (T3.setTop (mkF m 38 #[.val (.int x0), .val (.int x1), .val (.int x2), .val (.int x3), .val (.int (x0 &&& (3 : Int32))), .val (.int ((x1 &&& (255 : Int32)).toUInt32.toUInt16.toUInt32.toInt32)), .val (.int ((x2 &&& (255 : Int32)).toUInt32.toUInt16.toUInt32.toInt32)), .val (.int ((x3 &&& (255 : Int32)).toUInt32.toUInt16.toUInt32.toInt32))] [(.ref b3), (.ref b3)])) _
      refine XS.iconst X3.here hx rfl (hb hby dd_method_2_code_38) ?_
      show Steps p.tables e below (T3.setTop (mkF m 39 #[.val (.int x0), .val (.int x1), .val (.int x2), .val (.int x3), .val (.int (x0 &&& (3 : Int32))), .val (.int ((x1 &&& (255 : Int32)).toUInt32.toUInt16.toUInt32.toInt32)), .val (.int ((x2 &&& (255 : Int32)).toUInt32.toUInt16.toUInt32.toInt32)), .val (.int ((x3 &&& (255 : Int32)).toUInt32.toUInt16.toUInt32.toInt32))] [(.int (0 : Int32)), (.ref b3), (.ref b3)])) _
      refine st4 _ ?_
      show Steps p.tables e below (T4.setTop (mkF m 41 #[.val (.int x0), .val (.int x1), .val (.int x2), .val (.int x3), .val (.int (x0 &&& (3 : Int32))), .val (.int ((x1 &&& (255 : Int32)).toUInt32.toUInt16.toUInt32.toInt32)), .val (.int ((x2 &&& (255 : Int32)).toUInt32.toUInt16.toUInt32.toInt32)), .val (.int ((x3 &&& (255 : Int32)).toUInt32.toUInt16.toUInt32.toInt32))] [(.ref b4), (.ref b3), (.ref b3)])) _
      refine st8.trans ?_
      show Steps p.tables e below (T8.setTop (mkF m 44 #[.val (.int x0), .val (.int x1), .val (.int x2), .val (.int x3), .val (.int (x0 &&& (3 : Int32))), .val (.int ((x1 &&& (255 : Int32)).toUInt32.toUInt16.toUInt32.toInt32)), .val (.int ((x2 &&& (255 : Int32)).toUInt32.toUInt16.toUInt32.toInt32)), .val (.int ((x3 &&& (255 : Int32)).toUInt32.toUInt16.toUInt32.toInt32))] [(.ref b3)])) _
      exact retOut X8 hx Bd.returns rfl (Or.inr (Or.inr (Or.inr (Or.inr ⟨rfl, rfl, rfl⟩)))) (hb hby dd_method_2_code_44) lhr
    · skip
      show QDra Z x0 x1 x2 x3 G1 h0 n0 _ T8.heap _
      skip
      exact ⟨b3, rfl, N8, K8, sz_b3, gE8⟩
    · skip
      show CHr Z own_EL s.vm s.heap T8.vm T8.heap
      rw [hh]
      exact CR8.trans (CHv.at X8 hZ8 hEL CR8.1)
  · skip
    have k9 : ∀ t, Steps p.tables e below (s₁.setTop (mkF m 48 #[.val (.int x0), .val (.int x1), .val (.int x2), .val (.int x3), .val (.int (x0 &&& (3 : Int32))), .val (.int ((x1 &&& (255 : Int32)).toUInt32.toUInt16.toUInt32.toInt32)), .val (.int ((x2 &&& (255 : Int32)).toUInt32.toUInt16.toUInt32.toInt32)), .val (.int ((x3 &&& (255 : Int32)).toUInt32.toUInt16.toUInt32.toInt32))] [(.int (1 : Int32)), (.int (x0 &&& (3 : Int32)))])) t → Steps p.tables e below (s₁.setTop (entryFrame m #[(.int x0), (.int x1), (.int x2), (.int x3)] 8)) t := by
      intro t kt
      refine k1 t ?_
      show Steps p.tables e below (s₁.setTop (mkF m 31 #[.val (.int x0), .val (.int x1), .val (.int x2), .val (.int x3), .val (.int (x0 &&& (3 : Int32))), .val (.int ((x1 &&& (255 : Int32)).toUInt32.toUInt16.toUInt32.toInt32)), .val (.int ((x2 &&& (255 : Int32)).toUInt32.toUInt16.toUInt32.toInt32)), .val (.int ((x3 &&& (255 : Int32)).toUInt32.toUInt16.toUInt32.toInt32))] [(.int (x0 &&& (3 : Int32)))])) _
      refine XS.ifYes X0.here hx rfl (pc0 := 31) (pc' := 45) rfl (hb hby dd_method_2_code_31) rfl ((if0 _ _).trans (feq hc2).2) (by decide) (by decide) ?_
      show Steps p.tables e below (s₁.setTop (mkF m 45 #[.val (.int x0), .val (.int x1), .val (.int x2), .val (.int x3), .val (.int (x0 &&& (3 : Int32))), .val (.int ((x1 &&& (255 : Int32)).toUInt32.toUInt16.toUInt32.toInt32)), .val (.int ((x2 &&& (255 : Int32)).toUInt32.toUInt16.toUInt32.toInt32)), .val (.int ((x3 &&& (255 : Int32)).toUInt32.toUInt16.toUInt32.toInt32))] [])) _
      refine XS.iload X0.here hx rfl (hb hby dd_method_2_code_45) rfl ?_
      show Steps p.tables e below (s₁.setTop (mkF m 47 #[.val (.int x0), .val (.int x1), .val (.int x2), .val (.int x3), .val (.int (x0 &&& (3 : Int32))), .val (.int ((x1 &&& (255 : Int32)).toUInt32.toUInt16.toUInt32.toInt32)), .val (.int ((x2 &&& (255 : Int32)).toUInt32.toUInt16.toUInt32.toInt32)), .val (.int ((x3 &&& (255 : Int32)).toUInt32.toUInt16.toUInt32.toInt32))] [(.int (x0 &&& (3 : Int32)))])) _
      refine XS.iconst X0.here hx rfl (hb hby dd_method_2_code_47) ?_
      exact kt
    by_cases hc10 : (x0 &&& (3 : Int32)) = (1 : Int32)
    · skip
      obtain ⟨T11, h11, X11, e11, E11, A11, D11, -, st11⟩ := newO X0 hx hZ hown (wd4 hw) (wd5 hw) (wd6 hw) e0 (g := (mkF m 51 #[.val (.int x0), .val (.int x1), .val (.int x2), .val (.int x3), .val (.int (x0 &&& (3 : Int32))), .val (.int ((x1 &&& (255 : Int32)).toUInt32.toUInt16.toUInt32.toInt32)), .val (.int ((x2 &&& (255 : Int32)).toUInt32.toUInt16.toUInt32.toInt32)), .val (.int ((x3 &&& (255 : Int32)).toUInt32.toUInt16.toUInt32.toInt32))] [])) rfl (hb hby dd_method_2_code_51) (by decide) (by decide)
      obtain ⟨b11, g11⟩ : ∃ z, z = h0.size := ⟨_, rfl⟩
      rw [← g11] at A11 D11 st11
      have ge_b11 : n0 ≤ b11 := Nat.le_trans Z0 (Nat.le_of_eq g11.symm)
      have sz_b11 : h0.size ≤ b11 := Nat.le_trans (Nat.le_refl _) (Nat.le_of_eq g11.symm)
      have sf_b11 : Safe Z own_EL s.vm h0 b11 := Safe.new (Nat.le_of_eq g11.symm)
      have sf2_b11 : Safe Z own_EL s.vm h11 b11 := sf_b11.ext E11 CR0.1
      have CS11 := CHr.ext E11 CR0.1
      have CR11 := CR0.trans CS11
      have hk11 : _ ≤ h11.size := Nat.le_trans hk0 E11.1
      have Z11 : n0 ≤ h11.size := Nat.le_trans Z0 E11.1
      have K11 : Keep h0 h11 [] := ((Keep.refl h0 []).ext E11)
      have F11_coder : Fld Z h11 b11 "java/lang/String" "coder" "B" (.int (0 : Int32)) := D11 (Or.inr (wd31 hw)) (ty := .byte) (by decide)
      have F11_value : Fld Z h11 b11 "java/lang/String" "value" "[B" .null := D11 (Or.inr (wd33 hw)) (ty := (.array .byte)) (by decide)
      obtain ⟨T12, h12, kk12, X12, e12, E12, A12, st12⟩ := newP X11 hx hZ (aty := .char) (wd7 hw) e11 (g := (mkF m 56 #[.val (.int x0), .val (.int x1), .val (.int x2), .val (.int x3), .val (.int (x0 &&& (3 : Int32))), .val (.int ((x1 &&& (255 : Int32)).toUInt32.toUInt16.toUInt32.toInt32)), .val (.int ((x2 &&& (255 : Int32)).toUInt32.toUInt16.toUInt32.toInt32)), .val (.int ((x3 &&& (255 : Int32)).toUInt32.toUInt16.toUInt32.toInt32))] [(.int (1 : Int32)), (.ref b11), (.ref b11)])) rfl (hb hby dd_method_2_code_56) rfl (by decide) (cap := 1) (by decide) (by decide) (by decide) (by decide)
      obtain ⟨b12, g12⟩ : ∃ z, z = h11.size := ⟨_, rfl⟩
      rw [← g12] at A12 st12
      have ne_b11_b12 : b11 ≠ b12 := Nat.ne_of_lt (Nat.lt_of_lt_of_le A11.lt (Nat.le_of_eq g12.symm))
      have ge_b12 : n0 ≤ b12 := Nat.le_trans Z11 (Nat.le_of_eq g12.symm)
      have sz_b12 : h0.size ≤ b12 := Nat.le_trans K11.1 (Nat.le_of_eq g12.symm)
      have CS12 := CHr.ext E12 CR11.1
      have CR12 := CR11.trans CS12
      have hk12 : _ ≤ h12.size := Nat.le_trans hk11 E12.1
      have Z12 : n0 ≤ h12.size := Nat.le_trans Z11 E12.1
      have K12 : Keep h0 h12 [] := (K11.ext E12)
      have V12 : Arv Z h12 b12 kk12 .char (1 : Int32) [(.int (0 : Int32))] (.int (0 : Int32)) := (Arv.new A12 (by decide)).pad (pad_rep [] (.int (0 : Int32)) 1)
      obtain ⟨cl13, Ar13, q13, S13, M13, HH13, GG13⟩ := id V12
      have hin13 : ¬ ((0 : Int32) < 0 ∨ cl13.slots.size ≤ ((0 : Int32)).toNatClampNeg) := inb_of S13 ⟨by decide, by decide⟩
      obtain ⟨T14, h14, X14, e14, W14, st14⟩ := stC X12 hx hZ e12 Ar13 (j := (0 : Int32)) hin13 (g := (mkF m 62 #[.val (.int x0), .val (.int x1), .val (.int x2), .val (.int x3), .val (.int (x0 &&& (3 : Int32))), .val (.int ((x1 &&& (255 : Int32)).toUInt32.toUInt16.toUInt32.toInt32)), .val (.int ((x2 &&& (255 : Int32)).toUInt32.toUInt16.toUInt32.toInt32)), .val (.int ((x3 &&& (255 : Int32)).toUInt32.toUInt16.toUInt32.toInt32))] [(.int ((x1 &&& (255 : Int32)).toUInt32.toUInt16.toUInt32.toInt32)), (.int (0 : Int32)), (.ref b12), (.ref b12), (.ref b11), (.ref b11)])) rfl rfl (hb hby dd_method_2_code_62)
      have CS14 := CHr.wr W14 (own_safeArv hZ.alike V12 (by decide)) CR12.1
      have CR14 := CR12.trans CS14
      have hk14 : _ ≤ h14.size := Nat.le_trans hk12 (Nat.le_of_eq W14.size.symm)
      have N14 := Fr.snoc X14 N0 ge_b12
      have Z14 : n0 ≤ h14.size := by rw [W14.size]; exact Z12
      have K14 : Keep h0 h14 [] := (K12.wr W14 (Or.inr sz_b12))
      have V14 := Arv.set Ar13 q13 S13 M13 HH13 GG13 (fits_nar_char _) W14 0 rfl (Nat.le_of_ble_eq_true rfl)
      have hp15 : ∀ c ∈ ([(nar .char ((x1 &&& (255 : Int32)).toUInt32.toUInt16.toUInt32.toInt32))] : List Int32), ¬ c < 0 ∧ ¬ (255 : Int32) < c := by
        intro c hc
        simp only [List.mem_cons, List.not_mem_nil, or_false] at hc
        rcases hc with rfl
        · exact own_and255 x1
      have f16 := ((A11.ext E12).wr W14)
      have f17 := ((F11_value.ext E12).other W14 (Or.inl ne_b11_b12))
      have f18 := ((F11_coder.ext E12).other W14 (Or.inl ne_b11_b12))
      have f19 := (((X00.ext E11).ext E12).wr W14 ge_b12)
      obtain ⟨_, _, ⟨T20, L20, kc20, ks20⟩, -, X20, ⟨Lc20, hQ20, l20, y20, z20⟩, st20⟩ := X14.specialBack hx (y := (⟨"java/lang/String", "<init>", "([C)V"⟩ : MethodName)) rfl hown (mvT hZ (wd8 hw)) (mvT hZ (wd9 hw)) (mvT hZ (wd10 hw)) (by decide) (StrChars.Road.backV (W := 1) hZ hws (kI := 4) (wd5 hw) (cs := ([(nar .char ((x1 &&& (255 : Int32)).toUInt32.toUInt16.toUInt32.toInt32))] : List Int32)) (bs := ([(nar .char ((x1 &&& (255 : Int32)).toUInt32.toUInt16.toUInt32.toInt32))] : List Int32).map (fun c => c.toInt8.toInt32)) (n := 1) ge_b11 Z14 f16 f17 f18 V14 (O2.ext f19.2) P5 rfl rfl (by decide) (by decide) hp15 rfl (by decide) (by decide)) (g := (mkF m 63 #[.val (.int x0), .val (.int x1), .val (.int x2), .val (.int x3), .val (.int (x0 &&& (3 : Int32))), .val (.int ((x1 &&& (255 : Int32)).toUInt32.toUInt16.toUInt32.toInt32)), .val (.int ((x2 &&& (255 : Int32)).toUInt32.toUInt16.toUInt32.toInt32)), .val (.int ((x3 &&& (255 : Int32)).toUInt32.toUInt16.toUInt32.toInt32))] [(.ref b12), (.ref b11), (.ref b11)])) rfl (by rw [hml]; rfl) (Steps.refl _) (a := b11) (argsL := [(.ref b12)]) (rest := [(.ref b11)]) (lenOf pd___C_V rfl) rfl (by show 2 * 0 + _ ≤ _; exact Nat.le_of_eq rfl) (hb hby dd_method_2_code_63) (fun _ _ => ⟨rfl, e14, (by decide : 2 + 1 ≤ _), (by decide : 5 + 1 ≤ _)⟩)
      dsimp only [Pt.U, Pt.locs, Pt.cells, Pt.slots] at X20 l20 y20 z20 st20 hQ20
      subst l20 y20 z20
      obtain ⟨rfl, Nq20, Kq20, gE20, gC20, t20, kb20, gt20, gs20, gn20, gV20, gK20⟩ := hQ20
      have N20 := Fr.app N14 Nq20
      have CS20 := CHr.keep Kq20 (allS (CHr.safe (CS12.trans CS14) A11.lt sf2_b11) all0) CR14.1
      have CR20 := CR14.trans CS20
      have hk20 : _ ≤ T20.heap.size := Nat.le_trans hk14 Kq20.1
      have Z20 : n0 ≤ T20.heap.size := Nat.le_trans Z14 Kq20.1
      have K20 : Keep h0 T20.heap [] := Keep.trans K14 Kq20 (allS (Or.inr sz_b11) all0)
      have ne_b11_t20 : b11 ≠ t20 := Nat.ne_of_lt (Nat.lt_of_lt_of_le f16.lt gs20)
      have ne_b12_t20 : b12 ≠ t20 := Nat.ne_of_lt (Nat.lt_of_lt_of_le V14.lt gs20)
      have sz_t20 : h0.size ≤ t20 := Nat.le_trans K14.1 gs20
      obtain ⟨lfs, lhr, lhrun, lhended, lhE⟩ := X20.leaveW hS0 hk20 (v := some (.ref b11)) (fun h => by rw [Bd.returns] at h; cases h)
      refine ⟨_, _, k9 _ ?_, lhrun, lhended, _, _, rfl, ?_, ?_, lhE.1, lhE.2.1, lhE.2.2.1, lhE.2.2.2.mono (by decide) (by decide)⟩
      · skip
        show Steps p.tables e below (s₁.setTop (mkF m 48 #[.val (.int x0), .val (.int x1), .val (.int x2), .val (.int x3), .val (.int (x0 &&& (3 : Int32))), .val (.int ((x1 &&& (255 : Int32)).toUInt32.toUInt16.toUInt32.toInt32)), .val (.int ((x2 &&& (255 : Int32)).toUInt32.toUInt16.toUInt32.toInt32)), .val (.int ((x3 &&& (255 : Int32)).toUInt32.toUInt16.toUInt32.toInt32))] [(.int (1 : Int32)), (.int (x0 &&& (3 : Int32)))])) _
        refine XS.icmpNo X0.here hx rfl (hb hby dd_method_2_code_48) rfl (teq hc10).2 ?_
        show Steps p.tables e below (s₁.setTop (mkF m 51 #[.val (.int x0), .val (.int x1), .val (.int x2), .val (.int x3), .val (.int (x0 &&& (3 : Int32))), .val (.int ((x1 &&& (255 : Int32)).toUInt32.toUInt16.toUInt32.toInt32)), .val (.int ((x2 &&& (255 : Int32)).toUInt32.toUInt16.toUInt32.toInt32)), .val (.int ((x3 &&& (255 : Int32)).toUInt32.toUInt16.toUInt32.toInt32))] [])) _
        refine st11 _ ?_
        show Steps p.tables e below (T11.setTop (mkF m 54 #[.val (.int x0), .val (.int x1), .val (.int x2), .val (.int x3), .val (.int (x0 &&& (3 : Int32))), .val (.int ((x1 &&& (255 : Int32)).toUInt32.toUInt16.toUInt32.toInt32)), .val (.int ((x2 &&& (255 : Int32)).toUInt32.toUInt16.toUInt32.toInt32)), .val (.int ((x3 &&& (255 : Int32)).toUInt32.toUInt16.toUInt32.toInt32))] [(.ref b11)])) _
        refine XS.dup X11.here hx rfl (hb hby dd_method_2_code_54) rfl rfl ?_
        show Steps p.tables e below (T11.setTop (mkF m 55 #[.val (.int x0), .val (.int x1), .val (.int x2), .val (.int x3), .val (.int (x0 &&& (3 : Int32))), .val (.int ((x1 &&& (255 : Int32)).toUInt32.toUInt16.toUInt32.toInt32)), .val (.int ((x2 &&& (255 : Int32)).toUInt32.toUInt16.toUInt32.toInt32)), .val (.int ((x3 &&& (255 : Int32)).toUInt32.toUInt16.toUInt32.toInt32))] [(.ref b11), (.ref b11)])) _
        refine XS.iconst X11.here hx rfl (hb hby dd_method_2_code_55) ?_
        show Steps p.tables e below (T11.setTop (mkF m 56 #[.val (.int x0), .val (.int x1), .val (.int x2), .val (.int x3), .val (.int (x0 &&& (3 : Int32))), .val (.int ((x1 &&& (255 : Int32)).toUInt32.toUInt16.toUInt32.toInt32)), .val (.int ((x2 &&& (255 : Int32)).toUInt32.toUInt16.toUInt32.toInt32)), .val (.int ((x3 &&& (255 : Int32)).toUInt32.toUInt16.toUInt32.toInt32))] [(.int (1 : Int32)), (.ref b11), (.ref b11)])) _
        refine st12 _ ?_
        show Steps p.tables e below (T12.setTop (mkF m 58 #[.val (.int x0), .val (.int x1), .val (.int x2), .val (.int x3), .val (.int (x0 &&& (3 : Int32))), .val (.int ((x1 &&& (255 : Int32)).toUInt32.toUInt16.toUInt32.toInt32)), .val (.int ((x2 &&& (255 : Int32)).toUInt32.toUInt16.toUInt32.toInt32)), .val (.int ((x3 &&& (255 : Int32)).toUInt32.toUInt16.toUInt32.toInt32))] [(.ref b12), (.ref b11), (.ref b11)])) _
        refine XS.dup X12.here hx rfl (hb hby dd_method_2_code_58) rfl rfl ?_
        show Steps p.tables e below (T12.setTop (mkF m 59 #[.val (.int x0), .val (.int x1), .val (.int x2), .val (.int x3), .val (.int (x0 &&& (3 : Int32))), .val (.int ((x1 &&& (255 : Int32)).toUInt32.toUInt16.toUInt32.toInt32)), .val (.int ((x2 &&& (255 : Int32)).toUInt32.toUInt16.toUInt32.toInt32)), .val (.int ((x3 &&& (255 : Int32)).toUInt32.toUInt16.toUInt32.toInt32))] [(.ref b12), (.ref b12), (.ref b11), (.ref b11)])) _
        refine XS.iconst X12.here hx rfl (hb hby dd_method_2_code_59) ?_
        show Steps p.tables e below (T12.setTop (mkF m 60 #[.val (.int x0), .val (.int x1), .val (.int x2), .val (.int x3), .val (.int (x0 &&& (3 : Int32))), .val (.int ((x1 &&& (255 : Int32)).toUInt32.toUInt16.toUInt32.toInt32)), .val (.int ((x2 &&& (255 : Int32)).toUInt32.toUInt16.toUInt32.toInt32)), .val (.int ((x3 &&& (255 : Int32)).toUInt32.toUInt16.toUInt32.toInt32))] [(.int (0 : Int32)), (.ref b12), (.ref b12), (.ref b11), (.ref b11)])) _
        refine XS.iload X12.here hx rfl (hb hby dd_method_2_code_60) rfl ?_
        show Steps p.tables e below (T12.setTop (mkF m 62 #[.val (.int x0), .val (.int x1), .val (.int x2), .val (.int x3), .val (.int (x0 &&& (3 : Int32))), .val (.int ((x1 &&& (255 : Int32)).toUInt32.toUInt16.toUInt32.toInt32)), .val (.int ((x2 &&& (255 : Int32)).toUInt32.toUInt16.toUInt32.toInt32)), .val (.int ((x3 &&& (255 : Int32)).toUInt32.toUInt16.toUInt32.toInt32))] [(.int ((x1 &&& (255 : Int32)).toUInt32.toUInt16.toUInt32.toInt32)), (.int (0 : Int32)), (.ref b12), (.ref b12), (.ref b11), (.ref b11)])) _
        refine st14 _ ?_
        show Steps p.tables e below (T14.setTop (mkF m 63 #[.val (.int x0), .val (.int x1), .val (.int x2), .val (.int x3), .val (.int (x0 &&& (3 : Int32))), .val (.int ((x1 &&& (255 : Int32)).toUInt32.toUInt16.toUInt32.toInt32)), .val (.int ((x2 &&& (255 : Int32)).toUInt32.toUInt16.toUInt32.toInt32)), .val (.int ((x3 &&& (255 : Int32)).toUInt32.toUInt16.toUInt32.toInt32))] [(.ref b12), (.ref b11), (.ref b11)])) _
        refine st20.trans ?_
        show Steps p.tables e below (T20.setTop (mkF m 66 #[.val (.int x0), .val (.int x1), .val (.int x2), .val (.int x3), .val (.int (x0 &&& (3 : Int32))), .val (.int ((x1 &&& (255 : Int32)).toUInt32.toUInt16.toUInt32.toInt32)), .val (.int ((x2 &&& (255 : Int32)).toUInt32.toUInt16.toUInt32.toInt32)), .val (.int ((x3 &&& (255 : Int32)).toUInt32.toUInt16.toUInt32.toInt32))] [(.ref b11)])) _
        exact retOut X20 hx Bd.returns rfl (Or.inr (Or.inr (Or.inr (Or.inr ⟨rfl, rfl, rfl⟩)))) (hb hby dd_method_2_code_66) lhr
      · skip
        show QDra Z x0 x1 x2 x3 G1 h0 n0 _ T20.heap _
        skip
        exact ⟨b11, rfl, N20, K20, sz_b11, gE20⟩
      · skip
        show CHr Z own_EL s.vm s.heap T20.vm T20.heap
        rw [hh]
        exact CR20.trans (CHv.at X20 hZ hEL CR20.1)
    · skip
      have k21 : ∀ t, Steps p.tables e below (s₁.setTop (mkF m 70 #[.val (.int x0), .val (.int x1), .val (.int x2), .val (.int x3), .val (.int (x0 &&& (3 : Int32))), .val (.int ((x1 &&& (255 : Int32)).toUInt32.toUInt16.toUInt32.toInt32)), .val (.int ((x2 &&& (255 : Int32)).toUInt32.toUInt16.toUInt32.toInt32)), .val (.int ((x3 &&& (255 : Int32)).toUInt32.toUInt16.toUInt32.toInt32))] [(.int (2 : Int32)), (.int (x0 &&& (3 : Int32)))])) t → Steps p.tables e below (s₁.setTop (entryFrame m #[(.int x0), (.int x1), (.int x2), (.int x3)] 8)) t := by
        intro t kt
        refine k9 t ?_
        show Steps p.tables e below (s₁.setTop (mkF m 48 #[.val (.int x0), .val (.int x1), .val (.int x2), .val (.int x3), .val (.int (x0 &&& (3 : Int32))), .val (.int ((x1 &&& (255 : Int32)).toUInt32.toUInt16.toUInt32.toInt32)), .val (.int ((x2 &&& (255 : Int32)).toUInt32.toUInt16.toUInt32.toInt32)), .val (.int ((x3 &&& (255 : Int32)).toUInt32.toUInt16.toUInt32.toInt32))] [(.int (1 : Int32)), (.int (x0 &&& (3 : Int32)))])) _
        refine XS.icmpYes X0.here hx rfl (pc0 := 48) (pc' := 67) rfl (hb hby dd_method_2_code_48) rfl (feq hc10).2 (by decide) (by decide) ?_
        show Steps p.tables e below (s₁.setTop (mkF m 67 #[.val (.int x0), .val (.int x1), .val (.int x2), .val (.int x3), .val (.int (x0 &&& (3 : Int32))), .val (.int ((x1 &&& (255 : Int32)).toUInt32.toUInt16.toUInt32.toInt32)), .val (.int ((x2 &&& (255 : Int32)).toUInt32.toUInt16.toUInt32.toInt32)), .val (.int ((x3 &&& (255 : Int32)).toUInt32.toUInt16.toUInt32.toInt32))] [])) _
        refine XS.iload X0.here hx rfl (hb hby dd_method_2_code_67) rfl ?_
        show Steps p.tables e below (s₁.setTop (mkF m 69 #[.val (.int x0), .val (.int x1), .val (.int x2), .val (.int x3), .val (.int (x0 &&& (3 : Int32))), .val (.int ((x1 &&& (255 : Int32)).toUInt32.toUInt16.toUInt32.toInt32)), .val (.int ((x2 &&& (255 : Int32)).toUInt32.toUInt16.toUInt32.toInt32)), .val (.int ((x3 &&& (255 : Int32)).toUInt32.toUInt16.toUInt32.toInt32))] [(.int (x0 &&& (3 : Int32)))])) _
        refine XS.iconst X0.here hx rfl (hb hby dd_method_2_code_69) ?_
        exact kt
      by_cases hc22 : (x0 &&& (3 : Int32)) = (2 : Int32)
      · skip
        obtain ⟨T23, h23, X23, e23, E23, A23, D23, -, st23⟩ := newO X0 hx hZ hown (wd4 hw) (wd5 hw) (wd6 hw) e0 (g := (mkF m 73 #[.val (.int x0), .val (.int x1), .val (.int x2), .val (.int x3), .val (.int (x0 &&& (3 : Int32))), .val (.int ((x1 &&& (255 : Int32)).toUInt32.toUInt16.toUInt32.toInt32)), .val (.int ((x2 &&& (255 : Int32)).toUInt32.toUInt16.toUInt32.toInt32)), .val (.int ((x3 &&& (255 : Int32)).toUInt32.toUInt16.toUInt32.toInt32))] [])) rfl (hb hby dd_method_2_code_73) (by decide) (by decide)
        obtain ⟨b23, g23⟩ : ∃ z, z = h0.size := ⟨_, rfl⟩
        rw [← g23] at A23 D23 st23
        have ge_b23 : n0 ≤ b23 := Nat.le_trans Z0 (Nat.le_of_eq g23.symm)
        have sz_b23 : h0.size ≤ b23 := Nat.le_trans (Nat.le_refl _) (Nat.le_of_eq g23.symm)
        have sf_b23 : Safe Z own_EL s.vm h0 b23 := Safe.new (Nat.le_of_eq g23.symm)
        have sf2_b23 : Safe Z own_EL s.vm h23 b23 := sf_b23.ext E23 CR0.1
        have CS23 := CHr.ext E23 CR0.1
        have CR23 := CR0.trans CS23
        have hk23 : _ ≤ h23.size := Nat.le_trans hk0 E23.1
        have Z23 : n0 ≤ h23.size := Nat.le_trans Z0 E23.1
        have K23 : Keep h0 h23 [] := ((Keep.refl h0 []).ext E23)
        have F23_coder : Fld Z h23 b23 "java/lang/String" "coder" "B" (.int (0 : Int32)) := D23 (Or.inr (wd31 hw)) (ty := .byte) (by decide)
        have F23_value : Fld Z h23 b23 "java/lang/String" "value" "[B" .null := D23 (Or.inr (wd33 hw)) (ty := (.array .byte)) (by decide)
        obtain ⟨T24, h24, kk24, X24, e24, E24, A24, st24⟩ := newP X23 hx hZ (aty := .char) (wd7 hw) e23 (g := (mkF m 78 #[.val (.int x0), .val (.int x1), .val (.int x2), .val (.int x3), .val (.int (x0 &&& (3 : Int32))), .val (.int ((x1 &&& (255 : Int32)).toUInt32.toUInt16.toUInt32.toInt32)), .val (.int ((x2 &&& (255 : Int32)).toUInt32.toUInt16.toUInt32.toInt32)), .val (.int ((x3 &&& (255 : Int32)).toUInt32.toUInt16.toUInt32.toInt32))] [(.int (2 : Int32)), (.ref b23), (.ref b23)])) rfl (hb hby dd_method_2_code_78) rfl (by decide) (cap := 2) (by decide) (by decide) (by decide) (by decide)
        obtain ⟨b24, g24⟩ : ∃ z, z = h23.size := ⟨_, rfl⟩
        rw [← g24] at A24 st24
        have ne_b23_b24 : b23 ≠ b24 := Nat.ne_of_lt (Nat.lt_of_lt_of_le A23.lt (Nat.le_of_eq g24.symm))
        have ge_b24 : n0 ≤ b24 := Nat.le_trans Z23 (Nat.le_of_eq g24.symm)
        have sz_b24 : h0.size ≤ b24 := Nat.le_trans K23.1 (Nat.le_of_eq g24.symm)
        have CS24 := CHr.ext E24 CR23.1
        have CR24 := CR23.trans CS24
        have hk24 : _ ≤ h24.size := Nat.le_trans hk23 E24.1
        have Z24 : n0 ≤ h24.size := Nat.le_trans Z23 E24.1
        have K24 : Keep h0 h24 [] := (K23.ext E24)
        have V24 : Arv Z h24 b24 kk24 .char (2 : Int32) [(.int (0 : Int32)), (.int (0 : Int32))] (.int (0 : Int32)) := (Arv.new A24 (by decide)).pad (pad_rep [] (.int (0 : Int32)) 2)
        obtain ⟨cl25, Ar25, q25, S25, M25, HH25, GG25⟩ := id V24
        have hin25 : ¬ ((0 : Int32) < 0 ∨ cl25.slots.size ≤ ((0 : Int32)).toNatClampNeg) := inb_of S25 ⟨by decide, by decide⟩
        obtain ⟨T26, h26, X26, e26, W26, st26⟩ := stC X24 hx hZ e24 Ar25 (j := (0 : Int32)) hin25 (g := (mkF m 84 #[.val (.int x0), .val (.int x1), .val (.int x2), .val (.int x3), .val (.int (x0 &&& (3 : Int32))), .val (.int ((x1 &&& (255 : Int32)).toUInt32.toUInt16.toUInt32.toInt32)), .val (.int ((x2 &&& (255 : Int32)).toUInt32.toUInt16.toUInt32.toInt32)), .val (.int ((x3 &&& (255 : Int32)).toUInt32.toUInt16.toUInt32.toInt32))] [(.int ((x1 &&& (255 : Int32)).toUInt32.toUInt16.toUInt32.toInt32)), (.int (0 : Int32)), (.ref b24), (.ref b24), (.ref b23), (.ref b23)])) rfl rfl (hb hby dd_method_2_code_84)
        have CS26 := CHr.wr W26 (own_safeArv hZ.alike V24 (by decide)) CR24.1
        have CR26 := CR24.trans CS26
        have hk26 : _ ≤ h26.size := Nat.le_trans hk24 (Nat.le_of_eq W26.size.symm)
        have N26 := Fr.snoc X26 N0 ge_b24
        have Z26 : n0 ≤ h26.size := by rw [W26.size]; exact Z24
        have K26 : Keep h0 h26 [] := (K24.wr W26 (Or.inr sz_b24))
        have V26 := Arv.set Ar25 q25 S25 M25 HH25 GG25 (fits_nar_char _) W26 0 rfl (Nat.le_of_ble_eq_true rfl)
        obtain ⟨cl27, Ar27, q27, S27, M27, HH27, GG27⟩ := id V26
        have hin27 : ¬ ((1 : Int32) < 0 ∨ cl27.slots.size ≤ ((1 : Int32)).toNatClampNeg) := inb_of S27 ⟨by decide, by decide⟩
        obtain ⟨T28, h28, X28, e28, W28, st28⟩ := stC X26 hx hZ e26 Ar27 (j := (1 : Int32)) hin27 (g := (mkF m 89 #[.val (.int x0), .val (.int x1), .val (.int x2), .val (.int x3), .val (.int (x0 &&& (3 : Int32))), .val (.int ((x1 &&& (255 : Int32)).toUInt32.toUInt16.toUInt32.toInt32)), .val (.int ((x2 &&& (255 : Int32)).toUInt32.toUInt16.toUInt32.toInt32)), .val (.int ((x3 &&& (255 : Int32)).toUInt32.toUInt16.toUInt32.toInt32))] [(.int ((x2 &&& (255 : Int32)).toUInt32.toUInt16.toUInt32.toInt32)), (.int (1 : Int32)), (.ref b24), (.ref b24), (.ref b23), (.ref b23)])) rfl rfl (hb hby dd_method_2_code_89)
        have CS28 := CHr.wr W28 (own_safeArv hZ.alike V26 (by decide)) CR26.1
        have CR28 := CR26.trans CS28
        have hk28 : _ ≤ h28.size := Nat.le_trans hk26 (Nat.le_of_eq W28.size.symm)
        have N28 := Fr.snoc X28 N26 ge_b24
        have Z28 : n0 ≤ h28.size := by rw [W28.size]; exact Z26
        have K28 : Keep h0 h28 [] := (K26.wr W28 (Or.inr sz_b24))
        have V28 := Arv.set Ar27 q27 S27 M27 HH27 GG27 (fits_nar_char _) W28 1 rfl (Nat.le_of_ble_eq_true rfl)
        have hp29 : ∀ c ∈ ([(nar .char ((x1 &&& (255 : Int32)).toUInt32.toUInt16.toUInt32.toInt32)), (nar .char ((x2 &&& (255 : Int32)).toUInt32.toUInt16.toUInt32.toInt32))] : List Int32), ¬ c < 0 ∧ ¬ (255 : Int32) < c := by
          intro c hc
          simp only [List.mem_cons, List.not_mem_nil, or_false] at hc
          rcases hc with rfl | rfl
          · exact own_and255 x1
          · exact own_and255 x2
        have f30 := (((A23.ext E24).wr W26).wr W28)
        have f31 := (((F23_value.ext E24).other W26 (Or.inl ne_b23_b24)).other W28 (Or.inl ne_b23_b24))
        have f32 := (((F23_coder.ext E24).other W26 (Or.inl ne_b23_b24)).other W28 (Or.inl ne_b23_b24))
        have f33 := ((((X00.ext E23).ext E24).wr W26 ge_b24).wr W28 ge_b24)
        obtain ⟨_, _, ⟨T34, L34, kc34, ks34⟩, -, X34, ⟨Lc34, hQ34, l34, y34, z34⟩, st34⟩ := X28.specialBack hx (y := (⟨"java/lang/String", "<init>", "([C)V"⟩ : MethodName)) rfl hown (mvT hZ (wd8 hw)) (mvT hZ (wd9 hw)) (mvT hZ (wd10 hw)) (by decide) (StrChars.Road.backV (W := 1) hZ hws (kI := 4) (wd5 hw) (cs := ([(nar .char ((x1 &&& (255 : Int32)).toUInt32.toUInt16.toUInt32.toInt32)), (nar .char ((x2 &&& (255 : Int32)).toUInt32.toUInt16.toUInt32.toInt32))] : List Int32)) (bs := ([(nar .char ((x1 &&& (255 : Int32)).toUInt32.toUInt16.toUInt32.toInt32)), (nar .char ((x2 &&& (255 : Int32)).toUInt32.toUInt16.toUInt32.toInt32))] : List Int32).map (fun c => c.toInt8.toInt32)) (n := 2) ge_b23 Z28 f30 f31 f32 V28 (O2.ext f33.2) P5 rfl rfl (by decide) (by decide) hp29 rfl (by decide) (by decide)) (g := (mkF m 90 #[.val (.int x0), .val (.int x1), .val (.int x2), .val (.int x3), .val (.int (x0 &&& (3 : Int32))), .val (.int ((x1 &&& (255 : Int32)).toUInt32.toUInt16.toUInt32.toInt32)), .val (.int ((x2 &&& (255 : Int32)).toUInt32.toUInt16.toUInt32.toInt32)), .val (.int ((x3 &&& (255 : Int32)).toUInt32.toUInt16.toUInt32.toInt32))] [(.ref b24), (.ref b23), (.ref b23)])) rfl (by rw [hml]; rfl) (Steps.refl _) (a := b23) (argsL := [(.ref b24)]) (rest := [(.ref b23)]) (lenOf pd___C_V rfl) rfl (by show 2 * 0 + _ ≤ _; exact Nat.le_of_eq rfl) (hb hby dd_method_2_code_90) (fun _ _ => ⟨rfl, e28, (by decide : 2 + 1 ≤ _), (by decide : 6 + 2 ≤ _)⟩)
        dsimp only [Pt.U, Pt.locs, Pt.cells, Pt.slots] at X34 l34 y34 z34 st34 hQ34
        subst l34 y34 z34
        obtain ⟨rfl, Nq34, Kq34, gE34, gC34, t34, kb34, gt34, gs34, gn34, gV34, gK34⟩ := hQ34
        have N34 := Fr.app N28 Nq34
        have CS34 := CHr.keep Kq34 (allS (CHr.safe ((CS24.trans CS26).trans CS28) A23.lt sf2_b23) all0) CR28.1
        have CR34 := CR28.trans CS34
        have hk34 : _ ≤ T34.heap.size := Nat.le_trans hk28 Kq34.1
        have Z34 : n0 ≤ T34.heap.size := Nat.le_trans Z28 Kq34.1
        have K34 : Keep h0 T34.heap [] := Keep.trans K28 Kq34 (allS (Or.inr sz_b23) all0)
        have ne_b23_t34 : b23 ≠ t34 := Nat.ne_of_lt (Nat.lt_of_lt_of_le f30.lt gs34)
        have ne_b24_t34 : b24 ≠ t34 := Nat.ne_of_lt (Nat.lt_of_lt_of_le V28.lt gs34)
        have sz_t34 : h0.size ≤ t34 := Nat.le_trans K28.1 gs34
        obtain ⟨lfs, lhr, lhrun, lhended, lhE⟩ := X34.leaveW hS0 hk34 (v := some (.ref b23)) (fun h => by rw [Bd.returns] at h; cases h)
        refine ⟨_, _, k21 _ ?_, lhrun, lhended, _, _, rfl, ?_, ?_, lhE.1, lhE.2.1, lhE.2.2.1, lhE.2.2.2.mono (by decide) (by decide)⟩
        · skip
          show Steps p.tables e below (s₁.setTop (mkF m 70 #[.val (.int x0), .val (.int x1), .val (.int x2), .val (.int x3), .val (.int (x0 &&& (3 : Int32))), .val (.int ((x1 &&& (255 : Int32)).toUInt32.toUInt16.toUInt32.toInt32)), .val (.int ((x2 &&& (255 : Int32)).toUInt32.toUInt16.toUInt32.toInt32)), .val (.int ((x3 &&& (255 : Int32)).toUInt32.toUInt16.toUInt32.toInt32))] [(.int (2 : Int32)), (.int (x0 &&& (3 : Int32)))])) _
          refine XS.icmpNo X0.here hx rfl (hb hby dd_method_2_code_70) rfl (teq hc22).2 ?_
          show Steps p.tables e below (s₁.setTop (mkF m 73 #[.val (.int x0), .val (.int x1), .val (.int x2), .val (.int x3), .val (.int (x0 &&& (3 : Int32))), .val (.int ((x1 &&& (255 : Int32)).toUInt32.toUInt16.toUInt32.toInt32)), .val (.int ((x2 &&& (255 : Int32)).toUInt32.toUInt16.toUInt32.toInt32)), .val (.int ((x3 &&& (255 : Int32)).toUInt32.toUInt16.toUInt32.toInt32))] [])) _
          refine st23 _ ?_
          show Steps p.tables e below (T23.setTop (mkF m 76 #[.val (.int x0), .val (.int x1), .val (.int x2), .val (.int x3), .val (.int (x0 &&& (3 : Int32))), .val (.int ((x1 &&& (255 : Int32)).toUInt32.toUInt16.toUInt32.toInt32)), .val (.int ((x2 &&& (255 : Int32)).toUInt32.toUInt16.toUInt32.toInt32)), .val (.int ((x3 &&& (255 : Int32)).toUInt32.toUInt16.toUInt32.toInt32))] [(.ref b23)])) _
          refine XS.dup X23.here hx rfl (hb hby dd_method_2_code_76) rfl rfl ?_
          show Steps p.tables e below (T23.setTop (mkF m 77 #[.val (.int x0), .val (.int x1), .val (.int x2), .val (.int x3), .val (.int (x0 &&& (3 : Int32))), .val (.int ((x1 &&& (255 : Int32)).toUInt32.toUInt16.toUInt32.toInt32)), .val (.int ((x2 &&& (255 : Int32)).toUInt32.toUInt16.toUInt32.toInt32)), .val (.int ((x3 &&& (255 : Int32)).toUInt32.toUInt16.toUInt32.toInt32))] [(.ref b23), (.ref b23)])) _
          refine XS.iconst X23.here hx rfl (hb hby dd_method_2_code_77) ?_
          show Steps p.tables e below (T23.setTop (mkF m 78 #[.val (.int x0), .val (.int x1), .val (.int x2), .val (.int x3), .val (.int (x0 &&& (3 : Int32))), .val (.int ((x1 &&& (255 : Int32)).toUInt32.toUInt16.toUInt32.toInt32)), .val (.int ((x2 &&& (255 : Int32)).toUInt32.toUInt16.toUInt32.toInt32)), .val (.int ((x3 &&& (255 : Int32)).toUInt32.toUInt16.toUInt32.toInt32))] [(.int (2 : Int32)), (.ref b23), (.ref b23)])) _
          refine st24 _ ?_
          show Steps p.tables e below (T24.setTop (mkF m 80 #[.val (.int x0), .val (.int x1), .val (.int x2), .val (.int x3), .val (.int (x0 &&& (3 : Int32))), .val (.int ((x1 &&& (255 : Int32)).toUInt32.toUInt16.toUInt32.toInt32)), .val (.int ((x2 &&& (255 : Int32)).toUInt32.toUInt16.toUInt32.toInt32)), .val (.int ((x3 &&& (255 : Int32)).toUInt32.toUInt16.toUInt32.toInt32))] [(.ref b24), (.ref b23), (.ref b23)])) _
          refine XS.dup X24.here hx rfl (hb hby dd_method_2_code_80) rfl rfl ?_
          show Steps p.tables e below (T24.setTop (mkF m 81 #[.val (.int x0), .val (.int x1), .val (.int x2), .val (.int x3), .val (.int (x0 &&& (3 : Int32))), .val (.int ((x1 &&& (255 : Int32)).toUInt32.toUInt16.toUInt32.toInt32)), .val (.int ((x2 &&& (255 : Int32)).toUInt32.toUInt16.toUInt32.toInt32)), .val (.int ((x3 &&& (255 : Int32)).toUInt32.toUInt16.toUInt32.toInt32))] [(.ref b24), (.ref b24), (.ref b23), (.ref b23)])) _
          refine XS.iconst X24.here hx rfl (hb hby dd_method_2_code_81) ?_
          show Steps p.tables e below (T24.setTop (mkF m 82 #[.val (.int x0), .val (.int x1), .val (.int x2), .val (.int x3), .val (.int (x0 &&& (3 : Int32))), .val (.int ((x1 &&& (255 : Int32)).toUInt32.toUInt16.toUInt32.toInt32)), .val (.int ((x2 &&& (255 : Int32)).toUInt32.toUInt16.toUInt32.toInt32)), .val (.int ((x3 &&& (255 : Int32)).toUInt32.toUInt16.toUInt32.toInt32))] [(.int (0 : Int32)), (.ref b24), (.ref b24), (.ref b23), (.ref b23)])) _
          refine XS.iload X24.here hx rfl (hb hby dd_method_2_code_82) rfl ?_
          show Steps p.tables e below (T24.setTop (mkF m 84 #[.val (.int x0), .val (.int x1), .val (.int x2), .val (.int x3), .val (.int (x0 &&& (3 : Int32))), .val (.int ((x1 &&& (255 : Int32)).toUInt32.toUInt16.toUInt32.toInt32)), .val (.int ((x2 &&& (255 : Int32)).toUInt32.toUInt16.toUInt32.toInt32)), .val (.int ((x3 &&& (255 : Int32)).toUInt32.toUInt16.toUInt32.toInt32))] [(.int ((x1 &&& (255 : Int32)).toUInt32.toUInt16.toUInt32.toInt32)), (.int (0 : Int32)), (.ref b24), (.ref b24), (.ref b23), (.ref b23)])) _
          refine st26 _ ?_
          show Steps p.tables e below (T26.setTop (mkF m 85 #[.val (.int x0), .val (.int x1), .val (.int x2), .val (.int x3), .val (.int (x0 &&& (3 : Int32))), .val (.int ((x1 &&& (255 : Int32)).toUInt32.toUInt16.toUInt32.toInt32)), .val (.int ((x2 &&& (255 : Int32)).toUInt32.toUInt16.toUInt32.toInt32)), .val (.int ((x3 &&& (255 : Int32)).toUInt32.toUInt16.toUInt32.toInt32))] [(.ref b24), (.ref b23), (.ref b23)])) _
          refine XS.dup X26.here hx rfl (hb hby dd_method_2_code_85) rfl rfl ?_
          show Steps p.tables e below (T26.setTop (mkF m 86 #[.val (.int x0), .val (.int x1), .val (.int x2), .val (.int x3), .val (.int (x0 &&& (3 : Int32))), .val (.int ((x1 &&& (255 : Int32)).toUInt32.toUInt16.toUInt32.toInt32)), .val (.int ((x2 &&& (255 : Int32)).toUInt32.toUInt16.toUInt32.toInt32)), .val (.int ((x3 &&& (255 : Int32)).toUInt32.toUInt16.toUInt32.toInt32))] [(.ref b24), (.ref b24), (.ref b23), (.ref b23)])) _
          refine XS.iconst X26.here hx rfl (hb hby dd_method_2_code_86) ?_
          show Steps p.tables e below (T26.setTop (mkF m 87 #[.val (.int x0), .val (.int x1), .val (.int x2), .val (.int x3), .val (.int (x0 &&& (3 : Int32))), .val (.int ((x1 &&& (255 : Int32)).toUInt32.toUInt16.toUInt32.toInt32)), .val (.int ((x2 &&& (255 : Int32)).toUInt32.toUInt16.toUInt32.toInt32)), .val (.int ((x3 &&& (255 : Int32)).toUInt32.toUInt16.toUInt32.toInt32))] [(.int (1 : Int32)), (.ref b24), (.ref b24), (.ref b23), (.ref b23)])) _
          refine XS.iload X26.here hx rfl (hb hby dd_method_2_code_87) rfl ?_
          show Steps p.tables e below (T26.setTop (mkF m 89 #[.val (.int x0), .val (.int x1), .val (.int x2), .val (.int x3), .val (.int (x0 &&& (3 : Int32))), .val (.int ((x1 &&& (255 : Int32)).toUInt32.toUInt16.toUInt32.toInt32)), .val (.int ((x2 &&& (255 : Int32)).toUInt32.toUInt16.toUInt32.toInt32)), .val (.int ((x3 &&& (255 : Int32)).toUInt32.toUInt16.toUInt32.toInt32))] [(.int ((x2 &&& (255 : Int32)).toUInt32.toUInt16.toUInt32.toInt32)), (.int (1 : Int32)), (.ref b24), (.ref b24), (.ref b23), (.ref b23)])) _
          refine st28 _ ?_
          show Steps p.tables e below (T28.setTop (mkF m 90 #[.val (.int x0), .val (.int x1), .val (.int x2), .val (.int x3), .val (.int (x0 &&& (3 : Int32))), .val (.int ((x1 &&& (255 : Int32)).toUInt32.toUInt16.toUInt32.toInt32)), .val (.int ((x2 &&& (255 : Int32)).toUInt32.toUInt16.toUInt32.toInt32)), .val (.int ((x3 &&& (255 : Int32)).toUInt32.toUInt16.toUInt32.toInt32))] [(.ref b24), (.ref b23), (.ref b23)])) _
          refine st34.trans ?_
          show Steps p.tables e below (T34.setTop (mkF m 93 #[.val (.int x0), .val (.int x1), .val (.int x2), .val (.int x3), .val (.int (x0 &&& (3 : Int32))), .val (.int ((x1 &&& (255 : Int32)).toUInt32.toUInt16.toUInt32.toInt32)), .val (.int ((x2 &&& (255 : Int32)).toUInt32.toUInt16.toUInt32.toInt32)), .val (.int ((x3 &&& (255 : Int32)).toUInt32.toUInt16.toUInt32.toInt32))] [(.ref b23)])) _
          exact retOut X34 hx Bd.returns rfl (Or.inr (Or.inr (Or.inr (Or.inr ⟨rfl, rfl, rfl⟩)))) (hb hby dd_method_2_code_93) lhr
        · skip
          show QDra Z x0 x1 x2 x3 G1 h0 n0 _ T34.heap _
          skip
          exact ⟨b23, rfl, N34, K34, sz_b23, gE34⟩
        · skip
          show CHr Z own_EL s.vm s.heap T34.vm T34.heap
          rw [hh]
          exact CR34.trans (CHv.at X34 hZ hEL CR34.1)
      · skip
        obtain ⟨T35, h35, X35, e35, E35, A35, D35, -, st35⟩ := newO X0 hx hZ hown (wd4 hw) (wd5 hw) (wd6 hw) e0 (g := (mkF m 94 #[.val (.int x0), .val (.int x1), .val (.int x2), .val (.int x3), .val (.int (x0 &&& (3 : Int32))), .val (.int ((x1 &&& (255 : Int32)).toUInt32.toUInt16.toUInt32.toInt32)), .val (.int ((x2 &&& (255 : Int32)).toUInt32.toUInt16.toUInt32.toInt32)), .val (.int ((x3 &&& (255 : Int32)).toUInt32.toUInt16.toUInt32.toInt32))] [])) rfl (hb hby dd_method_2_code_94) (by decide) (by decide)
        obtain ⟨b35, g35⟩ : ∃ z, z = h0.size := ⟨_, rfl⟩
        rw [← g35] at A35 D35 st35
        have ge_b35 : n0 ≤ b35 := Nat.le_trans Z0 (Nat.le_of_eq g35.symm)
        have sz_b35 : h0.size ≤ b35 := Nat.le_trans (Nat.le_refl _) (Nat.le_of_eq g35.symm)
        have sf_b35 : Safe Z own_EL s.vm h0 b35 := Safe.new (Nat.le_of_eq g35.symm)
        have sf2_b35 : Safe Z own_EL s.vm h35 b35 := sf_b35.ext E35 CR0.1
        have CS35 := CHr.ext E35 CR0.1
        have CR35 := CR0.trans CS35
        have hk35 : _ ≤ h35.size := Nat.le_trans hk0 E35.1
        have Z35 : n0 ≤ h35.size := Nat.le_trans Z0 E35.1
        have K35 : Keep h0 h35 [] := ((Keep.refl h0 []).ext E35)
        have F35_coder : Fld Z h35 b35 "java/lang/String" "coder" "B" (.int (0 : Int32)) := D35 (Or.inr (wd31 hw)) (ty := .byte) (by decide)
        have F35_value : Fld Z h35 b35 "java/lang/String" "value" "[B" .null := D35 (Or.inr (wd33 hw)) (ty := (.array .byte)) (by decide)
        obtain ⟨T36, h36, kk36, X36, e36, E36, A36, st36⟩ := newP X35 hx hZ (aty := .char) (wd7 hw) e35 (g := (mkF m 99 #[.val (.int x0), .val (.int x1), .val (.int x2), .val (.int x3), .val (.int (x0 &&& (3 : Int32))), .val (.int ((x1 &&& (255 : Int32)).toUInt32.toUInt16.toUInt32.toInt32)), .val (.int ((x2 &&& (255 : Int32)).toUInt32.toUInt16.toUInt32.toInt32)), .val (.int ((x3 &&& (255 : Int32)).toUInt32.toUInt16.toUInt32.toInt32))] [(.int (3 : Int32)), (.ref b35), (.ref b35)])) rfl (hb hby dd_method_2_code_99) rfl (by decide) (cap := 3) (by decide) (by decide) (by decide) (by decide)
        obtain ⟨b36, g36⟩ : ∃ z, z = h35.size := ⟨_, rfl⟩
        rw [← g36] at A36 st36
        have ne_b35_b36 : b35 ≠ b36 := Nat.ne_of_lt (Nat.lt_of_lt_of_le A35.lt (Nat.le_of_eq g36.symm))
        have ge_b36 : n0 ≤ b36 := Nat.le_trans Z35 (Nat.le_of_eq g36.symm)
        have sz_b36 : h0.size ≤ b36 := Nat.le_trans K35.1 (Nat.le_of_eq g36.symm)
        have CS36 := CHr.ext E36 CR35.1
        have CR36 := CR35.trans CS36
        have hk36 : _ ≤ h36.size := Nat.le_trans hk35 E36.1
        have Z36 : n0 ≤ h36.size := Nat.le_trans Z35 E36.1
        have K36 : Keep h0 h36 [] := (K35.ext E36)
        have V36 : Arv Z h36 b36 kk36 .char (3 : Int32) [(.int (0 : Int32)), (.int (0 : Int32)), (.int (0 : Int32))] (.int (0 : Int32)) := (Arv.new A36 (by decide)).pad (pad_rep [] (.int (0 : Int32)) 3)
        obtain ⟨cl37, Ar37, q37, S37, M37, HH37, GG37⟩ := id V36
        have hin37 : ¬ ((0 : Int32) < 0 ∨ cl37.slots.size ≤ ((0 : Int32)).toNatClampNeg) := inb_of S37 ⟨by decide, by decide⟩
        obtain ⟨T38, h38, X38, e38, W38, st38⟩ := stC X36 hx hZ e36 Ar37 (j := (0 : Int32)) hin37 (g := (mkF m 105 #[.val (.int x0), .val (.int x1), .val (.int x2), .val (.int x3), .val (.int (x0 &&& (3 : Int32))), .val (.int ((x1 &&& (255 : Int32)).toUInt32.toUInt16.toUInt32.toInt32)), .val (.int ((x2 &&& (255 : Int32)).toUInt32.toUInt16.toUInt32.toInt32)), .val (.int ((x3 &&& (255 : Int32)).toUInt32.toUInt16.toUInt32.toInt32))] [(.int ((x1 &&& (255 : Int32)).toUInt32.toUInt16.toUInt32.toInt32)), (.int (0 : Int32)), (.ref b36), (.ref b36), (.ref b35), (.ref b35)])) rfl rfl (hb hby dd_method_2_code_105)
        have CS38 := CHr.wr W38 (own_safeArv hZ.alike V36 (by decide)) CR36.1
        have CR38 := CR36.trans CS38
        have hk38 : _ ≤ h38.size := Nat.le_trans hk36 (Nat.le_of_eq W38.size.symm)
        have N38 := Fr.snoc X38 N0 ge_b36
        have Z38 : n0 ≤ h38.size := by rw [W38.size]; exact Z36
        have K38 : Keep h0 h38 [] := (K36.wr W38 (Or.inr sz_b36))
        have V38 := Arv.set Ar37 q37 S37 M37 HH37 GG37 (fits_nar_char _) W38 0 rfl (Nat.le_of_ble_eq_true rfl)
        obtain ⟨cl39, Ar39, q39, S39, M39, HH39, GG39⟩ := id V38
        have hin39 : ¬ ((1 : Int32) < 0 ∨ cl39.slots.size ≤ ((1 : Int32)).toNatClampNeg) := inb_of S39 ⟨by decide, by decide⟩
        obtain ⟨T40, h40, X40, e40, W40, st40⟩ := stC X38 hx hZ e38 Ar39 (j := (1 : Int32)) hin39 (g := (mkF m 110 #[.val (.int x0), .val (.int x1), .val (.int x2), .val (.int x3), .val (.int (x0 &&& (3 : Int32))), .val (.int ((x1 &&& (255 : Int32)).toUInt32.toUInt16.toUInt32.toInt32)), .val (.int ((x2 &&& (255 : Int32)).toUInt32.toUInt16.toUInt32.toInt32)), .val (.int ((x3 &&& (255 : Int32)).toUInt32.toUInt16.toUInt32.toInt32))] [(.int ((x2 &&& (255 : Int32)).toUInt32.toUInt16.toUInt32.toInt32)), (.int (1 : Int32)), (.ref b36), (.ref b36), (.ref b35), (.ref b35)])) rfl rfl (hb hby dd_method_2_code_110)
        have CS40 := CHr.wr W40 (own_safeArv hZ.alike V38 (by decide)) CR38.1
        have CR40 := CR38.trans CS40
        have hk40 : _ ≤ h40.size := Nat.le_trans hk38 (Nat.le_of_eq W40.size.symm)
        have N40 := Fr.snoc X40 N38 ge_b36
        have Z40 : n0 ≤ h40.size := by rw [W40.size]; exact Z38
        have K40 : Keep h0 h40 [] := (K38.wr W40 (Or.inr sz_b36))
        have V40 := Arv.set Ar39 q39 S39 M39 HH39 GG39 (fits_nar_char _) W40 1 rfl (Nat.le_of_ble_eq_true rfl)
        obtain ⟨cl41, Ar41, q41, S41, M41, HH41, GG41⟩ := id V40
        have hin41 : ¬ ((2 : Int32) < 0 ∨ cl41.slots.size ≤ ((2 : Int32)).toNatClampNeg) := inb_of S41 ⟨by decide, by decide⟩
        obtain ⟨T42, h42, X42, e42, W42, st42⟩ := stC X40 hx hZ e40 Ar41 (j := (2 : Int32)) hin41 (g := (mkF m 115 #[.val (.int x0), .val (.int x1), .val (.int x2), .val (.int x3), .val (.int (x0 &&& (3 : Int32))), .val (.int ((x1 &&& (255 : Int32)).toUInt32.toUInt16.toUInt32.toInt32)), .val (.int ((x2 &&& (255 : Int32)).toUInt32.toUInt16.toUInt32.toInt32)), .val (.int ((x3 &&& (255 : Int32)).toUInt32.toUInt16.toUInt32.toInt32))] [(.int ((x3 &&& (255 : Int32)).toUInt32.toUInt16.toUInt32.toInt32)), (.int (2 : Int32)), (.ref b36), (.ref b36), (.ref b35), (.ref b35)])) rfl rfl (hb hby dd_method_2_code_115)
        have CS42 := CHr.wr W42 (own_safeArv hZ.alike V40 (by decide)) CR40.1
        have CR42 := CR40.trans CS42
        have hk42 : _ ≤ h42.size := Nat.le_trans hk40 (Nat.le_of_eq W42.size.symm)
        have N42 := Fr.snoc X42 N40 ge_b36
        have Z42 : n0 ≤ h42.size := by rw [W42.size]; exact Z40
        have K42 : Keep h0 h42 [] := (K40.wr W42 (Or.inr sz_b36))
        have V42 := Arv.set Ar41 q41 S41 M41 HH41 GG41 (fits_nar_char _) W42 2 rfl (Nat.le_of_ble_eq_true rfl)
        have hp43 : ∀ c ∈ ([(nar .char ((x1 &&& (255 : Int32)).toUInt32.toUInt16.toUInt32.toInt32)), (nar .char ((x2 &&& (255 : Int32)).toUInt32.toUInt16.toUInt32.toInt32)), (nar .char ((x3 &&& (255 : Int32)).toUInt32.toUInt16.toUInt32.toInt32))] : List Int32), ¬ c < 0 ∧ ¬ (255 : Int32) < c := by
          intro c hc
          simp only [List.mem_cons, List.not_mem_nil, or_false] at hc
          rcases hc with rfl | rfl | rfl
          · exact own_and255 x1
          · exact own_and255 x2
          · exact own_and255 x3
        have f44 := ((((A35.ext E36).wr W38).wr W40).wr W42)
        have f45 := ((((F35_value.ext E36).other W38 (Or.inl ne_b35_b36)).other W40 (Or.inl ne_b35_b36)).other W42 (Or.inl ne_b35_b36))
        have f46 := ((((F35_coder.ext E36).other W38 (Or.inl ne_b35_b36)).other W40 (Or.inl ne_b35_b36)).other W42 (Or.inl ne_b35_b36))
        have f47 := (((((X00.ext E35).ext E36).wr W38 ge_b36).wr W40 ge_b36).wr W42 ge_b36)
        obtain ⟨_, _, ⟨T48, L48, kc48, ks48⟩, -, X48, ⟨Lc48, hQ48, l48, y48, z48⟩, st48⟩ := X42.specialBack hx (y := (⟨"java/lang/String", "<init>", "([C)V"⟩ : MethodName)) rfl hown (mvT hZ (wd8 hw)) (mvT hZ (wd9 hw)) (mvT hZ (wd10 hw)) (by decide) (StrChars.Road.backV (W := 1) hZ hws (kI := 4) (wd5 hw) (cs := ([(nar .char ((x1 &&& (255 : Int32)).toUInt32.toUInt16.toUInt32.toInt32)), (nar .char ((x2 &&& (255 : Int32)).toUInt32.toUInt16.toUInt32.toInt32)), (nar .char ((x3 &&& (255 : Int32)).toUInt32.toUInt16.toUInt32.toInt32))] : List Int32)) (bs := ([(nar .char ((x1 &&& (255 : Int32)).toUInt32.toUInt16.toUInt32.toInt32)), (nar .char ((x2 &&& (255 : Int32)).toUInt32.toUInt16.toUInt32.toInt32)), (nar .char ((x3 &&& (255 : Int32)).toUInt32.toUInt16.toUInt32.toInt32))] : List Int32).map (fun c => c.toInt8.toInt32)) (n := 3) ge_b35 Z42 f44 f45 f46 V42 (O2.ext f47.2) P5 rfl rfl (by decide) (by decide) hp43 rfl (by decide) (by decide)) (g := (mkF m 116 #[.val (.int x0), .val (.int x1), .val (.int x2), .val (.int x3), .val (.int (x0 &&& (3 : Int32))), .val (.int ((x1 &&& (255 : Int32)).toUInt32.toUInt16.toUInt32.toInt32)), .val (.int ((x2 &&& (255 : Int32)).toUInt32.toUInt16.toUInt32.toInt32)), .val (.int ((x3 &&& (255 : Int32)).toUInt32.toUInt16.toUInt32.toInt32))] [(.ref b36), (.ref b35), (.ref b35)])) rfl (by rw [hml]; rfl) (Steps.refl _) (a := b35) (argsL := [(.ref b36)]) (rest := [(.ref b35)]) (lenOf pd___C_V rfl) rfl (by show 2 * 0 + _ ≤ _; exact Nat.le_of_eq rfl) (hb hby dd_method_2_code_116) (fun _ _ => ⟨rfl, e42, (by decide : 2 + 1 ≤ _), (by decide : 7 + 3 ≤ _)⟩)
        dsimp only [Pt.U, Pt.locs, Pt.cells, Pt.slots] at X48 l48 y48 z48 st48 hQ48
        subst l48 y48 z48
        obtain ⟨rfl, Nq48, Kq48, gE48, gC48, t48, kb48, gt48, gs48, gn48, gV48, gK48⟩ := hQ48
        have N48 := Fr.app N42 Nq48
        have CS48 := CHr.keep Kq48 (allS (CHr.safe (((CS36.trans CS38).trans CS40).trans CS42) A35.lt sf2_b35) all0) CR42.1
        have CR48 := CR42.trans CS48
        have hk48 : _ ≤ T48.heap.size := Nat.le_trans hk42 Kq48.1
        have Z48 : n0 ≤ T48.heap.size := Nat.le_trans Z42 Kq48.1
        have K48 : Keep h0 T48.heap [] := Keep.trans K42 Kq48 (allS (Or.inr sz_b35) all0)
        have ne_b35_t48 : b35 ≠ t48 := Nat.ne_of_lt (Nat.lt_of_lt_of_le f44.lt gs48)
        have ne_b36_t48 : b36 ≠ t48 := Nat.ne_of_lt (Nat.lt_of_lt_of_le V42.lt gs48)
        have sz_t48 : h0.size ≤ t48 := Nat.le_trans K42.1 gs48
        obtain ⟨lfs, lhr, lhrun, lhended, lhE⟩ := X48.leaveW hS0 hk48 (v := some (.ref b35)) (fun h => by rw [Bd.returns] at h; cases h)
        refine ⟨_, _, k21 _ ?_, lhrun, lhended, _, _, rfl, ?_, ?_, lhE.1, lhE.2.1, lhE.2.2.1, lhE.2.2.2.mono (by decide) (by decide)⟩
        · skip
          show Steps p.tables e below (s₁.setTop (mkF m 70 #[.val (.int x0), .val (.int x1), .val (.int x2), .val (.int x3), .val (.int (x0 &&& (3 : Int32))), .val (.int ((x1 &&& (255 : Int32)).toUInt32.toUInt16.toUInt32.toInt32)), .val (.int ((x2 &&& (255 : Int32)).toUInt32.toUInt16.toUInt32.toInt32)), .val (.int ((x3 &&& (255 : Int32)).toUInt32.toUInt16.toUInt32.toInt32))] [(.int (2 : Int32)), (.int (x0 &&& (3 : Int32)))])) _
          refine XS.icmpYes X0.here hx rfl (pc0 := 70) (pc' := 94) rfl (hb hby dd_method_2_code_70) rfl (feq hc22).2 (by decide) (by decide) ?_
          show Steps p.tables e below (s₁.setTop (mkF m 94 #[.val (.int x0), .val (.int x1), .val (.int x2), .val (.int x3), .val (.int (x0 &&& (3 : Int32))), .val (.int ((x1 &&& (255 : Int32)).toUInt32.toUInt16.toUInt32.toInt32)), .val (.int ((x2 &&& (255 : Int32)).toUInt32.toUInt16.toUInt32.toInt32)), .val (.int ((x3 &&& (255 : Int32)).toUInt32.toUInt16.toUInt32.toInt32))] [])) _
          refine st35 _ ?_
          show Steps p.tables e below (T35.setTop (mkF m 97 #[.val (.int x0), .val (.int x1), .val (.int x2), .val (.int x3), .val (.int (x0 &&& (3 : Int32))), .val (.int ((x1 &&& (255 : Int32)).toUInt32.toUInt16.toUInt32.toInt32)), .val (.int ((x2 &&& (255 : Int32)).toUInt32.toUInt16.toUInt32.toInt32)), .val (.int ((x3 &&& (255 : Int32)).toUInt32.toUInt16.toUInt32.toInt32))] [(.ref b35)])) _
          refine XS.dup X35.here hx rfl (hb hby dd_method_2_code_97) rfl rfl ?_
          show Steps p.tables e below (T35.setTop (mkF m 98 #[.val (.int x0), .val (.int x1), .val (.int x2), .val (.int x3), .val (.int (x0 &&& (3 : Int32))), .val (.int ((x1 &&& (255 : Int32)).toUInt32.toUInt16.toUInt32.toInt32)), .val (.int ((x2 &&& (255 : Int32)).toUInt32.toUInt16.toUInt32.toInt32)), .val (.int ((x3 &&& (255 : Int32)).toUInt32.toUInt16.toUInt32.toInt32))] [(.ref b35), (.ref b35)])) _
          refine XS.iconst X35.here hx rfl (hb hby dd_method_2_code_98) ?_
          show Steps p.tables e below (T35.setTop (mkF m 99 #[.val (.int x0), .val (.int x1), .val (.int x2), .val (.int x3), .val (.int (x0 &&& (3 : Int32))), .val (.int ((x1 &&& (255 : Int32)).toUInt32.toUInt16.toUInt32.toInt32)), .val (.int ((x2 &&& (255 : Int32)).toUInt32.toUInt16.toUInt32.toInt32)), .val (.int ((x3 &&& (255 : Int32)).toUInt32.toUInt16.toUInt32.toInt32))] [(.int (3 : Int32)), (.ref b35), (.ref b35)])) _
          refine st36 _ ?_
          show Steps p.tables e below (T36.setTop (mkF m 101 #[.val (.int x0), .val (.int x1), .val (.int x2), .val (.int x3), .val (.int (x0 &&& (3 : Int32))), .val (.int ((x1 &&& (255 : Int32)).toUInt32.toUInt16.toUInt32.toInt32)), .val (.int ((x2 &&& (255 : Int32)).toUInt32.toUInt16.toUInt32.toInt32)), .val (.int ((x3 &&& (255 : Int32)).toUInt32.toUInt16.toUInt32.toInt32))] [(.ref b36), (.ref b35), (.ref b35)])) _
          refine XS.dup X36.here hx rfl (hb hby dd_method_2_code_101) rfl rfl ?_
          show Steps p.tables e below (T36.setTop (mkF m 102 #[.val (.int x0), .val (.int x1), .val (.int x2), .val (.int x3), .val (.int (x0 &&& (3 : Int32))), .val (.int ((x1 &&& (255 : Int32)).toUInt32.toUInt16.toUInt32.toInt32)), .val (.int ((x2 &&& (255 : Int32)).toUInt32.toUInt16.toUInt32.toInt32)), .val (.int ((x3 &&& (255 : Int32)).toUInt32.toUInt16.toUInt32.toInt32))] [(.ref b36), (.ref b36), (.ref b35), (.ref b35)])) _
          refine XS.iconst X36.here hx rfl (hb hby dd_method_2_code_102) ?_
          show Steps p.tables e below (T36.setTop (mkF m 103 #[.val (.int x0), .val (.int x1), .val (.int x2), .val (.int x3), .val (.int (x0 &&& (3 : Int32))), .val (.int ((x1 &&& (255 : Int32)).toUInt32.toUInt16.toUInt32.toInt32)), .val (.int ((x2 &&& (255 : Int32)).toUInt32.toUInt16.toUInt32.toInt32)), .val (.int ((x3 &&& (255 : Int32)).toUInt32.toUInt16.toUInt32.toInt32))] [(.int (0 : Int32)), (.ref b36), (.ref b36), (.ref b35), (.ref b35)])) _
          refine XS.iload X36.here hx rfl (hb hby dd_method_2_code_103) rfl ?_
          show Steps p.tables e below (T36.setTop (mkF m 105 #[.val (.int x0), .val (.int x1), .val (.int x2), .val (.int x3), .val (.int (x0 &&& (3 : Int32))), .val (.int ((x1 &&& (255 : Int32)).toUInt32.toUInt16.toUInt32.toInt32)), .val (.int ((x2 &&& (255 : Int32)).toUInt32.toUInt16.toUInt32.toInt32)), .val (.int ((x3 &&& (255 : Int32)).toUInt32.toUInt16.toUInt32.toInt32))] [(.int ((x1 &&& (255 : Int32)).toUInt32.toUInt16.toUInt32.toInt32)), (.int (0 : Int32)), (.ref b36), (.ref b36), (.ref b35), (.ref b35)])) _
          refine st38 _ ?_
          show Steps p.tables e below (T38.setTop (mkF m 106 #[.val (.int x0), .val (.int x1), .val (.int x2), .val (.int x3), .val (.int (x0 &&& (3 : Int32))), .val (.int ((x1 &&& (255 : Int32)).toUInt32.toUInt16.toUInt32.toInt32)), .val (.int ((x2 &&& (255 : Int32)).toUInt32.toUInt16.toUInt32.toInt32)), .val (.int ((x3 &&& (255 : Int32)).toUInt32.toUInt16.toUInt32.toInt32))] [(.ref b36), (.ref b35), (.ref b35)])) _
          refine XS.dup X38.here hx rfl (hb hby dd_method_2_code_106) rfl rfl ?_
          show Steps p.tables e below (T38.setTop (mkF m 107 #[.val (.int x0), .val (.int x1), .val (.int x2), .val (.int x3), .val (.int (x0 &&& (3 : Int32))), .val (.int ((x1 &&& (255 : Int32)).toUInt32.toUInt16.toUInt32.toInt32)), .val (.int ((x2 &&& (255 : Int32)).toUInt32.toUInt16.toUInt32.toInt32)), .val (.int ((x3 &&& (255 : Int32)).toUInt32.toUInt16.toUInt32.toInt32))] [(.ref b36), (.ref b36), (.ref b35), (.ref b35)])) _
          refine XS.iconst X38.here hx rfl (hb hby dd_method_2_code_107) ?_
          show Steps p.tables e below (T38.setTop (mkF m 108 #[.val (.int x0), .val (.int x1), .val (.int x2), .val (.int x3), .val (.int (x0 &&& (3 : Int32))), .val (.int ((x1 &&& (255 : Int32)).toUInt32.toUInt16.toUInt32.toInt32)), .val (.int ((x2 &&& (255 : Int32)).toUInt32.toUInt16.toUInt32.toInt32)), .val (.int ((x3 &&& (255 : Int32)).toUInt32.toUInt16.toUInt32.toInt32))] [(.int (1 : Int32)), (.ref b36), (.ref b36), (.ref b35), (.ref b35)])) _
          refine XS.iload X38.here hx rfl (hb hby dd_method_2_code_108) rfl ?_
          show Steps p.tables e below (T38.setTop (mkF m 110 #[.val (.int x0), .val (.int x1), .val (.int x2), .val (.int x3), .val (.int (x0 &&& (3 : Int32))), .val (.int ((x1 &&& (255 : Int32)).toUInt32.toUInt16.toUInt32.toInt32)), .val (.int ((x2 &&& (255 : Int32)).toUInt32.toUInt16.toUInt32.toInt32)), .val (.int ((x3 &&& (255 : Int32)).toUInt32.toUInt16.toUInt32.toInt32))] [(.int ((x2 &&& (255 : Int32)).toUInt32.toUInt16.toUInt32.toInt32)), (.int (1 : Int32)), (.ref b36), (.ref b36), (.ref b35), (.ref b35)])) _
          refine st40 _ ?_
          show Steps p.tables e below (T40.setTop (mkF m 111 #[.val (.int x0), .val (.int x1), .val (.int x2), .val (.int x3), .val (.int (x0 &&& (3 : Int32))), .val (.int ((x1 &&& (255 : Int32)).toUInt32.toUInt16.toUInt32.toInt32)), .val (.int ((x2 &&& (255 : Int32)).toUInt32.toUInt16.toUInt32.toInt32)), .val (.int ((x3 &&& (255 : Int32)).toUInt32.toUInt16.toUInt32.toInt32))] [(.ref b36), (.ref b35), (.ref b35)])) _
          refine XS.dup X40.here hx rfl (hb hby dd_method_2_code_111) rfl rfl ?_
          show Steps p.tables e below (T40.setTop (mkF m 112 #[.val (.int x0), .val (.int x1), .val (.int x2), .val (.int x3), .val (.int (x0 &&& (3 : Int32))), .val (.int ((x1 &&& (255 : Int32)).toUInt32.toUInt16.toUInt32.toInt32)), .val (.int ((x2 &&& (255 : Int32)).toUInt32.toUInt16.toUInt32.toInt32)), .val (.int ((x3 &&& (255 : Int32)).toUInt32.toUInt16.toUInt32.toInt32))] [(.ref b36), (.ref b36), (.ref b35), (.ref b35)])) _
          refine XS.iconst X40.here hx rfl (hb hby dd_method_2_code_112) ?_
          show Steps p.tables e below (T40.setTop (mkF m 113 #[.val (.int x0), .val (.int x1), .val (.int x2), .val (.int x3), .val (.int (x0 &&& (3 : Int32))), .val (.int ((x1 &&& (255 : Int32)).toUInt32.toUInt16.toUInt32.toInt32)), .val (.int ((x2 &&& (255 : Int32)).toUInt32.toUInt16.toUInt32.toInt32)), .val (.int ((x3 &&& (255 : Int32)).toUInt32.toUInt16.toUInt32.toInt32))] [(.int (2 : Int32)), (.ref b36), (.ref b36), (.ref b35), (.ref b35)])) _
          refine XS.iload X40.here hx rfl (hb hby dd_method_2_code_113) rfl ?_
          show Steps p.tables e below (T40.setTop (mkF m 115 #[.val (.int x0), .val (.int x1), .val (.int x2), .val (.int x3), .val (.int (x0 &&& (3 : Int32))), .val (.int ((x1 &&& (255 : Int32)).toUInt32.toUInt16.toUInt32.toInt32)), .val (.int ((x2 &&& (255 : Int32)).toUInt32.toUInt16.toUInt32.toInt32)), .val (.int ((x3 &&& (255 : Int32)).toUInt32.toUInt16.toUInt32.toInt32))] [(.int ((x3 &&& (255 : Int32)).toUInt32.toUInt16.toUInt32.toInt32)), (.int (2 : Int32)), (.ref b36), (.ref b36), (.ref b35), (.ref b35)])) _
          refine st42 _ ?_
          show Steps p.tables e below (T42.setTop (mkF m 116 #[.val (.int x0), .val (.int x1), .val (.int x2), .val (.int x3), .val (.int (x0 &&& (3 : Int32))), .val (.int ((x1 &&& (255 : Int32)).toUInt32.toUInt16.toUInt32.toInt32)), .val (.int ((x2 &&& (255 : Int32)).toUInt32.toUInt16.toUInt32.toInt32)), .val (.int ((x3 &&& (255 : Int32)).toUInt32.toUInt16.toUInt32.toInt32))] [(.ref b36), (.ref b35), (.ref b35)])) _
          refine st48.trans ?_
          show Steps p.tables e below (T48.setTop (mkF m 119 #[.val (.int x0), .val (.int x1), .val (.int x2), .val (.int x3), .val (.int (x0 &&& (3 : Int32))), .val (.int ((x1 &&& (255 : Int32)).toUInt32.toUInt16.toUInt32.toInt32)), .val (.int ((x2 &&& (255 : Int32)).toUInt32.toUInt16.toUInt32.toInt32)), .val (.int ((x3 &&& (255 : Int32)).toUInt32.toUInt16.toUInt32.toInt32))] [(.ref b35)])) _
          exact retOut X48 hx Bd.returns rfl (Or.inr (Or.inr (Or.inr (Or.inr ⟨rfl, rfl, rfl⟩)))) (hb hby dd_method_2_code_119) lhr
        · skip
          show QDra Z x0 x1 x2 x3 G1 h0 n0 _ T48.heap _
          skip
          exact ⟨b35, rfl, N48, K48, sz_b35, gE48⟩
        · skip
          show CHr Z own_EL s.vm s.heap T48.vm T48.heap
          rw [hh]
          exact CR48.trans (CHv.at X48 hZ hEL CR48.1)
theorem ef_0 (m : MethodId) (x0 : Int32) (x1 : Int32) (x2 : Int32) (x3 : Int32) (x4 : Int32) (x5 : Int32) : entryFrame m #[(.int x0), (.int x1), (.int x2), (.int x3), (.int x4), (.int x5)] maxLocals = mkF m 0 #[.val (.int x0), .val (.int x1), .val (.int x2), .val (.int x3), .val (.int x4), .val (.int x5), .unset, .unset, .unset, .unset] [] := by first | (simp [entryFrame, mkF, argsToLocals, Value.category, maxLocals]; done) | rfl
theorem pd__IIII_Ljava_lang_String_ : parseMethodDescriptor "(IIII)Ljava/lang/String;" = some ⟨[.int, .int, .int, .int], some (.object "java/lang/String")⟩ := by decide +kernel
theorem pd__Ljava_lang_String_I_Lcom_example_tickreel_tickreel_BinaryField_ : parseMethodDescriptor "(Ljava/lang/String;I)Lcom/example/tickreel/tickreel/BinaryField;" = some ⟨[(.object "java/lang/String"), .int], some (.object "com/example/tickreel/tickreel/BinaryField")⟩ := by decide +kernel
theorem pd___Ljava_lang_String_ : parseMethodDescriptor "()Ljava/lang/String;" = some ⟨[], some (.object "java/lang/String")⟩ := by decide +kernel
theorem pd__Ljava_lang_Object__Z : parseMethodDescriptor "(Ljava/lang/Object;)Z" = some ⟨[(.object "java/lang/Object")], some .boolean⟩ := by decide +kernel
theorem pd___Z : parseMethodDescriptor "()Z" = some ⟨[], some .boolean⟩ := by decide +kernel
theorem pd___I : parseMethodDescriptor "()I" = some ⟨[], some .int⟩ := by decide +kernel
theorem pd__I_Lcom_example_tickreel_tickreel_BinaryField_ : parseMethodDescriptor "(I)Lcom/example/tickreel/tickreel/BinaryField;" = some ⟨[.int], some (.object "com/example/tickreel/tickreel/BinaryField")⟩ := by decide +kernel
def Q0 (Z : State) (x0 : Int32) (x1 : Int32) (x2 : Int32) (x3 : Int32) (x4 : Int32) (x5 : Int32) (G1 : Int32) (wd : Addr) (wom : Addr) (wfi : Addr) (h0 : Heap) (n0 : Nat) (v : Option Value) (h : Heap) (L : List Loc) : Prop := v = some (.int 1) ∧ Fr n0 L
set_option maxRecDepth 65536 in
set_option maxHeartbeats 40000000 in
theorem rm0 (l : Launch) (Z : State) (a0 : Array Value) (hw : ∀ d ∈ tables_1, d.before a0 Z = true) (ws : List Jvm.Cond) (x0 : Int32) (x1 : Int32) (x2 : Int32) (x3 : Int32) (x4 : Int32) (x5 : Int32) (G1 : Int32) (wd : Addr) (wom : Addr) (wfi : Addr) (h0 : Heap) (n0 : Nat) (Z0 : n0 ≤ h0.size) (O2 : Sta Z Z.heap "java/lang/String" "COMPACT_STRINGS" "Z" (.int G1)) (P5 : ¬ (G1 = (0 : Int32))) (X00 : Old Z n0 h0) (S_D : Sta Z Z.heap "com/example/tickreel/tickreel/BinaryField$Type" "SIGNED" "Lcom/example/tickreel/tickreel/BinaryField$Type;" (.ref wd)) (S_O : Sta Z Z.heap "com/example/tickreel/tickreel/BinaryField$Type" "OMITTED" "Lcom/example/tickreel/tickreel/BinaryField$Type;" (.ref wom)) (S_F : Sta Z Z.heap "com/example/tickreel/tickreel/BinaryField$Type" "FILLER" "Lcom/example/tickreel/tickreel/BinaryField$Type;" (.ref wfi)) (hdo : ¬ wd = wom) (hdf : ¬ wd = wfi) :
    MetFree l x (head1 (Jvm.Cond.code x code maxLocals ret :: ws) room_1) (fun a U => a = #[(.int x0), (.int x1), (.int x2), (.int x3), (.int x4), (.int x5)] ∧ Z.Warmed39 U.vm ∧ U.heap = h0 ∧ CHv Z own_EL U.vm h0 ∧ ∀ x ∈ ([] : List Addr), Safe Z own_EL U.vm h0 x) (fun _ _ _ _ _ => True) (fun _ U oc_ U' => ∃ v L, oc_ = .returned v ∧ Q0 Z x0 x1 x2 x3 x4 x5 G1 wd wom wfi h0 n0 v U'.heap L ∧ CHr Z own_EL U.vm U.heap U'.vm U'.heap ∧ ReturnedEndW U oc_ U' L 24 1152) := by
  refine MetFree.of_bodySF (plainFor_of_name pn_com_example_tickreel_tickreel_BinaryFieldI64PinLaw) hisR ?_
  intro p e s m args below meth c s₁ Bd hml0 hP hK
  obtain ⟨rfl, hZ, hh, hCH, hSS⟩ := hP
  have hx := Bd.exec
  have hby := Bd.bytes
  have hml : c.maxLocals = 10 := hml0
  have hown : s.vm.findClass "com/example/tickreel/tickreel/BinaryFieldI64PinLaw" = some m.cls := findClass_of_methodNamed Bd.named
  have hnm := (name_of_methodNamed Bd.named Bd.method).1
  have X0 : Stand p l e room_1 s m #[(.int x0), (.int x1), (.int x2), (.int x3), (.int x4), (.int x5)] below meth c s₁ [] 0 0 := Stand.of_body Bd
  have e0 : s₁.heap = h0 := by rw [← hh, Bd.state]; rfl
  have N0 := Fr.nil n0
  have pre0 : ∀ t, Steps p.tables e below (s₁.setTop (mkF m 0 #[.val (.int x0), .val (.int x1), .val (.int x2), .val (.int x3), .val (.int x4), .val (.int x5), .unset, .unset, .unset, .unset] [])) t → Steps p.tables e below (s₁.setTop (entryFrame m #[(.int x0), (.int x1), (.int x2), (.int x3), (.int x4), (.int x5)] maxLocals)) t := fun t k => castTop (ef_0 m x0 x1 x2 x3 x4 x5) k
  have X0 : Stand p l e room_1 (s.setVm s.vm) m #[(.int x0), (.int x1), (.int x2), (.int x3), (.int x4), (.int x5)] below meth c s₁ [] 0 0 := X0
  have hS0 : s.Since s.vm 0 := own_since0 s
  have hk0 : 0 ≤ h0.size := Nat.zero_le _
  have CR0 : CHr Z own_EL s.vm h0 s.vm h0 := CHr.refl hCH
  have hEL := own_EW a0 Z hw
  have wS : ∀ a ∈ Bundle.stringAtoms, a.before a0 Z = true := fun d hd => hw d ((by decide +kernel : ∀ d ∈ Bundle.stringAtoms, d ∈ tables_1) d hd)
  obtain ⟨_, _, ⟨T1, L1, kc1, ks1⟩, -, X1, hSq1, hgr1, ⟨Lc1, hQ1, l1, y1, z1, CS1⟩, st1⟩ := Jvm.RoadKit.callSS X0 hx (y := (⟨"com/example/tickreel/tickreel/BinaryFieldI64PinLaw", "drawName", "(IIII)Ljava/lang/String;"⟩ : MethodName)) hown (mvT hZ (wd0 hw)) (mvT hZ (wd1 hw)) (mvT hZ (wd2 hw)) (mvT hZ (wd3 hw)) (by decide) (own_backSafe (s := s) (vm0 := s.vm) (EL := own_EL) (ss := []) (W := 0) (rmDra l Z a0 hw [] x2 x3 x4 x5 G1 h0 n0 Z0 O2 P5 X00) hZ (wd3 hw) (wd2 hw) (by decide) (by decide) hEL CR0.1 all0) (g := (mkF m 6 #[.val (.int x0), .val (.int x1), .val (.int x2), .val (.int x3), .val (.int x4), .val (.int x5), .unset, .unset, .unset, .unset] [(.int x5), (.int x4), (.int x3), (.int x2)])) rfl (by rw [hml]; rfl) (argsL := [(.int x2), (.int x3), (.int x4), (.int x5)]) (rest := []) (lenOf pd__IIII_Ljava_lang_String_ rfl) rfl (by show 2 * 0 + _ ≤ _; exact Nat.le_of_eq rfl) (hb hby at_6) (fun _ _ => ⟨rfl, e0, (by decide : 0 + 6 ≤ _), (by decide : 0 + 12 ≤ _)⟩)
  dsimp only [Pt.U, Pt.locs, Pt.cells, Pt.slots] at X1 l1 y1 z1 st1 hQ1 hSq1 hgr1 CS1
  subst l1 y1 z1
  obtain ⟨X1, hS1, hZ1, hown1⟩ := rebS hS0 hk0 X1 hSq1 (by rw [e0] at hgr1; exact hgr1) hZ hown
  obtain ⟨b1, rfl, Nq1, Kq1, szb1, gE1⟩ := hQ1
  have N1 := Fr.app N0 Nq1
  have CR1 := CR0.trans CS1
  have Z1 : n0 ≤ T1.heap.size := Nat.le_trans Z0 Kq1.1
  have K1 : Keep h0 T1.heap [] := Keep.trans (Keep.refl h0 []) Kq1 all0
  have ge_b1 : n0 ≤ b1 := Nat.le_trans Z0 szb1
  have sz_b1 : h0.size ≤ b1 := Nat.le_trans (Nat.le_refl _) szb1
  have f2 := (X00.keep Kq1 all0)
  obtain ⟨_, _, ⟨T3, L3, kc3, ks3⟩, -, X3, ⟨Lc3, hQ3, l3, y3, z3⟩, st3⟩ := Jvm.LawKit.callS X1 hx (y := (⟨"com/example/tickreel/tickreel/BinaryField", "i64", "(Ljava/lang/String;I)Lcom/example/tickreel/tickreel/BinaryField;"⟩ : MethodName)) hown1 (mvT hZ1 (wd34 hw)) (mvT hZ1 (wd35 hw)) (mvT hZ1 (wd36 hw)) (mvT hZ1 (wd37 hw)) (by decide) (backOf (W := 0) (rmI64 l Z a0 hw [] b1 x0 wd T1.heap n0 Z1 S_D f2) hZ1 (wd37 hw) (wd36 hw) (by decide) (by decide)) (g := (mkF m 14 #[.val (.int x0), .val (.int x1), .val (.int x2), .val (.int x3), .val (.int x4), .val (.int x5), .val (.ref b1), .unset, .unset, .unset] [(.int x0), (.ref b1)])) rfl (by rw [hml]; rfl) (argsL := [(.ref b1), (.int x0)]) (rest := []) (lenOf pd__Ljava_lang_String_I_Lcom_example_tickreel_tickreel_BinaryField_ rfl) rfl (by show 2 * 0 + _ ≤ _; exact Nat.le_of_eq rfl) (hb hby at_14) (fun _ _ => ⟨rfl, rfl, (by decide : 6 + 1 ≤ _), (by decide : 12 + 5 ≤ _)⟩)
  dsimp only [Pt.U, Pt.locs, Pt.cells, Pt.slots] at X3 l3 y3 z3 st3 hQ3
  subst l3 y3 z3
  obtain ⟨b3, rfl, Nq3, Kq3, szb3, gE3, gF0_3, gF1_3, gF2_3, gF3_3, gF4_3⟩ := hQ3
  have N3 := Fr.app N1 Nq3
  have CS3 := CHr.keep Kq3 all0 CR1.1
  have CR3 := CR1.trans CS3
  have hk3 : _ ≤ T3.heap.size := Nat.le_trans (Nat.le_refl T1.heap.size) Kq3.1
  have Z3 : n0 ≤ T3.heap.size := Nat.le_trans Z1 Kq3.1
  have K3 : Keep h0 T3.heap [] := Keep.trans K1 Kq3 all0
  have ne_b1_b3 : b1 ≠ b3 := Nat.ne_of_lt (Nat.lt_of_lt_of_le gE1.lt szb3)
  have ge_b3 : n0 ≤ b3 := Nat.le_trans Z1 szb3
  have sz_b3 : h0.size ≤ b3 := Nat.le_trans K1.1 szb3
  obtain ⟨cq4, kq4, q4a, q4b, q4c⟩ := isOf hZ1 rfl gE3
  obtain ⟨_, _, ⟨T4, L4, kc4, ks4⟩, -, X4, ⟨Lc4, hQ4, l4, y4, z4⟩, st4⟩ := X3.virtualBack hx (y := (⟨"com/example/tickreel/tickreel/BinaryField", "name", "()Ljava/lang/String;"⟩ : MethodName)) (z := (⟨"com/example/tickreel/tickreel/BinaryField", "name", "()Ljava/lang/String;"⟩ : MethodName)) hown1 (mvT hZ1 (wd60 hw)) (mvT hZ1 (wd61 hw)) (notFace_of_selects (args := #[]) (mvT hZ1 (wd63 hw))) (mvT hZ1 (wd63 hw)) (mvT hZ1 (wd62 hw)) (by decide) (backOf (W := 1) (rmName l Z a0 hw [] b3 _ T3.heap n0 Z3 gF0_3) hZ1 (wd64 hw) (wd36 hw) (by decide) (by decide)) q4a q4c (g := (mkF m 23 #[.val (.int x0), .val (.int x1), .val (.int x2), .val (.int x3), .val (.int x4), .val (.int x5), .val (.ref b1), .val (.ref b3), .unset, .unset] [(.ref b3), (.ref b1)])) rfl (by rw [hml]; rfl) (Steps.refl _) (argsL := []) (rest := [(.ref b1)]) (lenOf pd___Ljava_lang_String_ rfl) rfl (by show 2 * 0 + _ ≤ _; exact Nat.le_of_eq rfl) (hb hby at_23) (fun _ _ => ⟨rfl, rfl, (by decide : 7 + 0 ≤ _), (by decide : 17 + 0 ≤ _)⟩)
  dsimp only [Pt.U, Pt.locs, Pt.cells, Pt.slots] at X4 l4 y4 z4 st4 hQ4
  subst l4 y4 z4
  obtain ⟨rfl, Nq4, eq4⟩ := hQ4
  have N4 := Fr.app N3 Nq4
  have f6 := (gE1.keep Kq3)
  obtain ⟨cq5, kq5, q5a, q5b, q5c⟩ := isOf hZ1 eq4 f6
  obtain ⟨_, _, ⟨T5, L5, kc5, ks5⟩, -, X5, ⟨Lc5, hQ5, l5, y5, z5⟩, st5⟩ := X4.virtualBack hx (y := (⟨"java/lang/String", "equals", "(Ljava/lang/Object;)Z"⟩ : MethodName)) (z := (⟨"java/lang/String", "equals", "(Ljava/lang/Object;)Z"⟩ : MethodName)) hown1 (mvT hZ1 (wd65 hw)) (mvT hZ1 (wd66 hw)) (notFace_of_selects (args := #[]) (mvT hZ1 (wd68 hw))) (mvT hZ1 (wd68 hw)) (mvT hZ1 (wd67 hw)) (by decide) (backOf (W := 0) (rmEqs l Z a0 hw [] b1 T3.heap n0 Z3) hZ1 (wd69 hw) (wd6 hw) (by decide) (by decide)) q5a q5c (g := (mkF m 26 #[.val (.int x0), .val (.int x1), .val (.int x2), .val (.int x3), .val (.int x4), .val (.int x5), .val (.ref b1), .val (.ref b3), .unset, .unset] [(.ref b1), (.ref b1)])) rfl (by rw [hml]; rfl) (Steps.refl _) (argsL := [(.ref b1)]) (rest := []) (lenOf pd__Ljava_lang_Object__Z rfl) rfl (by show 2 * 0 + _ ≤ _; exact Nat.le_of_eq rfl) (hb hby at_26) (fun _ _ => ⟨rfl, eq4, (by decide : 7 + 0 ≤ _), (by decide : 17 + 0 ≤ _)⟩)
  dsimp only [Pt.U, Pt.locs, Pt.cells, Pt.slots] at X5 l5 y5 z5 st5 hQ5
  subst l5 y5 z5
  obtain ⟨rfl, Nq5, eq5⟩ := hQ5
  have N5 := Fr.app N4 Nq5
  have f7 := (f2.keep Kq3 all0)
  obtain ⟨cq8, kq8, q8a, q8b, q8c⟩ := isOf hZ1 eq5 gE3
  obtain ⟨_, _, ⟨T8, L8, kc8, ks8⟩, -, X8, ⟨Lc8, hQ8, l8, y8, z8⟩, st8⟩ := X5.virtualBack hx (y := (⟨"com/example/tickreel/tickreel/BinaryField", "written", "()Z"⟩ : MethodName)) (z := (⟨"com/example/tickreel/tickreel/BinaryField", "written", "()Z"⟩ : MethodName)) hown1 (mvT hZ1 (wd70 hw)) (mvT hZ1 (wd71 hw)) (notFace_of_selects (args := #[]) (mvT hZ1 (wd73 hw))) (mvT hZ1 (wd73 hw)) (mvT hZ1 (wd72 hw)) (by decide) (backOf (W := 0) (rmWri l Z a0 hw [] b3 _ _ _ (1 : Int32) T3.heap n0 Z3 gF1_3 (S_O.ext f7.2) (S_F.ext f7.2) (Or.inr ⟨hdo, hdf, rfl⟩)) hZ1 (wd74 hw) (wd36 hw) (by decide) (by decide)) q8a q8c (g := (mkF m 34 #[.val (.int x0), .val (.int x1), .val (.int x2), .val (.int x3), .val (.int x4), .val (.int x5), .val (.ref b1), .val (.ref b3), .unset, .unset] [(.ref b3)])) rfl (by rw [hml]; rfl) (Steps.refl _) (argsL := []) (rest := []) (lenOf pd___Z rfl) rfl (by show 2 * 0 + _ ≤ _; exact Nat.le_of_eq rfl) (hb hby at_34) (fun _ _ => ⟨rfl, eq5, (by decide : 7 + 0 ≤ _), (by decide : 17 + 0 ≤ _)⟩)
  dsimp only [Pt.U, Pt.locs, Pt.cells, Pt.slots] at X8 l8 y8 z8 st8 hQ8
  subst l8 y8 z8
  obtain ⟨rfl, Nq8, eq8⟩ := hQ8
  have N8 := Fr.app N5 Nq8
  obtain ⟨cq9, kq9, q9a, q9b, q9c⟩ := isOf hZ1 eq8 gE3
  obtain ⟨_, _, ⟨T9, L9, kc9, ks9⟩, -, X9, ⟨Lc9, hQ9, l9, y9, z9⟩, st9⟩ := X8.virtualBack hx (y := (⟨"com/example/tickreel/tickreel/BinaryField", "offset", "()I"⟩ : MethodName)) (z := (⟨"com/example/tickreel/tickreel/BinaryField", "offset", "()I"⟩ : MethodName)) hown1 (mvT hZ1 (wd79 hw)) (mvT hZ1 (wd80 hw)) (notFace_of_selects (args := #[]) (mvT hZ1 (wd82 hw))) (mvT hZ1 (wd82 hw)) (mvT hZ1 (wd81 hw)) (by decide) (backOf (W := 0) (rmOff l Z a0 hw [] b3 _ T3.heap n0 Z3 gF2_3) hZ1 (wd83 hw) (wd36 hw) (by decide) (by decide)) q9a q9c (g := (mkF m 42 #[.val (.int x0), .val (.int x1), .val (.int x2), .val (.int x3), .val (.int x4), .val (.int x5), .val (.ref b1), .val (.ref b3), .unset, .unset] [(.ref b3)])) rfl (by rw [hml]; rfl) (Steps.refl _) (argsL := []) (rest := []) (lenOf pd___I rfl) rfl (by show 2 * 0 + _ ≤ _; exact Nat.le_of_eq rfl) (hb hby at_42) (fun _ _ => ⟨rfl, eq8, (by decide : 7 + 0 ≤ _), (by decide : 17 + 0 ≤ _)⟩)
  dsimp only [Pt.U, Pt.locs, Pt.cells, Pt.slots] at X9 l9 y9 z9 st9 hQ9
  subst l9 y9 z9
  obtain ⟨rfl, Nq9, eq9⟩ := hQ9
  have N9 := Fr.app N8 Nq9
  obtain ⟨cq10, kq10, q10a, q10b, q10c⟩ := isOf hZ1 eq9 gE3
  obtain ⟨_, _, ⟨T10, L10, kc10, ks10⟩, -, X10, ⟨Lc10, hQ10, l10, y10, z10⟩, st10⟩ := X9.virtualBack hx (y := (⟨"com/example/tickreel/tickreel/BinaryField", "end", "()I"⟩ : MethodName)) (z := (⟨"com/example/tickreel/tickreel/BinaryField", "end", "()I"⟩ : MethodName)) hown1 (mvT hZ1 (wd84 hw)) (mvT hZ1 (wd85 hw)) (notFace_of_selects (args := #[]) (mvT hZ1 (wd87 hw))) (mvT hZ1 (wd87 hw)) (mvT hZ1 (wd86 hw)) (by decide) (backOf (W := 0) (rmEnd l Z a0 hw [] b3 _ _ T3.heap n0 Z3 gF2_3 gF3_3) hZ1 (wd88 hw) (wd36 hw) (by decide) (by decide)) q10a q10c (g := (mkF m 51 #[.val (.int x0), .val (.int x1), .val (.int x2), .val (.int x3), .val (.int x4), .val (.int x5), .val (.ref b1), .val (.ref b3), .unset, .unset] [(.ref b3)])) rfl (by rw [hml]; rfl) (Steps.refl _) (argsL := []) (rest := []) (lenOf pd___I rfl) rfl (by show 2 * 0 + _ ≤ _; exact Nat.le_of_eq rfl) (hb hby at_51) (fun _ _ => ⟨rfl, eq9, (by decide : 7 + 0 ≤ _), (by decide : 17 + 0 ≤ _)⟩)
  dsimp only [Pt.U, Pt.locs, Pt.cells, Pt.slots] at X10 l10 y10 z10 st10 hQ10
  subst l10 y10 z10
  obtain ⟨rfl, Nq10, eq10⟩ := hQ10
  have N10 := Fr.app N9 Nq10
  obtain ⟨cq11, kq11, q11a, q11b, q11c⟩ := isOf hZ1 eq10 gE3
  obtain ⟨_, _, ⟨T11, L11, kc11, ks11⟩, -, X11, ⟨Lc11, hQ11, l11, y11, z11⟩, st11⟩ := X10.virtualBack hx (y := (⟨"com/example/tickreel/tickreel/BinaryField", "scaledBy", "(I)Lcom/example/tickreel/tickreel/BinaryField;"⟩ : MethodName)) (z := (⟨"com/example/tickreel/tickreel/BinaryField", "scaledBy", "(I)Lcom/example/tickreel/tickreel/BinaryField;"⟩ : MethodName)) hown1 (mvT hZ1 (wd89 hw)) (mvT hZ1 (wd90 hw)) (notFace_of_selects (args := #[]) (mvT hZ1 (wd92 hw))) (mvT hZ1 (wd92 hw)) (mvT hZ1 (wd91 hw)) (by decide) (backOf (W := 0) (rmSca l Z a0 hw [] b3 x1 _ _ _ _ T3.heap n0 Z3 gF0_3 gF1_3 gF2_3 gF3_3 (S_D.ext f7.2)) hZ1 (wd93 hw) (wd36 hw) (by decide) (by decide)) q11a q11c (g := (mkF m 71 #[.val (.int x0), .val (.int x1), .val (.int x2), .val (.int x3), .val (.int x4), .val (.int x5), .val (.ref b1), .val (.ref b3), .val (.int (1 : Int32)), .unset] [(.int x1), (.ref b3)])) rfl (by rw [hml]; rfl) (Steps.refl _) (argsL := [(.int x1)]) (rest := []) (lenOf pd__I_Lcom_example_tickreel_tickreel_BinaryField_ rfl) rfl (by show 2 * 0 + _ ≤ _; exact Nat.le_of_eq rfl) (hb hby at_71) (fun _ _ => ⟨rfl, eq10, (by decide : 7 + 1 ≤ _), (by decide : 17 + 5 ≤ _)⟩)
  dsimp only [Pt.U, Pt.locs, Pt.cells, Pt.slots] at X11 l11 y11 z11 st11 hQ11
  subst l11 y11 z11
  obtain ⟨b11, rfl, Nq11, Kq11, szb11, gE11, gF0_11, gF1_11, gF2_11, gF3_11, gF4_11⟩ := hQ11
  have N11 := Fr.app N10 Nq11
  have CS11 := CHr.keep Kq11 all0 CR3.1
  have CR11 := CR3.trans CS11
  have hk11 : _ ≤ T11.heap.size := Nat.le_trans hk3 Kq11.1
  have Z11 : n0 ≤ T11.heap.size := Nat.le_trans Z3 Kq11.1
  have K11 : Keep h0 T11.heap [] := Keep.trans K3 Kq11 all0
  have ne_b1_b11 : b1 ≠ b11 := Nat.ne_of_lt (Nat.lt_of_lt_of_le f6.lt szb11)
  have ne_b3_b11 : b3 ≠ b11 := Nat.ne_of_lt (Nat.lt_of_lt_of_le gE3.lt szb11)
  have ge_b11 : n0 ≤ b11 := Nat.le_trans Z3 szb11
  have sz_b11 : h0.size ≤ b11 := Nat.le_trans K3.1 szb11
  obtain ⟨cq12, kq12, q12a, q12b, q12c⟩ := isOf hZ1 rfl gE11
  obtain ⟨_, _, ⟨T12, L12, kc12, ks12⟩, -, X12, ⟨Lc12, hQ12, l12, y12, z12⟩, st12⟩ := X11.virtualBack hx (y := (⟨"com/example/tickreel/tickreel/BinaryField", "name", "()Ljava/lang/String;"⟩ : MethodName)) (z := (⟨"com/example/tickreel/tickreel/BinaryField", "name", "()Ljava/lang/String;"⟩ : MethodName)) hown1 (mvT hZ1 (wd60 hw)) (mvT hZ1 (wd61 hw)) (notFace_of_selects (args := #[]) (mvT hZ1 (wd63 hw))) (mvT hZ1 (wd63 hw)) (mvT hZ1 (wd62 hw)) (by decide) (backOf (W := 1) (rmName l Z a0 hw [] b11 _ T11.heap n0 Z11 gF0_11) hZ1 (wd64 hw) (wd36 hw) (by decide) (by decide)) q12a q12c (g := (mkF m 85 #[.val (.int x0), .val (.int x1), .val (.int x2), .val (.int x3), .val (.int x4), .val (.int x5), .val (.ref b1), .val (.ref b3), .val (.int (1 : Int32)), .val (.ref b11)] [(.ref b11), (.ref b1)])) rfl (by rw [hml]; rfl) (Steps.refl _) (argsL := []) (rest := [(.ref b1)]) (lenOf pd___Ljava_lang_String_ rfl) rfl (by show 2 * 0 + _ ≤ _; exact Nat.le_of_eq rfl) (hb hby at_85) (fun _ _ => ⟨rfl, rfl, (by decide : 8 + 0 ≤ _), (by decide : 22 + 0 ≤ _)⟩)
  dsimp only [Pt.U, Pt.locs, Pt.cells, Pt.slots] at X12 l12 y12 z12 st12 hQ12
  subst l12 y12 z12
  obtain ⟨rfl, Nq12, eq12⟩ := hQ12
  have N12 := Fr.app N11 Nq12
  have f14 := (f6.keep Kq11)
  obtain ⟨cq13, kq13, q13a, q13b, q13c⟩ := isOf hZ1 eq12 f14
  obtain ⟨_, _, ⟨T13, L13, kc13, ks13⟩, -, X13, ⟨Lc13, hQ13, l13, y13, z13⟩, st13⟩ := X12.virtualBack hx (y := (⟨"java/lang/String", "equals", "(Ljava/lang/Object;)Z"⟩ : MethodName)) (z := (⟨"java/lang/String", "equals", "(Ljava/lang/Object;)Z"⟩ : MethodName)) hown1 (mvT hZ1 (wd65 hw)) (mvT hZ1 (wd66 hw)) (notFace_of_selects (args := #[]) (mvT hZ1 (wd68 hw))) (mvT hZ1 (wd68 hw)) (mvT hZ1 (wd67 hw)) (by decide) (backOf (W := 0) (rmEqs l Z a0 hw [] b1 T11.heap n0 Z11) hZ1 (wd69 hw) (wd6 hw) (by decide) (by decide)) q13a q13c (g := (mkF m 88 #[.val (.int x0), .val (.int x1), .val (.int x2), .val (.int x3), .val (.int x4), .val (.int x5), .val (.ref b1), .val (.ref b3), .val (.int (1 : Int32)), .val (.ref b11)] [(.ref b1), (.ref b1)])) rfl (by rw [hml]; rfl) (Steps.refl _) (argsL := [(.ref b1)]) (rest := []) (lenOf pd__Ljava_lang_Object__Z rfl) rfl (by show 2 * 0 + _ ≤ _; exact Nat.le_of_eq rfl) (hb hby at_88) (fun _ _ => ⟨rfl, eq12, (by decide : 8 + 0 ≤ _), (by decide : 22 + 0 ≤ _)⟩)
  dsimp only [Pt.U, Pt.locs, Pt.cells, Pt.slots] at X13 l13 y13 z13 st13 hQ13
  subst l13 y13 z13
  obtain ⟨rfl, Nq13, eq13⟩ := hQ13
  have N13 := Fr.app N12 Nq13
  obtain ⟨cq15, kq15, q15a, q15b, q15c⟩ := isOf hZ1 eq13 gE11
  obtain ⟨_, _, ⟨T15, L15, kc15, ks15⟩, -, X15, ⟨Lc15, hQ15, l15, y15, z15⟩, st15⟩ := X13.virtualBack hx (y := (⟨"com/example/tickreel/tickreel/BinaryField", "offset", "()I"⟩ : MethodName)) (z := (⟨"com/example/tickreel/tickreel/BinaryField", "offset", "()I"⟩ : MethodName)) hown1 (mvT hZ1 (wd79 hw)) (mvT hZ1 (wd80 hw)) (notFace_of_selects (args := #[]) (mvT hZ1 (wd82 hw))) (mvT hZ1 (wd82 hw)) (mvT hZ1 (wd81 hw)) (by decide) (backOf (W := 0) (rmOff l Z a0 hw [] b11 _ T11.heap n0 Z11 gF2_11) hZ1 (wd83 hw) (wd36 hw) (by decide) (by decide)) q15a q15c (g := (mkF m 96 #[.val (.int x0), .val (.int x1), .val (.int x2), .val (.int x3), .val (.int x4), .val (.int x5), .val (.ref b1), .val (.ref b3), .val (.int (1 : Int32)), .val (.ref b11)] [(.ref b11)])) rfl (by rw [hml]; rfl) (Steps.refl _) (argsL := []) (rest := []) (lenOf pd___I rfl) rfl (by show 2 * 0 + _ ≤ _; exact Nat.le_of_eq rfl) (hb hby at_96) (fun _ _ => ⟨rfl, eq13, (by decide : 8 + 0 ≤ _), (by decide : 22 + 0 ≤ _)⟩)
  dsimp only [Pt.U, Pt.locs, Pt.cells, Pt.slots] at X15 l15 y15 z15 st15 hQ15
  subst l15 y15 z15
  obtain ⟨rfl, Nq15, eq15⟩ := hQ15
  have N15 := Fr.app N13 Nq15
  obtain ⟨cq16, kq16, q16a, q16b, q16c⟩ := isOf hZ1 eq15 gE11
  obtain ⟨_, _, ⟨T16, L16, kc16, ks16⟩, -, X16, ⟨Lc16, hQ16, l16, y16, z16⟩, st16⟩ := X15.virtualBack hx (y := (⟨"com/example/tickreel/tickreel/BinaryField", "end", "()I"⟩ : MethodName)) (z := (⟨"com/example/tickreel/tickreel/BinaryField", "end", "()I"⟩ : MethodName)) hown1 (mvT hZ1 (wd84 hw)) (mvT hZ1 (wd85 hw)) (notFace_of_selects (args := #[]) (mvT hZ1 (wd87 hw))) (mvT hZ1 (wd87 hw)) (mvT hZ1 (wd86 hw)) (by decide) (backOf (W := 0) (rmEnd l Z a0 hw [] b11 _ _ T11.heap n0 Z11 gF2_11 gF3_11) hZ1 (wd88 hw) (wd36 hw) (by decide) (by decide)) q16a q16c (g := (mkF m 105 #[.val (.int x0), .val (.int x1), .val (.int x2), .val (.int x3), .val (.int x4), .val (.int x5), .val (.ref b1), .val (.ref b3), .val (.int (1 : Int32)), .val (.ref b11)] [(.ref b11)])) rfl (by rw [hml]; rfl) (Steps.refl _) (argsL := []) (rest := []) (lenOf pd___I rfl) rfl (by show 2 * 0 + _ ≤ _; exact Nat.le_of_eq rfl) (hb hby at_105) (fun _ _ => ⟨rfl, eq15, (by decide : 8 + 0 ≤ _), (by decide : 22 + 0 ≤ _)⟩)
  dsimp only [Pt.U, Pt.locs, Pt.cells, Pt.slots] at X16 l16 y16 z16 st16 hQ16
  subst l16 y16 z16
  obtain ⟨rfl, Nq16, eq16⟩ := hQ16
  have N16 := Fr.app N15 Nq16
  have f17 := (f7.keep Kq11 all0)
  obtain ⟨cq18, kq18, q18a, q18b, q18c⟩ := isOf hZ1 eq16 gE11
  obtain ⟨_, _, ⟨T18, L18, kc18, ks18⟩, -, X18, ⟨Lc18, hQ18, l18, y18, z18⟩, st18⟩ := X16.virtualBack hx (y := (⟨"com/example/tickreel/tickreel/BinaryField", "written", "()Z"⟩ : MethodName)) (z := (⟨"com/example/tickreel/tickreel/BinaryField", "written", "()Z"⟩ : MethodName)) hown1 (mvT hZ1 (wd70 hw)) (mvT hZ1 (wd71 hw)) (notFace_of_selects (args := #[]) (mvT hZ1 (wd73 hw))) (mvT hZ1 (wd73 hw)) (mvT hZ1 (wd72 hw)) (by decide) (backOf (W := 0) (rmWri l Z a0 hw [] b11 _ _ _ (1 : Int32) T11.heap n0 Z11 gF1_11 (S_O.ext f17.2) (S_F.ext f17.2) (Or.inr ⟨hdo, hdf, rfl⟩)) hZ1 (wd74 hw) (wd36 hw) (by decide) (by decide)) q18a q18c (g := (mkF m 117 #[.val (.int x0), .val (.int x1), .val (.int x2), .val (.int x3), .val (.int x4), .val (.int x5), .val (.ref b1), .val (.ref b3), .val (.int (1 : Int32)), .val (.ref b11)] [(.ref b11)])) rfl (by rw [hml]; rfl) (Steps.refl _) (argsL := []) (rest := []) (lenOf pd___Z rfl) rfl (by show 2 * 0 + _ ≤ _; exact Nat.le_of_eq rfl) (hb hby at_117) (fun _ _ => ⟨rfl, eq16, (by decide : 8 + 0 ≤ _), (by decide : 22 + 0 ≤ _)⟩)
  dsimp only [Pt.U, Pt.locs, Pt.cells, Pt.slots] at X18 l18 y18 z18 st18 hQ18
  subst l18 y18 z18
  obtain ⟨rfl, Nq18, eq18⟩ := hQ18
  have N18 := Fr.app N16 Nq18
  obtain ⟨lfs, lhr, lhrun, lhended, lhE⟩ := X18.leaveW hS1 (by rw [eq18]; exact hk11) (v := some (.int (1 : Int32))) (fun h => by rw [Bd.returns] at h; cases h)
  refine ⟨_, _, pre0 _ ?_, lhrun, lhended, _, _, rfl, ?_, ?_, lhE.1, lhE.2.1, lhE.2.2.1, lhE.2.2.2.mono (by decide) (by decide)⟩
  · skip
    show Steps p.tables e below (s₁.setTop (mkF m 0 #[.val (.int x0), .val (.int x1), .val (.int x2), .val (.int x3), .val (.int x4), .val (.int x5), .unset, .unset, .unset, .unset] [])) _
    refine XS.iloadN X0.here hx rfl (hb hby at_0) rfl ?_
    show Steps p.tables e below (s₁.setTop (mkF m 1 #[.val (.int x0), .val (.int x1), .val (.int x2), .val (.int x3), .val (.int x4), .val (.int x5), .unset, .unset, .unset, .unset] [(.int x2)])) _
    refine XS.iloadN X0.here hx rfl (hb hby at_1) rfl ?_
    show Steps p.tables e below (s₁.setTop (mkF m 2 #[.val (.int x0), .val (.int x1), .val (.int x2), .val (.int x3), .val (.int x4), .val (.int x5), .unset, .unset, .unset, .unset] [(.int x3), (.int x2)])) _
    refine XS.iload X0.here hx rfl (hb hby at_2) rfl ?_
    show Steps p.tables e below (s₁.setTop (mkF m 4 #[.val (.int x0), .val (.int x1), .val (.int x2), .val (.int x3), .val (.int x4), .val (.int x5), .unset, .unset, .unset, .unset] [(.int x4), (.int x3), (.int x2)])) _
    refine XS.iload X0.here hx rfl (hb hby at_4) rfl ?_
    show Steps p.tables e below (s₁.setTop (mkF m 6 #[.val (.int x0), .val (.int x1), .val (.int x2), .val (.int x3), .val (.int x4), .val (.int x5), .unset, .unset, .unset, .unset] [(.int x5), (.int x4), (.int x3), (.int x2)])) _
    refine st1.trans ?_
    show Steps p.tables e below (T1.setTop (mkF m 9 #[.val (.int x0), .val (.int x1), .val (.int x2), .val (.int x3), .val (.int x4), .val (.int x5), .unset, .unset, .unset, .unset] [(.ref b1)])) _
    refine XS.astore X1.here hx rfl (hb hby at_9) rfl rfl (l' := #[.val (.int x0), .val (.int x1), .val (.int x2), .val (.int x3), .val (.int x4), .val (.int x5), .val (.ref b1), .unset, .unset, .unset]) rfl ?_
    show Steps p.tables e below (T1.setTop (mkF m 11 #[.val (.int x0), .val (.int x1), .val (.int x2), .val (.int x3), .val (.int x4), .val (.int x5), .val (.ref b1), .unset, .unset, .unset] [])) _
    refine XS.aload X1.here hx rfl (hb hby at_11) rfl rfl ?_
    show Steps p.tables e below (T1.setTop (mkF m 13 #[.val (.int x0), .val (.int x1), .val (.int x2), .val (.int x3), .val (.int x4), .val (.int x5), .val (.ref b1), .unset, .unset, .unset] [(.ref b1)])) _
    refine XS.iloadN X1.here hx rfl (hb hby at_13) rfl ?_
    show Steps p.tables e below (T1.setTop (mkF m 14 #[.val (.int x0), .val (.int x1), .val (.int x2), .val (.int x3), .val (.int x4), .val (.int x5), .val (.ref b1), .unset, .unset, .unset] [(.int x0), (.ref b1)])) _
    refine st3 _ ?_
    show Steps p.tables e below (T3.setTop (mkF m 17 #[.val (.int x0), .val (.int x1), .val (.int x2), .val (.int x3), .val (.int x4), .val (.int x5), .val (.ref b1), .unset, .unset, .unset] [(.ref b3)])) _
    refine XS.astore X3.here hx rfl (hb hby at_17) rfl rfl (l' := #[.val (.int x0), .val (.int x1), .val (.int x2), .val (.int x3), .val (.int x4), .val (.int x5), .val (.ref b1), .val (.ref b3), .unset, .unset]) rfl ?_
    show Steps p.tables e below (T3.setTop (mkF m 19 #[.val (.int x0), .val (.int x1), .val (.int x2), .val (.int x3), .val (.int x4), .val (.int x5), .val (.ref b1), .val (.ref b3), .unset, .unset] [])) _
    refine XS.aload X3.here hx rfl (hb hby at_19) rfl rfl ?_
    show Steps p.tables e below (T3.setTop (mkF m 21 #[.val (.int x0), .val (.int x1), .val (.int x2), .val (.int x3), .val (.int x4), .val (.int x5), .val (.ref b1), .val (.ref b3), .unset, .unset] [(.ref b1)])) _
    refine XS.aload X3.here hx rfl (hb hby at_21) rfl rfl ?_
    show Steps p.tables e below (T3.setTop (mkF m 23 #[.val (.int x0), .val (.int x1), .val (.int x2), .val (.int x3), .val (.int x4), .val (.int x5), .val (.ref b1), .val (.ref b3), .unset, .unset] [(.ref b3), (.ref b1)])) _
    refine st4.trans ?_
    show Steps p.tables e below (T4.setTop (mkF m 26 #[.val (.int x0), .val (.int x1), .val (.int x2), .val (.int x3), .val (.int x4), .val (.int x5), .val (.ref b1), .val (.ref b3), .unset, .unset] [(.ref b1), (.ref b1)])) _
    refine st5.trans ?_
    show Steps p.tables e below (T5.setTop (mkF m 29 #[.val (.int x0), .val (.int x1), .val (.int x2), .val (.int x3), .val (.int x4), .val (.int x5), .val (.ref b1), .val (.ref b3), .unset, .unset] [(.int (1 : Int32))])) _
    refine XS.ifNo X5.here hx rfl (hb hby at_29) rfl ((if0 _ _).trans (feq (by decide : ¬ ((1 : Int32) = (0 : Int32)))).1) ?_
    show Steps p.tables e below (T5.setTop (mkF m 32 #[.val (.int x0), .val (.int x1), .val (.int x2), .val (.int x3), .val (.int x4), .val (.int x5), .val (.ref b1), .val (.ref b3), .unset, .unset] [])) _
    refine XS.aload X5.here hx rfl (hb hby at_32) rfl rfl ?_
    show Steps p.tables e below (T5.setTop (mkF m 34 #[.val (.int x0), .val (.int x1), .val (.int x2), .val (.int x3), .val (.int x4), .val (.int x5), .val (.ref b1), .val (.ref b3), .unset, .unset] [(.ref b3)])) _
    refine st8.trans ?_
    show Steps p.tables e below (T8.setTop (mkF m 37 #[.val (.int x0), .val (.int x1), .val (.int x2), .val (.int x3), .val (.int x4), .val (.int x5), .val (.ref b1), .val (.ref b3), .unset, .unset] [(.int (1 : Int32))])) _
    refine XS.ifNo X8.here hx rfl (hb hby at_37) rfl ((if0 _ _).trans (feq (by decide : ¬ ((1 : Int32) = (0 : Int32)))).1) ?_
    show Steps p.tables e below (T8.setTop (mkF m 40 #[.val (.int x0), .val (.int x1), .val (.int x2), .val (.int x3), .val (.int x4), .val (.int x5), .val (.ref b1), .val (.ref b3), .unset, .unset] [])) _
    refine XS.aload X8.here hx rfl (hb hby at_40) rfl rfl ?_
    show Steps p.tables e below (T8.setTop (mkF m 42 #[.val (.int x0), .val (.int x1), .val (.int x2), .val (.int x3), .val (.int x4), .val (.int x5), .val (.ref b1), .val (.ref b3), .unset, .unset] [(.ref b3)])) _
    refine st9.trans ?_
    show Steps p.tables e below (T9.setTop (mkF m 45 #[.val (.int x0), .val (.int x1), .val (.int x2), .val (.int x3), .val (.int x4), .val (.int x5), .val (.ref b1), .val (.ref b3), .unset, .unset] [(.int x0)])) _
    refine XS.iloadN X9.here hx rfl (hb hby at_45) rfl ?_
    show Steps p.tables e below (T9.setTop (mkF m 46 #[.val (.int x0), .val (.int x1), .val (.int x2), .val (.int x3), .val (.int x4), .val (.int x5), .val (.ref b1), .val (.ref b3), .unset, .unset] [(.int x0), (.int x0)])) _
    refine XS.icmpNo X9.here hx rfl (hb hby at_46) rfl (teq (rfl : x0 = x0)).2 ?_
    show Steps p.tables e below (T9.setTop (mkF m 49 #[.val (.int x0), .val (.int x1), .val (.int x2), .val (.int x3), .val (.int x4), .val (.int x5), .val (.ref b1), .val (.ref b3), .unset, .unset] [])) _
    refine XS.aload X9.here hx rfl (hb hby at_49) rfl rfl ?_
    show Steps p.tables e below (T9.setTop (mkF m 51 #[.val (.int x0), .val (.int x1), .val (.int x2), .val (.int x3), .val (.int x4), .val (.int x5), .val (.ref b1), .val (.ref b3), .unset, .unset] [(.ref b3)])) _
    refine st10.trans ?_
    show Steps p.tables e below (T10.setTop (mkF m 54 #[.val (.int x0), .val (.int x1), .val (.int x2), .val (.int x3), .val (.int x4), .val (.int x5), .val (.ref b1), .val (.ref b3), .unset, .unset] [(.int (x0 + (8 : Int32)))])) _
    refine XS.iloadN X10.here hx rfl (hb hby at_54) rfl ?_
    show Steps p.tables e below (T10.setTop (mkF m 55 #[.val (.int x0), .val (.int x1), .val (.int x2), .val (.int x3), .val (.int x4), .val (.int x5), .val (.ref b1), .val (.ref b3), .unset, .unset] [(.int x0), (.int (x0 + (8 : Int32)))])) _
    refine XS.bipush X10.here hx rfl (hb hby at_55) ?_
    show Steps p.tables e below (T10.setTop (mkF m 57 #[.val (.int x0), .val (.int x1), .val (.int x2), .val (.int x3), .val (.int x4), .val (.int x5), .val (.ref b1), .val (.ref b3), .unset, .unset] [(.int (8 : Int32)), (.int x0), (.int (x0 + (8 : Int32)))])) _
    refine XS.iadd X10.here hx rfl (hb hby at_57) rfl ?_
    show Steps p.tables e below (T10.setTop (mkF m 58 #[.val (.int x0), .val (.int x1), .val (.int x2), .val (.int x3), .val (.int x4), .val (.int x5), .val (.ref b1), .val (.ref b3), .unset, .unset] [(.int (x0 + (8 : Int32))), (.int (x0 + (8 : Int32)))])) _
    refine XS.icmpNo X10.here hx rfl (hb hby at_58) rfl (teq (rfl : (x0 + (8 : Int32)) = (x0 + (8 : Int32)))).2 ?_
    show Steps p.tables e below (T10.setTop (mkF m 61 #[.val (.int x0), .val (.int x1), .val (.int x2), .val (.int x3), .val (.int x4), .val (.int x5), .val (.ref b1), .val (.ref b3), .unset, .unset] [])) _
    refine XS.iconst X10.here hx rfl (hb hby at_61) ?_
    show Steps p.tables e below (T10.setTop (mkF m 62 #[.val (.int x0), .val (.int x1), .val (.int x2), .val (.int x3), .val (.int x4), .val (.int x5), .val (.ref b1), .val (.ref b3), .unset, .unset] [(.int (1 : Int32))])) _
    refine XS.goto X10.here hx rfl (pc0 := 62) (pc' := 66) rfl (hb hby at_62) (by decide) (by decide) ?_
    show Steps p.tables e below (T10.setTop (mkF m 66 #[.val (.int x0), .val (.int x1), .val (.int x2), .val (.int x3), .val (.int x4), .val (.int x5), .val (.ref b1), .val (.ref b3), .unset, .unset] [(.int (1 : Int32))])) _
    refine XS.istore X10.here hx rfl (hb hby at_66) rfl (l' := #[.val (.int x0), .val (.int x1), .val (.int x2), .val (.int x3), .val (.int x4), .val (.int x5), .val (.ref b1), .val (.ref b3), .val (.int (1 : Int32)), .unset]) rfl ?_
    show Steps p.tables e below (T10.setTop (mkF m 68 #[.val (.int x0), .val (.int x1), .val (.int x2), .val (.int x3), .val (.int x4), .val (.int x5), .val (.ref b1), .val (.ref b3), .val (.int (1 : Int32)), .unset] [])) _
    refine XS.aload X10.here hx rfl (hb hby at_68) rfl rfl ?_
    show Steps p.tables e below (T10.setTop (mkF m 70 #[.val (.int x0), .val (.int x1), .val (.int x2), .val (.int x3), .val (.int x4), .val (.int x5), .val (.ref b1), .val (.ref b3), .val (.int (1 : Int32)), .unset] [(.ref b3)])) _
    refine XS.iloadN X10.here hx rfl (hb hby at_70) rfl ?_
    show Steps p.tables e below (T10.setTop (mkF m 71 #[.val (.int x0), .val (.int x1), .val (.int x2), .val (.int x3), .val (.int x4), .val (.int x5), .val (.ref b1), .val (.ref b3), .val (.int (1 : Int32)), .unset] [(.int x1), (.ref b3)])) _
    refine st11.trans ?_
    show Steps p.tables e below (T11.setTop (mkF m 74 #[.val (.int x0), .val (.int x1), .val (.int x2), .val (.int x3), .val (.int x4), .val (.int x5), .val (.ref b1), .val (.ref b3), .val (.int (1 : Int32)), .unset] [(.ref b11)])) _
    refine XS.astore X11.here hx rfl (hb hby at_74) rfl rfl (l' := #[.val (.int x0), .val (.int x1), .val (.int x2), .val (.int x3), .val (.int x4), .val (.int x5), .val (.ref b1), .val (.ref b3), .val (.int (1 : Int32)), .val (.ref b11)]) rfl ?_
    show Steps p.tables e below (T11.setTop (mkF m 76 #[.val (.int x0), .val (.int x1), .val (.int x2), .val (.int x3), .val (.int x4), .val (.int x5), .val (.ref b1), .val (.ref b3), .val (.int (1 : Int32)), .val (.ref b11)] [])) _
    refine XS.iload X11.here hx rfl (hb hby at_76) rfl ?_
    show Steps p.tables e below (T11.setTop (mkF m 78 #[.val (.int x0), .val (.int x1), .val (.int x2), .val (.int x3), .val (.int x4), .val (.int x5), .val (.ref b1), .val (.ref b3), .val (.int (1 : Int32)), .val (.ref b11)] [(.int (1 : Int32))])) _
    refine XS.ifNo X11.here hx rfl (hb hby at_78) rfl ((if0 _ _).trans (feq (by decide : ¬ ((1 : Int32) = (0 : Int32)))).1) ?_
    show Steps p.tables e below (T11.setTop (mkF m 81 #[.val (.int x0), .val (.int x1), .val (.int x2), .val (.int x3), .val (.int x4), .val (.int x5), .val (.ref b1), .val (.ref b3), .val (.int (1 : Int32)), .val (.ref b11)] [])) _
    refine XS.aload X11.here hx rfl (hb hby at_81) rfl rfl ?_
    show Steps p.tables e below (T11.setTop (mkF m 83 #[.val (.int x0), .val (.int x1), .val (.int x2), .val (.int x3), .val (.int x4), .val (.int x5), .val (.ref b1), .val (.ref b3), .val (.int (1 : Int32)), .val (.ref b11)] [(.ref b1)])) _
    refine XS.aload X11.here hx rfl (hb hby at_83) rfl rfl ?_
    show Steps p.tables e below (T11.setTop (mkF m 85 #[.val (.int x0), .val (.int x1), .val (.int x2), .val (.int x3), .val (.int x4), .val (.int x5), .val (.ref b1), .val (.ref b3), .val (.int (1 : Int32)), .val (.ref b11)] [(.ref b11), (.ref b1)])) _
    refine st12.trans ?_
    show Steps p.tables e below (T12.setTop (mkF m 88 #[.val (.int x0), .val (.int x1), .val (.int x2), .val (.int x3), .val (.int x4), .val (.int x5), .val (.ref b1), .val (.ref b3), .val (.int (1 : Int32)), .val (.ref b11)] [(.ref b1), (.ref b1)])) _
    refine st13.trans ?_
    show Steps p.tables e below (T13.setTop (mkF m 91 #[.val (.int x0), .val (.int x1), .val (.int x2), .val (.int x3), .val (.int x4), .val (.int x5), .val (.ref b1), .val (.ref b3), .val (.int (1 : Int32)), .val (.ref b11)] [(.int (1 : Int32))])) _
    refine XS.ifNo X13.here hx rfl (hb hby at_91) rfl ((if0 _ _).trans (feq (by decide : ¬ ((1 : Int32) = (0 : Int32)))).1) ?_
    show Steps p.tables e below (T13.setTop (mkF m 94 #[.val (.int x0), .val (.int x1), .val (.int x2), .val (.int x3), .val (.int x4), .val (.int x5), .val (.ref b1), .val (.ref b3), .val (.int (1 : Int32)), .val (.ref b11)] [])) _
    refine XS.aload X13.here hx rfl (hb hby at_94) rfl rfl ?_
    show Steps p.tables e below (T13.setTop (mkF m 96 #[.val (.int x0), .val (.int x1), .val (.int x2), .val (.int x3), .val (.int x4), .val (.int x5), .val (.ref b1), .val (.ref b3), .val (.int (1 : Int32)), .val (.ref b11)] [(.ref b11)])) _
    refine st15.trans ?_
    show Steps p.tables e below (T15.setTop (mkF m 99 #[.val (.int x0), .val (.int x1), .val (.int x2), .val (.int x3), .val (.int x4), .val (.int x5), .val (.ref b1), .val (.ref b3), .val (.int (1 : Int32)), .val (.ref b11)] [(.int x0)])) _
    refine XS.iloadN X15.here hx rfl (hb hby at_99) rfl ?_
    show Steps p.tables e below (T15.setTop (mkF m 100 #[.val (.int x0), .val (.int x1), .val (.int x2), .val (.int x3), .val (.int x4), .val (.int x5), .val (.ref b1), .val (.ref b3), .val (.int (1 : Int32)), .val (.ref b11)] [(.int x0), (.int x0)])) _
    refine XS.icmpNo X15.here hx rfl (hb hby at_100) rfl (teq (rfl : x0 = x0)).2 ?_
    show Steps p.tables e below (T15.setTop (mkF m 103 #[.val (.int x0), .val (.int x1), .val (.int x2), .val (.int x3), .val (.int x4), .val (.int x5), .val (.ref b1), .val (.ref b3), .val (.int (1 : Int32)), .val (.ref b11)] [])) _
    refine XS.aload X15.here hx rfl (hb hby at_103) rfl rfl ?_
    show Steps p.tables e below (T15.setTop (mkF m 105 #[.val (.int x0), .val (.int x1), .val (.int x2), .val (.int x3), .val (.int x4), .val (.int x5), .val (.ref b1), .val (.ref b3), .val (.int (1 : Int32)), .val (.ref b11)] [(.ref b11)])) _
    refine st16.trans ?_
    show Steps p.tables e below (T16.setTop (mkF m 108 #[.val (.int x0), .val (.int x1), .val (.int x2), .val (.int x3), .val (.int x4), .val (.int x5), .val (.ref b1), .val (.ref b3), .val (.int (1 : Int32)), .val (.ref b11)] [(.int (x0 + (8 : Int32)))])) _
    refine XS.iloadN X16.here hx rfl (hb hby at_108) rfl ?_
    show Steps p.tables e below (T16.setTop (mkF m 109 #[.val (.int x0), .val (.int x1), .val (.int x2), .val (.int x3), .val (.int x4), .val (.int x5), .val (.ref b1), .val (.ref b3), .val (.int (1 : Int32)), .val (.ref b11)] [(.int x0), (.int (x0 + (8 : Int32)))])) _
    refine XS.bipush X16.here hx rfl (hb hby at_109) ?_
    show Steps p.tables e below (T16.setTop (mkF m 111 #[.val (.int x0), .val (.int x1), .val (.int x2), .val (.int x3), .val (.int x4), .val (.int x5), .val (.ref b1), .val (.ref b3), .val (.int (1 : Int32)), .val (.ref b11)] [(.int (8 : Int32)), (.int x0), (.int (x0 + (8 : Int32)))])) _
    refine XS.iadd X16.here hx rfl (hb hby at_111) rfl ?_
    show Steps p.tables e below (T16.setTop (mkF m 112 #[.val (.int x0), .val (.int x1), .val (.int x2), .val (.int x3), .val (.int x4), .val (.int x5), .val (.ref b1), .val (.ref b3), .val (.int (1 : Int32)), .val (.ref b11)] [(.int (x0 + (8 : Int32))), (.int (x0 + (8 : Int32)))])) _
    refine XS.icmpNo X16.here hx rfl (hb hby at_112) rfl (teq (rfl : (x0 + (8 : Int32)) = (x0 + (8 : Int32)))).2 ?_
    show Steps p.tables e below (T16.setTop (mkF m 115 #[.val (.int x0), .val (.int x1), .val (.int x2), .val (.int x3), .val (.int x4), .val (.int x5), .val (.ref b1), .val (.ref b3), .val (.int (1 : Int32)), .val (.ref b11)] [])) _
    refine XS.aload X16.here hx rfl (hb hby at_115) rfl rfl ?_
    show Steps p.tables e below (T16.setTop (mkF m 117 #[.val (.int x0), .val (.int x1), .val (.int x2), .val (.int x3), .val (.int x4), .val (.int x5), .val (.ref b1), .val (.ref b3), .val (.int (1 : Int32)), .val (.ref b11)] [(.ref b11)])) _
    refine st18.trans ?_
    show Steps p.tables e below (T18.setTop (mkF m 120 #[.val (.int x0), .val (.int x1), .val (.int x2), .val (.int x3), .val (.int x4), .val (.int x5), .val (.ref b1), .val (.ref b3), .val (.int (1 : Int32)), .val (.ref b11)] [(.int (1 : Int32))])) _
    refine XS.ifNo X18.here hx rfl (hb hby at_120) rfl ((if0 _ _).trans (feq (by decide : ¬ ((1 : Int32) = (0 : Int32)))).1) ?_
    show Steps p.tables e below (T18.setTop (mkF m 123 #[.val (.int x0), .val (.int x1), .val (.int x2), .val (.int x3), .val (.int x4), .val (.int x5), .val (.ref b1), .val (.ref b3), .val (.int (1 : Int32)), .val (.ref b11)] [])) _
    refine XS.iconst X18.here hx rfl (hb hby at_123) ?_
    show Steps p.tables e below (T18.setTop (mkF m 124 #[.val (.int x0), .val (.int x1), .val (.int x2), .val (.int x3), .val (.int x4), .val (.int x5), .val (.ref b1), .val (.ref b3), .val (.int (1 : Int32)), .val (.ref b11)] [(.int (1 : Int32))])) _
    refine XS.goto X18.here hx rfl (pc0 := 124) (pc' := 128) rfl (hb hby at_124) (by decide) (by decide) ?_
    show Steps p.tables e below (T18.setTop (mkF m 128 #[.val (.int x0), .val (.int x1), .val (.int x2), .val (.int x3), .val (.int x4), .val (.int x5), .val (.ref b1), .val (.ref b3), .val (.int (1 : Int32)), .val (.ref b11)] [(.int (1 : Int32))])) _
    exact retN X18 hx (t := .boolean) Bd.returns (by simp) (hb hby at_128) lhr
  · skip
    show Q0 Z x0 x1 x2 x3 x4 x5 G1 wd wom wfi h0 n0 _ T18.heap _
    rw [eq18]
    exact ⟨rfl, N18⟩
  · skip
    show CHr Z own_EL s.vm s.heap T18.vm T18.heap
    rw [hh]
    rw [eq18]
    exact CR11.trans (CHv.at X18 hZ1 hEL CR11.1)
set_option maxRecDepth 65536 in
set_option maxHeartbeats 40000000 in
theorem comes_1 {Post : Tables → Env → Array Value → State → Outcome → State → Prop} (hpost : ∀ tb e args s v u, (limb_1_1.after args s (.returned v) u = true ∧ limb_1_2.after args s (.returned v) u = true ∧ True) → FramedW s (.returned v) u (Jvm.fieldLocs frame_1_writes args s ++ Jvm.arrayLocs frame_1_arrays args s ++ Jvm.staticLocs frame_1_statics s) 24 1152 → Post tb e args s (.returned v) u) :
    ArmFor flags0 classFile x code maxLocals ret World_1 tables_1 room_1 Calls_1 rest_1 Pre_1 Post := by
  intro l hfl _ _ p e ha hc hk s m args below hf hA hF happ hP
  obtain ⟨hcalls, hrest, hpre⟩ := hP
  obtain ⟨-, -, -, hnamed, -, -, -, hat⟩ := (Spec.applies_iff hf).mp happ
  obtain ⟨hg, hn⟩ := and_e (Cond.before_iff.mp (show (Jvm.Cond.and given_1 narrow_1).before args s = true from hpre))
  obtain ⟨g1a, g1b⟩ := and_e hg
  obtain ⟨g2a, g2b⟩ := and_e g1b
  obtain ⟨g3a, g3b⟩ := and_e g2b
  obtain ⟨g4a, g4b⟩ := and_e g3b
  obtain ⟨g5a, g5b⟩ := and_e g4b
  obtain ⟨g6a, g6b⟩ := and_e g5b
  obtain ⟨u7a, u7b⟩ := and_e hn
  obtain ⟨u8a, u8b⟩ := and_e u7b
  obtain ⟨u9a, u9b⟩ := and_e u8b
  obtain ⟨u10a, u10b⟩ := and_e u9b
  obtain ⟨u11a, u11b⟩ := and_e u10b
  obtain ⟨w0, w1, w2, w3, w4, w5, rfl⟩ : ∃ w0 w1 w2 w3 w4 w5 : Value, args = #[w0, w1, w2, w3, w4, w5] := by
    have hs : args.size = 6 := by simpa [Cond.value, given_1] using g1a
    obtain ⟨L⟩ := args
    match L, hs with
    | [w0, w1, w2, w3, w4, w5], _ => exact ⟨w0, w1, w2, w3, w4, w5, rfl⟩
  have hw := fun d (hd : d ∈ tables_1) => atoms_spec (ws := Jvm.Cond.code x code maxLocals ret :: tables_1) hat d (List.mem_cons_of_mem _ hd)
  have hfit : Fit s := fun {y c} hc i hi => by
    obtain ⟨ha, rfl⟩ := Array.getElem?_eq_some_iff.mp hc
    have q := List.all_eq_true.mp ((Array.all_eq_true_iff_forall_mem.mp hF) _ (Array.getElem_mem ha)) i (List.mem_range.mpr hi)
    simpa [Array.getElem?_eq_getElem hi] using q
  obtain ⟨hsets, hown0⟩ := atoms_of _ (rest_1_c_eq ▸ (show rest_1_c.before _ s = true from hrest))
  have hr0 := Cond.before_iff.mp hown0
  obtain ⟨i0, ei0⟩ := is_v g2a
  obtain rfl : w0 = (.int i0) := Option.some.inj ei0
  obtain ⟨i1, ei1⟩ := is_v g3a
  obtain rfl : w1 = (.int i1) := Option.some.inj ei1
  obtain ⟨i2, ei2⟩ := is_v g4a
  obtain rfl : w2 = (.int i2) := Option.some.inj ei2
  obtain ⟨i3, ei3⟩ := is_v g5a
  obtain rfl : w3 = (.int i3) := Option.some.inj ei3
  obtain ⟨i4, ei4⟩ := is_v g6a
  obtain rfl : w4 = (.int i4) := Option.some.inj ei4
  obtain ⟨i5, ei5⟩ := is_v g6b
  obtain rfl : w5 = (.int i5) := Option.some.inj ei5
  obtain ⟨G1, eG1⟩ := is_v (Cond.before_iff.mp (hsets _ (List.mem_of_getElem? (i := 1) rfl)))
  have O2 := Sta.start eG1 (Or.inl (hsets _ (List.mem_of_getElem? (i := 0) rfl)))
  have P5 : ¬ (G1 = (0 : Int32)) := gotF (Cond.eq_ints eG1 (Term.int_eval (0))) (not_v (Cond.before_iff.mp (hsets _ (List.mem_of_getElem? (i := 2) rfl))))
  have hCH : CHv s own_EL s.vm s.heap := CHv.start (own_EW _ s hw) (fun p hp => hcalls.1 p hp) (hsets _ (List.mem_of_getElem? (i := 2) rfl)) (wd23 hw) (wd5 hw)
  obtain ⟨wd, ev_wd⟩ := exa_v u7a
  have O_wd := own_fldInt ev_wd u9a
  have S_wd := Sta.start ev_wd (Or.inr ⟨(wd41 hw), (wd42 hw)⟩)
  obtain ⟨wom, ev_wom⟩ := exa_v u8a
  have O_wom := own_fldInt ev_wom u10a
  have S_wom := Sta.start ev_wom (Or.inr ⟨(wd41 hw), (wd76 hw)⟩)
  obtain ⟨wfi, ev_wfi⟩ := exa_v u11a
  have O_wfi := own_fldInt ev_wfi u11b
  have S_wfi := Sta.start ev_wfi (Or.inr ⟨(wd41 hw), (wd78 hw)⟩)
  obtain ⟨n, o, h1, h2, h3, _, L, rfl, ⟨rfl, N⟩, -, hq⟩ := rm0 l s _ hw tables_1 i0 i1 i2 i3 i4 i5 G1 wd wom wfi s.heap s.heap.size (Nat.le_refl _) O2 P5 (Old.start s) S_wd S_wom S_wfi (Fld.ne O_wd O_wom (by decide)) (Fld.ne O_wd O_wfi (by decide)) p e ha hc hk s m _ below hf ((Spec.applies_iff_loose hf).mp happ).1 ⟨rfl, State.Warmed39.refl s, rfl, hCH, fun x hx => by cases hx⟩ trivial
  refine ⟨n, _, h1, h2, h3, hpost _ _ _ _ _ _ ⟨Cond.after_iff.mpr rfl, Cond.after_iff.mpr (eq_i res_at (Term.int_eval (1)) rfl), trivial⟩ ⟨hq.1, hq.2.1, hq.2.2.1, (hq.2.2.2.sift fun y hy => Or.inr (N y hy)).mono (by decide) (by decide)⟩⟩
theorem main_1_1 : Claimed_1_1 := comes_1 fun _ _ _ _ _ _ h hF => ⟨h.1, hF⟩
theorem main_1_2 : Claimed_1_2 := comes_1 fun _ _ _ _ _ _ h hF => ⟨h.2.1, hF⟩
end Jvm.Pilot.@@N@@
namespace Jvm.Pilot.@@N@@
open Jvm Jvm.ClassFile Sem Op Lib Jvm.Free Jvm.Stand Jvm.Pilot.@@N@@.Jvm.D
/-! MADE BY PROGRAM (witnessworld.py) out of the Statement's table words and the real class files: 22 classes; the members and pool entries that the words name. The judged class is class 1, her method 2. -/
namespace start1
open Jvm.ClassFile
def u (s : String) : CpInfo := .utf8 (stringToUtf16 s)
/-- a pool by its gaps: so many unusable entries, then the entry; so many at the end -/
def gap : Nat → List CpInfo → List CpInfo
  | 0, r => r
  | n + 1, r => .unusable :: gap n r
def poolList (es : List (Nat × CpInfo)) (last : Nat) : List CpInfo := es.foldr (fun e r => gap e.1 (e.2 :: r)) (gap last [])
def pool (es : List (Nat × CpInfo)) (last : Nat) : Array CpInfo := ⟨poolList es last⟩
def fileOf (pool : Array CpInfo) (this : Nat) (attrs : Array Attribute := #[]) (ms : Array MethodInfo := #[]) (fl : Nat := 33) (sup : Nat := 0) (ifs : Array Nat := #[]) (fds : Array FieldInfo := #[]) : ClassFile where
  minorVersion := 0
  majorVersion := 65
  constantPool := pool
  accessFlags := fl
  thisClass := this
  superClass := sup
  interfaces := ifs
  fields := fds
  methods := ms
  attributes := attrs
def plain (name : String) (sup : Option ClassId) : Class where
  name := name
  kind := .ordinary
  loader := none
  accessFlags := 33
  super := sup
  interfaces := #[]
  cf := none
  fields := #[]
  methods := #[]
  instanceTypes := #[]
  staticTypes := #[]
  resolved := #[]
  callSites := []
  init := .initialized
  statics := none
  mirror := none

def pool0 : Array CpInfo := pool [(5, u "<init>"), (0, u "()V"), (1, .class_ 10), (1, u "java/lang/Object")] 113

def k0c0 : Code := { maxStack := 0, maxLocals := 1, code := object_method_1_code, exceptionTable := #[], attributes := #[] }
def k0m0 : Method := { name := "<init>", desc := "()V", sig := { parameters := [], returnType := none }, accessFlags := 1, code := some k0c0 }
/-- java/lang/Object -/
def k0 : Class := { plain "java/lang/Object" none with
  accessFlags := 33
  interfaces := #[]
  cf := some (fileOf pool0 8 #[] #[{ accessFlags := 1, nameIndex := 5, descriptorIndex := 6, attributes := #[] }] 33 0 #[] #[])
  fields := #[]
  methods := #[k0m0]
  instanceTypes := #[]
  staticTypes := #[]
  resolved := Array.replicate 124 none
  statics := none }

def pool1 : Array CpInfo := pool [(2, .class_ 4), (1, u "java/lang/Object"), (0, u "<init>"), (0, u "()V"), (0, .class_ 8), (0, u "java/lang/String"), (0, .methodref 7 10), (0, .nameAndType 5 11), (0, u "([C)V"), (0, .methodref 13 14), (0, .class_ 15), (0, .nameAndType 16 17), (0, u "com/example/tickreel/tickreel/BinaryFieldI64PinLaw"), (0, u "drawName"), (0, u "(IIII)Ljava/lang/String;"), (0, .methodref 19 20), (0, .class_ 21), (0, .nameAndType 22 23), (0, u "com/example/tickreel/tickreel/BinaryField"), (0, u "i64"), (0, u "(Ljava/lang/String;I)Lcom/example/tickreel/tickreel/BinaryField;"), (0, .methodref 19 25), (0, .nameAndType 26 27), (0, u "name"), (0, u "()Ljava/lang/String;"), (0, .methodref 7 29), (0, .nameAndType 30 31), (0, u "equals"), (0, u "(Ljava/lang/Object;)Z"), (0, .methodref 19 33), (0, .nameAndType 34 35), (0, u "written"), (0, u "()Z"), (0, .methodref 19 37), (0, .nameAndType 38 39), (0, u "offset"), (0, u "()I"), (0, .methodref 19 41), (0, .nameAndType 42 39), (0, u "end"), (0, .methodref 19 44), (0, .nameAndType 45 46), (0, u "scaledBy"), (0, u "(I)Lcom/example/tickreel/tickreel/BinaryField;"), (3, u "law"), (0, u "(IIIIII)Z")] 2

def k1m0 : Method := { name := "<init>", desc := "()V", sig := { parameters := [], returnType := none }, accessFlags := 2, code := none }
def k1c1 : Code := { maxStack := 6, maxLocals := 8, code := method_2_code, exceptionTable := #[], attributes := #[] }
def k1m1 : Method := { name := "drawName", desc := "(IIII)Ljava/lang/String;", sig := { parameters := [.int, .int, .int, .int], returnType := some (.object "java/lang/String") }, accessFlags := 10, code := some k1c1 }
def k1c2 : Code := { maxStack := 4, maxLocals := 10, code := code, exceptionTable := #[], attributes := #[] }
def k1m2 : Method := { name := "law", desc := "(IIIIII)Z", sig := { parameters := [.int, .int, .int, .int, .int, .int], returnType := some .boolean }, accessFlags := 9, code := some k1c2 }
/-- com/example/tickreel/tickreel/BinaryFieldI64PinLaw -/
def k1 : Class := { plain "com/example/tickreel/tickreel/BinaryFieldI64PinLaw" (some 0) with
  accessFlags := 49
  interfaces := #[]
  cf := some (fileOf pool1 13 #[] #[{ accessFlags := 2, nameIndex := 5, descriptorIndex := 6, attributes := #[] }, { accessFlags := 10, nameIndex := 16, descriptorIndex := 17, attributes := #[] }, { accessFlags := 9, nameIndex := 50, descriptorIndex := 51, attributes := #[] }] 49 2 #[] #[])
  fields := #[]
  methods := #[k1m0, k1m1, k1m2]
  instanceTypes := #[]
  staticTypes := #[]
  resolved := Array.replicate 54 none
  statics := none }

def pool2 : Array CpInfo := pool [(1, .class_ 2), (0, u "java/io/Serializable"), (0, .class_ 4), (0, u "java/lang/Object")] 2

/-- java/io/Serializable -/
def k2 : Class := { plain "java/io/Serializable" (some 0) with
  accessFlags := 1537
  interfaces := #[]
  cf := some (fileOf pool2 1 #[] #[] 1537 3 #[] #[])
  fields := #[]
  methods := #[]
  instanceTypes := #[]
  staticTypes := #[]
  resolved := Array.replicate 7 none
  statics := none }

def pool3 : Array CpInfo := pool [(1, .class_ 2), (0, u "java/lang/Comparable"), (0, .class_ 4), (0, u "java/lang/Object")] 7

/-- java/lang/Comparable -/
def k3 : Class := { plain "java/lang/Comparable" (some 0) with
  accessFlags := 1537
  interfaces := #[]
  cf := some (fileOf pool3 1 #[] #[] 1537 3 #[] #[])
  fields := #[]
  methods := #[]
  instanceTypes := #[]
  staticTypes := #[]
  resolved := Array.replicate 12 none
  statics := none }

def pool4 : Array CpInfo := pool [(2, .class_ 4), (1, u "java/lang/CharSequence"), (42, .class_ 48), (0, u "java/lang/CharSequence$1CodePointIterator"), (10, .class_ 60), (0, u "java/lang/CharSequence$1CharIterator"), (5, .class_ 67), (0, u "java/lang/Object")] 63

/-- java/lang/CharSequence -/
def k4 : Class := { plain "java/lang/CharSequence" (some 0) with
  accessFlags := 1537
  interfaces := #[]
  cf := some (fileOf pool4 2 #[.nestMembers #[47, 59]] #[] 1537 66 #[] #[])
  fields := #[]
  methods := #[]
  instanceTypes := #[]
  staticTypes := #[]
  resolved := Array.replicate 131 none
  statics := none }

def pool5 : Array CpInfo := pool [(1, .class_ 2), (0, u "java/lang/constant/Constable"), (0, .class_ 4), (0, u "java/lang/Object")] 6

/-- java/lang/constant/Constable -/
def k5 : Class := { plain "java/lang/constant/Constable" (some 0) with
  accessFlags := 1537
  interfaces := #[]
  cf := some (fileOf pool5 1 #[] #[] 1537 3 #[] #[])
  fields := #[]
  methods := #[]
  instanceTypes := #[]
  staticTypes := #[]
  resolved := Array.replicate 11 none
  statics := none }

def pool6 : Array CpInfo := pool [(1, .class_ 2), (0, u "java/lang/constant/ConstantDesc"), (0, .class_ 4), (0, u "java/lang/Object")] 32

/-- java/lang/constant/ConstantDesc -/
def k6 : Class := { plain "java/lang/constant/ConstantDesc" (some 0) with
  accessFlags := 1537
  interfaces := #[]
  cf := some (fileOf pool6 1 #[] #[] 1537 3 #[] #[])
  fields := #[]
  methods := #[]
  instanceTypes := #[]
  staticTypes := #[]
  resolved := Array.replicate 37 none
  statics := none }

def pool7 : Array CpInfo := pool [(1, .methodref 2 3), (0, .class_ 4), (0, .nameAndType 5 6), (0, u "java/lang/Object"), (0, u "<init>"), (0, u "()V"), (0, .string 8), (0, u ""), (0, .fieldref 10 11), (0, .class_ 12), (0, .nameAndType 13 14), (0, u "java/lang/String"), (0, u "value"), (0, u "[B"), (0, .fieldref 10 16), (0, .nameAndType 17 18), (0, u "coder"), (0, u "B"), (2, u "hash"), (0, u "I"), (2, u "hashIsZero"), (0, u "Z"), (0, .methodref 10 28), (0, .nameAndType 5 29), (0, u "([CIILjava/lang/Void;)V"), (8, .fieldref 10 39), (0, .nameAndType 40 26), (0, u "COMPACT_STRINGS"), (1, .class_ 44), (1, u "java/lang/StringUTF16"), (0, u "compress"), (1, .methodref 42 48), (0, .nameAndType 49 50), (0, u "coderFromArrayLen"), (0, u "([BI)B"), (126, .methodref 42 178), (0, .nameAndType 45 179), (0, u "([CII)[B"), (363, u "equals"), (29, u "(Ljava/lang/Object;)Z"), (1, .class_ 576), (0, u "java/lang/CharSequence"), (22, u "CASE_INSENSITIVE_ORDER"), (0, u "Ljava/util/Comparator;"), (409, u "([C)V"), (90, u "serialPersistentFields"), (0, u "[Ljava/io/ObjectStreamField;"), (0, .class_ 1104), (0, u "java/lang/String$CaseInsensitiveComparator"), (1, .class_ 1107), (0, u "java/io/Serializable"), (0, .class_ 1109), (0, u "java/lang/Comparable"), (0, .class_ 1111), (0, u "java/lang/constant/Constable"), (0, .class_ 1113), (0, u "java/lang/constant/ConstantDesc"), (2, u "serialVersionUID"), (0, u "J"), (3, u "REPL"), (0, u "C"), (2, u "LATIN1"), (1, u "UTF16")] 323

def k7m0 : Method := { name := "<init>", desc := "()V", sig := { parameters := [], returnType := none }, accessFlags := 1, code := none }
def k7c1 : Code := { maxStack := 5, maxLocals := 2, code := jdk_42_method_3_code, exceptionTable := #[], attributes := #[] }
def k7m1 : Method := { name := "<init>", desc := "([C)V", sig := { parameters := [(.array .char)], returnType := none }, accessFlags := 1, code := some k7c1 }
def k7c2 : Code := { maxStack := 2, maxLocals := 3, code := jdk_42_method_66_code, exceptionTable := #[], attributes := #[] }
def k7m2 : Method := { name := "equals", desc := "(Ljava/lang/Object;)Z", sig := { parameters := [(.object "java/lang/Object")], returnType := some .boolean }, accessFlags := 1, code := some k7c2 }
def k7c3 : Code := { maxStack := 4, maxLocals := 6, code := jdk_42_method_149_code, exceptionTable := #[], attributes := #[] }
def k7m3 : Method := { name := "<init>", desc := "([CIILjava/lang/Void;)V", sig := { parameters := [(.array .char), .int, .int, (.object "java/lang/Void")], returnType := none }, accessFlags := 2, code := some k7c3 }
/-- java/lang/String -/
def k7 : Class := { plain "java/lang/String" (some 0) with
  accessFlags := 49
  interfaces := #[2, 3, 4, 5, 6]
  cf := some (fileOf pool7 10 #[.nestMembers #[1103]] #[{ accessFlags := 1, nameIndex := 5, descriptorIndex := 6, attributes := #[] }, { accessFlags := 1, nameIndex := 5, descriptorIndex := 1010, attributes := #[] }, { accessFlags := 1, nameIndex := 543, descriptorIndex := 573, attributes := #[] }, { accessFlags := 2, nameIndex := 5, descriptorIndex := 29, attributes := #[] }] 49 2 #[1106, 1108, 575, 1110, 1112] #[{ accessFlags := 18, nameIndex := 13, descriptorIndex := 14, attributes := #[] }, { accessFlags := 18, nameIndex := 17, descriptorIndex := 18, attributes := #[] }, { accessFlags := 2, nameIndex := 21, descriptorIndex := 22, attributes := #[] }, { accessFlags := 2, nameIndex := 25, descriptorIndex := 26, attributes := #[] }, { accessFlags := 26, nameIndex := 1116, descriptorIndex := 1117, attributes := #[] }, { accessFlags := 24, nameIndex := 40, descriptorIndex := 26, attributes := #[] }, { accessFlags := 26, nameIndex := 1101, descriptorIndex := 1102, attributes := #[] }, { accessFlags := 26, nameIndex := 1121, descriptorIndex := 1122, attributes := #[] }, { accessFlags := 25, nameIndex := 599, descriptorIndex := 600, attributes := #[] }, { accessFlags := 24, nameIndex := 1125, descriptorIndex := 18, attributes := #[] }, { accessFlags := 24, nameIndex := 1127, descriptorIndex := 18, attributes := #[] }])
  fields := #[{ name := "value", type := (.array .byte), accessFlags := 18, slot := 0, constantValue := 0 }, { name := "coder", type := .byte, accessFlags := 18, slot := 1, constantValue := 0 }, { name := "hash", type := .int, accessFlags := 2, slot := 2, constantValue := 0 }, { name := "hashIsZero", type := .boolean, accessFlags := 2, slot := 3, constantValue := 0 }, { name := "serialVersionUID", type := .long, accessFlags := 26, slot := 0, constantValue := 0 }, { name := "COMPACT_STRINGS", type := .boolean, accessFlags := 24, slot := 1, constantValue := 0 }, { name := "serialPersistentFields", type := (.array (.object "java/io/ObjectStreamField")), accessFlags := 26, slot := 2, constantValue := 0 }, { name := "REPL", type := .char, accessFlags := 26, slot := 3, constantValue := 0 }, { name := "CASE_INSENSITIVE_ORDER", type := (.object "java/util/Comparator"), accessFlags := 25, slot := 4, constantValue := 0 }, { name := "LATIN1", type := .byte, accessFlags := 24, slot := 5, constantValue := 0 }, { name := "UTF16", type := .byte, accessFlags := 24, slot := 6, constantValue := 0 }]
  methods := #[k7m0, k7m1, k7m2, k7m3]
  instanceTypes := #[(.array .byte), .byte, .int, .boolean]
  staticTypes := #[.long, .boolean, (.array (.object "java/io/ObjectStreamField")), .char, (.object "java/util/Comparator"), .byte, .byte]
  resolved := Array.replicate 1451 none
  statics := some 0 }

def pool8 : Array CpInfo := pool [(6, .class_ 8), (1, u "java/lang/Object"), (0, u "<init>"), (0, u "()V"), (1, .class_ 14), (1, u "java/lang/StringUTF16"), (31, u "$assertionsDisabled"), (0, u "Z"), (13, u "HI_BYTE_SHIFT"), (0, u "I"), (2, u "LO_BYTE_SHIFT"), (49, .methodref 12 116), (0, .nameAndType 117 118), (0, u "compress"), (0, u "([CI[BII)I"), (3, u "([CII)[B"), (138, u "coderFromArrayLen"), (0, u "([BI)B"), (106, .class_ 371), (1, u "java/lang/StringUTF16$LinesSpliterator"), (58, u "MAX_LENGTH"), (196, .class_ 628), (0, u "java/lang/StringUTF16$CodePointsSpliterator"), (0, .class_ 630), (0, u "java/lang/StringUTF16$CharsSpliterator")] 4

def k8m0 : Method := { name := "<init>", desc := "()V", sig := { parameters := [], returnType := none }, accessFlags := 0, code := none }
def k8c1 : Code := { maxStack := 2, maxLocals := 2, code := jdk_52_method_15_code, exceptionTable := #[], attributes := #[] }
def k8m1 : Method := { name := "coderFromArrayLen", desc := "([BI)B", sig := { parameters := [(.array .byte), .int], returnType := some .byte }, accessFlags := 8, code := some k8c1 }
def k8c2 : Code := { maxStack := 5, maxLocals := 6, code := jdk_52_method_16_code, exceptionTable := #[], attributes := #[] }
def k8m2 : Method := { name := "compress", desc := "([CII)[B", sig := { parameters := [(.array .char), .int, .int], returnType := some (.array .byte) }, accessFlags := 9, code := some k8c2 }
def k8c3 : Code := { maxStack := 3, maxLocals := 7, code := jdk_52_method_21_code, exceptionTable := #[], attributes := #[] }
def k8m3 : Method := { name := "compress", desc := "([CI[BII)I", sig := { parameters := [(.array .char), .int, (.array .byte), .int, .int], returnType := some .int }, accessFlags := 9, code := some k8c3 }
/-- java/lang/StringUTF16 -/
def k8 : Class := { plain "java/lang/StringUTF16" (some 0) with
  accessFlags := 48
  interfaces := #[]
  cf := some (fileOf pool8 12 #[.nestMembers #[627, 629, 369]] #[{ accessFlags := 0, nameIndex := 9, descriptorIndex := 10, attributes := #[] }, { accessFlags := 8, nameIndex := 261, descriptorIndex := 262, attributes := #[] }, { accessFlags := 9, nameIndex := 117, descriptorIndex := 122, attributes := #[] }, { accessFlags := 9, nameIndex := 117, descriptorIndex := 118, attributes := #[] }] 48 6 #[] #[{ accessFlags := 26, nameIndex := 61, descriptorIndex := 62, attributes := #[] }, { accessFlags := 26, nameIndex := 65, descriptorIndex := 62, attributes := #[] }, { accessFlags := 24, nameIndex := 430, descriptorIndex := 62, attributes := #[] }, { accessFlags := 4120, nameIndex := 46, descriptorIndex := 47, attributes := #[] }])
  fields := #[{ name := "HI_BYTE_SHIFT", type := .int, accessFlags := 26, slot := 0, constantValue := 0 }, { name := "LO_BYTE_SHIFT", type := .int, accessFlags := 26, slot := 1, constantValue := 0 }, { name := "MAX_LENGTH", type := .int, accessFlags := 24, slot := 2, constantValue := 0 }, { name := "$assertionsDisabled", type := .boolean, accessFlags := 4120, slot := 3, constantValue := 0 }]
  methods := #[k8m0, k8m1, k8m2, k8m3]
  instanceTypes := #[]
  staticTypes := #[.int, .int, .int, .boolean]
  resolved := Array.replicate 635 none
  statics := none }

def pool9 : Array CpInfo := pool [(1, .methodref 2 3), (0, .class_ 4), (0, .nameAndType 5 6), (0, u "java/lang/Object"), (0, u "<init>"), (0, u "()V"), (0, .fieldref 8 9), (0, .class_ 10), (0, .nameAndType 11 12), (0, u "com/example/tickreel/tickreel/BinaryField"), (0, u "name"), (0, u "Ljava/lang/String;"), (0, .fieldref 8 14), (0, .nameAndType 15 16), (0, u "type"), (0, u "Lcom/example/tickreel/tickreel/BinaryField$Type;"), (0, .fieldref 8 18), (0, .nameAndType 19 20), (0, u "offset"), (0, u "I"), (0, .fieldref 8 22), (0, .nameAndType 23 20), (0, u "width"), (0, .fieldref 8 25), (0, .nameAndType 26 20), (0, u "decimalsAt"), (0, .methodref 8 28), (0, .nameAndType 5 29), (0, u "(Ljava/lang/String;Lcom/example/tickreel/tickreel/BinaryField$Type;III)V"), (1, .class_ 33), (1, u "com/example/tickreel/tickreel/BinaryField$Type"), (1, .methodref 8 36), (0, .nameAndType 5 37), (0, u "(Ljava/lang/String;Lcom/example/tickreel/tickreel/BinaryField$Type;II)V"), (0, .fieldref 31 39), (0, .nameAndType 40 16), (0, u "SIGNED"), (5, u "TIMESTAMP"), (2, u "DATE_TIME"), (0, .fieldref 31 51), (0, .nameAndType 52 16), (0, u "OMITTED"), (1, u "FILLER"), (0, .fieldref 31 56), (0, .nameAndType 54 16), (12, u "()I"), (34, u "()Ljava/lang/String;"), (76, u "Ljava/time/format/DateTimeFormatter;"), (26, u "NANOS_PER_SECOND"), (0, u "J"), (1, u "NANOS_PER_MILLISECOND"), (0, u "UNSCALED"), (4, u "(Ljava/lang/String;I)Lcom/example/tickreel/tickreel/BinaryField;"), (4, u "i64"), (7, u "scaledBy"), (0, u "(I)Lcom/example/tickreel/tickreel/BinaryField;"), (1, u "written"), (0, u "()Z"), (0, u "end")] 28

def k9c0 : Code := { maxStack := 2, maxLocals := 6, code := prog_1_method_1_code, exceptionTable := #[], attributes := #[] }
def k9m0 : Method := { name := "<init>", desc := "(Ljava/lang/String;Lcom/example/tickreel/tickreel/BinaryField$Type;III)V", sig := { parameters := [(.object "java/lang/String"), (.object "com/example/tickreel/tickreel/BinaryField$Type"), .int, .int, .int], returnType := none }, accessFlags := 2, code := some k9c0 }
def k9c1 : Code := { maxStack := 6, maxLocals := 5, code := prog_1_method_2_code, exceptionTable := #[], attributes := #[] }
def k9m1 : Method := { name := "<init>", desc := "(Ljava/lang/String;Lcom/example/tickreel/tickreel/BinaryField$Type;II)V", sig := { parameters := [(.object "java/lang/String"), (.object "com/example/tickreel/tickreel/BinaryField$Type"), .int, .int], returnType := none }, accessFlags := 2, code := some k9c1 }
def k9c2 : Code := { maxStack := 6, maxLocals := 2, code := prog_1_method_8_code, exceptionTable := #[], attributes := #[] }
def k9m2 : Method := { name := "i64", desc := "(Ljava/lang/String;I)Lcom/example/tickreel/tickreel/BinaryField;", sig := { parameters := [(.object "java/lang/String"), .int], returnType := some (.object "com/example/tickreel/tickreel/BinaryField") }, accessFlags := 8, code := some k9c2 }
def k9c3 : Code := { maxStack := 7, maxLocals := 2, code := prog_1_method_14_code, exceptionTable := #[], attributes := #[] }
def k9m3 : Method := { name := "scaledBy", desc := "(I)Lcom/example/tickreel/tickreel/BinaryField;", sig := { parameters := [.int], returnType := some (.object "com/example/tickreel/tickreel/BinaryField") }, accessFlags := 0, code := some k9c3 }
def k9c4 : Code := { maxStack := 1, maxLocals := 1, code := prog_1_method_15_code, exceptionTable := #[], attributes := #[] }
def k9m4 : Method := { name := "name", desc := "()Ljava/lang/String;", sig := { parameters := [], returnType := some (.object "java/lang/String") }, accessFlags := 0, code := some k9c4 }
def k9c5 : Code := { maxStack := 2, maxLocals := 1, code := prog_1_method_16_code, exceptionTable := #[], attributes := #[] }
def k9m5 : Method := { name := "written", desc := "()Z", sig := { parameters := [], returnType := some .boolean }, accessFlags := 0, code := some k9c5 }
def k9c6 : Code := { maxStack := 1, maxLocals := 1, code := prog_1_method_17_code, exceptionTable := #[], attributes := #[] }
def k9m6 : Method := { name := "offset", desc := "()I", sig := { parameters := [], returnType := some .int }, accessFlags := 0, code := some k9c6 }
def k9c7 : Code := { maxStack := 2, maxLocals := 1, code := prog_1_method_18_code, exceptionTable := #[], attributes := #[] }
def k9m7 : Method := { name := "end", desc := "()I", sig := { parameters := [], returnType := some .int }, accessFlags := 0, code := some k9c7 }
/-- com/example/tickreel/tickreel/BinaryField -/
def k9 : Class := { plain "com/example/tickreel/tickreel/BinaryField" (some 0) with
  accessFlags := 32
  interfaces := #[]
  cf := some (fileOf pool9 8 #[.nestMembers #[31]] #[{ accessFlags := 2, nameIndex := 5, descriptorIndex := 29, attributes := #[] }, { accessFlags := 2, nameIndex := 5, descriptorIndex := 37, attributes := #[] }, { accessFlags := 8, nameIndex := 222, descriptorIndex := 217, attributes := #[] }, { accessFlags := 0, nameIndex := 230, descriptorIndex := 231, attributes := #[] }, { accessFlags := 0, nameIndex := 11, descriptorIndex := 104, attributes := #[] }, { accessFlags := 0, nameIndex := 233, descriptorIndex := 234, attributes := #[] }, { accessFlags := 0, nameIndex := 19, descriptorIndex := 69, attributes := #[] }, { accessFlags := 0, nameIndex := 235, descriptorIndex := 69, attributes := #[] }] 32 2 #[] #[{ accessFlags := 26, nameIndex := 46, descriptorIndex := 181, attributes := #[] }, { accessFlags := 26, nameIndex := 49, descriptorIndex := 181, attributes := #[] }, { accessFlags := 26, nameIndex := 208, descriptorIndex := 209, attributes := #[] }, { accessFlags := 26, nameIndex := 211, descriptorIndex := 209, attributes := #[] }, { accessFlags := 26, nameIndex := 212, descriptorIndex := 20, attributes := #[] }, { accessFlags := 18, nameIndex := 11, descriptorIndex := 12, attributes := #[] }, { accessFlags := 18, nameIndex := 15, descriptorIndex := 16, attributes := #[] }, { accessFlags := 18, nameIndex := 19, descriptorIndex := 20, attributes := #[] }, { accessFlags := 18, nameIndex := 23, descriptorIndex := 20, attributes := #[] }, { accessFlags := 18, nameIndex := 26, descriptorIndex := 20, attributes := #[] }])
  fields := #[{ name := "TIMESTAMP", type := (.object "java/time/format/DateTimeFormatter"), accessFlags := 26, slot := 0, constantValue := 0 }, { name := "DATE_TIME", type := (.object "java/time/format/DateTimeFormatter"), accessFlags := 26, slot := 1, constantValue := 0 }, { name := "NANOS_PER_SECOND", type := .long, accessFlags := 26, slot := 2, constantValue := 0 }, { name := "NANOS_PER_MILLISECOND", type := .long, accessFlags := 26, slot := 3, constantValue := 0 }, { name := "UNSCALED", type := .int, accessFlags := 26, slot := 4, constantValue := 0 }, { name := "name", type := (.object "java/lang/String"), accessFlags := 18, slot := 0, constantValue := 0 }, { name := "type", type := (.object "com/example/tickreel/tickreel/BinaryField$Type"), accessFlags := 18, slot := 1, constantValue := 0 }, { name := "offset", type := .int, accessFlags := 18, slot := 2, constantValue := 0 }, { name := "width", type := .int, accessFlags := 18, slot := 3, constantValue := 0 }, { name := "decimalsAt", type := .int, accessFlags := 18, slot := 4, constantValue := 0 }]
  methods := #[k9m0, k9m1, k9m2, k9m3, k9m4, k9m5, k9m6, k9m7]
  instanceTypes := #[(.object "java/lang/String"), (.object "com/example/tickreel/tickreel/BinaryField$Type"), .int, .int, .int]
  staticTypes := #[(.object "java/time/format/DateTimeFormatter"), (.object "java/time/format/DateTimeFormatter"), .long, .long, .int]
  resolved := Array.replicate 264 none
  statics := none }

def pool10 : Array CpInfo := pool [(2, .class_ 4), (1, u "java/lang/Enum"), (0, u "name"), (0, u "Ljava/lang/String;"), (2, u "ordinal"), (0, u "I"), (1, .class_ 14), (1, u "java/lang/Object"), (4, u "hash"), (86, .class_ 108), (1, u "java/lang/Enum$EnumDesc"), (2, .class_ 112), (0, u "java/lang/constant/Constable"), (0, .class_ 114), (0, u "java/lang/Comparable"), (0, .class_ 116), (0, u "java/io/Serializable")] 87

/-- java/lang/Enum -/
def k10 : Class := { plain "java/lang/Enum" (some 0) with
  accessFlags := 1057
  interfaces := #[5, 3, 2]
  cf := some (fileOf pool10 2 #[.nestMembers #[106]] #[] 1057 12 #[111, 113, 115] #[{ accessFlags := 18, nameIndex := 5, descriptorIndex := 6, attributes := #[] }, { accessFlags := 18, nameIndex := 9, descriptorIndex := 10, attributes := #[] }, { accessFlags := 2, nameIndex := 19, descriptorIndex := 10, attributes := #[] }])
  fields := #[{ name := "name", type := (.object "java/lang/String"), accessFlags := 18, slot := 0, constantValue := 0 }, { name := "ordinal", type := .int, accessFlags := 18, slot := 1, constantValue := 0 }, { name := "hash", type := .int, accessFlags := 2, slot := 2, constantValue := 0 }]
  methods := #[]
  instanceTypes := #[(.object "java/lang/String"), .int, .int]
  staticTypes := #[]
  resolved := Array.replicate 204 none
  statics := none }

def pool11 : Array CpInfo := pool [(1, .class_ 2), (0, u "com/example/tickreel/tickreel/BinaryField$Type"), (2, u "UNSIGNED"), (0, u "Lcom/example/tickreel/tickreel/BinaryField$Type;"), (2, u "SIGNED"), (2, u "TEXT"), (2, u "TIMESTAMP"), (2, u "DATE_TIME"), (2, u "OMITTED"), (2, u "FILLER"), (2, u "$VALUES"), (0, u "[Lcom/example/tickreel/tickreel/BinaryField$Type;"), (6, .class_ 37), (1, u "java/lang/Enum"), (30, .class_ 69), (0, u "com/example/tickreel/tickreel/BinaryField")] 2

/-- com/example/tickreel/tickreel/BinaryField$Type -/
def k11 : Class := { plain "com/example/tickreel/tickreel/BinaryField$Type" (some 10) with
  accessFlags := 16432
  interfaces := #[]
  cf := some (fileOf pool11 1 #[.nestHost 68] #[] 16432 35 #[] #[{ accessFlags := 16409, nameIndex := 5, descriptorIndex := 6, attributes := #[] }, { accessFlags := 16409, nameIndex := 9, descriptorIndex := 6, attributes := #[] }, { accessFlags := 16409, nameIndex := 12, descriptorIndex := 6, attributes := #[] }, { accessFlags := 16409, nameIndex := 15, descriptorIndex := 6, attributes := #[] }, { accessFlags := 16409, nameIndex := 18, descriptorIndex := 6, attributes := #[] }, { accessFlags := 16409, nameIndex := 21, descriptorIndex := 6, attributes := #[] }, { accessFlags := 16409, nameIndex := 24, descriptorIndex := 6, attributes := #[] }, { accessFlags := 4122, nameIndex := 27, descriptorIndex := 28, attributes := #[] }])
  fields := #[{ name := "UNSIGNED", type := (.object "com/example/tickreel/tickreel/BinaryField$Type"), accessFlags := 16409, slot := 0, constantValue := 0 }, { name := "SIGNED", type := (.object "com/example/tickreel/tickreel/BinaryField$Type"), accessFlags := 16409, slot := 1, constantValue := 0 }, { name := "TEXT", type := (.object "com/example/tickreel/tickreel/BinaryField$Type"), accessFlags := 16409, slot := 2, constantValue := 0 }, { name := "TIMESTAMP", type := (.object "com/example/tickreel/tickreel/BinaryField$Type"), accessFlags := 16409, slot := 3, constantValue := 0 }, { name := "DATE_TIME", type := (.object "com/example/tickreel/tickreel/BinaryField$Type"), accessFlags := 16409, slot := 4, constantValue := 0 }, { name := "OMITTED", type := (.object "com/example/tickreel/tickreel/BinaryField$Type"), accessFlags := 16409, slot := 5, constantValue := 0 }, { name := "FILLER", type := (.object "com/example/tickreel/tickreel/BinaryField$Type"), accessFlags := 16409, slot := 6, constantValue := 0 }, { name := "$VALUES", type := (.array (.object "com/example/tickreel/tickreel/BinaryField$Type")), accessFlags := 4122, slot := 7, constantValue := 0 }]
  methods := #[]
  instanceTypes := #[(.object "java/lang/String"), .int, .int]
  staticTypes := #[(.object "com/example/tickreel/tickreel/BinaryField$Type"), (.object "com/example/tickreel/tickreel/BinaryField$Type"), (.object "com/example/tickreel/tickreel/BinaryField$Type"), (.object "com/example/tickreel/tickreel/BinaryField$Type"), (.object "com/example/tickreel/tickreel/BinaryField$Type"), (.object "com/example/tickreel/tickreel/BinaryField$Type"), (.object "com/example/tickreel/tickreel/BinaryField$Type"), (.array (.object "com/example/tickreel/tickreel/BinaryField$Type"))]
  resolved := Array.replicate 72 none
  statics := some 1 }

def pool12 : Array CpInfo := pool [(4, .class_ 6), (1, u "java/lang/Object"), (0, u "<init>"), (0, u "()V"), (5, .class_ 16), (1, u "java/lang/StringLatin1"), (104, u "$assertionsDisabled"), (0, u "Z"), (98, .class_ 223), (1, u "java/lang/StringLatin1$LinesSpliterator"), (166, .class_ 391), (0, u "java/lang/StringLatin1$CharsSpliterator")] 3

def k12m0 : Method := { name := "<init>", desc := "()V", sig := { parameters := [], returnType := none }, accessFlags := 0, code := none }
/-- java/lang/StringLatin1 -/
def k12 : Class := { plain "java/lang/StringLatin1" (some 0) with
  accessFlags := 48
  interfaces := #[]
  cf := some (fileOf pool12 14 #[.nestMembers #[390, 221]] #[{ accessFlags := 0, nameIndex := 7, descriptorIndex := 8, attributes := #[] }] 48 4 #[] #[{ accessFlags := 4120, nameIndex := 121, descriptorIndex := 122, attributes := #[] }])
  fields := #[{ name := "$assertionsDisabled", type := .boolean, accessFlags := 4120, slot := 0, constantValue := 0 }]
  methods := #[k12m0]
  instanceTypes := #[]
  staticTypes := #[.boolean]
  resolved := Array.replicate 395 none
  statics := none }

def pool13 : Array CpInfo := pool [(2, .class_ 4), (1, u "java/lang/Object"), (0, u "<init>"), (0, u "()V"), (17, .class_ 26), (1, u "jdk/internal/util/Preconditions"), (28, .class_ 56), (0, u "jdk/internal/util/Preconditions$4"), (57, .class_ 115), (0, u "jdk/internal/util/Preconditions$1"), (7, u "SIOOBE_FORMATTER"), (0, u "Ljava/util/function/BiFunction;"), (0, .class_ 126), (0, u "jdk/internal/util/Preconditions$2"), (3, u "AIOOBE_FORMATTER"), (0, .class_ 132), (0, u "jdk/internal/util/Preconditions$3"), (3, u "IOOBE_FORMATTER")] 57

def k13m0 : Method := { name := "<init>", desc := "()V", sig := { parameters := [], returnType := none }, accessFlags := 1, code := none }
/-- jdk/internal/util/Preconditions -/
def k13 : Class := { plain "jdk/internal/util/Preconditions" (some 0) with
  accessFlags := 33
  interfaces := #[]
  cf := some (fileOf pool13 24 #[.nestMembers #[55, 131, 125, 114]] #[{ accessFlags := 1, nameIndex := 5, descriptorIndex := 6, attributes := #[] }] 33 2 #[] #[{ accessFlags := 25, nameIndex := 123, descriptorIndex := 124, attributes := #[] }, { accessFlags := 25, nameIndex := 130, descriptorIndex := 124, attributes := #[] }, { accessFlags := 25, nameIndex := 136, descriptorIndex := 124, attributes := #[] }])
  fields := #[{ name := "SIOOBE_FORMATTER", type := (.object "java/util/function/BiFunction"), accessFlags := 25, slot := 0, constantValue := 0 }, { name := "AIOOBE_FORMATTER", type := (.object "java/util/function/BiFunction"), accessFlags := 25, slot := 1, constantValue := 0 }, { name := "IOOBE_FORMATTER", type := (.object "java/util/function/BiFunction"), accessFlags := 25, slot := 2, constantValue := 0 }]
  methods := #[k13m0]
  instanceTypes := #[]
  staticTypes := #[(.object "java/util/function/BiFunction"), (.object "java/util/function/BiFunction"), (.object "java/util/function/BiFunction")]
  resolved := Array.replicate 194 none
  statics := some 2 }

def pool14 : Array CpInfo := pool [(9, u "<init>"), (6, .class_ 18), (1, u "java/lang/Object"), (0, u "()V"), (1, .class_ 23), (1, u "jdk/internal/util/ArraysSupport"), (0, u "LOG2_ARRAY_LONG_INDEX_SCALE"), (0, u "I"), (2, u "U"), (0, u "Ljdk/internal/misc/Unsafe;"), (8, u "BIG_ENDIAN"), (0, u "Z"), (8, u "LOG2_BYTE_BIT_SIZE"), (4, u "LOG2_ARRAY_INT_INDEX_SCALE"), (54, u "JLA"), (0, u "Ljdk/internal/access/JavaLangAccess;"), (11, u "LOG2_ARRAY_BOOLEAN_INDEX_SCALE"), (9, u "LOG2_ARRAY_BYTE_INDEX_SCALE"), (5, u "LOG2_ARRAY_CHAR_INDEX_SCALE"), (5, u "LOG2_ARRAY_SHORT_INDEX_SCALE"), (18, u "LOG2_ARRAY_FLOAT_INDEX_SCALE"), (24, u "LOG2_ARRAY_DOUBLE_INDEX_SCALE"), (89, u "T_BOOLEAN"), (2, u "T_CHAR"), (1, u "T_FLOAT"), (1, u "T_DOUBLE"), (1, u "T_BYTE"), (1, u "T_SHORT"), (1, u "T_INT"), (1, u "T_LONG"), (1, u "SOFT_MAX_ARRAY_LENGTH")] 83

def k14m0 : Method := { name := "<init>", desc := "()V", sig := { parameters := [], returnType := none }, accessFlags := 2, code := none }
/-- jdk/internal/util/ArraysSupport -/
def k14 : Class := { plain "jdk/internal/util/ArraysSupport" (some 0) with
  accessFlags := 33
  interfaces := #[]
  cf := some (fileOf pool14 21 #[] #[{ accessFlags := 2, nameIndex := 9, descriptorIndex := 19, attributes := #[] }] 33 16 #[] #[{ accessFlags := 24, nameIndex := 28, descriptorIndex := 29, attributes := #[] }, { accessFlags := 26, nameIndex := 38, descriptorIndex := 39, attributes := #[] }, { accessFlags := 25, nameIndex := 121, descriptorIndex := 25, attributes := #[] }, { accessFlags := 25, nameIndex := 131, descriptorIndex := 25, attributes := #[] }, { accessFlags := 25, nameIndex := 137, descriptorIndex := 25, attributes := #[] }, { accessFlags := 25, nameIndex := 143, descriptorIndex := 25, attributes := #[] }, { accessFlags := 25, nameIndex := 53, descriptorIndex := 25, attributes := #[] }, { accessFlags := 25, nameIndex := 24, descriptorIndex := 25, attributes := #[] }, { accessFlags := 25, nameIndex := 162, descriptorIndex := 25, attributes := #[] }, { accessFlags := 25, nameIndex := 187, descriptorIndex := 25, attributes := #[] }, { accessFlags := 26, nameIndex := 48, descriptorIndex := 25, attributes := #[] }, { accessFlags := 25, nameIndex := 277, descriptorIndex := 25, attributes := #[] }, { accessFlags := 25, nameIndex := 280, descriptorIndex := 25, attributes := #[] }, { accessFlags := 25, nameIndex := 282, descriptorIndex := 25, attributes := #[] }, { accessFlags := 25, nameIndex := 284, descriptorIndex := 25, attributes := #[] }, { accessFlags := 25, nameIndex := 286, descriptorIndex := 25, attributes := #[] }, { accessFlags := 25, nameIndex := 288, descriptorIndex := 25, attributes := #[] }, { accessFlags := 25, nameIndex := 290, descriptorIndex := 25, attributes := #[] }, { accessFlags := 25, nameIndex := 292, descriptorIndex := 25, attributes := #[] }, { accessFlags := 26, nameIndex := 108, descriptorIndex := 109, attributes := #[] }, { accessFlags := 25, nameIndex := 294, descriptorIndex := 25, attributes := #[] }])
  fields := #[{ name := "U", type := (.object "jdk/internal/misc/Unsafe"), accessFlags := 24, slot := 0, constantValue := 0 }, { name := "BIG_ENDIAN", type := .boolean, accessFlags := 26, slot := 1, constantValue := 0 }, { name := "LOG2_ARRAY_BOOLEAN_INDEX_SCALE", type := .int, accessFlags := 25, slot := 2, constantValue := 0 }, { name := "LOG2_ARRAY_BYTE_INDEX_SCALE", type := .int, accessFlags := 25, slot := 3, constantValue := 0 }, { name := "LOG2_ARRAY_CHAR_INDEX_SCALE", type := .int, accessFlags := 25, slot := 4, constantValue := 0 }, { name := "LOG2_ARRAY_SHORT_INDEX_SCALE", type := .int, accessFlags := 25, slot := 5, constantValue := 0 }, { name := "LOG2_ARRAY_INT_INDEX_SCALE", type := .int, accessFlags := 25, slot := 6, constantValue := 0 }, { name := "LOG2_ARRAY_LONG_INDEX_SCALE", type := .int, accessFlags := 25, slot := 7, constantValue := 0 }, { name := "LOG2_ARRAY_FLOAT_INDEX_SCALE", type := .int, accessFlags := 25, slot := 8, constantValue := 0 }, { name := "LOG2_ARRAY_DOUBLE_INDEX_SCALE", type := .int, accessFlags := 25, slot := 9, constantValue := 0 }, { name := "LOG2_BYTE_BIT_SIZE", type := .int, accessFlags := 26, slot := 10, constantValue := 0 }, { name := "T_BOOLEAN", type := .int, accessFlags := 25, slot := 11, constantValue := 0 }, { name := "T_CHAR", type := .int, accessFlags := 25, slot := 12, constantValue := 0 }, { name := "T_FLOAT", type := .int, accessFlags := 25, slot := 13, constantValue := 0 }, { name := "T_DOUBLE", type := .int, accessFlags := 25, slot := 14, constantValue := 0 }, { name := "T_BYTE", type := .int, accessFlags := 25, slot := 15, constantValue := 0 }, { name := "T_SHORT", type := .int, accessFlags := 25, slot := 16, constantValue := 0 }, { name := "T_INT", type := .int, accessFlags := 25, slot := 17, constantValue := 0 }, { name := "T_LONG", type := .int, accessFlags := 25, slot := 18, constantValue := 0 }, { name := "JLA", type := (.object "jdk/internal/access/JavaLangAccess"), accessFlags := 26, slot := 19, constantValue := 0 }, { name := "SOFT_MAX_ARRAY_LENGTH", type := .int, accessFlags := 25, slot := 20, constantValue := 0 }]
  methods := #[k14m0]
  instanceTypes := #[]
  staticTypes := #[(.object "jdk/internal/misc/Unsafe"), .boolean, .int, .int, .int, .int, .int, .int, .int, .int, .int, .int, .int, .int, .int, .int, .int, .int, .int, (.object "jdk/internal/access/JavaLangAccess"), .int]
  resolved := Array.replicate 378 none
  statics := none }

def pool15 : Array CpInfo := pool [(1, u "java/lang/Cloneable"), (0, .class_ 1), (0, u "java/lang/Object"), (0, .class_ 3)] 3

/-- java/lang/Cloneable -/
def k15 : Class := { plain "java/lang/Cloneable" (some 0) with
  accessFlags := 1537
  interfaces := #[]
  cf := some (fileOf pool15 2 #[] #[] 1537 4 #[] #[])
  fields := #[]
  methods := #[]
  instanceTypes := #[]
  staticTypes := #[]
  resolved := Array.replicate 8 none
  statics := none }

/-- the primitive byte -/
def k16 : Class := { plain "byte" none with kind := .primitive 'B', accessFlags := 0x411 }
/-- [B -/
def k17 : Class := { plain "[B" (some 0) with kind := .array 16 .byte, interfaces := #[15, 2], accessFlags := 1041 }

/-- the primitive char -/
def k18 : Class := { plain "char" none with kind := .primitive 'C', accessFlags := 0x411 }
/-- [C -/
def k19 : Class := { plain "[C" (some 0) with kind := .array 18 .char, interfaces := #[15, 2], accessFlags := 1041 }

/-- the primitive int -/
def k20 : Class := { plain "int" none with kind := .primitive 'I', accessFlags := 0x411 }
/-- [I -/
def k21 : Class := { plain "[I" (some 0) with kind := .array 20 .int, interfaces := #[15, 2], accessFlags := 1041 }

def heap : Heap := #[{ cls := 7, slots := #[.long 0, .int 1, .null, .int 0, .null, .int 0, .int 0], vm := .statics 7 },
  { cls := 11, slots := #[.null, .ref 3, .null, .null, .null, .ref 4, .ref 5, .null], vm := .statics 11 },
  { cls := 13, slots := #[.null, .null, .null], vm := .statics 13 },
  { cls := 11, slots := #[.null, .int 1, .int 0], vm := .none },
  { cls := 11, slots := #[.null, .int 5, .int 0], vm := .none },
  { cls := 11, slots := #[.null, .int 6, .int 0], vm := .none }]
def classes : Array Class := #[k0, k1, k2, k3, k4, k5, k6, k7, k8, k9, k10, k11, k12, k13, k14, k15, k16, k17, k18, k19, k20, k21]
def interned : List (Array UInt16 × Addr) := []
def slotsUsed : Nat := 27
def theMethod : MethodId := ⟨1, 2⟩
def args0 : Array Value := #[.int 5, .int 7, .int 5, .int 7, .int 5, .int 7]
def aboutOver (below : List Frame) : State where
  vm := { classes := classes, interned := interned.toArray }
  heap := heap
  slotsUsed := slotsUsed
  threads := #[{ frames := .invoking theMethod args0 :: below }]
def below0 : List Frame := [.native { method := ⟨0, 0⟩, args := #[] }]
def about1 : State := aboutOver below0
def p0 : Program := .bare "" "" ""
def e0 : Env := launch0.env 0 0 0
theorem w_frames : about1.frames = Frame.invoking theMethod args0 :: below0 := rfl
set_option maxRecDepth 65536 in
theorem w_args : argsFit about1.vm theMethod args0 = true := by decide +kernel
set_option maxRecDepth 65536 in
theorem w_heap : heapFits about1 = true := by decide +kernel
set_option maxRecDepth 65536 in
theorem w_runnable : about1.curStatus? = some .runnable := by decide +kernel
set_option maxRecDepth 65536 in
theorem w_alone : about1.alone = true := by decide +kernel
set_option maxRecDepth 65536 in
theorem w_named : about1.methodNamed? x = some theMethod := by decide +kernel
set_option maxRecDepth 65536 in
theorem w_hears : about1.hears theMethod below0 = true := by decide +kernel
set_option maxRecDepth 65536 in
theorem w_ripe : about1.ripe theMethod args0 below0 = true := by decide +kernel
theorem w_running : about1.status = .running := rfl
set_option maxRecDepth 65536 in
theorem w_room : about1.hasRoom e0.platform room_1 = true :=
  launch0.hasRoom_least _ room_1 (by decide +kernel) (by decide +kernel) (by decide +kernel) (by decide +kernel) (by decide +kernel) (by decide +kernel)
theorem allAtoms_all (ts : List Jvm.Cond) (a : Array Jvm.Value) (st : Jvm.State) : (allAtoms ts).before a st = ts.all (fun c => c.before a st) := by
  induction ts with
  | nil => rfl
  | cons c t ih =>
    show (Jvm.Cond.and c (allAtoms t)).before a st = _
    rw [Jvm.Cond.before_and, ih, List.all_cons]
def words1 : List Jvm.Cond := Jvm.Cond.code x code maxLocals ret :: tables_1
/-- a 'code' word, met by the world's own term for the bytes: nothing is compared byte by byte -/
theorem code_word {y : MethodName} {bytes : ByteArray} {mx : Nat} {rt : Option FieldType} {a : Array Value} {s : State} {m : MethodId} {meth : Method} {c : Code} (h1 : s.methodNamed? y = some m) (h2 : s.vm.method? m = some meth) (h3 : meth.code = some c) (h4 : c.code = bytes)
    (h5 : (c.maxLocals == mx && c.exceptionTable.isEmpty && decide (c.maxStack ≤ mostOperands) && decide (meth.sig.returnType = rt) && !meth.locks && decide (parseMethodDescriptor y.desc = some meth.sig)) = true) : (Jvm.Cond.code y bytes mx rt).before a s = true := by
  simp only [Bool.and_eq_true, beq_iff_eq, Bool.not_eq_true', decide_eq_true_eq] at h5
  obtain ⟨⟨⟨⟨⟨g1, g2⟩, g3⟩, g4⟩, g5⟩, g6⟩ := h5
  simp [Cond.before, Cond.holds, Cond.value, h1, h2, h3, h4, g1, g2, g3, g4, g5, g6]
def isCode : Jvm.Cond → Bool
  | .code _ _ _ _ => true
  | _ => false
theorem all_split {L : List Jvm.Cond} {P : Jvm.Cond → Bool} (h1 : L.all (fun c => isCode c || P c) = true) (h2 : ∀ c ∈ L.filter isCode, P c = true) : L.all P = true := by
  refine List.all_eq_true.mpr fun c hc => ?_
  have h := List.all_eq_true.mp h1 c hc
  rcases Bool.eq_false_or_eq_true (isCode c) with hi | hi
  · exact h2 c (List.mem_filter.mpr ⟨hc, hi⟩)
  · simpa [hi] using h
set_option maxRecDepth 65536 in
theorem w_c0 : (Jvm.Cond.code x code maxLocals ret).before args0 about1 = true := code_word (m := ⟨1, 2⟩) (meth := k1m2) (c := k1c2) (by decide +kernel) rfl rfl rfl (by decide +kernel)
set_option maxRecDepth 65536 in
theorem w_c1 : (Jvm.Cond.code ({ cls := "com/example/tickreel/tickreel/BinaryFieldI64PinLaw", name := "drawName", desc := "(IIII)Ljava/lang/String;" } : Jvm.MethodName) method_2_code (8 : Nat) (Option.some (Jvm.ClassFile.FieldType.object "java/lang/String"))).before args0 about1 = true := code_word (m := ⟨1, 1⟩) (meth := k1m1) (c := k1c1) (by decide +kernel) rfl rfl rfl (by decide +kernel)
set_option maxRecDepth 65536 in
theorem w_c2 : (Jvm.Cond.code ({ cls := "java/lang/String", name := "<init>", desc := "([C)V" } : Jvm.MethodName) jdk_42_method_3_code (2 : Nat) (Option.none : Option Jvm.ClassFile.FieldType)).before args0 about1 = true := code_word (m := ⟨7, 1⟩) (meth := k7m1) (c := k7c1) (by decide +kernel) rfl rfl rfl (by decide +kernel)
set_option maxRecDepth 65536 in
theorem w_c3 : (Jvm.Cond.code ({ cls := "java/lang/String", name := "<init>", desc := "([CIILjava/lang/Void;)V" } : Jvm.MethodName) jdk_42_method_149_code (6 : Nat) (Option.none : Option Jvm.ClassFile.FieldType)).before args0 about1 = true := code_word (m := ⟨7, 3⟩) (meth := k7m3) (c := k7c3) (by decide +kernel) rfl rfl rfl (by decide +kernel)
set_option maxRecDepth 65536 in
theorem w_c4 : (Jvm.Cond.code ({ cls := "java/lang/Object", name := "<init>", desc := "()V" } : Jvm.MethodName) object_method_1_code (1 : Nat) (Option.none : Option Jvm.ClassFile.FieldType)).before args0 about1 = true := code_word (m := ⟨0, 0⟩) (meth := k0m0) (c := k0c0) (by decide +kernel) rfl rfl rfl (by decide +kernel)
set_option maxRecDepth 65536 in
theorem w_c5 : (Jvm.Cond.code ({ cls := "java/lang/StringUTF16", name := "compress", desc := "([CII)[B" } : Jvm.MethodName) jdk_52_method_16_code (6 : Nat) (Option.some (Jvm.ClassFile.FieldType.array Jvm.ClassFile.FieldType.byte))).before args0 about1 = true := code_word (m := ⟨8, 2⟩) (meth := k8m2) (c := k8c2) (by decide +kernel) rfl rfl rfl (by decide +kernel)
set_option maxRecDepth 65536 in
theorem w_c6 : (Jvm.Cond.code ({ cls := "java/lang/StringUTF16", name := "compress", desc := "([CI[BII)I" } : Jvm.MethodName) jdk_52_method_21_code (7 : Nat) (Option.some Jvm.ClassFile.FieldType.int)).before args0 about1 = true := code_word (m := ⟨8, 3⟩) (meth := k8m3) (c := k8c3) (by decide +kernel) rfl rfl rfl (by decide +kernel)
set_option maxRecDepth 65536 in
theorem w_c7 : (Jvm.Cond.code ({ cls := "java/lang/StringUTF16", name := "coderFromArrayLen", desc := "([BI)B" } : Jvm.MethodName) jdk_52_method_15_code (2 : Nat) (Option.some Jvm.ClassFile.FieldType.byte)).before args0 about1 = true := code_word (m := ⟨8, 1⟩) (meth := k8m1) (c := k8c1) (by decide +kernel) rfl rfl rfl (by decide +kernel)
set_option maxRecDepth 65536 in
theorem w_c8 : (Jvm.Cond.code ({ cls := "com/example/tickreel/tickreel/BinaryField", name := "i64", desc := "(Ljava/lang/String;I)Lcom/example/tickreel/tickreel/BinaryField;" } : Jvm.MethodName) prog_1_method_8_code (2 : Nat) (Option.some (Jvm.ClassFile.FieldType.object "com/example/tickreel/tickreel/BinaryField"))).before args0 about1 = true := code_word (m := ⟨9, 2⟩) (meth := k9m2) (c := k9c2) (by decide +kernel) rfl rfl rfl (by decide +kernel)
set_option maxRecDepth 65536 in
theorem w_c9 : (Jvm.Cond.code ({ cls := "com/example/tickreel/tickreel/BinaryField", name := "<init>", desc := "(Ljava/lang/String;Lcom/example/tickreel/tickreel/BinaryField$Type;II)V" } : Jvm.MethodName) prog_1_method_2_code (5 : Nat) (Option.none : Option Jvm.ClassFile.FieldType)).before args0 about1 = true := code_word (m := ⟨9, 1⟩) (meth := k9m1) (c := k9c1) (by decide +kernel) rfl rfl rfl (by decide +kernel)
set_option maxRecDepth 65536 in
theorem w_c10 : (Jvm.Cond.code ({ cls := "com/example/tickreel/tickreel/BinaryField", name := "<init>", desc := "(Ljava/lang/String;Lcom/example/tickreel/tickreel/BinaryField$Type;III)V" } : Jvm.MethodName) prog_1_method_1_code (6 : Nat) (Option.none : Option Jvm.ClassFile.FieldType)).before args0 about1 = true := code_word (m := ⟨9, 0⟩) (meth := k9m0) (c := k9c0) (by decide +kernel) rfl rfl rfl (by decide +kernel)
set_option maxRecDepth 65536 in
theorem w_c11 : (Jvm.Cond.code ({ cls := "com/example/tickreel/tickreel/BinaryField", name := "name", desc := "()Ljava/lang/String;" } : Jvm.MethodName) prog_1_method_15_code (1 : Nat) (Option.some (Jvm.ClassFile.FieldType.object "java/lang/String"))).before args0 about1 = true := code_word (m := ⟨9, 4⟩) (meth := k9m4) (c := k9c4) (by decide +kernel) rfl rfl rfl (by decide +kernel)
set_option maxRecDepth 65536 in
theorem w_c12 : (Jvm.Cond.code ({ cls := "java/lang/String", name := "equals", desc := "(Ljava/lang/Object;)Z" } : Jvm.MethodName) jdk_42_method_66_code (3 : Nat) (Option.some Jvm.ClassFile.FieldType.boolean)).before args0 about1 = true := code_word (m := ⟨7, 2⟩) (meth := k7m2) (c := k7c2) (by decide +kernel) rfl rfl rfl (by decide +kernel)
set_option maxRecDepth 65536 in
theorem w_c13 : (Jvm.Cond.code ({ cls := "com/example/tickreel/tickreel/BinaryField", name := "written", desc := "()Z" } : Jvm.MethodName) prog_1_method_16_code (1 : Nat) (Option.some Jvm.ClassFile.FieldType.boolean)).before args0 about1 = true := code_word (m := ⟨9, 5⟩) (meth := k9m5) (c := k9c5) (by decide +kernel) rfl rfl rfl (by decide +kernel)
set_option maxRecDepth 65536 in
theorem w_c14 : (Jvm.Cond.code ({ cls := "com/example/tickreel/tickreel/BinaryField", name := "offset", desc := "()I" } : Jvm.MethodName) prog_1_method_17_code (1 : Nat) (Option.some Jvm.ClassFile.FieldType.int)).before args0 about1 = true := code_word (m := ⟨9, 6⟩) (meth := k9m6) (c := k9c6) (by decide +kernel) rfl rfl rfl (by decide +kernel)
set_option maxRecDepth 65536 in
theorem w_c15 : (Jvm.Cond.code ({ cls := "com/example/tickreel/tickreel/BinaryField", name := "end", desc := "()I" } : Jvm.MethodName) prog_1_method_18_code (1 : Nat) (Option.some Jvm.ClassFile.FieldType.int)).before args0 about1 = true := code_word (m := ⟨9, 7⟩) (meth := k9m7) (c := k9c7) (by decide +kernel) rfl rfl rfl (by decide +kernel)
set_option maxRecDepth 65536 in
theorem w_c16 : (Jvm.Cond.code ({ cls := "com/example/tickreel/tickreel/BinaryField", name := "scaledBy", desc := "(I)Lcom/example/tickreel/tickreel/BinaryField;" } : Jvm.MethodName) prog_1_method_14_code (2 : Nat) (Option.some (Jvm.ClassFile.FieldType.object "com/example/tickreel/tickreel/BinaryField"))).before args0 about1 = true := code_word (m := ⟨9, 3⟩) (meth := k9m3) (c := k9c3) (by decide +kernel) rfl rfl rfl (by decide +kernel)
def codes1 : List Jvm.Cond := [Jvm.Cond.code x code maxLocals ret, Jvm.Cond.code ({ cls := "com/example/tickreel/tickreel/BinaryFieldI64PinLaw", name := "drawName", desc := "(IIII)Ljava/lang/String;" } : Jvm.MethodName) method_2_code (8 : Nat) (Option.some (Jvm.ClassFile.FieldType.object "java/lang/String")), Jvm.Cond.code ({ cls := "java/lang/String", name := "<init>", desc := "([C)V" } : Jvm.MethodName) jdk_42_method_3_code (2 : Nat) (Option.none : Option Jvm.ClassFile.FieldType), Jvm.Cond.code ({ cls := "java/lang/String", name := "<init>", desc := "([CIILjava/lang/Void;)V" } : Jvm.MethodName) jdk_42_method_149_code (6 : Nat) (Option.none : Option Jvm.ClassFile.FieldType), Jvm.Cond.code ({ cls := "java/lang/Object", name := "<init>", desc := "()V" } : Jvm.MethodName) object_method_1_code (1 : Nat) (Option.none : Option Jvm.ClassFile.FieldType), Jvm.Cond.code ({ cls := "java/lang/StringUTF16", name := "compress", desc := "([CII)[B" } : Jvm.MethodName) jdk_52_method_16_code (6 : Nat) (Option.some (Jvm.ClassFile.FieldType.array Jvm.ClassFile.FieldType.byte)), Jvm.Cond.code ({ cls := "java/lang/StringUTF16", name := "compress", desc := "([CI[BII)I" } : Jvm.MethodName) jdk_52_method_21_code (7 : Nat) (Option.some Jvm.ClassFile.FieldType.int), Jvm.Cond.code ({ cls := "java/lang/StringUTF16", name := "coderFromArrayLen", desc := "([BI)B" } : Jvm.MethodName) jdk_52_method_15_code (2 : Nat) (Option.some Jvm.ClassFile.FieldType.byte), Jvm.Cond.code ({ cls := "com/example/tickreel/tickreel/BinaryField", name := "i64", desc := "(Ljava/lang/String;I)Lcom/example/tickreel/tickreel/BinaryField;" } : Jvm.MethodName) prog_1_method_8_code (2 : Nat) (Option.some (Jvm.ClassFile.FieldType.object "com/example/tickreel/tickreel/BinaryField")), Jvm.Cond.code ({ cls := "com/example/tickreel/tickreel/BinaryField", name := "<init>", desc := "(Ljava/lang/String;Lcom/example/tickreel/tickreel/BinaryField$Type;II)V" } : Jvm.MethodName) prog_1_method_2_code (5 : Nat) (Option.none : Option Jvm.ClassFile.FieldType), Jvm.Cond.code ({ cls := "com/example/tickreel/tickreel/BinaryField", name := "<init>", desc := "(Ljava/lang/String;Lcom/example/tickreel/tickreel/BinaryField$Type;III)V" } : Jvm.MethodName) prog_1_method_1_code (6 : Nat) (Option.none : Option Jvm.ClassFile.FieldType), Jvm.Cond.code ({ cls := "com/example/tickreel/tickreel/BinaryField", name := "name", desc := "()Ljava/lang/String;" } : Jvm.MethodName) prog_1_method_15_code (1 : Nat) (Option.some (Jvm.ClassFile.FieldType.object "java/lang/String")), Jvm.Cond.code ({ cls := "java/lang/String", name := "equals", desc := "(Ljava/lang/Object;)Z" } : Jvm.MethodName) jdk_42_method_66_code (3 : Nat) (Option.some Jvm.ClassFile.FieldType.boolean), Jvm.Cond.code ({ cls := "com/example/tickreel/tickreel/BinaryField", name := "written", desc := "()Z" } : Jvm.MethodName) prog_1_method_16_code (1 : Nat) (Option.some Jvm.ClassFile.FieldType.boolean), Jvm.Cond.code ({ cls := "com/example/tickreel/tickreel/BinaryField", name := "offset", desc := "()I" } : Jvm.MethodName) prog_1_method_17_code (1 : Nat) (Option.some Jvm.ClassFile.FieldType.int), Jvm.Cond.code ({ cls := "com/example/tickreel/tickreel/BinaryField", name := "end", desc := "()I" } : Jvm.MethodName) prog_1_method_18_code (1 : Nat) (Option.some Jvm.ClassFile.FieldType.int), Jvm.Cond.code ({ cls := "com/example/tickreel/tickreel/BinaryField", name := "scaledBy", desc := "(I)Lcom/example/tickreel/tickreel/BinaryField;" } : Jvm.MethodName) prog_1_method_14_code (2 : Nat) (Option.some (Jvm.ClassFile.FieldType.object "com/example/tickreel/tickreel/BinaryField"))]
set_option maxRecDepth 65536 in
theorem codes_eq : words1.filter isCode = codes1 := rfl
theorem w_codes : ∀ c ∈ words1.filter isCode, c.before args0 about1 = true := by
  rw [codes_eq]
  intro c hc
  simp only [codes1, List.mem_cons, List.not_mem_nil, or_false] at hc
  rcases hc with rfl | rfl | rfl | rfl | rfl | rfl | rfl | rfl | rfl | rfl | rfl | rfl | rfl | rfl | rfl | rfl | rfl
  · exact w_c0
  · exact w_c1
  · exact w_c2
  · exact w_c3
  · exact w_c4
  · exact w_c5
  · exact w_c6
  · exact w_c7
  · exact w_c8
  · exact w_c9
  · exact w_c10
  · exact w_c11
  · exact w_c12
  · exact w_c13
  · exact w_c14
  · exact w_c15
  · exact w_c16
set_option maxRecDepth 65536 in
theorem w_t1 : (words1.take 24).all (fun c => isCode c || c.before args0 about1) = true := by decide +kernel
set_option maxRecDepth 65536 in
theorem w_t2 : ((words1.drop 24).take 24).all (fun c => isCode c || c.before args0 about1) = true := by decide +kernel
set_option maxRecDepth 65536 in
theorem w_t3 : (((words1.drop 24).drop 24).take 24).all (fun c => isCode c || c.before args0 about1) = true := by decide +kernel
set_option maxRecDepth 65536 in
theorem w_t4 : ((((words1.drop 24).drop 24).drop 24).take 24).all (fun c => isCode c || c.before args0 about1) = true := by decide +kernel
set_option maxRecDepth 65536 in
theorem w_t5 : ((((words1.drop 24).drop 24).drop 24).drop 24).all (fun c => isCode c || c.before args0 about1) = true := by decide +kernel
theorem w_tables : (allAtoms (Jvm.Cond.code x code maxLocals ret :: tables_1)).before args0 about1 = true := by
  rw [allAtoms_all]
  show words1.all (fun c => c.before args0 about1) = true
  refine all_split ?_ w_codes
  rw [← List.take_append_drop 24 words1, List.all_append, w_t1, ← List.take_append_drop 24 (words1.drop 24), List.all_append, w_t2, ← List.take_append_drop 24 ((words1.drop 24).drop 24), List.all_append, w_t3, ← List.take_append_drop 24 (((words1.drop 24).drop 24).drop 24), List.all_append, w_t4, w_t5]
  rfl
set_option maxRecDepth 65536 in
theorem w_rest : rest_1_c.before args0 about1 = true := by decide +kernel
set_option maxRecDepth 65536 in
theorem w_case : (Jvm.Cond.and given_1 narrow_1).before args0 about1 = true := by decide +kernel
set_option maxRecDepth 65536 in
theorem w_consts : constsHeld consts_1 about1 := Jvm.Lit.constsHeldB_iff.mp (by decide +kernel)
theorem w_applies : (headSpec (Jvm.Cond.code x code maxLocals ret :: tables_1) room_1).applies x e0.platform about1 = true :=
  (Spec.applies_iff w_frames).mpr ⟨w_running, w_runnable, w_alone, w_named, w_hears, w_ripe, w_room, w_tables⟩
theorem atStart : AtStart classFile x code maxLocals ret World_1 tables_1 room_1 Calls_1 rest_1 Pre_1 launch0 p0 e0 about1 theMethod args0 below0 :=
  ⟨lists_1, trivial, launch0.admits_env _ _ _, launch0.least_env, fairChoices_fair.cas, fairChoices_fair.clock, w_frames, w_args, w_heap, w_applies, ⟨w_consts, trivial⟩, w_rest, w_case⟩
end start1
theorem witness_1 : WitnessClaimed_1 := ⟨start1.p0, start1.e0, start1.about1, start1.theMethod, start1.args0, start1.below0, start1.atStart⟩
end Jvm.Pilot.@@N@@
