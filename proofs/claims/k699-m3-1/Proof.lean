import JvmDerived
import JvmDerived.Pilot.@@N@@Statement
import JvmDerived.Pilot.@@N@@Code
set_option linter.unusedVariables false
set_option linter.unusedSimpArgs false
@@BLOCK:LamKit.lean.txt@@
namespace Jvm.RoadKit
open Sem ClassFile Op Lib Jvm.Stand Jvm.Free Jvm.LawKit
section New
variable {p : Program} {l : Launch} {e : Env} {R : Room} {s : State} {m : MethodId} {args : Array Value} {below : List Frame} {meth : Method} {c : Code} {T : State} {locs : List Loc} {cells slots : Nat}
theorem retI (X : Stand p l e R s m args below meth c T locs cells slots) (hx : p.tables.exec = Jvm.exec) {pc : Nat} {Ls : Array Slot} {z : Int32} {rest : List Value} (hret : meth.sig.returnType = some .int) (hd : decode c.code pc = .ok (.ireturn, 1)) {fs : List Frame}
    (hl : ∀ (f : JFrame) (acts : List Action), f.method = m → f.locked = none → f.entered = [] → (doReturn e (T.setTop f) acts (some (.int z))).1 = T.setFrames fs) : Steps p.tables e below (T.setTop (mkF m pc Ls (.int z :: rest))) (T.setFrames fs) :=
  retOut X hx hret rfl (Or.inl ⟨rfl, Or.inl rfl, z, rfl⟩) hd hl
theorem own_lremM {g : JFrame} {target : State} (X : Stand p l e R s m args below meth c T locs cells slots) (hx : p.tables.exec = Jvm.exec) (hg : g.method = m) {x y : Int64} {rest : List Value} (hd : decode c.code g.pc = .ok (.lrem, 1)) (hs : g.stack = .long y :: .long x :: rest) (hy : y ≠ 0)
    (hr : Steps p.tables e below (T.setTop { g with pc := g.pc + 1, stack := .long (x % y) :: rest }) target) : Steps p.tables e below (T.setTop g) target := by
  have q : x - x / y * y = x % y := lrem_mod x y
  exact XS.lrem X.here hx hg hd hs hy (by rw [q]; exact hr)
theorem own_evInt {Z : State} {args : Array Value} {t : Term} {k : Int32} (h : (Jvm.Cond.eq t (.int k)).value args Z none Z [] = some true) : t.eval args Z none [] Z = some (.int k) := by
  obtain ⟨x, y, h1, h2, -, -⟩ := cmp_v (Or.inl h)
  have hy : y = .int k := Option.some.inj (h2.symm.trans (Term.int_eval k))
  subst hy
  have hx : x = .int k := by
    cases x <;> simp [Cond.value, h1, h2] at h ⊢
    exact h
  rw [h1, hx]
theorem own_selPriv {y : MethodName} {kI : Nat} (hI : (Jvm.Cond.instantiable y.cls kI).before args s = true) (hpriv : s.PrivateAt y) (hinst : (Jvm.Cond.instanceMethod y).before args s = true) (hy : y.cls ≠ "java/lang/invoke/MethodHandle" ∧ y.cls ≠ "java/lang/invoke/VarHandle") : (Jvm.Cond.selects y.cls y y).before args s = true := by
  obtain ⟨c, k, h1, h2, -, h4, -⟩ := Cond.instantiable_spec hI
  exact selects_self_of_private h1 h2 (Bool.or_eq_false_iff.mp h4).1 hpriv hinst hy
theorem own_since0 (s : State) : s.Since s.vm 0 := (State.WarmedH.refl s).since _
theorem own_irr32 (x : Int32) : ¬ (x < x) := Int32.lt_irrefl
theorem own_irr64 (x : Int64) : ¬ (x < x) := Int64.lt_irrefl
theorem own_fldInt {Z : State} {args : Array Value} {t : Term} {a : Addr} {C n d : String} {k : Int32} (ev : t.eval args Z none [] Z = some (.ref a)) (h : (Jvm.Cond.eq (.field t C n d) (.int k)).value args Z none Z [] = some true) : Fld Z Z.heap a C n d (.int k) := by
  obtain ⟨x, y, h1, h2, -, -⟩ := cmp_v (Or.inl h)
  have hy : y = .int k := Option.some.inj (h2.symm.trans (Term.int_eval k))
  subst hy
  have hx : x = .int k := by
    cases x <;> simp [Cond.value, h1, h2] at h ⊢
    exact h
  rw [fld_at ev] at h1
  exact Fld.start (hx ▸ h1)
end New
end Jvm.RoadKit
namespace Jvm.RoadKit
open Sem ClassFile Op Lib Bundle Jvm.Stand Jvm.Free Jvm.LawKit Jvm.Free.SB Jvm.Free.SBG
theorem own_safeArv {Z : State} {EL : List (String × Nat)} {vm : Vm} {h : Heap} {x : Addr} {k : ClassId} {ty : FieldType} {z : Int32} {vs : List Value} {d : Value} (hal : Z.vm.Alike vm) (V : Arv Z h x k ty z vs d) (ht : ty ≠ .byte) : Safe Z EL vm h x := by
  obtain ⟨c, A, -⟩ := V; exact Safe.arr hal A ht
theorem own_backSafe {p : Program} {l : Launch} {e : Env} {R : Room} {s : State} {args : Array Value} {below : List Frame} {Z : State} {a0 : Array Value} {EL : List (String × Nat)} {h : Heap} {vm0 : Vm} {ss : List Addr} {y : MethodName} {bytes : ByteArray} {maxL : Nat} {ret : Option FieldType} {rm : Room} {len W : Nat} {as' : Array Value} {Q : Option Value → Heap → List Loc → Prop}
    (hM : MetFree l y (head1 [Cond.code y bytes maxL ret] rm) (fun a U => a = as' ∧ Z.Warmed39 U.vm ∧ U.heap = h ∧ CHv Z EL U.vm h ∧ ∀ x ∈ ss, Safe Z EL U.vm h x) (fun _ _ _ _ _ => True) (fun _ U o U' => ∃ v L, o = .returned v ∧ Q v U'.heap L ∧ CHr Z EL U.vm U.heap U'.vm U'.heap ∧ ReturnedEndW U o U' L rm.cells rm.slots))
    (hZ : Z.Warmed39 vm0) (wc : (Cond.code y bytes maxL ret).before a0 Z = true) (wz : (Cond.initialized y.cls).before a0 Z = true) (hf : rm.frames + 1 ≤ R.frames) (hl : W + (maxL + 11) + rm.locals ≤ R.locals) (hEL : EW Z a0 EL) (H : CHv Z EL vm0 h) (hs : ∀ x ∈ ss, x < h.size ∧ Safe Z EL vm0 h x) :
    BackS l R p e below (s.setVm vm0) args y len W (fun A a => a = as' ∧ A.U.heap = h ∧ A.cells + rm.cells ≤ R.cells ∧ A.slots + rm.slots ≤ R.slots)
      (fun A _ v B => ∃ L, Q v B.U.heap L ∧ B.locs = A.locs ++ L ∧ B.cells = A.cells + rm.cells ∧ B.slots = A.slots + rm.slots ∧ CHr Z EL vm0 h B.U.vm B.U.heap) := by
  refine BackS.of_freeW (bytes := bytes) (maxL := maxL) (ret := ret) (E := fun _ first o t L k n => k = rm.cells ∧ n = rm.slots ∧ (∃ v, o = .returned v ∧ Q v t.heap L) ∧ CHr Z EL first.vm first.heap t.vm t.heap) hM hf hl ?_ ?_ (fun _ _ _ _ _ _ _ _ _ => trivial) ?_ ?_
  · intro m meth c A a Y hp
    have hU : Z.Warmed39 A.U.vm := wtrans (s := s.setVm vm0) hZ Y.warmed
    exact ⟨by show (Cond.and _ .tt).before a A.U = true; rw [Cond.before_and, mv hU wc]; rfl, mv hU wc, mv hU wz, hp.2.2.1, hp.2.2.2⟩
  · intro m meth c A a g mk Y hp
    have q := CHv.at Y hZ hEL H
    exact ⟨hp.1, wtrans (s := s.setVm vm0) hZ Y.warmed, hp.2.1, q.1, fun x hx => q.safe (hs x hx).1 (hs x hx).2⟩
  · intro a first o t hq
    obtain ⟨v, L, h1, h2, h3, h4⟩ := hq
    exact ⟨L, _, _, h4, rfl, rfl, ⟨v, h1, h2⟩, h3⟩
  · intro m meth c A a g mk v t L k n Y hp _ _ hE
    obtain ⟨e1, e2, ⟨v', e3, e4⟩, e5⟩ := hE
    cases e3; subst e1 e2
    refine ⟨L, e4, rfl, rfl, rfl, (CHv.at Y hZ hEL H).trans ?_⟩
    rw [← hp.2.1]; exact e5
end Jvm.RoadKit
/- laws to paste: Road.backV (cut by pick.py; bodies as the Statement names them) -/
namespace Jvm.Pilot.@@N@@
namespace StrChars
open Jvm Sem ClassFile Op Lib Jvm.Stand Jvm.Free.XT Jvm.Free.ALB Jvm.Free.JM Jvm.Free
open Jvm.Lib.Cold (StaticIs)
/-- a char array whose places are chars -/
def Ch (a : Addr) (A : Cell) (U : State) : Prop := Arr .char a A U ∧ Typed .char A
theorem Ch.mv {a : Addr} {A : Cell} {U U' : State} (h : Ch a A U) (hal : U.vm.Alike U'.vm) (hh : U'.heap = U.heap) : Ch a A U' := ⟨h.1.mv hal hh, h.2⟩
theorem Ch.keep {a : Addr} {A : Cell} {U U' : State} (h : Ch a A U) (hal : U.vm.Alike U'.vm) (hk : U'.heap[a]? = some A) : Ch a A U' := ⟨h.1.keep hal hk, h.2⟩
/-- what place i of a char[]'s cell holds -/
def cv (A : Cell) (i : Nat) : Int32 := match A.slots[i]? with | some (.int x) => x | _ => 0
theorem Ch.get {a : Addr} {A : Cell} {U : State} (h : Ch a A U) {i : Nat} (hi : i < A.slots.size) : A.slots[i]? = some (.int (cv A i)) := by
  have e := Array.getElem?_eq_getElem hi
  have f := h.2 i _ e
  unfold cv; rw [e]
  generalize A.slots[i] = v at f
  cases v <;> simp [fits] at f ⊢
/-- the byte that i2b leaves of a char -/
def lo8 (x : Int32) : Int32 := x.toInt8.toInt32
theorem fits_lo8 (y : Int32) : fits .byte (.int (lo8 y)) = true := by
  have h1 := y.toInt8.le_toInt
  have h2 := y.toInt8.toInt_lt
  simp only [lo8, fits, Bool.and_eq_true, decide_eq_true_eq, Int32.le_iff_toInt_le, Int8.toInt_toInt32, show (-128 : Int32).toInt = -128 from by decide, show (127 : Int32).toInt = 127 from by decide]
  omega
/-- A' is A but that each place j of lo .. hi - 1 holds f j -/
def Laid (A A' : Cell) (lo hi : Nat) (f : Nat → Value) : Prop := A'.cls = A.cls ∧ A'.vm = A.vm ∧ A'.slots.size = A.slots.size ∧ ∀ i, A'.slots[i]? = if lo ≤ i ∧ i < hi then some (f i) else A.slots[i]?
theorem Laid.zero (A : Cell) (lo : Nat) (f : Nat → Value) : Laid A A lo (lo + 0) f := ⟨rfl, rfl, rfl, fun i => by rw [if_neg (by omega)]⟩
theorem Laid.step {A Ak : Cell} {lo k : Nat} {f : Nat → Value} {v : Value} (h : Laid A Ak lo k f) (hlo : lo ≤ k) (hk : k < Ak.slots.size) (hv : v = f k) : Laid A (Ak.setSlot k v) lo (k + 1) f := by
  refine ⟨h.1, h.2.1, by simpa [Cell.setSlot] using h.2.2.1, fun i => ?_⟩
  by_cases e : k = i
  · subst e; rw [Cell.slots_setSlot_self v hk, if_pos (by omega), hv]
  · rw [Cell.slots_setSlot_ne v e, h.2.2.2 i]
    by_cases q : lo ≤ i ∧ i < k
    · rw [if_pos q, if_pos (by omega)]
    · rw [if_neg q, if_neg (by omega)]
def U16 : String := "java/lang/StringUTF16"
namespace Cmp5
def yN : MethodName := ⟨"java/lang/StringUTF16", "compress", "([CI[BII)I"⟩
abbrev yB : ByteArray := jdk_52_method_21_code
theorem d0 : decode yB 0 = .ok (.iconst 0, 1) := by decide +kernel
theorem d1 : decode yB 1 = .ok (.istore 5, 2) := by decide +kernel
theorem d3 : decode yB 3 = .ok (.iload 5, 2) := by decide +kernel
theorem d5 : decode yB 5 = .ok (.iload 4, 2) := by decide +kernel
theorem d7 : decode yB 7 = .ok (.if_icmp (.ge) 37, 3) := by decide +kernel
theorem d10 : decode yB 10 = .ok (.aload_n 0, 1) := by decide +kernel
theorem d11 : decode yB 11 = .ok (.iload_n 1, 1) := by decide +kernel
theorem d12 : decode yB 12 = .ok (.caload, 1) := by decide +kernel
theorem d13 : decode yB 13 = .ok (.istore 6, 2) := by decide +kernel
theorem d15 : decode yB 15 = .ok (.iload 6, 2) := by decide +kernel
theorem d17 : decode yB 17 = .ok (.sipush 255, 3) := by decide +kernel
theorem d20 : decode yB 20 = .ok (.if_icmp (.le) 6, 3) := by decide +kernel
theorem d26 : decode yB 26 = .ok (.aload_n 2, 1) := by decide +kernel
theorem d27 : decode yB 27 = .ok (.iload_n 3, 1) := by decide +kernel
theorem d28 : decode yB 28 = .ok (.iload 6, 2) := by decide +kernel
theorem d30 : decode yB 30 = .ok (.i2b, 1) := by decide +kernel
theorem d31 : decode yB 31 = .ok (.bastore, 1) := by decide +kernel
theorem d32 : decode yB 32 = .ok (.iinc 1 1, 3) := by decide +kernel
theorem d35 : decode yB 35 = .ok (.iinc 3 1, 3) := by decide +kernel
theorem d38 : decode yB 38 = .ok (.iinc 5 1, 3) := by decide +kernel
theorem d41 : decode yB 41 = .ok (.goto (-38), 3) := by decide +kernel
theorem d44 : decode yB 44 = .ok (.iload 4, 2) := by decide +kernel
theorem d46 : decode yB 46 = .ok (.ireturn, 1) := by decide +kernel
def site : List Cond := []
def tab : Cond := tabOf yN yB 7 (some .int) site
def P (b : Addr) (A : Cell) (d : Addr) (B : Cell) (o q len : Nat) (args : Array Value) (s : State) : Prop := args = #[.ref b, .int (Int32.ofNat o), .ref d, .int (Int32.ofNat q), .int (Int32.ofNat len)] ∧ Ch b A s ∧ Arr .byte d B s ∧ b ≠ d ∧ o + len ≤ A.slots.size ∧ q + len ≤ B.slots.size ∧ ∀ i, i < len → ¬ 255 < cv A (o + i)
def E (b : Addr) (A : Cell) (d : Addr) (B : Cell) (o q len : Nat) (r : Option Value) (s u : State) : Prop := r = some (.int (Int32.ofNat len)) ∧ ∃ B', Put d B' s u ∧ Laid B B' q (q + len) (fun j => Value.int (lo8 (cv A (o + (j - q)))))
/-- no char of the range above 255: len; the places written hold each char's low byte -/
theorem law (l : Launch) (b : Addr) (A : Cell) (d : Addr) (B : Cell) (o q len : Nat) : Law l yN 5 5 0 0 yB 7 (some .int) site (P b A d B o q len) (E b A d B o q len) (copyLocs d q len) 0 0 := by
  refine Law.of_walk (plainFor_of_name (by decide +kernel)) (by decide +kernel) (by decide +kernel) (by decide) (fun _ _ h => by rw [h.1]; rfl) (fun _ U U' hal hh h => ⟨h.1, h.2.1.mv hal hh, h.2.2.1.mv hal hh, h.2.2.2⟩) (fun r U U' V V' h1 hal h2 h => ⟨h.1, h.2.elim fun B' q => ⟨B', q.1.mv h1 h2, q.2⟩⟩) ?_
  intro p e s m args below meth c s₁ X0 hexec hbytes hml hret hlk hnm hown hh0 W hP
  obtain ⟨rfl, hA, hB, hne, l1, l2, hp⟩ := hP
  have c1 : Steps p.tables e below (s₁.setTop (entryFrame m #[.ref b, .int (Int32.ofNat o), .ref d, .int (Int32.ofNat q), .int (Int32.ofNat len)] 7)) (s₁.setTop (mkF m 0 #[.val (.ref b), .val (.int (Int32.ofNat o)), .val (.ref d), .val (.int (Int32.ofNat q)), .val (.int (Int32.ofNat len)), .unset, .unset] [])) := entry rfl
  have hA0 := hA.1.mv X0.warmed.alike hh0
  have hB0 := hB.mv X0.warmed.alike hh0
  have a31 := hA.1.2.2.2
  have c2 : Steps p.tables e below (s₁.setTop (entryFrame m #[.ref b, .int (Int32.ofNat o), .ref d, .int (Int32.ofNat q), .int (Int32.ofNat len)] 7)) (s₁.setTop (mkF m 3 #[.val (.ref b), .val (.int (Int32.ofNat o)), .val (.ref d), .val (.int (Int32.ofNat q)), .val (.int (Int32.ofNat len)), .val (.int 0), .unset] [])) := c1.trans (by
    refine iconstV X0.here hexec rfl 0 (hb hbytes d0) (by decide) ?_
    refine XS.istore X0.here hexec rfl (hb hbytes d1) rfl rfl ?_
    exact Steps.refl _)
  have loop : ∀ (r i : Nat), i + r = len → ∀ (z : Slot), (z = .unset ∨ ∃ w, z = .val w ∧ w.category = 1) → ∀ (Tl : State) (Bk : Cell), Stand p l e { frames := 0, locals := 0, cells := 0, slots := 0 } s m #[.ref b, .int (Int32.ofNat o), .ref d, .int (Int32.ofNat q), .int (Int32.ofNat len)] below meth c Tl ([] ++ copyLocs d q i) 0 0 → Put d Bk s₁ Tl → Laid B Bk q (q + i) (fun j => Value.int (lo8 (cv A (o + (j - q))))) →
      Steps p.tables e below (s₁.setTop (entryFrame m #[.ref b, .int (Int32.ofNat o), .ref d, .int (Int32.ofNat q), .int (Int32.ofNat len)] 7)) (Tl.setTop (mkF m 3 #[.val (.ref b), .val (.int (Int32.ofNat (o + i))), .val (.ref d), .val (.int (Int32.ofNat (q + i))), .val (.int (Int32.ofNat len)), .val (.int (Int32.ofNat i)), z] [])) → ∃ (T' : State) (B' : Cell) (z' : Slot), Stand p l e { frames := 0, locals := 0, cells := 0, slots := 0 } s m #[.ref b, .int (Int32.ofNat o), .ref d, .int (Int32.ofNat q), .int (Int32.ofNat len)] below meth c T' ([] ++ copyLocs d q len) 0 0 ∧ Put d B' s₁ T' ∧ Laid B B' q (q + len) (fun j => Value.int (lo8 (cv A (o + (j - q))))) ∧
      Steps p.tables e below (s₁.setTop (entryFrame m #[.ref b, .int (Int32.ofNat o), .ref d, .int (Int32.ofNat q), .int (Int32.ofNat len)] 7)) (T'.setTop (mkF m 3 #[.val (.ref b), .val (.int (Int32.ofNat (o + len))), .val (.ref d), .val (.int (Int32.ofNat (q + len))), .val (.int (Int32.ofNat len)), .val (.int (Int32.ofNat len)), z'] [])) := by
    intro r
    induction r with
    | zero =>
      intro i hi z hz Tl Bk Xl pl fl cl
      have hil : i = len := by omega
      rw [hil] at Xl fl cl
      exact ⟨Tl, Bk, z, Xl, pl, fl, cl⟩
    | succ r ih =>
      intro i hi z hz Tl Bk Xl pl fl cl
      have all := X0.warmed.alike.symm.trans Xl.warmed.alike
      have hAl := hA0.keep all (pl.other hne hA0.1)
      have hBk := hB0.like all pl.1 fl.1 fl.2.1 fl.2.2.1
      have hlt : q + i < Bk.slots.size := by rw [fl.2.2.1]; omega
      have c3 : Steps p.tables e below (s₁.setTop (entryFrame m #[.ref b, .int (Int32.ofNat o), .ref d, .int (Int32.ofNat q), .int (Int32.ofNat len)] 7)) (Tl.setTop (mkF m 12 #[.val (.ref b), .val (.int (Int32.ofNat (o + i))), .val (.ref d), .val (.int (Int32.ofNat (q + i))), .val (.int (Int32.ofNat len)), .val (.int (Int32.ofNat i)), z] [.int (Int32.ofNat (o + i)), .ref b])) := cl.trans (by
        refine XS.iload Xl.here hexec rfl (hb hbytes d3) rfl ?_
        refine XS.iload Xl.here hexec rfl (hb hbytes d5) rfl ?_
        refine XS.icmpNo Xl.here hexec rfl (hb hbytes d7) rfl (ii_ge_f (lt32 (by omega) (by omega))) ?_
        refine XS.aloadN Xl.here hexec rfl (hb hbytes d10) rfl rfl ?_
        refine XS.iloadN Xl.here hexec rfl (hb hbytes d11) rfl ?_
        exact Steps.refl _)
      have c4 : Steps p.tables e below (s₁.setTop (entryFrame m #[.ref b, .int (Int32.ofNat o), .ref d, .int (Int32.ofNat q), .int (Int32.ofNat len)] 7)) (Tl.setTop (mkF m 13 #[.val (.ref b), .val (.int (Int32.ofNat (o + i))), .val (.ref d), .val (.int (Int32.ofNat (q + i))), .val (.int (Int32.ofNat len)), .val (.int (Int32.ofNat i)), z] [.int (cv A (o + i))])) := c3.trans (by
        refine Xl.aget hexec hAl rfl (hA.get (i := o + i) (by omega)) rfl rfl (hb hbytes d12) ?_
        exact Steps.refl _)
      have c5 : Steps p.tables e below (s₁.setTop (entryFrame m #[.ref b, .int (Int32.ofNat o), .ref d, .int (Int32.ofNat q), .int (Int32.ofNat len)] 7)) (Tl.setTop (mkF m 15 #[.val (.ref b), .val (.int (Int32.ofNat (o + i))), .val (.ref d), .val (.int (Int32.ofNat (q + i))), .val (.int (Int32.ofNat len)), .val (.int (Int32.ofNat i)), .val (.int (cv A (o + i)))] [])) := c4.trans (by
        refine XS.istoreS Xl.here hexec rfl (hb hbytes d13) rfl rfl hz ?_
        exact Steps.refl _)
      have c6 : Steps p.tables e below (s₁.setTop (entryFrame m #[.ref b, .int (Int32.ofNat o), .ref d, .int (Int32.ofNat q), .int (Int32.ofNat len)] 7)) (Tl.setTop (mkF m 31 #[.val (.ref b), .val (.int (Int32.ofNat (o + i))), .val (.ref d), .val (.int (Int32.ofNat (q + i))), .val (.int (Int32.ofNat len)), .val (.int (Int32.ofNat i)), .val (.int (cv A (o + i)))] [.int (lo8 (cv A (o + i))), .int (Int32.ofNat (q + i)), .ref d])) := c5.trans (by
        refine XS.iload Xl.here hexec rfl (hb hbytes d15) rfl ?_
        refine sipushV Xl.here hexec rfl 255 (hb hbytes d17) (by decide) ?_
        refine XS.icmpYes Xl.here hexec rfl (pc0 := 20) rfl (hb hbytes d20) rfl (ii_le_t (hp i (by omega))) (by decide) rfl ?_
        refine XS.aloadN Xl.here hexec rfl (hb hbytes d26) rfl rfl ?_
        refine XS.iloadN Xl.here hexec rfl (hb hbytes d27) rfl ?_
        refine XS.iload Xl.here hexec rfl (hb hbytes d28) rfl ?_
        refine i2b Xl.here hexec rfl (hb hbytes d30) rfl ?_
        exact Steps.refl _)
      obtain ⟨T7, X7, p7, st7⟩ := Xl.aput hexec hBk rfl hlt rfl (fits_lo8 (cv A (o + i))) (g := (mkF m 31 #[.val (.ref b), .val (.int (Int32.ofNat (o + i))), .val (.ref d), .val (.int (Int32.ofNat (q + i))), .val (.int (Int32.ofNat len)), .val (.int (Int32.ofNat i)), .val (.int (cv A (o + i)))] [.int (lo8 (cv A (o + i))), .int (Int32.ofNat (q + i)), .ref d])) rfl (rest := []) rfl (hb hbytes d31)
      have c8 : Steps p.tables e below (s₁.setTop (entryFrame m #[.ref b, .int (Int32.ofNat o), .ref d, .int (Int32.ofNat q), .int (Int32.ofNat len)] 7)) (T7.setTop (mkF m 32 #[.val (.ref b), .val (.int (Int32.ofNat (o + i))), .val (.ref d), .val (.int (Int32.ofNat (q + i))), .val (.int (Int32.ofNat len)), .val (.int (Int32.ofNat i)), .val (.int (cv A (o + i)))] [])) := c6.trans (st7 _ (Steps.refl _))
      have c9 : Steps p.tables e below (s₁.setTop (entryFrame m #[.ref b, .int (Int32.ofNat o), .ref d, .int (Int32.ofNat q), .int (Int32.ofNat len)] 7)) (T7.setTop (mkF m 3 #[.val (.ref b), .val (.int (Int32.ofNat (o + i) + 1)), .val (.ref d), .val (.int (Int32.ofNat (q + i) + 1)), .val (.int (Int32.ofNat len)), .val (.int (Int32.ofNat i + 1)), .val (.int (cv A (o + i)))] [])) := c8.trans (by
        refine iincV X7.here hexec rfl 1 (hb hbytes d32) (by decide) rfl rfl ?_
        refine iincV X7.here hexec rfl 1 (hb hbytes d35) (by decide) rfl rfl ?_
        refine iincV X7.here hexec rfl 1 (hb hbytes d38) (by decide) rfl rfl ?_
        refine XS.goto X7.here hexec rfl (pc0 := 41) rfl (hb hbytes d41) (by decide) rfl ?_
        exact Steps.refl _)
      have c10 : Steps p.tables e below (s₁.setTop (entryFrame m #[.ref b, .int (Int32.ofNat o), .ref d, .int (Int32.ofNat q), .int (Int32.ofNat len)] 7)) (T7.setTop (mkF m 3 #[.val (.ref b), .val (.int (Int32.ofNat (o + (i + 1)))), .val (.ref d), .val (.int (Int32.ofNat (q + (i + 1)))), .val (.int (Int32.ofNat len)), .val (.int (Int32.ofNat (i + 1))), .val (.int (cv A (o + i)))] [])) := by
        have := c9
        rw [succ32, succ32, succ32] at this
        exact this
      exact ih (i + 1) (by omega) _ (Or.inr ⟨_, rfl, rfl⟩) T7 _ (by rw [copyLocs_step, ← List.append_assoc]; exact X7) (pl.trans p7) (fl.step (by omega) hlt (by simp)) c10
  obtain ⟨T9, B9, z9, X9, p9, f9, g9⟩ := loop len 0 (by omega) .unset (Or.inl rfl) s₁ B (by simpa [copyLocs] using X0) ⟨hB0.1, fun _ _ => rfl, rfl⟩ (Laid.zero _ _ _) c2
  have c11 : Steps p.tables e below (s₁.setTop (entryFrame m #[.ref b, .int (Int32.ofNat o), .ref d, .int (Int32.ofNat q), .int (Int32.ofNat len)] 7)) (T9.setTop (mkF m 46 #[.val (.ref b), .val (.int (Int32.ofNat (o + len))), .val (.ref d), .val (.int (Int32.ofNat (q + len))), .val (.int (Int32.ofNat len)), .val (.int (Int32.ofNat len)), z9] [.int (Int32.ofNat len)])) := g9.trans (by
    refine XS.iload X9.here hexec rfl (hb hbytes d3) rfl ?_
    refine XS.iload X9.here hexec rfl (hb hbytes d5) rfl ?_
    refine XS.icmpYes X9.here hexec rfl (pc0 := 7) rfl (hb hbytes d7) rfl (ii_ge_t (nlt32 (by omega) (Nat.le_refl _))) (by decide) rfl ?_
    refine XS.iload X9.here hexec rfl (hb hbytes d44) rfl ?_
    exact Steps.refl _)
  exact ⟨T9, some (.int (Int32.ofNat len)), _, _, _, X9, by simp, rfl, rfl, (fun h => by cases h), ⟨rfl, B9, p9.from hh0, f9⟩, fun fs hl => c11.trans (X9.ireturnOut hexec hret rfl (Or.inl rfl) (hb hbytes d46) hl)⟩
end Cmp5
namespace Cmp3
def yN : MethodName := ⟨"java/lang/StringUTF16", "compress", "([CII)[B"⟩
abbrev yB : ByteArray := jdk_52_method_16_code
theorem d0 : decode yB 0 = .ok (.iload_n 2, 1) := by decide +kernel
theorem d1 : decode yB 1 = .ok (.newarray .byte, 2) := by decide +kernel
theorem d3 : decode yB 3 = .ok (.astore_n 3, 1) := by decide +kernel
theorem d4 : decode yB 4 = .ok (.aload_n 0, 1) := by decide +kernel
theorem d5 : decode yB 5 = .ok (.iload_n 1, 1) := by decide +kernel
theorem d6 : decode yB 6 = .ok (.aload_n 3, 1) := by decide +kernel
theorem d7 : decode yB 7 = .ok (.iconst 0, 1) := by decide +kernel
theorem d8 : decode yB 8 = .ok (.iload_n 2, 1) := by decide +kernel
theorem d9 : decode yB 9 = .ok (.invokestatic 115, 3) := by decide +kernel
theorem d12 : decode yB 12 = .ok (.istore 4, 2) := by decide +kernel
theorem d14 : decode yB 14 = .ok (.iload 4, 2) := by decide +kernel
theorem d16 : decode yB 16 = .ok (.iload_n 2, 1) := by decide +kernel
theorem d17 : decode yB 17 = .ok (.if_icmp (.eq) 40, 3) := by decide +kernel
theorem d57 : decode yB 57 = .ok (.aload_n 3, 1) := by decide +kernel
theorem d58 : decode yB 58 = .ok (.areturn, 1) := by decide +kernel
def site : List Cond := [.arrayClass .byte, Cmp5.tab] ++ staticW U16 115 Cmp5.yN
def tab : Cond := tabOf yN yB 6 (some (.array .byte)) site
def P (b : Addr) (A : Cell) (o len : Nat) (args : Array Value) (s : State) : Prop := args = #[.ref b, .int (Int32.ofNat o), .int (Int32.ofNat len)] ∧ Ch b A s ∧ o + len ≤ A.slots.size ∧ len ≤ 536870912 ∧ ∀ i, i < len → ¬ 255 < cv A (o + i)
def E (b : Addr) (A : Cell) (o len : Nat) (r : Option Value) (s u : State) : Prop := NewArr .byte "[B" len (fun j => .int (lo8 (cv A (o + j)))) r s u ∧ u.heap.size = s.heap.size + 1
/-- no char of the range above 255: a new byte[] of their low bytes -/
theorem law (l : Launch) (b : Addr) (A : Cell) (o len : Nat) : Law l yN 3 3 1 18 yB 6 (some (.array .byte)) site (P b A o len) (E b A o len) [] 1 len := by
  refine Law.of_walk (plainFor_of_name (by decide +kernel)) (by decide +kernel) (by decide +kernel) (by decide) (fun _ _ h => by rw [h.1]; rfl) (fun _ U U' hal hh h => ⟨h.1, h.2.1.mv hal hh, h.2.2⟩) (fun r U U' V V' h1 hal h2 h => ⟨NewArr.mv r U U' V V' h1 hal h2 h.1, by rw [h1, h2]; exact h.2⟩) ?_
  intro p e s m args below meth c s₁ X0 hexec hbytes hml hret hlk hnm hown hh0 W hP
  obtain ⟨rfl, hA, l1, l2, hp⟩ := hP
  have a31 := hA.1.2.2.2
  have c1 : Steps p.tables e below (s₁.setTop (entryFrame m #[.ref b, .int (Int32.ofNat o), .int (Int32.ofNat len)] 6)) (s₁.setTop (mkF m 0 #[.val (.ref b), .val (.int (Int32.ofNat o)), .val (.int (Int32.ofNat len)), .unset, .unset, .unset] [])) := entry rfl
  have c2 : Steps p.tables e below (s₁.setTop (entryFrame m #[.ref b, .int (Int32.ofNat o), .int (Int32.ofNat len)] 6)) (s₁.setTop (mkF m 1 #[.val (.ref b), .val (.int (Int32.ofNat o)), .val (.int (Int32.ofNat len)), .unset, .unset, .unset] [.int (Int32.ofNat len)])) := c1.trans (by
    refine XS.iloadN X0.here hexec rfl (hb hbytes d0) rfl ?_
    exact Steps.refl _)
  obtain ⟨T3, B3, X3, ba3, bs3, bv3, bh3, bf3, st3⟩ := X0.anew hexec (atype := .byte) (wk W (.arrayClass .byte)) rfl (by show len * 1 ≤ _; omega) (by omega) (g := (mkF m 1 #[.val (.ref b), .val (.int (Int32.ofNat o)), .val (.int (Int32.ofNat len)), .unset, .unset, .unset] [.int (Int32.ofNat len)])) rfl (hb hbytes d1) (rest := []) rfl (Nat.le_refl _) (by show 0 + len ≤ len; omega)
  rw [hh0] at ba3 st3
  have kp3 : XT.Kept s T3 := (XT.Kept.of_eq hh0).push bh3
  have hA3 := hA.keep X3.warmed.alike (kp3 _ _ hA.1.1)
  have hne : b ≠ s.heap.size := hA.1.ne
  have c4 : Steps p.tables e below (s₁.setTop (entryFrame m #[.ref b, .int (Int32.ofNat o), .int (Int32.ofNat len)] 6)) (T3.setTop (mkF m 3 #[.val (.ref b), .val (.int (Int32.ofNat o)), .val (.int (Int32.ofNat len)), .unset, .unset, .unset] [.ref s.heap.size])) := c2.trans (st3 _ (Steps.refl _))
  have c5 : Steps p.tables e below (s₁.setTop (entryFrame m #[.ref b, .int (Int32.ofNat o), .int (Int32.ofNat len)] 6)) (T3.setTop (mkF m 9 #[.val (.ref b), .val (.int (Int32.ofNat o)), .val (.int (Int32.ofNat len)), .val (.ref s.heap.size), .unset, .unset] [.int (Int32.ofNat len), .int 0, .ref s.heap.size, .int (Int32.ofNat o), .ref b])) := c4.trans (by
    refine XS.astoreN X3.here hexec rfl (hb hbytes d3) rfl rfl rfl ?_
    refine XS.aloadN X3.here hexec rfl (hb hbytes d4) rfl rfl ?_
    refine XS.iloadN X3.here hexec rfl (hb hbytes d5) rfl ?_
    refine XS.aloadN X3.here hexec rfl (hb hbytes d6) rfl rfl ?_
    refine iconstV X3.here hexec rfl 0 (hb hbytes d7) (by decide) ?_
    refine XS.iloadN X3.here hexec rfl (hb hbytes d8) rfl ?_
    exact Steps.refl _)
  obtain ⟨v6, T6, X6, E6, g6⟩ := X3.callS hexec (Cmp5.law l b A s.heap.size B3 o 0 len) hown (wks W (staticW U16 115 Cmp5.yN)) (wk W Cmp5.tab) (W := 0) (Nat.le_of_ble_eq_true rfl) (Nat.le_of_ble_eq_true rfl) (Nat.le_refl _) (by show 0 + len + 0 ≤ len; omega) (g := (mkF m 9 #[.val (.ref b), .val (.int (Int32.ofNat o)), .val (.int (Int32.ofNat len)), .val (.ref s.heap.size), .unset, .unset] [.int (Int32.ofNat len), .int (Int32.ofNat 0), .ref s.heap.size, .int (Int32.ofNat o), .ref b])) rfl (by rw [hml]; rfl) c5 (argsL := [.ref b, .int (Int32.ofNat o), .ref s.heap.size, .int (Int32.ofNat 0), .int (Int32.ofNat len)]) (rest := []) rfl rfl (by show 2 * 0 + 0 ≤ _; decide) (hb hbytes d9) (⟨rfl, hA3, ba3, hne, l1, by rw [bs3]; simp, hp⟩)
  obtain ⟨rfl, B6, p6, f6⟩ := E6
  have c7 : Steps p.tables e below (s₁.setTop (entryFrame m #[.ref b, .int (Int32.ofNat o), .int (Int32.ofNat len)] 6)) (T6.setTop (mkF m 12 #[.val (.ref b), .val (.int (Int32.ofNat o)), .val (.int (Int32.ofNat len)), .val (.ref s.heap.size), .unset, .unset] [.int (Int32.ofNat len)])) := g6
  have c8 : Steps p.tables e below (s₁.setTop (entryFrame m #[.ref b, .int (Int32.ofNat o), .int (Int32.ofNat len)] 6)) (T6.setTop (mkF m 58 #[.val (.ref b), .val (.int (Int32.ofNat o)), .val (.int (Int32.ofNat len)), .val (.ref s.heap.size), .val (.int (Int32.ofNat len)), .unset] [.ref s.heap.size])) := c7.trans (by
    refine XS.istore X6.here hexec rfl (hb hbytes d12) rfl rfl ?_
    refine XS.iload X6.here hexec rfl (hb hbytes d14) rfl ?_
    refine XS.iloadN X6.here hexec rfl (hb hbytes d16) rfl ?_
    refine XS.icmpYes X6.here hexec rfl (pc0 := 17) rfl (hb hbytes d17) rfl (ii_eq_t rfl) (by decide) rfl ?_
    refine XS.aloadN X6.here hexec rfl (hb hbytes d57) rfl rfl ?_
    exact Steps.refl _)
  have X8 := X6.wide (L' := []) (cells' := 1) (slots' := len) (fun x hx hlt => by
    simp only [List.nil_append, copyLocs, List.mem_map, List.mem_range] at hx
    obtain ⟨i, -, rfl⟩ := hx
    exact absurd hlt (Nat.lt_irrefl _)) (Nat.le_refl _) (by omega)
  exact ⟨T6, some (.ref s.heap.size), _, _, _, X8, rfl, rfl, rfl, (fun h => by cases h), ⟨⟨rfl, B6, ba3.like (X3.warmed.alike.symm.trans X6.warmed.alike) p6.1 f6.1 f6.2.1 f6.2.2.1, f6.2.1.trans bv3, by rw [X6.warmed.alike.findClass, f6.1]; exact bf3, by rw [f6.2.2.1, bs3]; simp, fun j hj => by rw [f6.2.2.2 j, if_pos (by omega)]; rfl, kp3.put p6 (Nat.le_refl _)⟩, by rw [p6.2.2, bh3, hh0]; simp⟩, fun fs hl => c8.trans (X8.areturnOut hexec rfl hret rfl (hb hbytes d58) hl)⟩
end Cmp3
namespace CodL
def yN : MethodName := ⟨"java/lang/StringUTF16", "coderFromArrayLen", "([BI)B"⟩
abbrev yB : ByteArray := jdk_52_method_15_code
theorem d0 : decode yB 0 = .ok (.iload_n 1, 1) := by decide +kernel
theorem d1 : decode yB 1 = .ok (.aload_n 0, 1) := by decide +kernel
theorem d2 : decode yB 2 = .ok (.arraylength, 1) := by decide +kernel
theorem d3 : decode yB 3 = .ok (.isub, 1) := by decide +kernel
theorem d4 : decode yB 4 = .ok (.bipush 31, 2) := by decide +kernel
theorem d6 : decode yB 6 = .ok (.iushr, 1) := by decide +kernel
theorem d7 : decode yB 7 = .ok (.i2b, 1) := by decide +kernel
theorem d8 : decode yB 8 = .ok (.ireturn, 1) := by decide +kernel
def site : List Cond := []
def tab : Cond := tabOf yN yB 2 (some .byte) site
def P (d : Addr) (B : Cell) (args : Array Value) (s : State) : Prop := args = #[.ref d, .int (Int32.ofNat B.slots.size)] ∧ Arr .byte d B s
def E (r : Option Value) (s u : State) : Prop := XT.PureE (some (.int 0)) r s u
/-- an array as long as the number of chars: LATIN1 -/
theorem law (l : Launch) (d : Addr) (B : Cell) : Law l yN 2 2 0 0 yB 2 (some .byte) site (P d B) E [] 0 0 := by
  refine Law.of_walk (plainFor_of_name (by decide +kernel)) (by decide +kernel) (by decide +kernel) (by decide) (fun _ _ h => by rw [h.1]; rfl) (fun _ U U' hal hh h => ⟨h.1, h.2.mv hal hh⟩) (fun r U U' V V' h1 hal h2 h => XT.PureE.mv r U U' V V' h1 hal h2 h) ?_
  intro p e s m args below meth c s₁ X0 hexec hbytes hml hret hlk hnm hown hh0 W hP
  obtain ⟨rfl, hB⟩ := hP
  have hB0 := hB.mv X0.warmed.alike hh0
  have c1 : Steps p.tables e below (s₁.setTop (entryFrame m #[.ref d, .int (Int32.ofNat B.slots.size)] 2)) (s₁.setTop (mkF m 0 #[.val (.ref d), .val (.int (Int32.ofNat B.slots.size))] [])) := entry rfl
  have c2 : Steps p.tables e below (s₁.setTop (entryFrame m #[.ref d, .int (Int32.ofNat B.slots.size)] 2)) (s₁.setTop (mkF m 2 #[.val (.ref d), .val (.int (Int32.ofNat B.slots.size))] [.ref d, .int (Int32.ofNat B.slots.size)])) := c1.trans (by
    refine XS.iloadN X0.here hexec rfl (hb hbytes d0) rfl ?_
    refine XS.aloadN X0.here hexec rfl (hb hbytes d1) rfl rfl ?_
    exact Steps.refl _)
  have c3 : Steps p.tables e below (s₁.setTop (entryFrame m #[.ref d, .int (Int32.ofNat B.slots.size)] 2)) (s₁.setTop (mkF m 8 #[.val (.ref d), .val (.int (Int32.ofNat B.slots.size))] [.int (lo8 (ushr (Int32.ofNat B.slots.size - Int32.ofNat B.slots.size) 31))])) := c2.trans (by
    refine X0.alen hexec hB0 rfl rfl (hb hbytes d2) ?_
    refine XS.isub X0.here hexec rfl (hb hbytes d3) rfl ?_
    refine bipushV X0.here hexec rfl 31 (hb hbytes d4) (by decide) ?_
    refine iushr X0.here hexec rfl (hb hbytes d6) rfl ?_
    refine i2b X0.here hexec rfl (hb hbytes d7) rfl ?_
    exact Steps.refl _)
  have e0 : lo8 (ushr (Int32.ofNat B.slots.size - Int32.ofNat B.slots.size) 31) = 0 := by rw [Int32.sub_self]; decide
  rw [e0] at c3
  exact ⟨s₁, some (.int 0), _, _, _, X0, rfl, rfl, rfl, (fun h => by cases h), ⟨rfl, hh0⟩, fun fs hl => c3.trans (X0.ireturnOut hexec hret rfl (Or.inr (Or.inr (Or.inl rfl))) (hb hbytes d8) hl)⟩
end CodL
/-- the String at a is Latin-1 over a new byte[] (the heap's one new cell): the low bytes of the len chars of A from o on; every cell but a is kept -/
def Got (a : Addr) (D : Cell) (fV fC : Field) (A : Cell) (o len : Nat) (r : Option Value) (s u : State) : Prop := r = none ∧ ∃ D' V : Cell, Blank "java/lang/String" a D' u ∧ Same D D' [fV.slot, fC.slot] ∧ D'.slots[fV.slot]? = some (.ref s.heap.size) ∧ D'.slots[fC.slot]? = some (.int 0) ∧ Arr .byte s.heap.size V u ∧ V.vm = .none ∧ u.vm.findClass "[B" = some V.cls ∧ V.slots.size = len ∧ (∀ j, j < len → V.slots[j]? = some (.int (lo8 (cv A (o + j))))) ∧ (∀ (y : Addr) (c : Cell), y ≠ a → s.heap[y]? = some c → u.heap[y]? = some c) ∧ u.heap.size = s.heap.size + 1
theorem Got.mv {a : Addr} {D A : Cell} {fV fC : Field} {o len : Nat} : ∀ r (U U' V V' : State), U'.heap = U.heap → V.vm.Alike V'.vm → V'.heap = V.heap → Got a D fV fC A o len r U V → Got a D fV fC A o len r U' V' :=
  fun r U U' V V' h1 hal h2 ⟨e0, D', X, a1, a2, a3, a4, a5, a6, a7, a8, a9, a10, a11⟩ => ⟨e0, D', X, a1.mv hal h2, a2, by rw [h1]; exact a3, a4, by rw [h1]; exact a5.mv hal h2, a6, by rw [hal.findClass]; exact a7, a8, a9, by rw [h1, h2]; exact a10, by rw [h1, h2]; exact a11⟩
namespace New4
def yN : MethodName := ⟨"java/lang/String", "<init>", "([CIILjava/lang/Void;)V"⟩
abbrev yB : ByteArray := jdk_42_method_149_code
theorem d0 : decode yB 0 = .ok (.aload_n 0, 1) := by decide +kernel
theorem d1 : decode yB 1 = .ok (.invokespecial 1, 3) := by decide +kernel
theorem d4 : decode yB 4 = .ok (.iload_n 3, 1) := by decide +kernel
theorem d5 : decode yB 5 = .ok (.ifCond (.ne) 22, 3) := by decide +kernel
theorem d27 : decode yB 27 = .ok (.getstatic 38, 3) := by decide +kernel
theorem d30 : decode yB 30 = .ok (.ifCond (.eq) 28, 3) := by decide +kernel
theorem d33 : decode yB 33 = .ok (.aload_n 1, 1) := by decide +kernel
theorem d34 : decode yB 34 = .ok (.iload_n 2, 1) := by decide +kernel
theorem d35 : decode yB 35 = .ok (.iload_n 3, 1) := by decide +kernel
theorem d36 : decode yB 36 = .ok (.invokestatic 177, 3) := by decide +kernel
theorem d39 : decode yB 39 = .ok (.astore 5, 2) := by decide +kernel
theorem d41 : decode yB 41 = .ok (.aload_n 0, 1) := by decide +kernel
theorem d42 : decode yB 42 = .ok (.aload 5, 2) := by decide +kernel
theorem d44 : decode yB 44 = .ok (.iload_n 3, 1) := by decide +kernel
theorem d45 : decode yB 45 = .ok (.invokestatic 47, 3) := by decide +kernel
theorem d48 : decode yB 48 = .ok (.putfield 15, 3) := by decide +kernel
theorem d51 : decode yB 51 = .ok (.aload_n 0, 1) := by decide +kernel
theorem d52 : decode yB 52 = .ok (.aload 5, 2) := by decide +kernel
theorem d54 : decode yB 54 = .ok (.putfield 9, 3) := by decide +kernel
theorem d57 : decode yB 57 = .ok (.return_, 1) := by decide +kernel
def site : List Cond := [.fieldLink "java/lang/String" 38 "java/lang/String" "COMPACT_STRINGS" "Z", Cmp3.tab, CodL.tab, .laysFinal "java/lang/String" "java/lang/String" "value" "[B", .fieldLink "java/lang/String" 9 "java/lang/String" "value" "[B", .laysFinal "java/lang/String" "java/lang/String" "coder" "B", .fieldLink "java/lang/String" 15 "java/lang/String" "coder" "B"] ++ objW "java/lang/String" 1 ++ staticW "java/lang/String" 177 Cmp3.yN ++ staticW "java/lang/String" 47 CodL.yN
def tab : Cond := tabOf yN yB 6 none site
def P (a : Addr) (D : Cell) (fV fC : Field) (b : Addr) (A : Cell) (z : Int32) (o len : Nat) (args : Array Value) (s : State) : Prop := args = #[.ref a, .ref b, .int (Int32.ofNat o), .int (Int32.ofNat len), .null] ∧ Blank "java/lang/String" a D s ∧ Found "java/lang/String" "value" "[B" fV s ∧ Found "java/lang/String" "coder" "B" fC s ∧ Ch b A s ∧ StaticIs s "java/lang/String" "COMPACT_STRINGS" "Z" (.int z) ∧ ¬ z = 0 ∧ 0 < len ∧ o + len ≤ A.slots.size ∧ len ≤ 536870912 ∧ ∀ i, i < len → ¬ 255 < cv A (o + i)
def E (a : Addr) (D : Cell) (fV fC : Field) (A : Cell) (o len : Nat) (r : Option Value) (s u : State) : Prop := Got a D fV fC A o len r s u
/-- len > 0, no char of the range above 255: a Latin-1 String of their low bytes -/
theorem law (l : Launch) (a : Addr) (D : Cell) (fV fC : Field) (b : Addr) (A : Cell) (z : Int32) (o len : Nat) : Law l yN 5 4 2 35 yB 6 none site (P a D fV fC b A z o len) (E a D fV fC A o len) [⟨a, fC.slot⟩, ⟨a, fV.slot⟩] 1 len := by
  refine Law.of_walk (plainFor_of_name (by decide +kernel)) (by decide +kernel) (by decide +kernel) (by decide) (fun _ _ h => by rw [h.1]; rfl) (fun _ U U' hal hh h => ⟨h.1, h.2.1.mv hal hh, h.2.2.1.al hal, h.2.2.2.1.al hal, h.2.2.2.2.1.mv hal hh, h.2.2.2.2.2.1.there hal hh, h.2.2.2.2.2.2⟩) (fun r U U' V V' h1 hal h2 h => Got.mv r U U' V V' h1 hal h2 h) ?_
  intro p e s m args below meth c s₁ X0 hexec hbytes hml hret hlk hnm hown hh0 W hP
  obtain ⟨rfl, hB, f1, f2, hA, s1, hz, l0, l1, l2, hp⟩ := hP
  have a31 := hA.1.2.2.2
  have c1 : Steps p.tables e below (s₁.setTop (entryFrame m #[.ref a, .ref b, .int (Int32.ofNat o), .int (Int32.ofNat len), .null] 6)) (s₁.setTop (mkF m 0 #[.val (.ref a), .val (.ref b), .val (.int (Int32.ofNat o)), .val (.int (Int32.ofNat len)), .val .null, .unset] [])) := entry rfl
  have c2 : Steps p.tables e below (s₁.setTop (entryFrame m #[.ref a, .ref b, .int (Int32.ofNat o), .int (Int32.ofNat len), .null] 6)) (s₁.setTop (mkF m 1 #[.val (.ref a), .val (.ref b), .val (.int (Int32.ofNat o)), .val (.int (Int32.ofNat len)), .val .null, .unset] [.ref a])) := c1.trans (by
    refine XS.aloadN X0.here hexec rfl (hb hbytes d0) rfl rfl ?_
    exact Steps.refl _)
  obtain ⟨T3, X3, q3, st3⟩ := X0.oinit hexec hown (wks W (objW "java/lang/String" 1)) (g := (mkF m 1 #[.val (.ref a), .val (.ref b), .val (.int (Int32.ofNat o)), .val (.int (Int32.ofNat len)), .val .null, .unset] [.ref a])) rfl (by rw [hml]; rfl) (rest := []) rfl (hb hbytes d1) (W := 0) (by show 2 * 0 + 0 ≤ _; decide) (Nat.le_of_ble_eq_true rfl) (Nat.le_of_ble_eq_true rfl)
  have hh3 := q3.trans hh0
  have c4 : Steps p.tables e below (s₁.setTop (entryFrame m #[.ref a, .ref b, .int (Int32.ofNat o), .int (Int32.ofNat len), .null] 6)) (T3.setTop (mkF m 27 #[.val (.ref a), .val (.ref b), .val (.int (Int32.ofNat o)), .val (.int (Int32.ofNat len)), .val .null, .unset] [])) := (c2.trans (st3 _ (Steps.refl _))).trans (by
    refine XS.iloadN X3.here hexec rfl (hb hbytes d4) rfl ?_
    refine XS.ifYes X3.here hexec rfl (pc0 := 5) rfl (hb hbytes d5) rfl (i0_ne_t (nz32 (by omega) l0)) (by decide) rfl ?_
    exact Steps.refl _)
  obtain ⟨T5, X5, q5, st5⟩ := X3.sget hexec hown (wk W (.fieldLink "java/lang/String" 38 "java/lang/String" "COMPACT_STRINGS" "Z")) s1 (fun _ _ h => by rw [hh3]; exact h) (g := (mkF m 27 #[.val (.ref a), .val (.ref b), .val (.int (Int32.ofNat o)), .val (.int (Int32.ofNat len)), .val .null, .unset] [])) rfl (hb hbytes d27)
  have hh5 := q5.trans hh3
  have c6 : Steps p.tables e below (s₁.setTop (entryFrame m #[.ref a, .ref b, .int (Int32.ofNat o), .int (Int32.ofNat len), .null] 6)) (T5.setTop (mkF m 30 #[.val (.ref a), .val (.ref b), .val (.int (Int32.ofNat o)), .val (.int (Int32.ofNat len)), .val .null, .unset] [.int z])) := c4.trans (st5 _ (Steps.refl _))
  have c7 : Steps p.tables e below (s₁.setTop (entryFrame m #[.ref a, .ref b, .int (Int32.ofNat o), .int (Int32.ofNat len), .null] 6)) (T5.setTop (mkF m 36 #[.val (.ref a), .val (.ref b), .val (.int (Int32.ofNat o)), .val (.int (Int32.ofNat len)), .val .null, .unset] [.int (Int32.ofNat len), .int (Int32.ofNat o), .ref b])) := c6.trans (by
    refine XS.ifNo X5.here hexec rfl (hb hbytes d30) rfl (i0_eq_f hz) ?_
    refine XS.aloadN X5.here hexec rfl (hb hbytes d33) rfl rfl ?_
    refine XS.iloadN X5.here hexec rfl (hb hbytes d34) rfl ?_
    refine XS.iloadN X5.here hexec rfl (hb hbytes d35) rfl ?_
    exact Steps.refl _)
  obtain ⟨v8, T8, X8, E8, g8⟩ := X5.callS hexec (Cmp3.law l b A o len) hown (wks W (staticW "java/lang/String" 177 Cmp3.yN)) (wk W Cmp3.tab) (W := 0) (Nat.le_of_ble_eq_true rfl) (Nat.le_of_ble_eq_true rfl) (Nat.le_refl _) (by show 0 + len ≤ len; omega) (g := (mkF m 36 #[.val (.ref a), .val (.ref b), .val (.int (Int32.ofNat o)), .val (.int (Int32.ofNat len)), .val .null, .unset] [.int (Int32.ofNat len), .int (Int32.ofNat o), .ref b])) rfl (by rw [hml]; rfl) c7 (argsL := [.ref b, .int (Int32.ofNat o), .int (Int32.ofNat len)]) (rest := []) rfl rfl (by show 2 * 0 + 0 ≤ _; decide) (hb hbytes d36) (⟨rfl, hA.mv X5.warmed.alike hh5, l1, l2, hp⟩)
  obtain ⟨e8, z8⟩ := E8
  obtain ⟨rfl, N, n1, n2, n3, n4, n5, n6⟩ := NewArr.mv _ T5 s _ _ hh5.symm (Vm.Alike.refl _) rfl e8
  rw [hh5] at z8
  have hB1 := hB.keep X8.warmed.alike (n6 _ _ hB.1)
  have hne : s.heap.size ≠ a := (Nat.ne_of_lt (Array.getElem?_eq_some_iff.mp hB.1).1).symm
  have c9 : Steps p.tables e below (s₁.setTop (entryFrame m #[.ref a, .ref b, .int (Int32.ofNat o), .int (Int32.ofNat len), .null] 6)) (T8.setTop (mkF m 39 #[.val (.ref a), .val (.ref b), .val (.int (Int32.ofNat o)), .val (.int (Int32.ofNat len)), .val .null, .unset] [.ref s.heap.size])) := g8
  have c10 : Steps p.tables e below (s₁.setTop (entryFrame m #[.ref a, .ref b, .int (Int32.ofNat o), .int (Int32.ofNat len), .null] 6)) (T8.setTop (mkF m 45 #[.val (.ref a), .val (.ref b), .val (.int (Int32.ofNat o)), .val (.int (Int32.ofNat len)), .val .null, .val (.ref s.heap.size)] [.int (Int32.ofNat N.slots.size), .ref s.heap.size, .ref a])) := by
    have hc : Steps p.tables e below (s₁.setTop (entryFrame m #[.ref a, .ref b, .int (Int32.ofNat o), .int (Int32.ofNat len), .null] 6)) (T8.setTop (mkF m 45 #[.val (.ref a), .val (.ref b), .val (.int (Int32.ofNat o)), .val (.int (Int32.ofNat len)), .val .null, .val (.ref s.heap.size)] [.int (Int32.ofNat len), .ref s.heap.size, .ref a])) := c9.trans (by
      refine XS.astore X8.here hexec rfl (hb hbytes d39) rfl rfl rfl ?_
      refine XS.aloadN X8.here hexec rfl (hb hbytes d41) rfl rfl ?_
      refine XS.aload X8.here hexec rfl (hb hbytes d42) rfl rfl ?_
      refine XS.iloadN X8.here hexec rfl (hb hbytes d44) rfl ?_
      exact Steps.refl _)
    rw [n4]; exact hc
  obtain ⟨v11, T11, X11, E11, g11⟩ := X8.callS hexec (CodL.law l s.heap.size N) hown (wks W (staticW "java/lang/String" 47 CodL.yN)) (wk W CodL.tab) (W := 1) (Nat.le_of_ble_eq_true rfl) (Nat.le_of_ble_eq_true rfl) (Nat.le_refl _) (by show 0 + len + 0 ≤ len; omega) (g := (mkF m 45 #[.val (.ref a), .val (.ref b), .val (.int (Int32.ofNat o)), .val (.int (Int32.ofNat len)), .val .null, .val (.ref s.heap.size)] [.int (Int32.ofNat N.slots.size), .ref s.heap.size, .ref a])) rfl (by rw [hml]; rfl) c10 (argsL := [.ref s.heap.size, .int (Int32.ofNat N.slots.size)]) (rest := [.ref a]) rfl rfl (by show 2 * 0 + (1 + 0) ≤ _; decide) (hb hbytes d45) (⟨rfl, n1⟩)
  obtain ⟨rfl, q11⟩ := E11
  have hB11 := hB1.mv (X8.warmed.alike.symm.trans X11.warmed.alike) q11
  have c12 : Steps p.tables e below (s₁.setTop (entryFrame m #[.ref a, .ref b, .int (Int32.ofNat o), .int (Int32.ofNat len), .null] 6)) (T11.setTop (mkF m 48 #[.val (.ref a), .val (.ref b), .val (.int (Int32.ofNat o)), .val (.int (Int32.ofNat len)), .val .null, .val (.ref s.heap.size)] [.int 0, .ref a])) := g11
  obtain ⟨T13, X13, p13, bl13, sl13, st13⟩ := X11.finit hexec hown (wk W (.fieldLink "java/lang/String" 15 "java/lang/String" "coder" "B")) (Or.inr ⟨_, (wk W (.laysFinal "java/lang/String" "java/lang/String" "coder" "B"))⟩) (Or.inl ⟨rfl, hnm⟩) f2 (Or.inl rfl) hB11 (t := .byte) (by decide +kernel) rfl (g := (mkF m 48 #[.val (.ref a), .val (.ref b), .val (.int (Int32.ofNat o)), .val (.int (Int32.ofNat len)), .val .null, .val (.ref s.heap.size)] [.int 0, .ref a])) rfl (rest := []) rfl (hb hbytes d48)
  have c14 : Steps p.tables e below (s₁.setTop (entryFrame m #[.ref a, .ref b, .int (Int32.ofNat o), .int (Int32.ofNat len), .null] 6)) (T13.setTop (mkF m 54 #[.val (.ref a), .val (.ref b), .val (.int (Int32.ofNat o)), .val (.int (Int32.ofNat len)), .val .null, .val (.ref s.heap.size)] [.ref s.heap.size, .ref a])) := (c12.trans (st13 _ (Steps.refl _))).trans (by
    refine XS.aloadN X13.here hexec rfl (hb hbytes d51) rfl rfl ?_
    refine XS.aload X13.here hexec rfl (hb hbytes d52) rfl rfl ?_
    exact Steps.refl _)
  obtain ⟨T15, X15, p15, bl15, sl15, st15⟩ := X13.finit hexec hown (wk W (.fieldLink "java/lang/String" 9 "java/lang/String" "value" "[B")) (Or.inr ⟨_, (wk W (.laysFinal "java/lang/String" "java/lang/String" "value" "[B"))⟩) (Or.inl ⟨rfl, hnm⟩) f1 (Or.inl rfl) bl13 (t := (.array .byte)) (by decide +kernel) rfl (g := (mkF m 54 #[.val (.ref a), .val (.ref b), .val (.int (Int32.ofNat o)), .val (.int (Int32.ofNat len)), .val .null, .val (.ref s.heap.size)] [.ref s.heap.size, .ref a])) rfl (rest := []) rfl (hb hbytes d54)
  have c16 : Steps p.tables e below (s₁.setTop (entryFrame m #[.ref a, .ref b, .int (Int32.ofNat o), .int (Int32.ofNat len), .null] 6)) (T15.setTop (mkF m 57 #[.val (.ref a), .val (.ref b), .val (.int (Int32.ofNat o)), .val (.int (Int32.ofNat len)), .val .null, .val (.ref s.heap.size)] [])) := c14.trans (st15 _ (Steps.refl _))
  have ap := apart (Or.inr ⟨_, (wk W (.laysFinal "java/lang/String" "java/lang/String" "value" "[B"))⟩) (Or.inr ⟨_, (wk W (.laysFinal "java/lang/String" "java/lang/String" "coder" "B"))⟩) f1 f2 (t₁ := .array .byte) (t₂ := .byte) (by decide +kernel) (by decide +kernel) (by decide)
  have al := X8.warmed.alike.symm.trans X15.warmed.alike
  have n7 : T11.heap[s.heap.size]? = some N := by rw [q11]; exact n1.1
  exact ⟨T15, none, _, _, _, X15, by simp, rfl, by omega, (fun _ => rfl), ⟨rfl, _, N, bl15, ((Same.refl D _).set _ (by simp)).set _ (by simp), sl15, (Cell.slots_setSlot_ne _ ap).trans sl13, n1.keep al (p15.other hne (p13.other hne n7)), n2, by rw [al.findClass]; exact n3, n4, n5, fun y c h1 h2 => p15.other h1 (p13.other h1 (by rw [q11]; exact n6 y c h2)), by rw [p15.2.2, p13.2.2, q11]; exact z8⟩, fun fs hl => c16.trans (X15.returnOut hexec hret (hb hbytes d57) hl)⟩
end New4
namespace New1
def yN : MethodName := ⟨"java/lang/String", "<init>", "([C)V"⟩
abbrev yB : ByteArray := jdk_42_method_3_code
theorem d0 : decode yB 0 = .ok (.aload_n 0, 1) := by decide +kernel
theorem d1 : decode yB 1 = .ok (.aload_n 1, 1) := by decide +kernel
theorem d2 : decode yB 2 = .ok (.iconst 0, 1) := by decide +kernel
theorem d3 : decode yB 3 = .ok (.aload_n 1, 1) := by decide +kernel
theorem d4 : decode yB 4 = .ok (.arraylength, 1) := by decide +kernel
theorem d5 : decode yB 5 = .ok (.aconst_null, 1) := by decide +kernel
theorem d6 : decode yB 6 = .ok (.invokespecial 27, 3) := by decide +kernel
theorem d9 : decode yB 9 = .ok (.return_, 1) := by decide +kernel
def site : List Cond := [New4.tab] ++ initW "java/lang/String" 27 New4.yN
def tab : Cond := tabOf yN yB 2 none site
def P (a : Addr) (D : Cell) (fV fC : Field) (b : Addr) (A : Cell) (z : Int32) (args : Array Value) (s : State) : Prop := args = #[.ref a, .ref b] ∧ Blank "java/lang/String" a D s ∧ Found "java/lang/String" "value" "[B" fV s ∧ Found "java/lang/String" "coder" "B" fC s ∧ Ch b A s ∧ StaticIs s "java/lang/String" "COMPACT_STRINGS" "Z" (.int z) ∧ ¬ z = 0 ∧ 0 < A.slots.size ∧ A.slots.size ≤ 536870912 ∧ ∀ i, i < A.slots.size → ¬ 255 < cv A i
def E (a : Addr) (D : Cell) (fV fC : Field) (A : Cell) (r : Option Value) (s u : State) : Prop := Got a D fV fC A 0 A.slots.size r s u
/-- new String(chars), not empty, no char above 255: a Latin-1 String of their low bytes -/
theorem law (l : Launch) (a : Addr) (D : Cell) (fV fC : Field) (b : Addr) (A : Cell) (z : Int32) : Law l yN 2 1 3 52 yB 2 none site (P a D fV fC b A z) (E a D fV fC A) [⟨a, fC.slot⟩, ⟨a, fV.slot⟩] 1 A.slots.size := by
  refine Law.of_walk (plainFor_of_name (by decide +kernel)) (by decide +kernel) (by decide +kernel) (by decide) (fun _ _ h => by rw [h.1]; rfl) (fun _ U U' hal hh h => ⟨h.1, h.2.1.mv hal hh, h.2.2.1.al hal, h.2.2.2.1.al hal, h.2.2.2.2.1.mv hal hh, h.2.2.2.2.2.1.there hal hh, h.2.2.2.2.2.2⟩) (fun r U U' V V' h1 hal h2 h => Got.mv r U U' V V' h1 hal h2 h) ?_
  intro p e s m args below meth c s₁ X0 hexec hbytes hml hret hlk hnm hown hh0 W hP
  obtain ⟨rfl, hB, f1, f2, hA, s1, hz, l0, l2, hp⟩ := hP
  have c1 : Steps p.tables e below (s₁.setTop (entryFrame m #[.ref a, .ref b] 2)) (s₁.setTop (mkF m 0 #[.val (.ref a), .val (.ref b)] [])) := entry rfl
  have c2 : Steps p.tables e below (s₁.setTop (entryFrame m #[.ref a, .ref b] 2)) (s₁.setTop (mkF m 6 #[.val (.ref a), .val (.ref b)] [.null, .int (Int32.ofNat A.slots.size), .int 0, .ref b, .ref a])) := c1.trans (by
    refine XS.aloadN X0.here hexec rfl (hb hbytes d0) rfl rfl ?_
    refine XS.aloadN X0.here hexec rfl (hb hbytes d1) rfl rfl ?_
    refine iconstV X0.here hexec rfl 0 (hb hbytes d2) (by decide) ?_
    refine XS.aloadN X0.here hexec rfl (hb hbytes d3) rfl rfl ?_
    refine X0.alen hexec (hA.1.mv X0.warmed.alike hh0) rfl rfl (hb hbytes d4) ?_
    refine XS.aconstNull X0.here hexec rfl (hb hbytes d5) ?_
    exact Steps.refl _)
  obtain ⟨v3, T3, X3, E3, g3⟩ := X0.callN hexec (New4.law l a D fV fC b A z 0 A.slots.size) rfl hown (wks W (initW "java/lang/String" 27 New4.yN)) (W New4.tab (by simp only [site, List.mem_cons, List.mem_append, true_or, or_true])) (W := 0) (Nat.le_of_ble_eq_true rfl) (Nat.le_of_ble_eq_true rfl) (Nat.le_refl _) (by show 0 + A.slots.size ≤ A.slots.size; omega) (g := (mkF m 6 #[.val (.ref a), .val (.ref b)] [.null, .int (Int32.ofNat A.slots.size), .int (Int32.ofNat 0), .ref b, .ref a])) rfl (by rw [hml]; rfl) c2 (argsL := [.ref b, .int (Int32.ofNat 0), .int (Int32.ofNat A.slots.size), .null]) (rest := []) rfl rfl (by show 2 * 0 + 0 ≤ _; decide) (hb hbytes d6) (⟨rfl, hB.mv X0.warmed.alike hh0, f1.al X0.warmed.alike, f2.al X0.warmed.alike, hA.mv X0.warmed.alike hh0, s1.there X0.warmed.alike hh0, hz, l0, by omega, l2, fun i hi => by rw [Nat.zero_add]; exact hp i hi⟩)
  have e0 := Got.mv _ s₁ s _ _ hh0.symm (Vm.Alike.refl _) rfl E3
  obtain rfl := e0.1
  have c4 : Steps p.tables e below (s₁.setTop (entryFrame m #[.ref a, .ref b] 2)) (T3.setTop (mkF m 9 #[.val (.ref a), .val (.ref b)] [])) := g3
  exact ⟨T3, none, _, _, _, X3, by simp, rfl, by omega, (fun _ => rfl), e0, fun fs hl => c4.trans (X3.returnOut hexec hret (hb hbytes d9) hl)⟩
theorem pays {l : Launch} {R : Room} {p : Program} {e : Env} {below : List Frame} {s : State} {sargs : Array Value} {len W : Nat} (a : Addr) (D : Cell) (fV fC : Field) (b : Addr) (A : Cell) (z : Int32) (htab : tab.before sargs s = true) (hfr : 4 ≤ R.frames) (hlo : W + 65 ≤ R.locals) :
    Back l R p e below s sargs yN len W (fun A₁ a₁ => A₁.cells + 1 ≤ R.cells ∧ A₁.slots + A.slots.size ≤ R.slots ∧ P a D fV fC b A z a₁ A₁.U) (fun A₁ _ v₁ B₁ => E a D fV fC A v₁ A₁.U B₁.U ∧ B₁.locs = A₁.locs ++ [⟨a, fC.slot⟩, ⟨a, fV.slot⟩] ∧ B₁.cells = A₁.cells + 1 ∧ B₁.slots = A₁.slots + A.slots.size) :=
  (law l a D fV fC b A z).pays htab hfr (by omega)
end New1
end StrChars
namespace StrChars.Road
open Jvm Sem ClassFile Op Lib Jvm.Stand Jvm.Free Jvm.Free.XT
open Jvm.Lib.Cold (StaticIs)
abbrev ST : String := "java/lang/String"
/-- every table word that New1's law asks, flat -/
abbrev words : List Jvm.Cond := [.code New1.yN New1.yB 2 none, .initialized ST, .methodLink ST 27 New4.yN, .instanceMethod New4.yN,
  .code New4.yN New4.yB 6 none, .fieldLink ST 38 ST "COMPACT_STRINGS" "Z", .laysFinal ST ST "value" "[B", .fieldLink ST 9 ST "value" "[B", .laysFinal ST ST "coder" "B", .fieldLink ST 15 ST "coder" "B",
  .methodLink ST 1 Lib.objectInit, .instanceMethod Lib.objectInit, .code Lib.objectInit ⟨#[0xb1]⟩ 1 none, .methodLink ST 177 Cmp3.yN, .static Cmp3.yN, .methodLink ST 47 CodL.yN, .static CodL.yN,
  .code Cmp3.yN Cmp3.yB 6 (some (.array .byte)), .initialized U16, .arrayClass .byte, .methodLink U16 115 Cmp5.yN, .static Cmp5.yN, .code Cmp5.yN Cmp5.yB 7 (some .int), .code CodL.yN CodL.yB 2 (some .byte)]
theorem tab_of {a : Array Value} {s : State} (h : ∀ w ∈ words, w.before a s = true) : New1.tab.before a s = true := by
  have h5 : Cmp5.tab.before a s = true := unparts (wk h (.code Cmp5.yN Cmp5.yB 7 (some .int))) (wks h (.initialized Cmp5.yN.cls :: Cmp5.site))
  have hc : CodL.tab.before a s = true := unparts (wk h (.code CodL.yN CodL.yB 2 (some .byte))) (wks h (.initialized CodL.yN.cls :: CodL.site))
  have q5 : ∀ w ∈ Cmp5.tab :: words, w.before a s = true := fun w hw => (List.mem_cons.mp hw).elim (fun e => e ▸ h5) (h w)
  have h3 : Cmp3.tab.before a s = true := unparts (wk q5 (.code Cmp3.yN Cmp3.yB 6 (some (.array .byte)))) (wks q5 (.initialized Cmp3.yN.cls :: Cmp3.site))
  have q3 : ∀ w ∈ Cmp3.tab :: CodL.tab :: words, w.before a s = true := fun w hw => (List.mem_cons.mp hw).elim (fun e => e ▸ h3) fun hw => (List.mem_cons.mp hw).elim (fun e => e ▸ hc) (h w)
  have h4 : New4.tab.before a s = true := unparts (wk q3 (.code New4.yN New4.yB 6 none)) (wks q3 (.initialized New4.yN.cls :: New4.site))
  have q4 : ∀ w ∈ New4.tab :: words, w.before a s = true := fun w hw => (List.mem_cons.mp hw).elim (fun e => e ▸ h4) (h w)
  exact unparts (wk q4 (.code New1.yN New1.yB 2 none)) (wks q4 (.initialized New1.yN.cls :: New1.site))
/-- the words ride from the start Z to the walk's own state -/
theorem moved {Z s : State} {a0 args : Array Value} (hZ : Z.Warmed39 s.vm) (hw : ∀ d ∈ words, d.before a0 Z = true) : ∀ d ∈ words, d.before args s = true := fun d hd => by
  have q := hw d hd
  have t : ∀ d ∈ words, d = .arrayClass .byte ∨ (d.onTables && d.keepsFace) = true := by decide +kernel
  rcases t d hd with rfl | t
  · exact RoadKit.mvA hZ q
  · exact RoadKit.mv hZ q t
/-- WHAT COMES BACK, over the tables of the start Z: h the heap at the call, h' behind it -/
def Q (Z : State) (x : Addr) (A : Cell) (h : Heap) (v : Option Value) (h' : Heap) (L : List Loc) : Prop := v = none ∧ (∀ y ∈ L, y.base = x) ∧ RoadKit.Keep h h' [x] ∧ h'.size = h.size + 1 ∧ RoadKit.Exa Z h' x ST ∧ RoadKit.Fld Z h' x ST "value" "[B" (.ref h.size) ∧ RoadKit.Fld Z h' x ST "coder" "B" (.int 0) ∧
  (∃ V : Cell, RoadKit.Arr Z h' h.size V .byte ∧ V.vm = .none ∧ Z.vm.findClass "[B" = some V.cls ∧ V.slots.size = A.slots.size ∧ ∀ j, j < A.slots.size → V.slots[j]? = some (.int (lo8 (cv A j)))) ∧
  ∀ (O n d : String) (w : Value), RoadKit.Fld Z h x O n d w → RoadKit.slotOf Z O n d ≠ RoadKit.slotOf Z ST "value" "[B" → RoadKit.slotOf Z O n d ≠ RoadKit.slotOf Z ST "coder" "B" → RoadKit.Fld Z h' x O n d w
/-- **new String(chars) AT A CALL, IN THE ROAD'S FORM**: for specialBack behind newO: x the fresh String, b the char[] with the cell A -/
theorem back {p : Program} {l : Launch} {e : Env} {R : Room} {s : State} {args : Array Value} {below : List Frame} {len W : Nat} {Z : State} {a0 : Array Value} {h : Heap} (hZ : Z.Warmed39 s.vm) (hw : ∀ d ∈ words, d.before a0 Z = true) {kI : Nat} (wi : (Jvm.Cond.instantiable ST kI).before a0 Z = true)
    {x b : Addr} {A : Cell} {z : Int32} {v0 c0 : Value} (E : RoadKit.Exa Z h x ST) (V : RoadKit.Fld Z h x ST "value" "[B" v0) (C : RoadKit.Fld Z h x ST "coder" "B" c0) (K : RoadKit.Arr Z h b A .char) (hty : Typed .char A) (S : RoadKit.Sta Z h ST "COMPACT_STRINGS" "Z" (.int z)) (hz : ¬ z = 0)
    (l0 : 0 < A.slots.size) (l2 : A.slots.size ≤ 536870912) (hp : ∀ i, i < A.slots.size → ¬ 255 < cv A i) (hfr : 4 ≤ R.frames) (hlo : W + 65 ≤ R.locals) :
    Back l R p e below s args New1.yN len W (fun P a => a = #[.ref x, .ref b] ∧ P.U.heap = h ∧ P.cells + 1 ≤ R.cells ∧ P.slots + A.slots.size ≤ R.slots)
      (fun P _ v B => ∃ L, Q Z x A h v B.U.heap L ∧ B.locs = P.locs ++ L ∧ B.cells = P.cells + 1 ∧ B.slots = P.slots + A.slots.size) := by
  intro m meth c P g ig mk a X hg hsize hdg hW hn hp'
  obtain ⟨rfl, rfl, r1, r2⟩ := hp'
  have al : Z.vm.Alike P.U.vm := hZ.alike.trans X.warmed.alike
  obtain ⟨D, cfV, kV, iV, fV, hD, gV, stV, knV, obV, asV, slV⟩ := id V
  obtain ⟨D', cfC, kC, iC, fC, hD', gC, stC, -, -, asC, slC⟩ := id C
  cases hD.symm.trans hD'
  obtain ⟨D2, kD, e1, e2, e3, e4, e5⟩ := id E
  cases hD.symm.trans e1
  obtain ⟨c2, k2, i1, i2, i3, -⟩ := Cond.instantiable_spec wi
  cases e2.symm.trans i1
  cases e3.symm.trans i2
  obtain ⟨kU, u1, u2⟩ := al.2.2 _ _ e3
  have hB : Blank ST x D P.U := ⟨hD, ⟨knV, fun q hq => by rw [hq] at obV; cases obV⟩, by rw [al.findClass]; exact e2, kU, u1, by rw [u2]; exact i3, by rw [u2]; exact e5 i3⟩
  have F1 : Found ST "value" "[B" fV P.U := ⟨SBG.found_only al ⟨cfV, kV, iV, gV⟩, stV⟩
  have F2 : Found ST "coder" "B" fC P.U := ⟨SBG.found_only al ⟨cfC, kC, iC, gC⟩, stC⟩
  have hA : Ch b A P.U := ⟨⟨K.1, State.isArrayOf_alike al K.2.1, K.2.2, by omega⟩, hty⟩
  have hS : StaticIs P.U ST "COMPACT_STRINGS" "Z" (.int z) := by
    obtain ⟨cfS, iS, kS, fS, st, cS, t1, t2, t3, t4, t5, t6, t7⟩ := S
    exact StaticIs.there (s := { Z with heap := P.U.heap }) ⟨cfS, iS, kS, fS, st, cS, t1, t2, t3, t4, t5, (fun q => by rw [q] at t6; cases t6), t7⟩ al rfl
  obtain ⟨v, B, X', ⟨⟨hv, E', V', q1, q2, q3, q4, q5, q6, q7, q8, q9, q10, q11⟩, hl, hc, hs⟩, st⟩ := New1.pays x D fV fC b A z (tab_of (moved hZ hw)) hfr hlo m meth c P g ig mk _ X hg hsize hdg hW hn ⟨r1, r2, rfl, hB, F1, F2, hA, hS, hz, l0, l2, hp⟩
  have al' : Z.vm.Alike B.U.vm := hZ.alike.trans X'.warmed.alike
  have hsz : E'.slots.size = D.slots.size := by
    obtain ⟨-, -, -, kB, w1, w2, w3⟩ := q1
    obtain ⟨kB', y1, y2⟩ := al'.2.2 _ _ e3
    rw [q2.2.1] at w1
    cases w1.symm.trans y1
    rw [w3, e5 i3, y2]
  refine ⟨v, B, X', ⟨_, ⟨hv, ?_, ⟨by omega, fun y cy hy hn' => q10 y cy (by simpa using hn') hy, fun y cy hy => ?_⟩, q11, ⟨E', _, q1.1, by rw [q2.2.1]; exact e2, by rw [q2.2.1]; exact e3, by rw [q2.1]; exact obV, fun _ => by rw [hsz]; exact e5 i3⟩,
    ⟨E', cfV, kV, iV, fV, q1.1, gV, stV, by rw [q2.1]; exact knV, by rw [q2.1]; exact obV, by rw [q2.2.1]; exact asV, q3⟩, ⟨E', cfC, kC, iC, fC, q1.1, gC, stC, by rw [q2.1]; exact knV, by rw [q2.1]; exact obV, by rw [q2.2.1]; exact asC, q4⟩,
    ⟨V', ⟨q5.1, State.isArrayOf_alike al'.symm q5.2.1, q5.2.2.1⟩, q6, by rw [← al'.findClass]; exact q7, q8, fun j hj => by have := q9 j hj; rwa [Nat.zero_add] at this⟩, fun O n d w F n1 n2 => ?_⟩, hl, hc, hs⟩, st⟩
  · intro y hy
    simp only [List.mem_cons, List.not_mem_nil, or_false] at hy
    rcases hy with rfl | rfl <;> rfl
  · by_cases q : y = x
    · subst q
      cases hD.symm.trans hy
      exact ⟨E', q1.1, q2.2.1, q2.1, hsz⟩
    · exact ⟨cy, q10 y cy q hy, rfl, rfl, rfl⟩
  · obtain ⟨D3, cf, k, i, f, g1, g2, g3, g4, g5, g6, g7⟩ := F
    cases hD.symm.trans g1
    simp only [RoadKit.slotOf, g2, gV, gC, Option.map_some, Option.getD_some] at n1 n2
    exact ⟨E', cf, k, i, f, q1.1, g2, g3, by rw [q2.1]; exact g4, by rw [q2.1]; exact g5, by rw [q2.2.1]; exact g6, by rw [q2.2.2 f.slot (by simp [n1, n2])]; exact g7⟩
end StrChars.Road
namespace StrChars.Road
open Jvm Sem ClassFile Op Lib Jvm.Stand Jvm.Free Jvm.Free.XT
/-- WHAT COMES BACK, the byte[] as a list of values -/
def QA (Z : State) (x : Addr) (zn : Int32) (cs : List Int32) (h : Heap) (v : Option Value) (h' : Heap) (L : List Loc) : Prop := v = none ∧ (∀ y ∈ L, y.base = x) ∧ RoadKit.Keep h h' [x] ∧ h'.size = h.size + 1 ∧ RoadKit.Exa Z h' x ST ∧ RoadKit.Fld Z h' x ST "value" "[B" (.ref h.size) ∧ RoadKit.Fld Z h' x ST "coder" "B" (.int 0) ∧
  (∃ kb, Z.vm.findClass "[B" = some kb ∧ RoadKit.Arv Z h' h.size kb .byte zn (cs.map fun c => .int (lo8 c)) (.int 0)) ∧
  ∀ (O n d : String) (w : Value), RoadKit.Fld Z h x O n d w → RoadKit.slotOf Z O n d ≠ RoadKit.slotOf Z ST "value" "[B" → RoadKit.slotOf Z O n d ≠ RoadKit.slotOf Z ST "coder" "B" → RoadKit.Fld Z h' x O n d w
/-- **new String(chars) AT A CALL, THE ARRAYS AS LISTS**: the char[] at b holds cs, not empty, no char above 255 -/
theorem backArv {p : Program} {l : Launch} {e : Env} {R : Room} {s : State} {args : Array Value} {below : List Frame} {len W : Nat} {Z : State} {a0 : Array Value} {h : Heap} (hZ : Z.Warmed39 s.vm) (hw : ∀ d ∈ words, d.before a0 Z = true) {kI : Nat} (wi : (Jvm.Cond.instantiable ST kI).before a0 Z = true)
    {x b : Addr} {k : ClassId} {zn z : Int32} {cs : List Int32} {dv v0 c0 : Value} (E : RoadKit.Exa Z h x ST) (V : RoadKit.Fld Z h x ST "value" "[B" v0) (C : RoadKit.Fld Z h x ST "coder" "B" c0) (K : RoadKit.Arv Z h b k .char zn (cs.map Value.int) dv) (S : RoadKit.Sta Z h ST "COMPACT_STRINGS" "Z" (.int z)) (hz : ¬ z = 0)
    (hlen : zn.toNatClampNeg = cs.length) (h0 : 0 < cs.length) (hbig : cs.length ≤ 536870912) (hall : ∀ c ∈ cs, ¬ 255 < c) (hfr : 4 ≤ R.frames) (hlo : W + 65 ≤ R.locals) :
    Back l R p e below s args New1.yN len W (fun P a => a = #[.ref x, .ref b] ∧ P.U.heap = h ∧ P.cells + 1 ≤ R.cells ∧ P.slots + cs.length ≤ R.slots)
      (fun P _ v B => ∃ L, QA Z x zn cs h v B.U.heap L ∧ B.locs = P.locs ++ L ∧ B.cells = P.cells + 1 ∧ B.slots = P.slots + cs.length) := by
  obtain ⟨A, K1, K2, K3, K4, K5, K6⟩ := K
  have e : A.slots.size = cs.length := K3.trans hlen
  have hat : ∀ (i : Nat) (hi : i < cs.length), A.slots[i]? = some (.int cs[i]) := fun i hi => by rw [K5 i (by omega)]; simp [List.getD_eq_getElem?_getD, hi]
  have hcv : ∀ (i : Nat) (hi : i < cs.length), cv A i = cs[i] := fun i hi => by unfold cv; rw [hat i hi]
  have hty : Typed .char A := fun i v hv => by
    have hi : i < A.slots.size := (Array.getElem?_eq_some_iff.mp hv).1
    have q := K5 i hi
    rw [hv] at q
    rw [Option.some.inj q]
    exact K6 i hi
  refine Back.mono (back hZ hw wi E V C K1 hty S hz (by omega) (by omega) (fun i hi => by rw [hcv i (by omega)]; exact hall _ (List.getElem_mem _)) hfr hlo) (fun P a hp => ⟨hp.1, hp.2.1, hp.2.2.1, by rw [e]; exact hp.2.2.2⟩) (fun P a v B hp hq => ?_)
  obtain ⟨L, ⟨q1, q2, q3, q4, q5, q6, q7, ⟨V', v1, v2, v3, v4, v5⟩, q9⟩, hl, hc, hs⟩ := hq
  refine ⟨L, ⟨q1, q2, q3, q4, q5, q6, q7, ⟨V'.cls, v3, V', v1, rfl, by rw [v4, e, hlen], K4, fun i hi => ?_, fun i hi => ?_⟩, q9⟩, hl, hc, by rw [hs, e]⟩
  · have hi' : i < cs.length := by omega
    rw [v5 i (by omega), hcv i hi']; simp [List.getD_eq_getElem?_getD, hi']
  · have hi' : i < cs.length := by omega
    simp only [List.getD_eq_getElem?_getD, List.getElem?_map, List.getElem?_eq_getElem hi', Option.map_some, Option.getD_some]
    exact fits_lo8 _
end StrChars.Road
namespace StrChars.Road
open Jvm Sem ClassFile Op Lib Jvm.Stand Jvm.Free Jvm.Free.XT
/-- WHAT COMES BACK, in the writer's own shape -/
def QV (Z : State) (x : Addr) (N : Int32) (bs : List Int32) (h : Heap) (n0 : Nat) (v : Option Value) (h' : Heap) (L : List Loc) : Prop := v = none ∧ RoadKit.Fr n0 L ∧ RoadKit.Keep h h' [x] ∧ RoadKit.Exa Z h' x ST ∧ RoadKit.Fld Z h' x ST "coder" "B" (.int 0) ∧
  ∃ (t : Addr) (kb : ClassId), n0 ≤ t ∧ h.size ≤ t ∧ ¬ t = x ∧ RoadKit.Fld Z h' x ST "value" "[B" (.ref t) ∧ RoadKit.Arv Z h' t kb .byte N (bs.map Value.int) (.int 0)
/-- **new String(chars) AT A CALL, FOR THE WRITER**: a char[] of n known ints, each 0 to 255 -/
theorem backV {p : Program} {l : Launch} {e : Env} {R : Room} {s : State} {args : Array Value} {below : List Frame} {len W : Nat} {Z : State} {a0 : Array Value} {h : Heap} (hZ : Z.Warmed39 s.vm) (hw : ∀ d ∈ words, d.before a0 Z = true) {kI : Nat} (wi : (Jvm.Cond.instantiable ST kI).before a0 Z = true)
    {x b : Addr} {kC : ClassId} {cs bs : List Int32} {d v0 c0 : Value} {z N : Int32} {n n0 : Nat} (hx0 : n0 ≤ x) (hh0 : n0 ≤ h.size) (E : RoadKit.Exa Z h x ST) (V : RoadKit.Fld Z h x ST "value" "[B" v0) (C : RoadKit.Fld Z h x ST "coder" "B" c0) (K : RoadKit.Arv Z h b kC .char N (cs.map Value.int) d) (S : RoadKit.Sta Z h ST "COMPACT_STRINGS" "Z" (.int z)) (hz : ¬ z = 0)
    (hn : cs.length = n) (hN : N = Int32.ofNat n) (l0 : 0 < n) (l2 : n ≤ 4000) (hp : ∀ c ∈ cs, ¬ c < 0 ∧ ¬ (255 : Int32) < c) (hb : bs = cs.map (fun c => c.toInt8.toInt32)) (hfr : 4 ≤ R.frames) (hlo : W + 65 ≤ R.locals) :
    Back l R p e below s args (⟨"java/lang/String", "<init>", "([C)V"⟩ : MethodName) len W (fun P a => a = #[.ref x, .ref b] ∧ P.U.heap = h ∧ P.cells + 1 ≤ R.cells ∧ P.slots + n ≤ R.slots)
      (fun P _ v B => ∃ L, QV Z x N bs h n0 v B.U.heap L ∧ B.locs = P.locs ++ L ∧ B.cells = P.cells + 1 ∧ B.slots = P.slots + n) := by
  subst hn hN hb
  refine Back.mono (backArv hZ hw wi E V C K S hz (n32 (by omega)) l0 (by omega) (fun c hc => (hp c hc).2) hfr hlo) (fun P a hp => hp) (fun P a v B hp hq => ?_)
  obtain ⟨L, ⟨q1, q2, q3, q4, q5, q6, q7, ⟨kb, v1, v2⟩, q9⟩, hl, hc, hs⟩ := hq
  exact ⟨L, ⟨q1, fun y hy => by rw [q2 y hy]; exact hx0, q3, q5, q7, h.size, kb, hh0, Nat.le_refl _, Nat.ne_of_gt E.lt, q6, by rw [List.map_map]; exact v2⟩, hl, hc, hs⟩
end StrChars.Road
end Jvm.Pilot.@@N@@
namespace Jvm.Pilot.@@N@@
open Jvm Jvm.ClassFile Sem Op Lib Jvm.Free Jvm.Stand Jvm.LawKit Jvm.RoadKit Bundle Jvm.Pilot.@@N@@.Jvm.D
abbrev mn0 : MethodName := ⟨"com/example/typed_api_errors/typedapierrors/error/Occurrence", "<init>", "(Ljava/lang/String;ILjava/util/Optional;Ljava/util/Optional;Ljava/util/Optional;Ljava/util/Optional;Ljava/util/Optional;Ljava/util/List;)V"⟩
abbrev mn1 : MethodName := ⟨"com/example/typed_api_errors/typedapierrors/error/Occurrence", "lambda$message$0", "()Ljava/util/Optional;"⟩
abbrev mn2 : MethodName := ⟨"com/example/typed_api_errors/typedapierrors/error/Occurrence", "message", "()Ljava/util/Optional;"⟩
abbrev mn3 : MethodName := ⟨"com/example/typed_api_errors/typedapierrors/error/OccurrenceMessagePinLaw", "str", "(I)Ljava/lang/String;"⟩
abbrev mn4 : MethodName := ⟨"java/lang/Record", "<init>", "()V"⟩
abbrev mn5 : MethodName := ⟨"java/lang/String", "<init>", "([C)V"⟩
abbrev mn6 : MethodName := ⟨"java/lang/String", "<init>", "([CIILjava/lang/Void;)V"⟩
abbrev mn7 : MethodName := ⟨"java/lang/String", "equals", "(Ljava/lang/Object;)Z"⟩
abbrev mn8 : MethodName := ⟨"java/util/AbstractCollection", "<init>", "()V"⟩
abbrev mn9 : MethodName := ⟨"java/util/AbstractList", "<init>", "()V"⟩
abbrev mn10 : MethodName := ⟨"java/util/ArrayList", "<init>", "()V"⟩
abbrev mn11 : MethodName := ⟨"java/util/Objects", "requireNonNull", "(Ljava/lang/Object;)Ljava/lang/Object;"⟩
abbrev mn12 : MethodName := ⟨"java/util/Optional", "<init>", "(Ljava/lang/Object;)V"⟩
abbrev mn13 : MethodName := ⟨"java/util/Optional", "empty", "()Ljava/util/Optional;"⟩
abbrev mn14 : MethodName := ⟨"java/util/Optional", "get", "()Ljava/lang/Object;"⟩
abbrev mn15 : MethodName := ⟨"java/util/Optional", "isPresent", "()Z"⟩
abbrev mn16 : MethodName := ⟨"java/util/Optional", "of", "(Ljava/lang/Object;)Ljava/util/Optional;"⟩
abbrev mn17 : MethodName := ⟨"java/util/Optional", "or", "(Ljava/util/function/Supplier;)Ljava/util/Optional;"⟩
abbrev cn1 : String := "com/example/typed_api_errors/typedapierrors/error/OccurrenceMessagePinLaw"
abbrev cn4 : String := "com/example/typed_api_errors/typedapierrors/error/Occurrence"
abbrev cn9 : String := "java/util/function/Supplier"
theorem wd0 {a0 : Array Value} {Z : State} (hw : ∀ d ∈ tables_1, d.before a0 Z = true) : (Jvm.Cond.methodLink "com/example/typed_api_errors/typedapierrors/error/OccurrenceMessagePinLaw" (12 : Nat) ({ cls := "com/example/typed_api_errors/typedapierrors/error/OccurrenceMessagePinLaw", name := "str", desc := "(I)Ljava/lang/String;" } : Jvm.MethodName)).before a0 Z = true := hw _ (List.mem_of_getElem? (i := 0) rfl)
theorem wd1 {a0 : Array Value} {Z : State} (hw : ∀ d ∈ tables_1, d.before a0 Z = true) : (Jvm.Cond.static ({ cls := "com/example/typed_api_errors/typedapierrors/error/OccurrenceMessagePinLaw", name := "str", desc := "(I)Ljava/lang/String;" } : Jvm.MethodName)).before a0 Z = true := hw _ (List.mem_of_getElem? (i := 1) rfl)
theorem wd2 {a0 : Array Value} {Z : State} (hw : ∀ d ∈ tables_1, d.before a0 Z = true) : (Jvm.Cond.initialized "com/example/typed_api_errors/typedapierrors/error/OccurrenceMessagePinLaw").before a0 Z = true := hw _ (List.mem_of_getElem? (i := 2) rfl)
theorem wd3 {a0 : Array Value} {Z : State} (hw : ∀ d ∈ tables_1, d.before a0 Z = true) : (Jvm.Cond.code ({ cls := "com/example/typed_api_errors/typedapierrors/error/OccurrenceMessagePinLaw", name := "str", desc := "(I)Ljava/lang/String;" } : Jvm.MethodName) method_2_code (5 : Nat) (Option.some (Jvm.ClassFile.FieldType.object "java/lang/String"))).before a0 Z = true := hw _ (List.mem_of_getElem? (i := 3) rfl)
theorem wd4 {a0 : Array Value} {Z : State} (hw : ∀ d ∈ tables_1, d.before a0 Z = true) : (Jvm.Cond.classLink "com/example/typed_api_errors/typedapierrors/error/OccurrenceMessagePinLaw" (7 : Nat) "java/lang/String").before a0 Z = true := hw _ (List.mem_of_getElem? (i := 4) rfl)
theorem wd5 {a0 : Array Value} {Z : State} (hw : ∀ d ∈ tables_1, d.before a0 Z = true) : (Jvm.Cond.instantiable "java/lang/String" (4 : Nat)).before a0 Z = true := hw _ (List.mem_of_getElem? (i := 5) rfl)
theorem wd6 {a0 : Array Value} {Z : State} (hw : ∀ d ∈ tables_1, d.before a0 Z = true) : (Jvm.Cond.initialized "java/lang/String").before a0 Z = true := hw _ (List.mem_of_getElem? (i := 6) rfl)
theorem wd7 {a0 : Array Value} {Z : State} (hw : ∀ d ∈ tables_1, d.before a0 Z = true) : (Jvm.Cond.arrayClass Jvm.ClassFile.FieldType.char).before a0 Z = true := hw _ (List.mem_of_getElem? (i := 7) rfl)
theorem wd8 {a0 : Array Value} {Z : State} (hw : ∀ d ∈ tables_1, d.before a0 Z = true) : (Jvm.Cond.methodLink "com/example/typed_api_errors/typedapierrors/error/OccurrenceMessagePinLaw" (9 : Nat) ({ cls := "java/lang/String", name := "<init>", desc := "([C)V" } : Jvm.MethodName)).before a0 Z = true := hw _ (List.mem_of_getElem? (i := 8) rfl)
theorem wd9 {a0 : Array Value} {Z : State} (hw : ∀ d ∈ tables_1, d.before a0 Z = true) : (Jvm.Cond.instanceMethod ({ cls := "java/lang/String", name := "<init>", desc := "([C)V" } : Jvm.MethodName)).before a0 Z = true := hw _ (List.mem_of_getElem? (i := 9) rfl)
theorem wd10 {a0 : Array Value} {Z : State} (hw : ∀ d ∈ tables_1, d.before a0 Z = true) : (Jvm.Cond.code ({ cls := "java/lang/String", name := "<init>", desc := "([C)V" } : Jvm.MethodName) jdk_42_method_3_code (2 : Nat) (Option.none : Option Jvm.ClassFile.FieldType)).before a0 Z = true := hw _ (List.mem_of_getElem? (i := 10) rfl)
theorem wd11 {a0 : Array Value} {Z : State} (hw : ∀ d ∈ tables_1, d.before a0 Z = true) : (Jvm.Cond.methodLink "java/lang/String" (27 : Nat) ({ cls := "java/lang/String", name := "<init>", desc := "([CIILjava/lang/Void;)V" } : Jvm.MethodName)).before a0 Z = true := hw _ (List.mem_of_getElem? (i := 11) rfl)
theorem wd12 {a0 : Array Value} {Z : State} (hw : ∀ d ∈ tables_1, d.before a0 Z = true) : (Jvm.Cond.instanceMethod ({ cls := "java/lang/String", name := "<init>", desc := "([CIILjava/lang/Void;)V" } : Jvm.MethodName)).before a0 Z = true := hw _ (List.mem_of_getElem? (i := 12) rfl)
theorem wd14 {a0 : Array Value} {Z : State} (hw : ∀ d ∈ tables_1, d.before a0 Z = true) : (Jvm.Cond.code ({ cls := "java/lang/String", name := "<init>", desc := "([CIILjava/lang/Void;)V" } : Jvm.MethodName) jdk_42_method_149_code (6 : Nat) (Option.none : Option Jvm.ClassFile.FieldType)).before a0 Z = true := hw _ (List.mem_of_getElem? (i := 14) rfl)
theorem wd15 {a0 : Array Value} {Z : State} (hw : ∀ d ∈ tables_1, d.before a0 Z = true) : (Jvm.Cond.methodLink "java/lang/String" (1 : Nat) ({ cls := "java/lang/Object", name := "<init>", desc := "()V" } : Jvm.MethodName)).before a0 Z = true := hw _ (List.mem_of_getElem? (i := 15) rfl)
theorem wd16 {a0 : Array Value} {Z : State} (hw : ∀ d ∈ tables_1, d.before a0 Z = true) : (Jvm.Cond.instanceMethod ({ cls := "java/lang/Object", name := "<init>", desc := "()V" } : Jvm.MethodName)).before a0 Z = true := hw _ (List.mem_of_getElem? (i := 16) rfl)
theorem wd17 {a0 : Array Value} {Z : State} (hw : ∀ d ∈ tables_1, d.before a0 Z = true) : (Jvm.Cond.code ({ cls := "java/lang/Object", name := "<init>", desc := "()V" } : Jvm.MethodName) object_method_1_code (1 : Nat) (Option.none : Option Jvm.ClassFile.FieldType)).before a0 Z = true := hw _ (List.mem_of_getElem? (i := 17) rfl)
theorem wd18 {a0 : Array Value} {Z : State} (hw : ∀ d ∈ tables_1, d.before a0 Z = true) : (Jvm.Cond.stringLink "java/lang/String" (7 : Nat) "").before a0 Z = true := hw _ (List.mem_of_getElem? (i := 18) rfl)
theorem wd19 {a0 : Array Value} {Z : State} (hw : ∀ d ∈ tables_1, d.before a0 Z = true) : (Jvm.Cond.arrayClass Jvm.ClassFile.FieldType.byte).before a0 Z = true := hw _ (List.mem_of_getElem? (i := 19) rfl)
theorem wd20 {a0 : Array Value} {Z : State} (hw : ∀ d ∈ tables_1, d.before a0 Z = true) : (Jvm.Cond.laysFinal "java/lang/String" "java/lang/String" "value" "[B").before a0 Z = true := hw _ (List.mem_of_getElem? (i := 20) rfl)
theorem wd21 {a0 : Array Value} {Z : State} (hw : ∀ d ∈ tables_1, d.before a0 Z = true) : (Jvm.Cond.laysFinal "java/lang/String" "java/lang/String" "coder" "B").before a0 Z = true := hw _ (List.mem_of_getElem? (i := 21) rfl)
theorem wd24 {a0 : Array Value} {Z : State} (hw : ∀ d ∈ tables_1, d.before a0 Z = true) : (Jvm.Cond.fieldLink "java/lang/String" (9 : Nat) "java/lang/String" "value" "[B").before a0 Z = true := hw _ (List.mem_of_getElem? (i := 24) rfl)
theorem wd25 {a0 : Array Value} {Z : State} (hw : ∀ d ∈ tables_1, d.before a0 Z = true) : (Jvm.Cond.fieldLink "java/lang/String" (15 : Nat) "java/lang/String" "coder" "B").before a0 Z = true := hw _ (List.mem_of_getElem? (i := 25) rfl)
theorem wd26 {a0 : Array Value} {Z : State} (hw : ∀ d ∈ tables_1, d.before a0 Z = true) : (Jvm.Cond.methodLink "com/example/typed_api_errors/typedapierrors/error/OccurrenceMessagePinLaw" (24 : Nat) ({ cls := "java/util/Optional", name := "empty", desc := "()Ljava/util/Optional;" } : Jvm.MethodName)).before a0 Z = true := hw _ (List.mem_of_getElem? (i := 26) rfl)
theorem wd27 {a0 : Array Value} {Z : State} (hw : ∀ d ∈ tables_1, d.before a0 Z = true) : (Jvm.Cond.static ({ cls := "java/util/Optional", name := "empty", desc := "()Ljava/util/Optional;" } : Jvm.MethodName)).before a0 Z = true := hw _ (List.mem_of_getElem? (i := 27) rfl)
theorem wd28 {a0 : Array Value} {Z : State} (hw : ∀ d ∈ tables_1, d.before a0 Z = true) : (Jvm.Cond.initialized "java/util/Optional").before a0 Z = true := hw _ (List.mem_of_getElem? (i := 28) rfl)
theorem wd29 {a0 : Array Value} {Z : State} (hw : ∀ d ∈ tables_1, d.before a0 Z = true) : (Jvm.Cond.code ({ cls := "java/util/Optional", name := "empty", desc := "()Ljava/util/Optional;" } : Jvm.MethodName) jdk_32_method_1_code (1 : Nat) (Option.some (Jvm.ClassFile.FieldType.object "java/util/Optional"))).before a0 Z = true := hw _ (List.mem_of_getElem? (i := 29) rfl)
theorem wd30 {a0 : Array Value} {Z : State} (hw : ∀ d ∈ tables_1, d.before a0 Z = true) : (Jvm.Cond.fieldLink "java/util/Optional" (1 : Nat) "java/util/Optional" "EMPTY" "Ljava/util/Optional;").before a0 Z = true := hw _ (List.mem_of_getElem? (i := 30) rfl)
theorem wd31 {a0 : Array Value} {Z : State} (hw : ∀ d ∈ tables_1, d.before a0 Z = true) : (Jvm.Cond.methodLink "com/example/typed_api_errors/typedapierrors/error/OccurrenceMessagePinLaw" (18 : Nat) ({ cls := "java/util/Optional", name := "of", desc := "(Ljava/lang/Object;)Ljava/util/Optional;" } : Jvm.MethodName)).before a0 Z = true := hw _ (List.mem_of_getElem? (i := 31) rfl)
theorem wd32 {a0 : Array Value} {Z : State} (hw : ∀ d ∈ tables_1, d.before a0 Z = true) : (Jvm.Cond.static ({ cls := "java/util/Optional", name := "of", desc := "(Ljava/lang/Object;)Ljava/util/Optional;" } : Jvm.MethodName)).before a0 Z = true := hw _ (List.mem_of_getElem? (i := 32) rfl)
theorem wd33 {a0 : Array Value} {Z : State} (hw : ∀ d ∈ tables_1, d.before a0 Z = true) : (Jvm.Cond.code ({ cls := "java/util/Optional", name := "of", desc := "(Ljava/lang/Object;)Ljava/util/Optional;" } : Jvm.MethodName) jdk_32_method_3_code (1 : Nat) (Option.some (Jvm.ClassFile.FieldType.object "java/util/Optional"))).before a0 Z = true := hw _ (List.mem_of_getElem? (i := 33) rfl)
theorem wd34 {a0 : Array Value} {Z : State} (hw : ∀ d ∈ tables_1, d.before a0 Z = true) : (Jvm.Cond.classLink "java/util/Optional" (2 : Nat) "java/util/Optional").before a0 Z = true := hw _ (List.mem_of_getElem? (i := 34) rfl)
theorem wd35 {a0 : Array Value} {Z : State} (hw : ∀ d ∈ tables_1, d.before a0 Z = true) : (Jvm.Cond.instantiable "java/util/Optional" (1 : Nat)).before a0 Z = true := hw _ (List.mem_of_getElem? (i := 35) rfl)
theorem wd36 {a0 : Array Value} {Z : State} (hw : ∀ d ∈ tables_1, d.before a0 Z = true) : (Jvm.Cond.methodLink "java/util/Optional" (17 : Nat) ({ cls := "java/util/Objects", name := "requireNonNull", desc := "(Ljava/lang/Object;)Ljava/lang/Object;" } : Jvm.MethodName)).before a0 Z = true := hw _ (List.mem_of_getElem? (i := 36) rfl)
theorem wd37 {a0 : Array Value} {Z : State} (hw : ∀ d ∈ tables_1, d.before a0 Z = true) : (Jvm.Cond.static ({ cls := "java/util/Objects", name := "requireNonNull", desc := "(Ljava/lang/Object;)Ljava/lang/Object;" } : Jvm.MethodName)).before a0 Z = true := hw _ (List.mem_of_getElem? (i := 37) rfl)
theorem wd38 {a0 : Array Value} {Z : State} (hw : ∀ d ∈ tables_1, d.before a0 Z = true) : (Jvm.Cond.initialized "java/util/Objects").before a0 Z = true := hw _ (List.mem_of_getElem? (i := 38) rfl)
theorem wd39 {a0 : Array Value} {Z : State} (hw : ∀ d ∈ tables_1, d.before a0 Z = true) : (Jvm.Cond.code ({ cls := "java/util/Objects", name := "requireNonNull", desc := "(Ljava/lang/Object;)Ljava/lang/Object;" } : Jvm.MethodName) jdk_31_method_10_code (1 : Nat) (Option.some (Jvm.ClassFile.FieldType.object "java/lang/Object"))).before a0 Z = true := hw _ (List.mem_of_getElem? (i := 39) rfl)
theorem wd40 {a0 : Array Value} {Z : State} (hw : ∀ d ∈ tables_1, d.before a0 Z = true) : (Jvm.Cond.methodLink "java/util/Optional" (23 : Nat) ({ cls := "java/util/Optional", name := "<init>", desc := "(Ljava/lang/Object;)V" } : Jvm.MethodName)).before a0 Z = true := hw _ (List.mem_of_getElem? (i := 40) rfl)
theorem wd41 {a0 : Array Value} {Z : State} (hw : ∀ d ∈ tables_1, d.before a0 Z = true) : (Jvm.Cond.instanceMethod ({ cls := "java/util/Optional", name := "<init>", desc := "(Ljava/lang/Object;)V" } : Jvm.MethodName)).before a0 Z = true := hw _ (List.mem_of_getElem? (i := 41) rfl)
theorem wd43 {a0 : Array Value} {Z : State} (hw : ∀ d ∈ tables_1, d.before a0 Z = true) : (Jvm.Cond.code ({ cls := "java/util/Optional", name := "<init>", desc := "(Ljava/lang/Object;)V" } : Jvm.MethodName) jdk_32_method_2_code (2 : Nat) (Option.none : Option Jvm.ClassFile.FieldType)).before a0 Z = true := hw _ (List.mem_of_getElem? (i := 43) rfl)
theorem wd44 {a0 : Array Value} {Z : State} (hw : ∀ d ∈ tables_1, d.before a0 Z = true) : (Jvm.Cond.methodLink "java/util/Optional" (7 : Nat) ({ cls := "java/lang/Object", name := "<init>", desc := "()V" } : Jvm.MethodName)).before a0 Z = true := hw _ (List.mem_of_getElem? (i := 44) rfl)
theorem wd45 {a0 : Array Value} {Z : State} (hw : ∀ d ∈ tables_1, d.before a0 Z = true) : (Jvm.Cond.fieldLink "java/util/Optional" (13 : Nat) "java/util/Optional" "value" "Ljava/lang/Object;").before a0 Z = true := hw _ (List.mem_of_getElem? (i := 45) rfl)
theorem wd46 {a0 : Array Value} {Z : State} (hw : ∀ d ∈ tables_1, d.before a0 Z = true) : (Jvm.Cond.laysFinal "java/util/Optional" "java/util/Optional" "value" "Ljava/lang/Object;").before a0 Z = true := hw _ (List.mem_of_getElem? (i := 46) rfl)
theorem wd47 {a0 : Array Value} {Z : State} (hw : ∀ d ∈ tables_1, d.before a0 Z = true) : (Jvm.Cond.classLink "com/example/typed_api_errors/typedapierrors/error/OccurrenceMessagePinLaw" (28 : Nat) "java/util/ArrayList").before a0 Z = true := hw _ (List.mem_of_getElem? (i := 47) rfl)
theorem wd48 {a0 : Array Value} {Z : State} (hw : ∀ d ∈ tables_1, d.before a0 Z = true) : (Jvm.Cond.instantiable "java/util/ArrayList" (3 : Nat)).before a0 Z = true := hw _ (List.mem_of_getElem? (i := 48) rfl)
theorem wd49 {a0 : Array Value} {Z : State} (hw : ∀ d ∈ tables_1, d.before a0 Z = true) : (Jvm.Cond.initialized "java/util/ArrayList").before a0 Z = true := hw _ (List.mem_of_getElem? (i := 49) rfl)
theorem wd50 {a0 : Array Value} {Z : State} (hw : ∀ d ∈ tables_1, d.before a0 Z = true) : (Jvm.Cond.methodLink "com/example/typed_api_errors/typedapierrors/error/OccurrenceMessagePinLaw" (30 : Nat) ({ cls := "java/util/ArrayList", name := "<init>", desc := "()V" } : Jvm.MethodName)).before a0 Z = true := hw _ (List.mem_of_getElem? (i := 50) rfl)
theorem wd51 {a0 : Array Value} {Z : State} (hw : ∀ d ∈ tables_1, d.before a0 Z = true) : (Jvm.Cond.instanceMethod ({ cls := "java/util/ArrayList", name := "<init>", desc := "()V" } : Jvm.MethodName)).before a0 Z = true := hw _ (List.mem_of_getElem? (i := 51) rfl)
theorem wd52 {a0 : Array Value} {Z : State} (hw : ∀ d ∈ tables_1, d.before a0 Z = true) : (Jvm.Cond.code ({ cls := "java/util/ArrayList", name := "<init>", desc := "()V" } : Jvm.MethodName) jdk_38_method_2_code (1 : Nat) (Option.none : Option Jvm.ClassFile.FieldType)).before a0 Z = true := hw _ (List.mem_of_getElem? (i := 52) rfl)
theorem wd53 {a0 : Array Value} {Z : State} (hw : ∀ d ∈ tables_1, d.before a0 Z = true) : (Jvm.Cond.methodLink "java/util/ArrayList" (1 : Nat) ({ cls := "java/util/AbstractList", name := "<init>", desc := "()V" } : Jvm.MethodName)).before a0 Z = true := hw _ (List.mem_of_getElem? (i := 53) rfl)
theorem wd54 {a0 : Array Value} {Z : State} (hw : ∀ d ∈ tables_1, d.before a0 Z = true) : (Jvm.Cond.instanceMethod ({ cls := "java/util/AbstractList", name := "<init>", desc := "()V" } : Jvm.MethodName)).before a0 Z = true := hw _ (List.mem_of_getElem? (i := 54) rfl)
theorem wd57 {a0 : Array Value} {Z : State} (hw : ∀ d ∈ tables_1, d.before a0 Z = true) : (Jvm.Cond.initialized "java/util/AbstractList").before a0 Z = true := hw _ (List.mem_of_getElem? (i := 57) rfl)
theorem wd58 {a0 : Array Value} {Z : State} (hw : ∀ d ∈ tables_1, d.before a0 Z = true) : (Jvm.Cond.code ({ cls := "java/util/AbstractList", name := "<init>", desc := "()V" } : Jvm.MethodName) jdk_39_method_1_code (1 : Nat) (Option.none : Option Jvm.ClassFile.FieldType)).before a0 Z = true := hw _ (List.mem_of_getElem? (i := 58) rfl)
theorem wd59 {a0 : Array Value} {Z : State} (hw : ∀ d ∈ tables_1, d.before a0 Z = true) : (Jvm.Cond.methodLink "java/util/AbstractList" (1 : Nat) ({ cls := "java/util/AbstractCollection", name := "<init>", desc := "()V" } : Jvm.MethodName)).before a0 Z = true := hw _ (List.mem_of_getElem? (i := 59) rfl)
theorem wd60 {a0 : Array Value} {Z : State} (hw : ∀ d ∈ tables_1, d.before a0 Z = true) : (Jvm.Cond.instanceMethod ({ cls := "java/util/AbstractCollection", name := "<init>", desc := "()V" } : Jvm.MethodName)).before a0 Z = true := hw _ (List.mem_of_getElem? (i := 60) rfl)
theorem wd63 {a0 : Array Value} {Z : State} (hw : ∀ d ∈ tables_1, d.before a0 Z = true) : (Jvm.Cond.initialized "java/util/AbstractCollection").before a0 Z = true := hw _ (List.mem_of_getElem? (i := 63) rfl)
theorem wd64 {a0 : Array Value} {Z : State} (hw : ∀ d ∈ tables_1, d.before a0 Z = true) : (Jvm.Cond.code ({ cls := "java/util/AbstractCollection", name := "<init>", desc := "()V" } : Jvm.MethodName) jdk_22_method_1_code (1 : Nat) (Option.none : Option Jvm.ClassFile.FieldType)).before a0 Z = true := hw _ (List.mem_of_getElem? (i := 64) rfl)
theorem wd65 {a0 : Array Value} {Z : State} (hw : ∀ d ∈ tables_1, d.before a0 Z = true) : (Jvm.Cond.methodLink "java/util/AbstractCollection" (1 : Nat) ({ cls := "java/lang/Object", name := "<init>", desc := "()V" } : Jvm.MethodName)).before a0 Z = true := hw _ (List.mem_of_getElem? (i := 65) rfl)
theorem wd66 {a0 : Array Value} {Z : State} (hw : ∀ d ∈ tables_1, d.before a0 Z = true) : (Jvm.Cond.fieldLink "java/util/AbstractList" (7 : Nat) "java/util/AbstractList" "modCount" "I").before a0 Z = true := hw _ (List.mem_of_getElem? (i := 66) rfl)
theorem wd67 {a0 : Array Value} {Z : State} (hw : ∀ d ∈ tables_1, d.before a0 Z = true) : (Jvm.Cond.lays "java/util/ArrayList" "java/util/AbstractList" "modCount" "I").before a0 Z = true := hw _ (List.mem_of_getElem? (i := 67) rfl)
theorem wd68 {a0 : Array Value} {Z : State} (hw : ∀ d ∈ tables_1, d.before a0 Z = true) : (Jvm.Cond.fieldLink "java/util/ArrayList" (39 : Nat) "java/util/ArrayList" "DEFAULTCAPACITY_EMPTY_ELEMENTDATA" "[Ljava/lang/Object;").before a0 Z = true := hw _ (List.mem_of_getElem? (i := 68) rfl)
theorem wd69 {a0 : Array Value} {Z : State} (hw : ∀ d ∈ tables_1, d.before a0 Z = true) : (Jvm.Cond.fieldLink "java/util/ArrayList" (9 : Nat) "java/util/ArrayList" "elementData" "[Ljava/lang/Object;").before a0 Z = true := hw _ (List.mem_of_getElem? (i := 69) rfl)
theorem wd70 {a0 : Array Value} {Z : State} (hw : ∀ d ∈ tables_1, d.before a0 Z = true) : (Jvm.Cond.lays "java/util/ArrayList" "java/util/ArrayList" "elementData" "[Ljava/lang/Object;").before a0 Z = true := hw _ (List.mem_of_getElem? (i := 70) rfl)
theorem wd71 {a0 : Array Value} {Z : State} (hw : ∀ d ∈ tables_1, d.before a0 Z = true) : (Jvm.Cond.classLink "com/example/typed_api_errors/typedapierrors/error/OccurrenceMessagePinLaw" (31 : Nat) "com/example/typed_api_errors/typedapierrors/error/Occurrence").before a0 Z = true := hw _ (List.mem_of_getElem? (i := 71) rfl)
theorem wd72 {a0 : Array Value} {Z : State} (hw : ∀ d ∈ tables_1, d.before a0 Z = true) : (Jvm.Cond.instantiable "com/example/typed_api_errors/typedapierrors/error/Occurrence" (8 : Nat)).before a0 Z = true := hw _ (List.mem_of_getElem? (i := 72) rfl)
theorem wd73 {a0 : Array Value} {Z : State} (hw : ∀ d ∈ tables_1, d.before a0 Z = true) : (Jvm.Cond.initialized "com/example/typed_api_errors/typedapierrors/error/Occurrence").before a0 Z = true := hw _ (List.mem_of_getElem? (i := 73) rfl)
theorem wd74 {a0 : Array Value} {Z : State} (hw : ∀ d ∈ tables_1, d.before a0 Z = true) : (Jvm.Cond.stringLink "com/example/typed_api_errors/typedapierrors/error/OccurrenceMessagePinLaw" (33 : Nat) "c").before a0 Z = true := hw _ (List.mem_of_getElem? (i := 74) rfl)
theorem wd75 {a0 : Array Value} {Z : State} (hw : ∀ d ∈ tables_1, d.before a0 Z = true) : (Jvm.Cond.methodLink "com/example/typed_api_errors/typedapierrors/error/OccurrenceMessagePinLaw" (35 : Nat) ({ cls := "com/example/typed_api_errors/typedapierrors/error/Occurrence", name := "<init>", desc := "(Ljava/lang/String;ILjava/util/Optional;Ljava/util/Optional;Ljava/util/Optional;Ljava/util/Optional;Ljava/util/Optional;Ljava/util/List;)V" } : Jvm.MethodName)).before a0 Z = true := hw _ (List.mem_of_getElem? (i := 75) rfl)
theorem wd76 {a0 : Array Value} {Z : State} (hw : ∀ d ∈ tables_1, d.before a0 Z = true) : (Jvm.Cond.instanceMethod ({ cls := "com/example/typed_api_errors/typedapierrors/error/Occurrence", name := "<init>", desc := "(Ljava/lang/String;ILjava/util/Optional;Ljava/util/Optional;Ljava/util/Optional;Ljava/util/Optional;Ljava/util/Optional;Ljava/util/List;)V" } : Jvm.MethodName)).before a0 Z = true := hw _ (List.mem_of_getElem? (i := 76) rfl)
theorem wd77 {a0 : Array Value} {Z : State} (hw : ∀ d ∈ tables_1, d.before a0 Z = true) : (Jvm.Cond.code ({ cls := "com/example/typed_api_errors/typedapierrors/error/Occurrence", name := "<init>", desc := "(Ljava/lang/String;ILjava/util/Optional;Ljava/util/Optional;Ljava/util/Optional;Ljava/util/Optional;Ljava/util/Optional;Ljava/util/List;)V" } : Jvm.MethodName) prog_9_method_1_code (9 : Nat) (Option.none : Option Jvm.ClassFile.FieldType)).before a0 Z = true := hw _ (List.mem_of_getElem? (i := 77) rfl)
theorem wd78 {a0 : Array Value} {Z : State} (hw : ∀ d ∈ tables_1, d.before a0 Z = true) : (Jvm.Cond.methodLink "com/example/typed_api_errors/typedapierrors/error/Occurrence" (1 : Nat) ({ cls := "java/lang/Record", name := "<init>", desc := "()V" } : Jvm.MethodName)).before a0 Z = true := hw _ (List.mem_of_getElem? (i := 78) rfl)
theorem wd79 {a0 : Array Value} {Z : State} (hw : ∀ d ∈ tables_1, d.before a0 Z = true) : (Jvm.Cond.instanceMethod ({ cls := "java/lang/Record", name := "<init>", desc := "()V" } : Jvm.MethodName)).before a0 Z = true := hw _ (List.mem_of_getElem? (i := 79) rfl)
theorem wd81 {a0 : Array Value} {Z : State} (hw : ∀ d ∈ tables_1, d.before a0 Z = true) : (Jvm.Cond.initialized "java/lang/Record").before a0 Z = true := hw _ (List.mem_of_getElem? (i := 81) rfl)
theorem wd82 {a0 : Array Value} {Z : State} (hw : ∀ d ∈ tables_1, d.before a0 Z = true) : (Jvm.Cond.code ({ cls := "java/lang/Record", name := "<init>", desc := "()V" } : Jvm.MethodName) jdk_30_method_1_code (1 : Nat) (Option.none : Option Jvm.ClassFile.FieldType)).before a0 Z = true := hw _ (List.mem_of_getElem? (i := 82) rfl)
theorem wd83 {a0 : Array Value} {Z : State} (hw : ∀ d ∈ tables_1, d.before a0 Z = true) : (Jvm.Cond.methodLink "java/lang/Record" (1 : Nat) ({ cls := "java/lang/Object", name := "<init>", desc := "()V" } : Jvm.MethodName)).before a0 Z = true := hw _ (List.mem_of_getElem? (i := 83) rfl)
theorem wd84 {a0 : Array Value} {Z : State} (hw : ∀ d ∈ tables_1, d.before a0 Z = true) : (Jvm.Cond.fieldLink "com/example/typed_api_errors/typedapierrors/error/Occurrence" (7 : Nat) "com/example/typed_api_errors/typedapierrors/error/Occurrence" "code" "Ljava/lang/String;").before a0 Z = true := hw _ (List.mem_of_getElem? (i := 84) rfl)
theorem wd85 {a0 : Array Value} {Z : State} (hw : ∀ d ∈ tables_1, d.before a0 Z = true) : (Jvm.Cond.laysFinal "com/example/typed_api_errors/typedapierrors/error/Occurrence" "com/example/typed_api_errors/typedapierrors/error/Occurrence" "code" "Ljava/lang/String;").before a0 Z = true := hw _ (List.mem_of_getElem? (i := 85) rfl)
theorem wd86 {a0 : Array Value} {Z : State} (hw : ∀ d ∈ tables_1, d.before a0 Z = true) : (Jvm.Cond.fieldLink "com/example/typed_api_errors/typedapierrors/error/Occurrence" (13 : Nat) "com/example/typed_api_errors/typedapierrors/error/Occurrence" "status" "I").before a0 Z = true := hw _ (List.mem_of_getElem? (i := 86) rfl)
theorem wd87 {a0 : Array Value} {Z : State} (hw : ∀ d ∈ tables_1, d.before a0 Z = true) : (Jvm.Cond.laysFinal "com/example/typed_api_errors/typedapierrors/error/Occurrence" "com/example/typed_api_errors/typedapierrors/error/Occurrence" "status" "I").before a0 Z = true := hw _ (List.mem_of_getElem? (i := 87) rfl)
theorem wd88 {a0 : Array Value} {Z : State} (hw : ∀ d ∈ tables_1, d.before a0 Z = true) : (Jvm.Cond.fieldLink "com/example/typed_api_errors/typedapierrors/error/Occurrence" (17 : Nat) "com/example/typed_api_errors/typedapierrors/error/Occurrence" "catalogueMessage" "Ljava/util/Optional;").before a0 Z = true := hw _ (List.mem_of_getElem? (i := 88) rfl)
theorem wd89 {a0 : Array Value} {Z : State} (hw : ∀ d ∈ tables_1, d.before a0 Z = true) : (Jvm.Cond.laysFinal "com/example/typed_api_errors/typedapierrors/error/Occurrence" "com/example/typed_api_errors/typedapierrors/error/Occurrence" "catalogueMessage" "Ljava/util/Optional;").before a0 Z = true := hw _ (List.mem_of_getElem? (i := 89) rfl)
theorem wd90 {a0 : Array Value} {Z : State} (hw : ∀ d ∈ tables_1, d.before a0 Z = true) : (Jvm.Cond.fieldLink "com/example/typed_api_errors/typedapierrors/error/Occurrence" (21 : Nat) "com/example/typed_api_errors/typedapierrors/error/Occurrence" "ownMessage" "Ljava/util/Optional;").before a0 Z = true := hw _ (List.mem_of_getElem? (i := 90) rfl)
theorem wd91 {a0 : Array Value} {Z : State} (hw : ∀ d ∈ tables_1, d.before a0 Z = true) : (Jvm.Cond.laysFinal "com/example/typed_api_errors/typedapierrors/error/Occurrence" "com/example/typed_api_errors/typedapierrors/error/Occurrence" "ownMessage" "Ljava/util/Optional;").before a0 Z = true := hw _ (List.mem_of_getElem? (i := 91) rfl)
theorem wd92 {a0 : Array Value} {Z : State} (hw : ∀ d ∈ tables_1, d.before a0 Z = true) : (Jvm.Cond.fieldLink "com/example/typed_api_errors/typedapierrors/error/Occurrence" (24 : Nat) "com/example/typed_api_errors/typedapierrors/error/Occurrence" "trace" "Ljava/util/Optional;").before a0 Z = true := hw _ (List.mem_of_getElem? (i := 92) rfl)
theorem wd93 {a0 : Array Value} {Z : State} (hw : ∀ d ∈ tables_1, d.before a0 Z = true) : (Jvm.Cond.laysFinal "com/example/typed_api_errors/typedapierrors/error/Occurrence" "com/example/typed_api_errors/typedapierrors/error/Occurrence" "trace" "Ljava/util/Optional;").before a0 Z = true := hw _ (List.mem_of_getElem? (i := 93) rfl)
theorem wd94 {a0 : Array Value} {Z : State} (hw : ∀ d ∈ tables_1, d.before a0 Z = true) : (Jvm.Cond.fieldLink "com/example/typed_api_errors/typedapierrors/error/Occurrence" (27 : Nat) "com/example/typed_api_errors/typedapierrors/error/Occurrence" "moreInfo" "Ljava/util/Optional;").before a0 Z = true := hw _ (List.mem_of_getElem? (i := 94) rfl)
theorem wd95 {a0 : Array Value} {Z : State} (hw : ∀ d ∈ tables_1, d.before a0 Z = true) : (Jvm.Cond.laysFinal "com/example/typed_api_errors/typedapierrors/error/Occurrence" "com/example/typed_api_errors/typedapierrors/error/Occurrence" "moreInfo" "Ljava/util/Optional;").before a0 Z = true := hw _ (List.mem_of_getElem? (i := 95) rfl)
theorem wd96 {a0 : Array Value} {Z : State} (hw : ∀ d ∈ tables_1, d.before a0 Z = true) : (Jvm.Cond.fieldLink "com/example/typed_api_errors/typedapierrors/error/Occurrence" (30 : Nat) "com/example/typed_api_errors/typedapierrors/error/Occurrence" "target" "Ljava/util/Optional;").before a0 Z = true := hw _ (List.mem_of_getElem? (i := 96) rfl)
theorem wd97 {a0 : Array Value} {Z : State} (hw : ∀ d ∈ tables_1, d.before a0 Z = true) : (Jvm.Cond.laysFinal "com/example/typed_api_errors/typedapierrors/error/Occurrence" "com/example/typed_api_errors/typedapierrors/error/Occurrence" "target" "Ljava/util/Optional;").before a0 Z = true := hw _ (List.mem_of_getElem? (i := 97) rfl)
theorem wd98 {a0 : Array Value} {Z : State} (hw : ∀ d ∈ tables_1, d.before a0 Z = true) : (Jvm.Cond.fieldLink "com/example/typed_api_errors/typedapierrors/error/Occurrence" (33 : Nat) "com/example/typed_api_errors/typedapierrors/error/Occurrence" "details" "Ljava/util/List;").before a0 Z = true := hw _ (List.mem_of_getElem? (i := 98) rfl)
theorem wd99 {a0 : Array Value} {Z : State} (hw : ∀ d ∈ tables_1, d.before a0 Z = true) : (Jvm.Cond.laysFinal "com/example/typed_api_errors/typedapierrors/error/Occurrence" "com/example/typed_api_errors/typedapierrors/error/Occurrence" "details" "Ljava/util/List;").before a0 Z = true := hw _ (List.mem_of_getElem? (i := 99) rfl)
theorem wd100 {a0 : Array Value} {Z : State} (hw : ∀ d ∈ tables_1, d.before a0 Z = true) : (Jvm.Cond.methodLink "com/example/typed_api_errors/typedapierrors/error/OccurrenceMessagePinLaw" (38 : Nat) ({ cls := "com/example/typed_api_errors/typedapierrors/error/Occurrence", name := "message", desc := "()Ljava/util/Optional;" } : Jvm.MethodName)).before a0 Z = true := hw _ (List.mem_of_getElem? (i := 100) rfl)
theorem wd101 {a0 : Array Value} {Z : State} (hw : ∀ d ∈ tables_1, d.before a0 Z = true) : (Jvm.Cond.declares ({ cls := "com/example/typed_api_errors/typedapierrors/error/Occurrence", name := "message", desc := "()Ljava/util/Optional;" } : Jvm.MethodName)).before a0 Z = true := hw _ (List.mem_of_getElem? (i := 101) rfl)
theorem wd102 {a0 : Array Value} {Z : State} (hw : ∀ d ∈ tables_1, d.before a0 Z = true) : (Jvm.Cond.instanceMethod ({ cls := "com/example/typed_api_errors/typedapierrors/error/Occurrence", name := "message", desc := "()Ljava/util/Optional;" } : Jvm.MethodName)).before a0 Z = true := hw _ (List.mem_of_getElem? (i := 102) rfl)
theorem wd103 {a0 : Array Value} {Z : State} (hw : ∀ d ∈ tables_1, d.before a0 Z = true) : (Jvm.Cond.selects "com/example/typed_api_errors/typedapierrors/error/Occurrence" ({ cls := "com/example/typed_api_errors/typedapierrors/error/Occurrence", name := "message", desc := "()Ljava/util/Optional;" } : Jvm.MethodName) ({ cls := "com/example/typed_api_errors/typedapierrors/error/Occurrence", name := "message", desc := "()Ljava/util/Optional;" } : Jvm.MethodName)).before a0 Z = true := hw _ (List.mem_of_getElem? (i := 103) rfl)
theorem wd104 {a0 : Array Value} {Z : State} (hw : ∀ d ∈ tables_1, d.before a0 Z = true) : (Jvm.Cond.code ({ cls := "com/example/typed_api_errors/typedapierrors/error/Occurrence", name := "message", desc := "()Ljava/util/Optional;" } : Jvm.MethodName) prog_9_method_2_code (1 : Nat) (Option.some (Jvm.ClassFile.FieldType.object "java/util/Optional"))).before a0 Z = true := hw _ (List.mem_of_getElem? (i := 104) rfl)
theorem wd105 {a0 : Array Value} {Z : State} (hw : ∀ d ∈ tables_1, d.before a0 Z = true) : (Jvm.Cond.lambdaSite ({ cls := "com/example/typed_api_errors/typedapierrors/error/Occurrence", name := "message", desc := "()Ljava/util/Optional;" } : Jvm.MethodName) (5 : Nat) (37 : Nat) (Jvm.Lambda.Shape.mk "java/util/function/Supplier" "get" (Jvm.ClassFile.MethodDescriptor.mk ([] : List Jvm.ClassFile.FieldType) (Option.some (Jvm.ClassFile.FieldType.object "java/lang/Object"))) ([(Jvm.ClassFile.FieldType.object "com/example/typed_api_errors/typedapierrors/error/Occurrence")] : List Jvm.ClassFile.FieldType) (5 : Nat) "com/example/typed_api_errors/typedapierrors/error/Occurrence" "lambda$message$0" (Jvm.ClassFile.MethodDescriptor.mk ([] : List Jvm.ClassFile.FieldType) (Option.some (Jvm.ClassFile.FieldType.object "java/util/Optional"))) false (Jvm.ClassFile.MethodDescriptor.mk ([] : List Jvm.ClassFile.FieldType) (Option.some (Jvm.ClassFile.FieldType.object "java/util/Optional"))))).before a0 Z = true := hw _ (List.mem_of_getElem? (i := 105) rfl)
theorem wd108 {a0 : Array Value} {Z : State} (hw : ∀ d ∈ tables_1, d.before a0 Z = true) : (Jvm.Cond.instantiable "java/lang/Object" (0 : Nat)).before a0 Z = true := hw _ (List.mem_of_getElem? (i := 108) rfl)
theorem wd109 {a0 : Array Value} {Z : State} (hw : ∀ d ∈ tables_1, d.before a0 Z = true) : (Jvm.Cond.methodLink "com/example/typed_api_errors/typedapierrors/error/Occurrence" (41 : Nat) ({ cls := "java/util/Optional", name := "or", desc := "(Ljava/util/function/Supplier;)Ljava/util/Optional;" } : Jvm.MethodName)).before a0 Z = true := hw _ (List.mem_of_getElem? (i := 109) rfl)
theorem wd110 {a0 : Array Value} {Z : State} (hw : ∀ d ∈ tables_1, d.before a0 Z = true) : (Jvm.Cond.declares ({ cls := "java/util/Optional", name := "or", desc := "(Ljava/util/function/Supplier;)Ljava/util/Optional;" } : Jvm.MethodName)).before a0 Z = true := hw _ (List.mem_of_getElem? (i := 110) rfl)
theorem wd111 {a0 : Array Value} {Z : State} (hw : ∀ d ∈ tables_1, d.before a0 Z = true) : (Jvm.Cond.instanceMethod ({ cls := "java/util/Optional", name := "or", desc := "(Ljava/util/function/Supplier;)Ljava/util/Optional;" } : Jvm.MethodName)).before a0 Z = true := hw _ (List.mem_of_getElem? (i := 111) rfl)
theorem wd112 {a0 : Array Value} {Z : State} (hw : ∀ d ∈ tables_1, d.before a0 Z = true) : (Jvm.Cond.selects "java/util/Optional" ({ cls := "java/util/Optional", name := "or", desc := "(Ljava/util/function/Supplier;)Ljava/util/Optional;" } : Jvm.MethodName) ({ cls := "java/util/Optional", name := "or", desc := "(Ljava/util/function/Supplier;)Ljava/util/Optional;" } : Jvm.MethodName)).before a0 Z = true := hw _ (List.mem_of_getElem? (i := 112) rfl)
theorem wd113 {a0 : Array Value} {Z : State} (hw : ∀ d ∈ tables_1, d.before a0 Z = true) : (Jvm.Cond.code ({ cls := "java/util/Optional", name := "or", desc := "(Ljava/util/function/Supplier;)Ljava/util/Optional;" } : Jvm.MethodName) jdk_32_method_13_code (3 : Nat) (Option.some (Jvm.ClassFile.FieldType.object "java/util/Optional"))).before a0 Z = true := hw _ (List.mem_of_getElem? (i := 113) rfl)
theorem wd114 {a0 : Array Value} {Z : State} (hw : ∀ d ∈ tables_1, d.before a0 Z = true) : (Jvm.Cond.methodLink "java/util/Optional" (66 : Nat) ({ cls := "java/util/Optional", name := "isPresent", desc := "()Z" } : Jvm.MethodName)).before a0 Z = true := hw _ (List.mem_of_getElem? (i := 114) rfl)
theorem wd115 {a0 : Array Value} {Z : State} (hw : ∀ d ∈ tables_1, d.before a0 Z = true) : (Jvm.Cond.declares ({ cls := "java/util/Optional", name := "isPresent", desc := "()Z" } : Jvm.MethodName)).before a0 Z = true := hw _ (List.mem_of_getElem? (i := 115) rfl)
theorem wd116 {a0 : Array Value} {Z : State} (hw : ∀ d ∈ tables_1, d.before a0 Z = true) : (Jvm.Cond.instanceMethod ({ cls := "java/util/Optional", name := "isPresent", desc := "()Z" } : Jvm.MethodName)).before a0 Z = true := hw _ (List.mem_of_getElem? (i := 116) rfl)
theorem wd117 {a0 : Array Value} {Z : State} (hw : ∀ d ∈ tables_1, d.before a0 Z = true) : (Jvm.Cond.selects "java/util/Optional" ({ cls := "java/util/Optional", name := "isPresent", desc := "()Z" } : Jvm.MethodName) ({ cls := "java/util/Optional", name := "isPresent", desc := "()Z" } : Jvm.MethodName)).before a0 Z = true := hw _ (List.mem_of_getElem? (i := 117) rfl)
theorem wd118 {a0 : Array Value} {Z : State} (hw : ∀ d ∈ tables_1, d.before a0 Z = true) : (Jvm.Cond.code ({ cls := "java/util/Optional", name := "isPresent", desc := "()Z" } : Jvm.MethodName) jdk_32_method_6_code (1 : Nat) (Option.some Jvm.ClassFile.FieldType.boolean)).before a0 Z = true := hw _ (List.mem_of_getElem? (i := 118) rfl)
theorem wd119 {a0 : Array Value} {Z : State} (hw : ∀ d ∈ tables_1, d.before a0 Z = true) : (Jvm.Cond.methodLink "java/util/Optional" (69 : Nat) ({ cls := "java/util/function/Supplier", name := "get", desc := "()Ljava/lang/Object;" } : Jvm.MethodName)).before a0 Z = true := hw _ (List.mem_of_getElem? (i := 119) rfl)
theorem wd120 {a0 : Array Value} {Z : State} (hw : ∀ d ∈ tables_1, d.before a0 Z = true) : (Jvm.Cond.declares ({ cls := "java/util/function/Supplier", name := "get", desc := "()Ljava/lang/Object;" } : Jvm.MethodName)).before a0 Z = true := hw _ (List.mem_of_getElem? (i := 120) rfl)
theorem wd121 {a0 : Array Value} {Z : State} (hw : ∀ d ∈ tables_1, d.before a0 Z = true) : (Jvm.Cond.interfaceMethod "java/util/function/Supplier" "java/util/function/Supplier" "get" "()Ljava/lang/Object;").before a0 Z = true := hw _ (List.mem_of_getElem? (i := 121) rfl)
theorem wd122 {a0 : Array Value} {Z : State} (hw : ∀ d ∈ tables_1, d.before a0 Z = true) : (Jvm.Cond.instanceMethod ({ cls := "com/example/typed_api_errors/typedapierrors/error/Occurrence", name := "lambda$message$0", desc := "()Ljava/util/Optional;" } : Jvm.MethodName)).before a0 Z = true := hw _ (List.mem_of_getElem? (i := 122) rfl)
theorem wd123 {a0 : Array Value} {Z : State} (hw : ∀ d ∈ tables_1, d.before a0 Z = true) : (Jvm.Cond.privateMethod ({ cls := "com/example/typed_api_errors/typedapierrors/error/Occurrence", name := "lambda$message$0", desc := "()Ljava/util/Optional;" } : Jvm.MethodName)).before a0 Z = true := hw _ (List.mem_of_getElem? (i := 123) rfl)
theorem wd124 {a0 : Array Value} {Z : State} (hw : ∀ d ∈ tables_1, d.before a0 Z = true) : (Jvm.Cond.code ({ cls := "com/example/typed_api_errors/typedapierrors/error/Occurrence", name := "lambda$message$0", desc := "()Ljava/util/Optional;" } : Jvm.MethodName) prog_9_method_15_code (1 : Nat) (Option.some (Jvm.ClassFile.FieldType.object "java/util/Optional"))).before a0 Z = true := hw _ (List.mem_of_getElem? (i := 124) rfl)
theorem wd125 {a0 : Array Value} {Z : State} (hw : ∀ d ∈ tables_1, d.before a0 Z = true) : (Jvm.Cond.methodLink "com/example/typed_api_errors/typedapierrors/error/OccurrenceMessagePinLaw" (41 : Nat) ({ cls := "java/util/Optional", name := "isPresent", desc := "()Z" } : Jvm.MethodName)).before a0 Z = true := hw _ (List.mem_of_getElem? (i := 125) rfl)
theorem wd126 {a0 : Array Value} {Z : State} (hw : ∀ d ∈ tables_1, d.before a0 Z = true) : (Jvm.Cond.methodLink "com/example/typed_api_errors/typedapierrors/error/OccurrenceMessagePinLaw" (45 : Nat) ({ cls := "java/util/Optional", name := "get", desc := "()Ljava/lang/Object;" } : Jvm.MethodName)).before a0 Z = true := hw _ (List.mem_of_getElem? (i := 126) rfl)
theorem wd127 {a0 : Array Value} {Z : State} (hw : ∀ d ∈ tables_1, d.before a0 Z = true) : (Jvm.Cond.declares ({ cls := "java/util/Optional", name := "get", desc := "()Ljava/lang/Object;" } : Jvm.MethodName)).before a0 Z = true := hw _ (List.mem_of_getElem? (i := 127) rfl)
theorem wd128 {a0 : Array Value} {Z : State} (hw : ∀ d ∈ tables_1, d.before a0 Z = true) : (Jvm.Cond.instanceMethod ({ cls := "java/util/Optional", name := "get", desc := "()Ljava/lang/Object;" } : Jvm.MethodName)).before a0 Z = true := hw _ (List.mem_of_getElem? (i := 128) rfl)
theorem wd129 {a0 : Array Value} {Z : State} (hw : ∀ d ∈ tables_1, d.before a0 Z = true) : (Jvm.Cond.selects "java/util/Optional" ({ cls := "java/util/Optional", name := "get", desc := "()Ljava/lang/Object;" } : Jvm.MethodName) ({ cls := "java/util/Optional", name := "get", desc := "()Ljava/lang/Object;" } : Jvm.MethodName)).before a0 Z = true := hw _ (List.mem_of_getElem? (i := 129) rfl)
theorem wd130 {a0 : Array Value} {Z : State} (hw : ∀ d ∈ tables_1, d.before a0 Z = true) : (Jvm.Cond.code ({ cls := "java/util/Optional", name := "get", desc := "()Ljava/lang/Object;" } : Jvm.MethodName) jdk_32_method_5_code (1 : Nat) (Option.some (Jvm.ClassFile.FieldType.object "java/lang/Object"))).before a0 Z = true := hw _ (List.mem_of_getElem? (i := 130) rfl)
theorem wd131 {a0 : Array Value} {Z : State} (hw : ∀ d ∈ tables_1, d.before a0 Z = true) : (Jvm.Cond.methodLink "com/example/typed_api_errors/typedapierrors/error/OccurrenceMessagePinLaw" (49 : Nat) ({ cls := "java/lang/String", name := "equals", desc := "(Ljava/lang/Object;)Z" } : Jvm.MethodName)).before a0 Z = true := hw _ (List.mem_of_getElem? (i := 131) rfl)
theorem wd132 {a0 : Array Value} {Z : State} (hw : ∀ d ∈ tables_1, d.before a0 Z = true) : (Jvm.Cond.declares ({ cls := "java/lang/String", name := "equals", desc := "(Ljava/lang/Object;)Z" } : Jvm.MethodName)).before a0 Z = true := hw _ (List.mem_of_getElem? (i := 132) rfl)
theorem wd133 {a0 : Array Value} {Z : State} (hw : ∀ d ∈ tables_1, d.before a0 Z = true) : (Jvm.Cond.instanceMethod ({ cls := "java/lang/String", name := "equals", desc := "(Ljava/lang/Object;)Z" } : Jvm.MethodName)).before a0 Z = true := hw _ (List.mem_of_getElem? (i := 133) rfl)
theorem wd134 {a0 : Array Value} {Z : State} (hw : ∀ d ∈ tables_1, d.before a0 Z = true) : (Jvm.Cond.selects "java/lang/String" ({ cls := "java/lang/String", name := "equals", desc := "(Ljava/lang/Object;)Z" } : Jvm.MethodName) ({ cls := "java/lang/String", name := "equals", desc := "(Ljava/lang/Object;)Z" } : Jvm.MethodName)).before a0 Z = true := hw _ (List.mem_of_getElem? (i := 134) rfl)
theorem wd135 {a0 : Array Value} {Z : State} (hw : ∀ d ∈ tables_1, d.before a0 Z = true) : (Jvm.Cond.code ({ cls := "java/lang/String", name := "equals", desc := "(Ljava/lang/Object;)Z" } : Jvm.MethodName) jdk_42_method_66_code (3 : Nat) (Option.some Jvm.ClassFile.FieldType.boolean)).before a0 Z = true := hw _ (List.mem_of_getElem? (i := 135) rfl)
theorem pn_java_lang_String : plainName "java/lang/String" = true := by first | (simp [plainName, overriddenIn]; done) | decide +kernel
theorem pd___CIILjava_lang_Void__V : parseMethodDescriptor "([CIILjava/lang/Void;)V" = some ⟨[(.array .char), .int, .int, (.object "java/lang/Void")], none⟩ := by decide +kernel
theorem pn_com_example_typed_api_errors_typedapierrors_error_OccurrenceMessagePinLaw : plainName cn1 = true := by first | (simp [plainName, overriddenIn]; done) | decide +kernel
theorem pd___C_V : parseMethodDescriptor "([C)V" = some ⟨[(.array .char)], none⟩ := by decide +kernel
theorem pn_com_example_typed_api_errors_typedapierrors_error_Occurrence : plainName cn4 = true := by first | (simp [plainName, overriddenIn]; done) | decide +kernel
theorem pn_java_util_Objects : plainName "java/util/Objects" = true := by first | (simp [plainName, overriddenIn]; done) | decide +kernel
theorem pn_java_util_Optional : plainName "java/util/Optional" = true := by first | (simp [plainName, overriddenIn]; done) | decide +kernel
theorem pd__Ljava_lang_Object__Ljava_lang_Object_ : parseMethodDescriptor "(Ljava/lang/Object;)Ljava/lang/Object;" = some ⟨[(.object "java/lang/Object")], some (.object "java/lang/Object")⟩ := by decide +kernel
theorem pd___Z : parseMethodDescriptor "()Z" = some ⟨[], some .boolean⟩ := by decide +kernel
theorem pd__Ljava_util_function_Supplier__Ljava_util_Optional_ : parseMethodDescriptor "(Ljava/util/function/Supplier;)Ljava/util/Optional;" = some ⟨[(.object cn9)], some (.object "java/util/Optional")⟩ := by decide +kernel
theorem pn_java_util_ArrayList : plainName "java/util/ArrayList" = true := by first | (simp [plainName, overriddenIn]; done) | decide +kernel
theorem pn_java_util_AbstractList : plainName "java/util/AbstractList" = true := by first | (simp [plainName, overriddenIn]; done) | decide +kernel
theorem pn_java_util_AbstractCollection : plainName "java/util/AbstractCollection" = true := by first | (simp [plainName, overriddenIn]; done) | decide +kernel
theorem pd___V : parseMethodDescriptor "()V" = some ⟨[], none⟩ := by decide +kernel
theorem pn_java_lang_Record : plainName "java/lang/Record" = true := by first | (simp [plainName, overriddenIn]; done) | decide +kernel
theorem pd__Ljava_lang_Object__V : parseMethodDescriptor "(Ljava/lang/Object;)V" = some ⟨[(.object "java/lang/Object")], none⟩ := by decide +kernel
theorem pd__I_Ljava_lang_String_ : parseMethodDescriptor "(I)Ljava/lang/String;" = some ⟨[.int], some (.object "java/lang/String")⟩ := by decide +kernel
theorem pd___Ljava_util_Optional_ : parseMethodDescriptor "()Ljava/util/Optional;" = some ⟨[], some (.object "java/util/Optional")⟩ := by decide +kernel
theorem pd__Ljava_lang_String_ILjava_util_Optional_Ljava_util_Optional_Ljava_util_Optional_Ljava_util_Optional_Ljava_util_Optional_Ljava_util_List__V : parseMethodDescriptor "(Ljava/lang/String;ILjava/util/Optional;Ljava/util/Optional;Ljava/util/Optional;Ljava/util/Optional;Ljava/util/Optional;Ljava/util/List;)V" = some ⟨[(.object "java/lang/String"), .int, (.object "java/util/Optional"), (.object "java/util/Optional"), (.object "java/util/Optional"), (.object "java/util/Optional"), (.object "java/util/Optional"), (.object "java/util/List")], none⟩ := by decide +kernel
theorem pd__Ljava_lang_Object__Ljava_util_Optional_ : parseMethodDescriptor "(Ljava/lang/Object;)Ljava/util/Optional;" = some ⟨[(.object "java/lang/Object")], some (.object "java/util/Optional")⟩ := by decide +kernel
theorem pd___Ljava_lang_Object_ : parseMethodDescriptor "()Ljava/lang/Object;" = some ⟨[], some (.object "java/lang/Object")⟩ := by decide +kernel
theorem pd__Ljava_lang_Object__Z : parseMethodDescriptor "(Ljava/lang/Object;)Z" = some ⟨[(.object "java/lang/Object")], some .boolean⟩ := by decide +kernel
theorem own_and255 (x : Int32) : ¬ nar .char ((x &&& (255 : Int32)).toUInt32.toUInt16.toUInt32.toInt32) < 0 ∧ ¬ (255 : Int32) < nar .char ((x &&& (255 : Int32)).toUInt32.toUInt16.toUInt32.toInt32) := by
  have t : ∀ k : Fin 256, ¬ nar .char ((Int32.ofNat k.val).toUInt32.toUInt16.toUInt32.toInt32) < 0 ∧ ¬ (255 : Int32) < nar .char ((Int32.ofNat k.val).toUInt32.toUInt16.toUInt32.toInt32) := by decide +kernel
  have h : (x &&& 255).toBitVec.toNat < 256 := by
    simp only [Int32.toBitVec_and, BitVec.toNat_and]
    exact Nat.lt_succ_of_le Nat.and_le_right
  have e : (x &&& 255) = Int32.ofNat (x &&& 255).toBitVec.toNat := by
    apply Int32.toBitVec_inj.mp
    show _ = BitVec.ofNat 32 _
    rw [BitVec.ofNat_toNat]; simp
  rw [e]
  exact t ⟨_, h⟩
theorem own_up (cs : List Int32) (h : ∀ c ∈ cs, ¬ c < 0 ∧ ¬ (255 : Int32) < c) : ∀ c ∈ cs, ¬ c < 0 ∧ ¬ (65535 : Int32) < c := fun c hc => ⟨(h c hc).1, fun q => (h c hc).2 (by rw [Int32.lt_iff_toInt_lt] at q ⊢; have e1 : (65535 : Int32).toInt = 65535 := rfl; have e2 : (255 : Int32).toInt = 255 := rfl; omega)⟩
theorem own_hws {a0 : Array Value} {Z : State} (hw : ∀ d ∈ tables_1, d.before a0 Z = true) : ∀ d ∈ StrChars.Road.words, d.before a0 Z = true := fun d hd => hw d ((by decide +kernel : ∀ d ∈ StrChars.Road.words, d ∈ tables_1) d hd)
theorem own_refc {v : Value} (h : v.isRef = true) : v = .null ∨ ∃ a, v = .ref a := by
  cases v <;> first | exact Or.inl rfl | exact Or.inr ⟨_, rfl⟩ | cases h
theorem own_nrO {C : String} {v : Value} (h : v.isRef = true) : narrow (.object C) v = v := by
  cases v <;> first | rfl | cases h
theorem own_ftO {C : String} {v : Value} (h : v.isRef = true) : fits (.object C) v = true := by
  cases v <;> first | rfl | cases h
theorem own_castV {p : Program} {l : Launch} {e : Env} {R : Room} {s : State} {m : MethodId} {args : Array Value} {below : List Frame} {meth : Method} {c : Code} {T : State} {locs : List Loc} {cells slots : Nat} {Z : State} {a0 : Array Value} {h : Heap}
    (X : Stand p l e R s m args below meth c T locs cells slots) (hx : p.tables.exec = Jvm.exec) (hZ : Z.Warmed39 s.vm) {own K : String} {index : Nat} (hown : s.vm.findClass own = some m.cls) (w : (Cond.classLink own index K).before a0 Z = true) (eT : T.heap = h) {v : Value} (rv : v.isRef = true) (F : ∀ a, v = .ref a → Ins Z h a K true)
    {g : JFrame} (hg : g.method = m) {rest : List Value} (hs : g.stack = v :: rest) (hd : decode c.code g.pc = .ok (.checkcast index, 3)) : ∃ T', Stand p l e R s m args below meth c T' locs cells slots ∧ T'.heap = h ∧ ∀ target, Steps p.tables e below (T'.setTop { g with pc := g.pc + 3 }) target → Steps p.tables e below (T.setTop g) target := by
  rcases own_refc rv with q | ⟨a, q⟩
  · subst q; exact ⟨T, X, eT, X.checkcastNull hx hg hs hd⟩
  · subst q; exact castY X hx hZ hown w eT (F a rfl) hg hs hd
theorem own_ef2 (m : MethodId) (a : Addr) (v : Value) (r : v.isRef = true) : entryFrame m #[(.ref a), v] 2 = mkF m 0 #[.val (.ref a), .val v] [] := by
  cases v <;> first | (simp [entryFrame, mkF, argsToLocals, Value.category]; done) | rfl | cases r
theorem own_getFR {p : Program} {l : Launch} {e : Env} {R : Room} {s : State} {m : MethodId} {args : Array Value} {below : List Frame} {meth : Method} {c : Code} {T : State} {locs : List Loc} {cells slots : Nat} {Z : State} {a0 : Array Value} {h : Heap}
    (X : Stand p l e R s m args below meth c T locs cells slots) (hx : p.tables.exec = Jvm.exec) (hZ : Z.Warmed39 s.vm) {own O n d : String} {index : Nat} (hown : s.vm.findClass own = some m.cls) (w : (Cond.fieldRef own index O n d).before a0 Z = true)
    (eT : T.heap = h) {a : Addr} {v : Value} (F : Fld Z h a O n d v) {g : JFrame} (hg : g.method = m) {rest : List Value} (hs : g.stack = .ref a :: rest) (hd : decode c.code g.pc = .ok (.getfield index, 3)) : ∃ T', Stand p l e R s m args below meth c T' locs cells slots ∧ T'.heap = h ∧ ∀ target, Steps p.tables e below (T'.setTop { g with pc := g.pc + 3, stack := v :: rest }) target → Steps p.tables e below (T.setTop g) target := by
  have hT : Z.Warmed39 T.vm := wtrans hZ X.warmed
  have w1 := Cond.fieldRef_warmed39 hT w
  have hcur : (Z.setVm T.vm).vm.findClass own = some m.cls := by
    show T.vm.findClass own = _
    rw [X.warmed.alike.findClass]; exact hown
  obtain ⟨cf', k', i', f', q1, q2⟩ := Cond.fieldRef_spec hcur w1
  obtain ⟨cell, cf, k, i, f, h1, h2, h3, h4, -, -, h7⟩ := F
  obtain ⟨k2, hi, -⟩ := State.fieldFound?_setVm (s := Z) hT.alike h2
  rw [hi] at q1
  injection q1 with q1
  injection q1 with e1 q1
  injection q1 with e2 q1
  injection q1 with e3 e4
  subst e1 e4
  refine ⟨T, X, eT, fun target k => ?_⟩
  exact (X.getfieldR hx hg q2 h3 hs (by rw [eT]; exact h1) h4 h7 hd (Steps.refl _)).trans k
theorem own_fldNull {Z : State} {args : Array Value} {t : Term} {a : Addr} {C n d : String} (ev : t.eval args Z none [] Z = some (.ref a)) (h : (Jvm.Cond.eq (.field t C n d) .null).value args Z none Z [] = some true) : Fld Z Z.heap a C n d .null := by
  cases hx : (Term.field t C n d).eval args Z none [] Z with
  | none => simp [Cond.value, hx] at h
  | some x =>
    have h2 : (Term.null).eval args Z none [] Z = some .null := by simp [Term.eval]
    have e : x = .null := by
      cases x <;> simp [Cond.value, hx, h2] at h ⊢
    rw [fld_at ev] at hx
    exact Fld.start (e ▸ hx)
def own_EL : List (String × Nat) := [(cn1, 33), ("java/lang/String", 7)]
theorem own_EW (a0 : Array Value) (Z : State) (hw : ∀ d ∈ tables_1, d.before a0 Z = true) : EW Z a0 own_EL := (EW.cons (wd74 hw) (by decide +kernel) (EW.cons (wd18 hw) (by decide +kernel) EW.nil))
theorem ef_Se4 (m : MethodId) (x0 : Addr) (x1 : Addr) (x2 : Int32) (x3 : Int32) : entryFrame m #[(.ref x0), (.ref x1), (.int x2), (.int x3), .null] 6 = mkF m 0 #[.val (.ref x0), .val (.ref x1), .val (.int x2), .val (.int x3), .val .null, .unset] [] := by first | (simp [entryFrame, mkF, argsToLocals, Value.category]; done) | rfl
theorem da_0 : decode jdk_42_method_149_code 0 = .ok (.aload_n 0, 1) := by decide +kernel
theorem da_1 : decode jdk_42_method_149_code 1 = .ok (.invokespecial 1, 3) := by decide +kernel
theorem da_4 : decode jdk_42_method_149_code 4 = .ok (.iload_n 3, 1) := by decide +kernel
theorem da_5 : decode jdk_42_method_149_code 5 = .ok (.ifCond .ne 22, 3) := by decide +kernel
theorem da_8 : decode jdk_42_method_149_code 8 = .ok (.aload_n 0, 1) := by decide +kernel
theorem da_9 : decode jdk_42_method_149_code 9 = .ok (.ldc 7, 2) := by decide +kernel
theorem da_11 : decode jdk_42_method_149_code 11 = .ok (.getfield 9, 3) := by decide +kernel
theorem da_14 : decode jdk_42_method_149_code 14 = .ok (.putfield 9, 3) := by decide +kernel
theorem da_17 : decode jdk_42_method_149_code 17 = .ok (.aload_n 0, 1) := by decide +kernel
theorem da_18 : decode jdk_42_method_149_code 18 = .ok (.ldc 7, 2) := by decide +kernel
theorem da_20 : decode jdk_42_method_149_code 20 = .ok (.getfield 15, 3) := by decide +kernel
theorem da_23 : decode jdk_42_method_149_code 23 = .ok (.putfield 15, 3) := by decide +kernel
theorem da_26 : decode jdk_42_method_149_code 26 = .ok (.return_, 1) := by decide +kernel
def QSe4 (Z : State) (o : Addr) (a1 : Addr) (x2 : Int32) (x3 : Int32) (u0 : Value) (u1 : Value) (h0 : Heap) (n0 : Nat) (v : Option Value) (h : Heap) (L : List Loc) : Prop := v = none ∧ Fr n0 L ∧ Keep h0 h [o] ∧ Exa Z h o "java/lang/String" ∧ Fld Z h o "java/lang/String" "coder" "B" (.int (0 : Int32)) ∧ ∃ (t : Addr) (kb : ClassId), Fld Z h o "java/lang/String" "value" "[B" (.ref t) ∧ Arv Z h t kb .byte (0 : Int32) [] (.int (0 : Int32))
set_option maxRecDepth 65536 in
set_option maxHeartbeats 40000000 in
theorem rmSe4 (l : Launch) (Z : State) (a0 : Array Value) (hw : ∀ d ∈ tables_1, d.before a0 Z = true) (ws : List Jvm.Cond) (o : Addr) (a1 : Addr) (x2 : Int32) (x3 : Int32) (u0 : Value) (u1 : Value) (h0 : Heap) (n0 : Nat) (Z0 : n0 ≤ h0.size) (g_o : n0 ≤ o) (E_o : Exa Z h0 o "java/lang/String") (F_v : Fld Z h0 o "java/lang/String" "value" "[B" u0) (F_c : Fld Z h0 o "java/lang/String" "coder" "B" u1) (hz : x3 = (0 : Int32)) :
    MetFree l mn6 (head1 (Jvm.Cond.code mn6 jdk_42_method_149_code 6 none :: ws) ({ frames := 1, cells := 4, slots := 8, locals := 12 } : Room)) (fun a U => a = #[(.ref o), (.ref a1), (.int x2), (.int x3), .null] ∧ Z.Warmed39 U.vm ∧ U.heap = h0 ∧ CHv Z own_EL U.vm h0 ∧ ∀ x ∈ ([o] : List Addr), Safe Z own_EL U.vm h0 x) (fun _ _ _ _ _ => True) (fun _ U oc_ U' => ∃ v L, oc_ = .returned v ∧ QSe4 Z o a1 x2 x3 u0 u1 h0 n0 v U'.heap L ∧ CHr Z own_EL U.vm U.heap U'.vm U'.heap ∧ ReturnedEndW U oc_ U' L ({ frames := 1, cells := 4, slots := 8, locals := 12 } : Room).cells ({ frames := 1, cells := 4, slots := 8, locals := 12 } : Room).slots) := by
  refine MetFree.of_bodySF (plainFor_of_name pn_java_lang_String) hisR ?_
  intro p e s m args below meth c s₁ Bd hml0 hP hK
  obtain ⟨rfl, hZ, hh, hCH, hSS⟩ := hP
  have hx := Bd.exec
  have hby := Bd.bytes
  have hml : c.maxLocals = 6 := hml0
  have hown : s.vm.findClass "java/lang/String" = some m.cls := findClass_of_methodNamed Bd.named
  have hnm := (name_of_methodNamed Bd.named Bd.method).1
  have X0 : Stand p l e ({ frames := 1, cells := 4, slots := 8, locals := 12 } : Room) s m #[(.ref o), (.ref a1), (.int x2), (.int x3), .null] below meth c s₁ [] 0 0 := Stand.of_body Bd
  have e0 : s₁.heap = h0 := by rw [← hh, Bd.state]; rfl
  have N0 := Fr.nil n0
  have pre0 : ∀ t, Steps p.tables e below (s₁.setTop (mkF m 0 #[.val (.ref o), .val (.ref a1), .val (.int x2), .val (.int x3), .val .null, .unset] [])) t → Steps p.tables e below (s₁.setTop (entryFrame m #[(.ref o), (.ref a1), (.int x2), (.int x3), .null] 6)) t := fun t k => castTop (ef_Se4 m o a1 x2 x3) k
  have X0 : Stand p l e ({ frames := 1, cells := 4, slots := 8, locals := 12 } : Room) (s.setVm s.vm) m #[(.ref o), (.ref a1), (.int x2), (.int x3), .null] below meth c s₁ [] 0 0 := X0
  have hS0 : s.Since s.vm 0 := own_since0 s
  have hk0 : 0 ≤ h0.size := Nat.zero_le _
  have CR0 : CHr Z own_EL s.vm h0 s.vm h0 := CHr.refl hCH
  have sf_o : Safe Z own_EL s.vm h0 o := hSS _ (List.mem_of_getElem? (i := 0) rfl)
  have hEL := own_EW a0 Z hw
  have wS : ∀ a ∈ Bundle.stringAtoms, a.before a0 Z = true := fun d hd => hw d ((by decide +kernel : ∀ d ∈ Bundle.stringAtoms, d ∈ tables_1) d hd)
  obtain ⟨T1, X1, e1, st1⟩ := initO X0 hx hZ hown (wd15 hw) (wd16 hw) (wd17 hw) e0 (g := (mkF m 1 #[.val (.ref o), .val (.ref a1), .val (.int x2), .val (.int x3), .val .null, .unset] [(.ref o)])) rfl (by rw [hml]; rfl) rfl (hb hby da_1) (by decide) (W := 0) (by show 2 * 0 + _ ≤ _; exact Nat.le_of_eq rfl) (by decide)
  obtain ⟨a2, T2, h2, kk2, t2, kb2, X2, e2, E2, hS2, hk2, hZ2, hown2, gE2, gC2, gV2, gK2, la2, lt2, CS2, LL2, sne2, st2⟩ := ldcCH (s := s) (vm0 := s.vm) (EL := own_EL) X1 hx hZ hown (wd18 hw) wS e1 hS0 hk0 hEL (by decide) CR0.1 (vs := []) (z := (0 : Int32)) ⟨by decide +kernel, by first | rfl | decide +kernel⟩ (by decide) (by decide) (g := (mkF m 9 #[.val (.ref o), .val (.ref a1), .val (.int x2), .val (.int x3), .val .null, .unset] [(.ref o)])) rfl (hb hby da_9) (n := 0) (by decide +kernel) (by decide) (by decide) (by decide)
  have CR2 := CR0.trans CS2
  have Z2 : n0 ≤ h2.size := Nat.le_trans Z0 E2.1
  have K2 : Keep h0 h2 [o] := ((Keep.refl h0 [o]).ext E2)
  have nn_o_2 := sne2 o (CHr.safe CS2 E_o.lt sf_o)
  obtain ⟨T3, X3, e3, st3⟩ := getF X2 hx hZ2 hown2 (host := "") (Or.inl (wd24 hw)) Via.refl e2 gV2 (g := (mkF m 11 #[.val (.ref o), .val (.ref a1), .val (.int x2), .val (.int x3), .val .null, .unset] [(.ref a2), (.ref o)])) rfl rfl (hb hby da_11)
  have f4 := (E_o.ext E2)
  have f5 := (F_v.ext E2)
  obtain ⟨T6, h6, X6, e6, W6, st6⟩ := putF X3 hx hZ2 hown2 (host := "") (Or.inl (wd24 hw)) Via.refl e3 f5 f4 (Or.inr ⟨(wd20 hw), rfl, hnm⟩) (wd5 hw) (ty := (.array .byte)) (by decide) rfl rfl (g := (mkF m 14 #[.val (.ref o), .val (.ref a1), .val (.int x2), .val (.int x3), .val .null, .unset] [(.ref t2), (.ref o)])) rfl rfl (hb hby da_14)
  have CS6 := CHr.wr W6 (CHr.safe CS2 E_o.lt sf_o) CR2.1
  have CR6 := CR2.trans CS6
  have hk6 : _ ≤ h6.size := Nat.le_trans hk2 (Nat.le_of_eq W6.size.symm)
  have N6 := Fr.snoc X6 N0 g_o
  have Z6 : n0 ≤ h6.size := by rw [W6.size]; exact Z2
  have K6 : Keep h0 h6 [o] := (K2.wr W6 (Or.inl (List.mem_of_getElem? (i := 0) rfl)))
  have Fw6 := f5.same W6
  have f7 := (f4.wr W6)
  have f8 := (gE2.wr W6)
  have f9 := (gK2.other W6 (Ne.symm nn_o_2.2))
  obtain ⟨a10, T10, h10, kk10, t10, kb10, X10, e10, E10, hS10, hk10, hZ10, hown10, gE10, gC10, gV10, gK10, la10, lt10, CS10, LL10, sne10, st10⟩ := ldcCH (s := s) (vm0 := T2.vm) (EL := own_EL) X6 hx hZ2 hown2 (wd18 hw) wS e6 hS2 hk6 hEL (by decide) CR6.1 (vs := []) (z := (0 : Int32)) ⟨by decide +kernel, by first | rfl | decide +kernel⟩ (by decide) (by decide) (g := (mkF m 18 #[.val (.ref o), .val (.ref a1), .val (.int x2), .val (.int x3), .val .null, .unset] [(.ref o)])) rfl (hb hby da_18) (n := 0) (by decide +kernel) (by decide) (by decide) (by decide)
  have CR10 := CR6.trans CS10
  have Z10 : n0 ≤ h10.size := Nat.le_trans Z6 E10.1
  have K10 : Keep h0 h10 [o] := (K6.ext E10)
  have nn_o_10 := sne10 o (CHr.safe ((CS2.trans CS6).trans CS10) E_o.lt sf_o)
  obtain ⟨T11, X11, e11, st11⟩ := getF X10 hx hZ10 hown10 (host := "") (Or.inl (wd25 hw)) Via.refl e10 gC10 (g := (mkF m 20 #[.val (.ref o), .val (.ref a1), .val (.int x2), .val (.int x3), .val .null, .unset] [(.ref a10), (.ref o)])) rfl rfl (hb hby da_20)
  have f12 := (f7.ext E10)
  have f13 := (((F_c.ext E2).other W6 (Or.inr (slot_ne (Or.inr (wd21 hw)) (Or.inr (wd20 hw)) (by decide) (t := .byte) (t' := (.array .byte)) (by decide) (by decide)))).ext E10)
  obtain ⟨T14, h14, X14, e14, W14, st14⟩ := putFN X11 hx hZ10 hown10 (wd25 hw) Via.refl e11 f13 f12 (Or.inr ⟨(wd21 hw), rfl, hnm⟩) (wd5 hw) (ty := .byte) (v' := (.int (0 : Int32))) (by decide) rfl (by decide) (g := (mkF m 23 #[.val (.ref o), .val (.ref a1), .val (.int x2), .val (.int x3), .val .null, .unset] [(.int (0 : Int32)), (.ref o)])) rfl rfl (hb hby da_23)
  have CS14 := CHr.wr W14 (CHr.safe ((CS2.trans CS6).trans CS10) E_o.lt sf_o) CR10.1
  have CR14 := CR10.trans CS14
  have hk14 : _ ≤ h14.size := Nat.le_trans hk10 (Nat.le_of_eq W14.size.symm)
  have N14 := Fr.snoc X14 N6 g_o
  have Z14 : n0 ≤ h14.size := by rw [W14.size]; exact Z10
  have K14 : Keep h0 h14 [o] := (K10.wr W14 (Or.inl (List.mem_of_getElem? (i := 0) rfl)))
  have Fw14 := f13.same W14
  obtain ⟨lfs, lhr, lhrun, lhended, lhE⟩ := X14.leaveW hS10 (by rw [e14]; exact hk14) (v := none) (fun _ => rfl)
  refine ⟨_, _, pre0 _ ?_, lhrun, lhended, _, _, rfl, ?_, ?_, lhE.1, lhE.2.1, lhE.2.2.1, lhE.2.2.2.mono (by decide) (by decide)⟩
  · skip
    show Steps p.tables e below (s₁.setTop (mkF m 0 #[.val (.ref o), .val (.ref a1), .val (.int x2), .val (.int x3), .val .null, .unset] [])) _
    refine XS.aloadN X0.here hx rfl (hb hby da_0) rfl rfl ?_
    show Steps p.tables e below (s₁.setTop (mkF m 1 #[.val (.ref o), .val (.ref a1), .val (.int x2), .val (.int x3), .val .null, .unset] [(.ref o)])) _
    refine st1 _ ?_
    show Steps p.tables e below (T1.setTop (mkF m 4 #[.val (.ref o), .val (.ref a1), .val (.int x2), .val (.int x3), .val .null, .unset] [])) _
    refine XS.iloadN X1.here hx rfl (hb hby da_4) rfl ?_
    show Steps p.tables e below (T1.setTop (mkF m 5 #[.val (.ref o), .val (.ref a1), .val (.int x2), .val (.int x3), .val .null, .unset] [(.int x3)])) _
    refine XS.ifNo X1.here hx rfl (hb hby da_5) rfl ((if0 _ _).trans (teq hz).2) ?_
    show Steps p.tables e below (T1.setTop (mkF m 8 #[.val (.ref o), .val (.ref a1), .val (.int x2), .val (.int x3), .val .null, .unset] [])) _
    refine XS.aloadN X1.here hx rfl (hb hby da_8) rfl rfl ?_
    show Steps p.tables e below (T1.setTop (mkF m 9 #[.val (.ref o), .val (.ref a1), .val (.int x2), .val (.int x3), .val .null, .unset] [(.ref o)])) _
    refine st2 _ ?_
    show Steps p.tables e below (T2.setTop (mkF m 11 #[.val (.ref o), .val (.ref a1), .val (.int x2), .val (.int x3), .val .null, .unset] [(.ref a2), (.ref o)])) _
    refine st3 _ ?_
    show Steps p.tables e below (T3.setTop (mkF m 14 #[.val (.ref o), .val (.ref a1), .val (.int x2), .val (.int x3), .val .null, .unset] [(.ref t2), (.ref o)])) _
    refine st6 _ ?_
    show Steps p.tables e below (T6.setTop (mkF m 17 #[.val (.ref o), .val (.ref a1), .val (.int x2), .val (.int x3), .val .null, .unset] [])) _
    refine XS.aloadN X6.here hx rfl (hb hby da_17) rfl rfl ?_
    show Steps p.tables e below (T6.setTop (mkF m 18 #[.val (.ref o), .val (.ref a1), .val (.int x2), .val (.int x3), .val .null, .unset] [(.ref o)])) _
    refine st10 _ ?_
    show Steps p.tables e below (T10.setTop (mkF m 20 #[.val (.ref o), .val (.ref a1), .val (.int x2), .val (.int x3), .val .null, .unset] [(.ref a10), (.ref o)])) _
    refine st11 _ ?_
    show Steps p.tables e below (T11.setTop (mkF m 23 #[.val (.ref o), .val (.ref a1), .val (.int x2), .val (.int x3), .val .null, .unset] [(.int (0 : Int32)), (.ref o)])) _
    refine st14 _ ?_
    show Steps p.tables e below (T14.setTop (mkF m 26 #[.val (.ref o), .val (.ref a1), .val (.int x2), .val (.int x3), .val .null, .unset] [])) _
    exact X14.returnOut hx Bd.returns (hb hby da_26) lhr
  · skip
    show QSe4 Z o a1 x2 x3 u0 u1 h0 n0 _ T14.heap _
    rw [e14]
    have f15 := (f12.wr W14)
    have f16 := ((Fw6.ext E10).other W14 (Or.inr (slot_ne (Or.inr (wd20 hw)) (Or.inr (wd21 hw)) (by decide) (t := (.array .byte)) (t' := .byte) (by decide) (by decide))))
    have f17 := ((f9.ext E10).other W14 (Ne.symm nn_o_2.2))
    exact ⟨rfl, N14, K14, f15, Fw14, t2, _, f16, f17⟩
  · skip
    show CHr Z own_EL s.vm s.heap T14.vm T14.heap
    rw [hh]
    rw [e14]
    exact CR14.trans (CHv.at X14 hZ10 hEL CR14.1)
theorem ef_Se1 (m : MethodId) (x0 : Addr) (x1 : Addr) : entryFrame m #[(.ref x0), (.ref x1)] 2 = mkF m 0 #[.val (.ref x0), .val (.ref x1)] [] := by first | (simp [entryFrame, mkF, argsToLocals, Value.category]; done) | rfl
theorem do_0 : decode jdk_42_method_3_code 0 = .ok (.aload_n 0, 1) := by decide +kernel
theorem do_1 : decode jdk_42_method_3_code 1 = .ok (.aload_n 1, 1) := by decide +kernel
theorem do_2 : decode jdk_42_method_3_code 2 = .ok (.iconst 0, 1) := by decide +kernel
theorem do_3 : decode jdk_42_method_3_code 3 = .ok (.aload_n 1, 1) := by decide +kernel
theorem do_4 : decode jdk_42_method_3_code 4 = .ok (.arraylength, 1) := by decide +kernel
theorem do_5 : decode jdk_42_method_3_code 5 = .ok (.aconst_null, 1) := by decide +kernel
theorem do_6 : decode jdk_42_method_3_code 6 = .ok (.invokespecial 27, 3) := by decide +kernel
theorem do_9 : decode jdk_42_method_3_code 9 = .ok (.return_, 1) := by decide +kernel
def QSe1 (Z : State) (o : Addr) (a1 : Addr) (u0 : Value) (u1 : Value) (kc : ClassId) (dv : Value) (h0 : Heap) (n0 : Nat) (v : Option Value) (h : Heap) (L : List Loc) : Prop := v = none ∧ Fr n0 L ∧ Keep h0 h [o] ∧ Exa Z h o "java/lang/String" ∧ Fld Z h o "java/lang/String" "coder" "B" (.int (0 : Int32)) ∧ ∃ (t : Addr) (kb : ClassId), Fld Z h o "java/lang/String" "value" "[B" (.ref t) ∧ Arv Z h t kb .byte (0 : Int32) [] (.int (0 : Int32))
set_option maxRecDepth 65536 in
set_option maxHeartbeats 40000000 in
theorem rmSe1 (l : Launch) (Z : State) (a0 : Array Value) (hw : ∀ d ∈ tables_1, d.before a0 Z = true) (ws : List Jvm.Cond) (o : Addr) (a1 : Addr) (u0 : Value) (u1 : Value) (kc : ClassId) (dv : Value) (h0 : Heap) (n0 : Nat) (Z0 : n0 ≤ h0.size) (g_o : n0 ≤ o) (E_o : Exa Z h0 o "java/lang/String") (F_v : Fld Z h0 o "java/lang/String" "value" "[B" u0) (F_c : Fld Z h0 o "java/lang/String" "coder" "B" u1) (V_a : Arv Z h0 a1 kc .char (0 : Int32) [] dv) :
    MetFree l mn5 (head1 (Jvm.Cond.code mn5 jdk_42_method_3_code 2 none :: ws) ({ frames := 2, cells := 4, slots := 8, locals := 29 } : Room)) (fun a U => a = #[(.ref o), (.ref a1)] ∧ Z.Warmed39 U.vm ∧ U.heap = h0 ∧ CHv Z own_EL U.vm h0 ∧ ∀ x ∈ ([o] : List Addr), Safe Z own_EL U.vm h0 x) (fun _ _ _ _ _ => True) (fun _ U oc_ U' => ∃ v L, oc_ = .returned v ∧ QSe1 Z o a1 u0 u1 kc dv h0 n0 v U'.heap L ∧ CHr Z own_EL U.vm U.heap U'.vm U'.heap ∧ ReturnedEndW U oc_ U' L ({ frames := 2, cells := 4, slots := 8, locals := 29 } : Room).cells ({ frames := 2, cells := 4, slots := 8, locals := 29 } : Room).slots) := by
  refine MetFree.of_bodySF (plainFor_of_name pn_java_lang_String) hisR ?_
  intro p e s m args below meth c s₁ Bd hml0 hP hK
  obtain ⟨rfl, hZ, hh, hCH, hSS⟩ := hP
  have hx := Bd.exec
  have hby := Bd.bytes
  have hml : c.maxLocals = 2 := hml0
  have hown : s.vm.findClass "java/lang/String" = some m.cls := findClass_of_methodNamed Bd.named
  have hnm := (name_of_methodNamed Bd.named Bd.method).1
  have X0 : Stand p l e ({ frames := 2, cells := 4, slots := 8, locals := 29 } : Room) s m #[(.ref o), (.ref a1)] below meth c s₁ [] 0 0 := Stand.of_body Bd
  have e0 : s₁.heap = h0 := by rw [← hh, Bd.state]; rfl
  have N0 := Fr.nil n0
  have pre0 : ∀ t, Steps p.tables e below (s₁.setTop (mkF m 0 #[.val (.ref o), .val (.ref a1)] [])) t → Steps p.tables e below (s₁.setTop (entryFrame m #[(.ref o), (.ref a1)] 2)) t := fun t k => castTop (ef_Se1 m o a1) k
  have X0 : Stand p l e ({ frames := 2, cells := 4, slots := 8, locals := 29 } : Room) (s.setVm s.vm) m #[(.ref o), (.ref a1)] below meth c s₁ [] 0 0 := X0
  have hS0 : s.Since s.vm 0 := own_since0 s
  have hk0 : 0 ≤ h0.size := Nat.zero_le _
  have CR0 : CHr Z own_EL s.vm h0 s.vm h0 := CHr.refl hCH
  have sf_o : Safe Z own_EL s.vm h0 o := hSS _ (List.mem_of_getElem? (i := 0) rfl)
  have hEL := own_EW a0 Z hw
  have wS : ∀ a ∈ Bundle.stringAtoms, a.before a0 Z = true := fun d hd => hw d ((by decide +kernel : ∀ d ∈ Bundle.stringAtoms, d ∈ tables_1) d hd)
  obtain ⟨cl1, Ar1, -, S1, M1, -, -⟩ := id V_a
  obtain ⟨_, _, ⟨T2, L2, kc2, ks2⟩, -, X2, hSq2, hgr2, ⟨Lc2, hQ2, l2, y2, z2, CS2⟩, st2⟩ := X0.specialBackS hx (y := mn6) rfl hown (mvT hZ (wd11 hw)) (mvT hZ (wd12 hw)) (mvT hZ (wd14 hw)) (by decide) (own_backSafe (s := s) (vm0 := s.vm) (EL := own_EL) (ss := [o]) (W := 0) (rmSe4 l Z a0 hw [] o a1 (0 : Int32) (0 : Int32) _ _ h0 n0 Z0 g_o E_o F_v F_c rfl) hZ (wd14 hw) (wd6 hw) (by decide) (by decide) hEL CR0.1 (allS ⟨E_o.lt, sf_o⟩ all0)) (g := (mkF m 6 #[.val (.ref o), .val (.ref a1)] [.null, (.int (0 : Int32)), (.int (0 : Int32)), (.ref a1), (.ref o)])) rfl (by rw [hml]; rfl) (Steps.refl _) (a := o) (argsL := [(.ref a1), (.int (0 : Int32)), (.int (0 : Int32)), .null]) (rest := []) (lenOf pd___CIILjava_lang_Void__V rfl) rfl (by show 2 * 0 + _ ≤ _; exact Nat.le_of_eq rfl) (hb hby do_6) (fun _ _ => ⟨rfl, e0, (by decide : 0 + 4 ≤ _), (by decide : 0 + 8 ≤ _)⟩)
  dsimp only [Pt.U, Pt.locs, Pt.cells, Pt.slots] at X2 l2 y2 z2 st2 hQ2 hSq2 hgr2 CS2
  subst l2 y2 z2
  obtain ⟨X2, hS2, hZ2, hown2⟩ := rebS hS0 hk0 X2 hSq2 (by rw [e0] at hgr2; exact hgr2) hZ hown
  obtain ⟨rfl, Nq2, Kq2, gE2, gC2, t2, kb2, gV2, gK2⟩ := hQ2
  have N2 := Fr.app N0 Nq2
  have CR2 := CR0.trans CS2
  have Z2 : n0 ≤ T2.heap.size := Nat.le_trans Z0 Kq2.1
  have K2 : Keep h0 T2.heap [o] := Keep.trans (Keep.refl h0 [o]) Kq2 (allS (Or.inl (List.mem_of_getElem? (i := 0) rfl)) all0)
  obtain ⟨lfs, lhr, lhrun, lhended, lhE⟩ := X2.leaveW hS2 (Nat.le_refl T2.heap.size) (v := none) (fun _ => rfl)
  refine ⟨_, _, pre0 _ ?_, lhrun, lhended, _, _, rfl, ?_, ?_, lhE.1, lhE.2.1, lhE.2.2.1, lhE.2.2.2.mono (by decide) (by decide)⟩
  · skip
    show Steps p.tables e below (s₁.setTop (mkF m 0 #[.val (.ref o), .val (.ref a1)] [])) _
    refine XS.aloadN X0.here hx rfl (hb hby do_0) rfl rfl ?_
    show Steps p.tables e below (s₁.setTop (mkF m 1 #[.val (.ref o), .val (.ref a1)] [(.ref o)])) _
    refine XS.aloadN X0.here hx rfl (hb hby do_1) rfl rfl ?_
    show Steps p.tables e below (s₁.setTop (mkF m 2 #[.val (.ref o), .val (.ref a1)] [(.ref a1), (.ref o)])) _
    refine XS.iconst X0.here hx rfl (hb hby do_2) ?_
    show Steps p.tables e below (s₁.setTop (mkF m 3 #[.val (.ref o), .val (.ref a1)] [(.int (0 : Int32)), (.ref a1), (.ref o)])) _
    refine XS.aloadN X0.here hx rfl (hb hby do_3) rfl rfl ?_
    show Steps p.tables e below (s₁.setTop (mkF m 4 #[.val (.ref o), .val (.ref a1)] [(.ref a1), (.int (0 : Int32)), (.ref a1), (.ref o)])) _
    refine X0.arraylength hx (by (try rw [e0]); exact Ar1.1) (State.isArrayOf_alike hZ.alike Ar1.2.1) (g := (mkF m 4 #[.val (.ref o), .val (.ref a1)] [(.ref a1), (.int (0 : Int32)), (.ref a1), (.ref o)])) rfl rfl (hb hby do_4) _ ?_
    rw [len_of S1 M1]
    show Steps p.tables e below (s₁.setTop (mkF m 5 #[.val (.ref o), .val (.ref a1)] [(.int (0 : Int32)), (.int (0 : Int32)), (.ref a1), (.ref o)])) _
    refine XS.aconstNull X0.here hx rfl (hb hby do_5) ?_
    show Steps p.tables e below (s₁.setTop (mkF m 6 #[.val (.ref o), .val (.ref a1)] [.null, (.int (0 : Int32)), (.int (0 : Int32)), (.ref a1), (.ref o)])) _
    refine st2.trans ?_
    show Steps p.tables e below (T2.setTop (mkF m 9 #[.val (.ref o), .val (.ref a1)] [])) _
    exact X2.returnOut hx Bd.returns (hb hby do_9) lhr
  · skip
    show QSe1 Z o a1 u0 u1 kc dv h0 n0 _ T2.heap _
    skip
    exact ⟨rfl, N2, K2, gE2, gC2, t2, _, gV2, gK2⟩
  · skip
    show CHr Z own_EL s.vm s.heap T2.vm T2.heap
    rw [hh]
    exact CR2.trans (CHv.at X2 hZ2 hEL CR2.1)
theorem ef_Str (m : MethodId) (x0 : Int32) : entryFrame m #[(.int x0)] 5 = mkF m 0 #[.val (.int x0), .unset, .unset, .unset, .unset] [] := by first | (simp [entryFrame, mkF, argsToLocals, Value.category]; done) | rfl
theorem dr_0 : decode method_2_code 0 = .ok (.iload_n 0, 1) := by decide +kernel
theorem dr_1 : decode method_2_code 1 = .ok (.bipush 24, 2) := by decide +kernel
theorem dr_3 : decode method_2_code 3 = .ok (.iushr, 1) := by decide +kernel
theorem dr_4 : decode method_2_code 4 = .ok (.iconst 3, 1) := by decide +kernel
theorem dr_5 : decode method_2_code 5 = .ok (.iand, 1) := by decide +kernel
theorem dr_6 : decode method_2_code 6 = .ok (.istore_n 1, 1) := by decide +kernel
theorem dr_7 : decode method_2_code 7 = .ok (.iload_n 0, 1) := by decide +kernel
theorem dr_8 : decode method_2_code 8 = .ok (.sipush 255, 3) := by decide +kernel
theorem dr_11 : decode method_2_code 11 = .ok (.iand, 1) := by decide +kernel
theorem dr_12 : decode method_2_code 12 = .ok (.i2c, 1) := by decide +kernel
theorem dr_13 : decode method_2_code 13 = .ok (.istore_n 2, 1) := by decide +kernel
theorem dr_14 : decode method_2_code 14 = .ok (.iload_n 0, 1) := by decide +kernel
theorem dr_15 : decode method_2_code 15 = .ok (.bipush 8, 2) := by decide +kernel
theorem dr_17 : decode method_2_code 17 = .ok (.iushr, 1) := by decide +kernel
theorem dr_18 : decode method_2_code 18 = .ok (.sipush 255, 3) := by decide +kernel
theorem dr_21 : decode method_2_code 21 = .ok (.iand, 1) := by decide +kernel
theorem dr_22 : decode method_2_code 22 = .ok (.i2c, 1) := by decide +kernel
theorem dr_23 : decode method_2_code 23 = .ok (.istore_n 3, 1) := by decide +kernel
theorem dr_24 : decode method_2_code 24 = .ok (.iload_n 0, 1) := by decide +kernel
theorem dr_25 : decode method_2_code 25 = .ok (.bipush 16, 2) := by decide +kernel
theorem dr_27 : decode method_2_code 27 = .ok (.iushr, 1) := by decide +kernel
theorem dr_28 : decode method_2_code 28 = .ok (.sipush 255, 3) := by decide +kernel
theorem dr_31 : decode method_2_code 31 = .ok (.iand, 1) := by decide +kernel
theorem dr_32 : decode method_2_code 32 = .ok (.i2c, 1) := by decide +kernel
theorem dr_33 : decode method_2_code 33 = .ok (.istore 4, 2) := by decide +kernel
theorem dr_35 : decode method_2_code 35 = .ok (.iload_n 1, 1) := by decide +kernel
theorem dr_36 : decode method_2_code 36 = .ok (.ifCond .ne 14, 3) := by decide +kernel
theorem dr_39 : decode method_2_code 39 = .ok (.new 7, 3) := by decide +kernel
theorem dr_42 : decode method_2_code 42 = .ok (.dup, 1) := by decide +kernel
theorem dr_43 : decode method_2_code 43 = .ok (.iconst 0, 1) := by decide +kernel
theorem dr_44 : decode method_2_code 44 = .ok (.newarray .char, 2) := by decide +kernel
theorem dr_46 : decode method_2_code 46 = .ok (.invokespecial 9, 3) := by decide +kernel
theorem dr_49 : decode method_2_code 49 = .ok (.areturn, 1) := by decide +kernel
theorem dr_50 : decode method_2_code 50 = .ok (.iload_n 1, 1) := by decide +kernel
theorem dr_51 : decode method_2_code 51 = .ok (.iconst 1, 1) := by decide +kernel
theorem dr_52 : decode method_2_code 52 = .ok (.if_icmp .ne 18, 3) := by decide +kernel
theorem dr_55 : decode method_2_code 55 = .ok (.new 7, 3) := by decide +kernel
theorem dr_58 : decode method_2_code 58 = .ok (.dup, 1) := by decide +kernel
theorem dr_59 : decode method_2_code 59 = .ok (.iconst 1, 1) := by decide +kernel
theorem dr_60 : decode method_2_code 60 = .ok (.newarray .char, 2) := by decide +kernel
theorem dr_62 : decode method_2_code 62 = .ok (.dup, 1) := by decide +kernel
theorem dr_63 : decode method_2_code 63 = .ok (.iconst 0, 1) := by decide +kernel
theorem dr_64 : decode method_2_code 64 = .ok (.iload_n 2, 1) := by decide +kernel
theorem dr_65 : decode method_2_code 65 = .ok (.castore, 1) := by decide +kernel
theorem dr_66 : decode method_2_code 66 = .ok (.invokespecial 9, 3) := by decide +kernel
theorem dr_69 : decode method_2_code 69 = .ok (.areturn, 1) := by decide +kernel
theorem dr_70 : decode method_2_code 70 = .ok (.iload_n 1, 1) := by decide +kernel
theorem dr_71 : decode method_2_code 71 = .ok (.iconst 2, 1) := by decide +kernel
theorem dr_72 : decode method_2_code 72 = .ok (.if_icmp .ne 22, 3) := by decide +kernel
theorem dr_75 : decode method_2_code 75 = .ok (.new 7, 3) := by decide +kernel
theorem dr_78 : decode method_2_code 78 = .ok (.dup, 1) := by decide +kernel
theorem dr_79 : decode method_2_code 79 = .ok (.iconst 2, 1) := by decide +kernel
theorem dr_80 : decode method_2_code 80 = .ok (.newarray .char, 2) := by decide +kernel
theorem dr_82 : decode method_2_code 82 = .ok (.dup, 1) := by decide +kernel
theorem dr_83 : decode method_2_code 83 = .ok (.iconst 0, 1) := by decide +kernel
theorem dr_84 : decode method_2_code 84 = .ok (.iload_n 2, 1) := by decide +kernel
theorem dr_85 : decode method_2_code 85 = .ok (.castore, 1) := by decide +kernel
theorem dr_86 : decode method_2_code 86 = .ok (.dup, 1) := by decide +kernel
theorem dr_87 : decode method_2_code 87 = .ok (.iconst 1, 1) := by decide +kernel
theorem dr_88 : decode method_2_code 88 = .ok (.iload_n 3, 1) := by decide +kernel
theorem dr_89 : decode method_2_code 89 = .ok (.castore, 1) := by decide +kernel
theorem dr_90 : decode method_2_code 90 = .ok (.invokespecial 9, 3) := by decide +kernel
theorem dr_93 : decode method_2_code 93 = .ok (.areturn, 1) := by decide +kernel
theorem dr_94 : decode method_2_code 94 = .ok (.new 7, 3) := by decide +kernel
theorem dr_97 : decode method_2_code 97 = .ok (.dup, 1) := by decide +kernel
theorem dr_98 : decode method_2_code 98 = .ok (.iconst 3, 1) := by decide +kernel
theorem dr_99 : decode method_2_code 99 = .ok (.newarray .char, 2) := by decide +kernel
theorem dr_101 : decode method_2_code 101 = .ok (.dup, 1) := by decide +kernel
theorem dr_102 : decode method_2_code 102 = .ok (.iconst 0, 1) := by decide +kernel
theorem dr_103 : decode method_2_code 103 = .ok (.iload_n 2, 1) := by decide +kernel
theorem dr_104 : decode method_2_code 104 = .ok (.castore, 1) := by decide +kernel
theorem dr_105 : decode method_2_code 105 = .ok (.dup, 1) := by decide +kernel
theorem dr_106 : decode method_2_code 106 = .ok (.iconst 1, 1) := by decide +kernel
theorem dr_107 : decode method_2_code 107 = .ok (.iload_n 3, 1) := by decide +kernel
theorem dr_108 : decode method_2_code 108 = .ok (.castore, 1) := by decide +kernel
theorem dr_109 : decode method_2_code 109 = .ok (.dup, 1) := by decide +kernel
theorem dr_110 : decode method_2_code 110 = .ok (.iconst 2, 1) := by decide +kernel
theorem dr_111 : decode method_2_code 111 = .ok (.iload 4, 2) := by decide +kernel
theorem dr_113 : decode method_2_code 113 = .ok (.castore, 1) := by decide +kernel
theorem dr_114 : decode method_2_code 114 = .ok (.invokespecial 9, 3) := by decide +kernel
theorem dr_117 : decode method_2_code 117 = .ok (.areturn, 1) := by decide +kernel
def QStr (Z : State) (x0 : Int32) (G1 : Int32) (h0 : Heap) (n0 : Nat) (v : Option Value) (h : Heap) (L : List Loc) : Prop := ∃ w : Addr, v = some (.ref w) ∧ Fr n0 L ∧ Keep h0 h [] ∧ h0.size ≤ w ∧ Exa Z h w "java/lang/String"
set_option maxRecDepth 65536 in
set_option maxHeartbeats 40000000 in
theorem rmStr (l : Launch) (Z : State) (a0 : Array Value) (hw : ∀ d ∈ tables_1, d.before a0 Z = true) (ws : List Jvm.Cond) (x0 : Int32) (G1 : Int32) (h0 : Heap) (n0 : Nat) (Z0 : n0 ≤ h0.size) (O2 : Sta Z Z.heap "java/lang/String" "COMPACT_STRINGS" "Z" (.int G1)) (P5 : ¬ (G1 = (0 : Int32))) (X00 : Old Z n0 h0) :
    MetFree l mn3 (head1 (Jvm.Cond.code mn3 method_2_code 5 (some (.object "java/lang/String")) :: ws) ({ frames := 4, cells := 6, slots := 20, locals := 80 } : Room)) (fun a U => a = #[(.int x0)] ∧ Z.Warmed39 U.vm ∧ U.heap = h0 ∧ CHv Z own_EL U.vm h0 ∧ ∀ x ∈ ([] : List Addr), Safe Z own_EL U.vm h0 x) (fun _ _ _ _ _ => True) (fun _ U oc_ U' => ∃ v L, oc_ = .returned v ∧ QStr Z x0 G1 h0 n0 v U'.heap L ∧ CHr Z own_EL U.vm U.heap U'.vm U'.heap ∧ ReturnedEndW U oc_ U' L ({ frames := 4, cells := 6, slots := 20, locals := 80 } : Room).cells ({ frames := 4, cells := 6, slots := 20, locals := 80 } : Room).slots) := by
  refine MetFree.of_bodySF (plainFor_of_name pn_com_example_typed_api_errors_typedapierrors_error_OccurrenceMessagePinLaw) hisR ?_
  intro p e s m args below meth c s₁ Bd hml0 hP hK
  obtain ⟨rfl, hZ, hh, hCH, hSS⟩ := hP
  have hx := Bd.exec
  have hby := Bd.bytes
  have hml : c.maxLocals = 5 := hml0
  have hown : s.vm.findClass cn1 = some m.cls := findClass_of_methodNamed Bd.named
  have hnm := (name_of_methodNamed Bd.named Bd.method).1
  have X0 : Stand p l e ({ frames := 4, cells := 6, slots := 20, locals := 80 } : Room) s m #[(.int x0)] below meth c s₁ [] 0 0 := Stand.of_body Bd
  have e0 : s₁.heap = h0 := by rw [← hh, Bd.state]; rfl
  have N0 := Fr.nil n0
  have pre0 : ∀ t, Steps p.tables e below (s₁.setTop (mkF m 0 #[.val (.int x0), .unset, .unset, .unset, .unset] [])) t → Steps p.tables e below (s₁.setTop (entryFrame m #[(.int x0)] 5)) t := fun t k => castTop (ef_Str m x0) k
  have X0 : Stand p l e ({ frames := 4, cells := 6, slots := 20, locals := 80 } : Room) (s.setVm s.vm) m #[(.int x0)] below meth c s₁ [] 0 0 := X0
  have hS0 : s.Since s.vm 0 := own_since0 s
  have hk0 : 0 ≤ h0.size := Nat.zero_le _
  have CR0 : CHr Z own_EL s.vm h0 s.vm h0 := CHr.refl hCH
  have hEL := own_EW a0 Z hw
  have wS : ∀ a ∈ Bundle.stringAtoms, a.before a0 Z = true := fun d hd => hw d ((by decide +kernel : ∀ d ∈ Bundle.stringAtoms, d ∈ tables_1) d hd)
  have k1 : ∀ t, Steps p.tables e below (s₁.setTop (mkF m 36 #[.val (.int x0), .val (.int (((x0.toUInt32 >>> ((24 : Int32) &&& 31).toUInt32).toInt32) &&& (3 : Int32))), .val (.int ((x0 &&& (255 : Int32)).toUInt32.toUInt16.toUInt32.toInt32)), .val (.int ((((x0.toUInt32 >>> ((8 : Int32) &&& 31).toUInt32).toInt32) &&& (255 : Int32)).toUInt32.toUInt16.toUInt32.toInt32)), .val (.int ((((x0.toUInt32 >>> ((16 : Int32) &&& 31).toUInt32).toInt32) &&& (255 : Int32)).toUInt32.toUInt16.toUInt32.toInt32))] [(.int (((x0.toUInt32 >>> ((24 : Int32) &&& 31).toUInt32).toInt32) &&& (3 : Int32)))])) t → Steps p.tables e below (s₁.setTop (entryFrame m #[(.int x0)] 5)) t := by
    intro t kt
    refine pre0 t ?_
    show Steps p.tables e below (s₁.setTop (mkF m 0 #[.val (.int x0), .unset, .unset, .unset, .unset] [])) _
    refine XS.iloadN X0.here hx rfl (hb hby dr_0) rfl ?_
    show Steps p.tables e below (s₁.setTop (mkF m 1 #[.val (.int x0), .unset, .unset, .unset, .unset] [(.int x0)])) _
    refine XS.bipush X0.here hx rfl (hb hby dr_1) ?_
    show Steps p.tables e below (s₁.setTop (mkF m 3 #[.val (.int x0), .unset, .unset, .unset, .unset] [(.int (24 : Int32)), (.int x0)])) _
    refine XS.iushr X0.here hx rfl (hb hby dr_3) rfl ?_
    show Steps p.tables e below (s₁.setTop (mkF m 4 #[.val (.int x0), .unset, .unset, .unset, .unset] [(.int ((x0.toUInt32 >>> ((24 : Int32) &&& 31).toUInt32).toInt32))])) _
    refine XS.iconst X0.here hx rfl (hb hby dr_4) ?_
    show Steps p.tables e below (s₁.setTop (mkF m 5 #[.val (.int x0), .unset, .unset, .unset, .unset] [(.int (3 : Int32)), (.int ((x0.toUInt32 >>> ((24 : Int32) &&& 31).toUInt32).toInt32))])) _
    refine XS.iand X0.here hx rfl (hb hby dr_5) rfl ?_
    show Steps p.tables e below (s₁.setTop (mkF m 6 #[.val (.int x0), .unset, .unset, .unset, .unset] [(.int (((x0.toUInt32 >>> ((24 : Int32) &&& 31).toUInt32).toInt32) &&& (3 : Int32)))])) _
    refine XS.istoreN X0.here hx rfl (hb hby dr_6) rfl (l' := #[.val (.int x0), .val (.int (((x0.toUInt32 >>> ((24 : Int32) &&& 31).toUInt32).toInt32) &&& (3 : Int32))), .unset, .unset, .unset]) rfl ?_
    show Steps p.tables e below (s₁.setTop (mkF m 7 #[.val (.int x0), .val (.int (((x0.toUInt32 >>> ((24 : Int32) &&& 31).toUInt32).toInt32) &&& (3 : Int32))), .unset, .unset, .unset] [])) _
    refine XS.iloadN X0.here hx rfl (hb hby dr_7) rfl ?_
    show Steps p.tables e below (s₁.setTop (mkF m 8 #[.val (.int x0), .val (.int (((x0.toUInt32 >>> ((24 : Int32) &&& 31).toUInt32).toInt32) &&& (3 : Int32))), .unset, .unset, .unset] [(.int x0)])) _
    refine XS.sipush X0.here hx rfl (hb hby dr_8) ?_
    show Steps p.tables e below (s₁.setTop (mkF m 11 #[.val (.int x0), .val (.int (((x0.toUInt32 >>> ((24 : Int32) &&& 31).toUInt32).toInt32) &&& (3 : Int32))), .unset, .unset, .unset] [(.int (255 : Int32)), (.int x0)])) _
    refine XS.iand X0.here hx rfl (hb hby dr_11) rfl ?_
    show Steps p.tables e below (s₁.setTop (mkF m 12 #[.val (.int x0), .val (.int (((x0.toUInt32 >>> ((24 : Int32) &&& 31).toUInt32).toInt32) &&& (3 : Int32))), .unset, .unset, .unset] [(.int (x0 &&& (255 : Int32)))])) _
    refine XS.i2c X0.here hx rfl (hb hby dr_12) rfl ?_
    show Steps p.tables e below (s₁.setTop (mkF m 13 #[.val (.int x0), .val (.int (((x0.toUInt32 >>> ((24 : Int32) &&& 31).toUInt32).toInt32) &&& (3 : Int32))), .unset, .unset, .unset] [(.int ((x0 &&& (255 : Int32)).toUInt32.toUInt16.toUInt32.toInt32))])) _
    refine XS.istoreN X0.here hx rfl (hb hby dr_13) rfl (l' := #[.val (.int x0), .val (.int (((x0.toUInt32 >>> ((24 : Int32) &&& 31).toUInt32).toInt32) &&& (3 : Int32))), .val (.int ((x0 &&& (255 : Int32)).toUInt32.toUInt16.toUInt32.toInt32)), .unset, .unset]) rfl ?_
    show Steps p.tables e below (s₁.setTop (mkF m 14 #[.val (.int x0), .val (.int (((x0.toUInt32 >>> ((24 : Int32) &&& 31).toUInt32).toInt32) &&& (3 : Int32))), .val (.int ((x0 &&& (255 : Int32)).toUInt32.toUInt16.toUInt32.toInt32)), .unset, .unset] [])) _
    refine XS.iloadN X0.here hx rfl (hb hby dr_14) rfl ?_
    show Steps p.tables e below (s₁.setTop (mkF m 15 #[.val (.int x0), .val (.int (((x0.toUInt32 >>> ((24 : Int32) &&& 31).toUInt32).toInt32) &&& (3 : Int32))), .val (.int ((x0 &&& (255 : Int32)).toUInt32.toUInt16.toUInt32.toInt32)), .unset, .unset] [(.int x0)])) _
    refine XS.bipush X0.here hx rfl (hb hby dr_15) ?_
    show Steps p.tables e below (s₁.setTop (mkF m 17 #[.val (.int x0), .val (.int (((x0.toUInt32 >>> ((24 : Int32) &&& 31).toUInt32).toInt32) &&& (3 : Int32))), .val (.int ((x0 &&& (255 : Int32)).toUInt32.toUInt16.toUInt32.toInt32)), .unset, .unset] [(.int (8 : Int32)), (.int x0)])) _
    refine XS.iushr X0.here hx rfl (hb hby dr_17) rfl ?_
    show Steps p.tables e below (s₁.setTop (mkF m 18 #[.val (.int x0), .val (.int (((x0.toUInt32 >>> ((24 : Int32) &&& 31).toUInt32).toInt32) &&& (3 : Int32))), .val (.int ((x0 &&& (255 : Int32)).toUInt32.toUInt16.toUInt32.toInt32)), .unset, .unset] [(.int ((x0.toUInt32 >>> ((8 : Int32) &&& 31).toUInt32).toInt32))])) _
    refine XS.sipush X0.here hx rfl (hb hby dr_18) ?_
    show Steps p.tables e below (s₁.setTop (mkF m 21 #[.val (.int x0), .val (.int (((x0.toUInt32 >>> ((24 : Int32) &&& 31).toUInt32).toInt32) &&& (3 : Int32))), .val (.int ((x0 &&& (255 : Int32)).toUInt32.toUInt16.toUInt32.toInt32)), .unset, .unset] [(.int (255 : Int32)), (.int ((x0.toUInt32 >>> ((8 : Int32) &&& 31).toUInt32).toInt32))])) _
    refine XS.iand X0.here hx rfl (hb hby dr_21) rfl ?_
    show Steps p.tables e below (s₁.setTop (mkF m 22 #[.val (.int x0), .val (.int (((x0.toUInt32 >>> ((24 : Int32) &&& 31).toUInt32).toInt32) &&& (3 : Int32))), .val (.int ((x0 &&& (255 : Int32)).toUInt32.toUInt16.toUInt32.toInt32)), .unset, .unset] [(.int (((x0.toUInt32 >>> ((8 : Int32) &&& 31).toUInt32).toInt32) &&& (255 : Int32)))])) _
    refine XS.i2c X0.here hx rfl (hb hby dr_22) rfl ?_
    show Steps p.tables e below (s₁.setTop (mkF m 23 #[.val (.int x0), .val (.int (((x0.toUInt32 >>> ((24 : Int32) &&& 31).toUInt32).toInt32) &&& (3 : Int32))), .val (.int ((x0 &&& (255 : Int32)).toUInt32.toUInt16.toUInt32.toInt32)), .unset, .unset] [(.int ((((x0.toUInt32 >>> ((8 : Int32) &&& 31).toUInt32).toInt32) &&& (255 : Int32)).toUInt32.toUInt16.toUInt32.toInt32))])) _
    refine XS.istoreN X0.here hx rfl (hb hby dr_23) rfl (l' := #[.val (.int x0), .val (.int (((x0.toUInt32 >>> ((24 : Int32) &&& 31).toUInt32).toInt32) &&& (3 : Int32))), .val (.int ((x0 &&& (255 : Int32)).toUInt32.toUInt16.toUInt32.toInt32)), .val (.int ((((x0.toUInt32 >>> ((8 : Int32) &&& 31).toUInt32).toInt32) &&& (255 : Int32)).toUInt32.toUInt16.toUInt32.toInt32)), .unset]) rfl ?_
    show Steps p.tables e below (s₁.setTop (mkF m 24 #[.val (.int x0), .val (.int (((x0.toUInt32 >>> ((24 : Int32) &&& 31).toUInt32).toInt32) &&& (3 : Int32))), .val (.int ((x0 &&& (255 : Int32)).toUInt32.toUInt16.toUInt32.toInt32)), .val (.int ((((x0.toUInt32 >>> ((8 : Int32) &&& 31).toUInt32).toInt32) &&& (255 : Int32)).toUInt32.toUInt16.toUInt32.toInt32)), .unset] [])) _
    refine XS.iloadN X0.here hx rfl (hb hby dr_24) rfl ?_
    show Steps p.tables e below (s₁.setTop (mkF m 25 #[.val (.int x0), .val (.int (((x0.toUInt32 >>> ((24 : Int32) &&& 31).toUInt32).toInt32) &&& (3 : Int32))), .val (.int ((x0 &&& (255 : Int32)).toUInt32.toUInt16.toUInt32.toInt32)), .val (.int ((((x0.toUInt32 >>> ((8 : Int32) &&& 31).toUInt32).toInt32) &&& (255 : Int32)).toUInt32.toUInt16.toUInt32.toInt32)), .unset] [(.int x0)])) _
    refine XS.bipush X0.here hx rfl (hb hby dr_25) ?_
    show Steps p.tables e below (s₁.setTop (mkF m 27 #[.val (.int x0), .val (.int (((x0.toUInt32 >>> ((24 : Int32) &&& 31).toUInt32).toInt32) &&& (3 : Int32))), .val (.int ((x0 &&& (255 : Int32)).toUInt32.toUInt16.toUInt32.toInt32)), .val (.int ((((x0.toUInt32 >>> ((8 : Int32) &&& 31).toUInt32).toInt32) &&& (255 : Int32)).toUInt32.toUInt16.toUInt32.toInt32)), .unset] [(.int (16 : Int32)), (.int x0)])) _
    refine XS.iushr X0.here hx rfl (hb hby dr_27) rfl ?_
    show Steps p.tables e below (s₁.setTop (mkF m 28 #[.val (.int x0), .val (.int (((x0.toUInt32 >>> ((24 : Int32) &&& 31).toUInt32).toInt32) &&& (3 : Int32))), .val (.int ((x0 &&& (255 : Int32)).toUInt32.toUInt16.toUInt32.toInt32)), .val (.int ((((x0.toUInt32 >>> ((8 : Int32) &&& 31).toUInt32).toInt32) &&& (255 : Int32)).toUInt32.toUInt16.toUInt32.toInt32)), .unset] [(.int ((x0.toUInt32 >>> ((16 : Int32) &&& 31).toUInt32).toInt32))])) _
    refine XS.sipush X0.here hx rfl (hb hby dr_28) ?_
    show Steps p.tables e below (s₁.setTop (mkF m 31 #[.val (.int x0), .val (.int (((x0.toUInt32 >>> ((24 : Int32) &&& 31).toUInt32).toInt32) &&& (3 : Int32))), .val (.int ((x0 &&& (255 : Int32)).toUInt32.toUInt16.toUInt32.toInt32)), .val (.int ((((x0.toUInt32 >>> ((8 : Int32) &&& 31).toUInt32).toInt32) &&& (255 : Int32)).toUInt32.toUInt16.toUInt32.toInt32)), .unset] [(.int (255 : Int32)), (.int ((x0.toUInt32 >>> ((16 : Int32) &&& 31).toUInt32).toInt32))])) _
    refine XS.iand X0.here hx rfl (hb hby dr_31) rfl ?_
    show Steps p.tables e below (s₁.setTop (mkF m 32 #[.val (.int x0), .val (.int (((x0.toUInt32 >>> ((24 : Int32) &&& 31).toUInt32).toInt32) &&& (3 : Int32))), .val (.int ((x0 &&& (255 : Int32)).toUInt32.toUInt16.toUInt32.toInt32)), .val (.int ((((x0.toUInt32 >>> ((8 : Int32) &&& 31).toUInt32).toInt32) &&& (255 : Int32)).toUInt32.toUInt16.toUInt32.toInt32)), .unset] [(.int (((x0.toUInt32 >>> ((16 : Int32) &&& 31).toUInt32).toInt32) &&& (255 : Int32)))])) _
    refine XS.i2c X0.here hx rfl (hb hby dr_32) rfl ?_
    show Steps p.tables e below (s₁.setTop (mkF m 33 #[.val (.int x0), .val (.int (((x0.toUInt32 >>> ((24 : Int32) &&& 31).toUInt32).toInt32) &&& (3 : Int32))), .val (.int ((x0 &&& (255 : Int32)).toUInt32.toUInt16.toUInt32.toInt32)), .val (.int ((((x0.toUInt32 >>> ((8 : Int32) &&& 31).toUInt32).toInt32) &&& (255 : Int32)).toUInt32.toUInt16.toUInt32.toInt32)), .unset] [(.int ((((x0.toUInt32 >>> ((16 : Int32) &&& 31).toUInt32).toInt32) &&& (255 : Int32)).toUInt32.toUInt16.toUInt32.toInt32))])) _
    refine XS.istore X0.here hx rfl (hb hby dr_33) rfl (l' := #[.val (.int x0), .val (.int (((x0.toUInt32 >>> ((24 : Int32) &&& 31).toUInt32).toInt32) &&& (3 : Int32))), .val (.int ((x0 &&& (255 : Int32)).toUInt32.toUInt16.toUInt32.toInt32)), .val (.int ((((x0.toUInt32 >>> ((8 : Int32) &&& 31).toUInt32).toInt32) &&& (255 : Int32)).toUInt32.toUInt16.toUInt32.toInt32)), .val (.int ((((x0.toUInt32 >>> ((16 : Int32) &&& 31).toUInt32).toInt32) &&& (255 : Int32)).toUInt32.toUInt16.toUInt32.toInt32))]) rfl ?_
    show Steps p.tables e below (s₁.setTop (mkF m 35 #[.val (.int x0), .val (.int (((x0.toUInt32 >>> ((24 : Int32) &&& 31).toUInt32).toInt32) &&& (3 : Int32))), .val (.int ((x0 &&& (255 : Int32)).toUInt32.toUInt16.toUInt32.toInt32)), .val (.int ((((x0.toUInt32 >>> ((8 : Int32) &&& 31).toUInt32).toInt32) &&& (255 : Int32)).toUInt32.toUInt16.toUInt32.toInt32)), .val (.int ((((x0.toUInt32 >>> ((16 : Int32) &&& 31).toUInt32).toInt32) &&& (255 : Int32)).toUInt32.toUInt16.toUInt32.toInt32))] [])) _
    refine XS.iloadN X0.here hx rfl (hb hby dr_35) rfl ?_
    exact kt
  by_cases hc2 : (((x0.toUInt32 >>> ((24 : Int32) &&& 31).toUInt32).toInt32) &&& (3 : Int32)) = (0 : Int32)
  · skip
    obtain ⟨T3, h3, X3, e3, E3, A3, D3, -, st3⟩ := newO X0 hx hZ hown (wd4 hw) (wd5 hw) (wd6 hw) e0 (g := (mkF m 39 #[.val (.int x0), .val (.int (((x0.toUInt32 >>> ((24 : Int32) &&& 31).toUInt32).toInt32) &&& (3 : Int32))), .val (.int ((x0 &&& (255 : Int32)).toUInt32.toUInt16.toUInt32.toInt32)), .val (.int ((((x0.toUInt32 >>> ((8 : Int32) &&& 31).toUInt32).toInt32) &&& (255 : Int32)).toUInt32.toUInt16.toUInt32.toInt32)), .val (.int ((((x0.toUInt32 >>> ((16 : Int32) &&& 31).toUInt32).toInt32) &&& (255 : Int32)).toUInt32.toUInt16.toUInt32.toInt32))] [])) rfl (hb hby dr_39) (by decide) (by decide)
    obtain ⟨b3, g3⟩ : ∃ z, z = h0.size := ⟨_, rfl⟩
    rw [← g3] at A3 D3 st3
    have ge_b3 : n0 ≤ b3 := Nat.le_trans Z0 (Nat.le_of_eq g3.symm)
    have sz_b3 : h0.size ≤ b3 := Nat.le_trans (Nat.le_refl _) (Nat.le_of_eq g3.symm)
    have sf_b3 : Safe Z own_EL s.vm h0 b3 := Safe.new (Nat.le_of_eq g3.symm)
    have sf2_b3 : Safe Z own_EL s.vm h3 b3 := sf_b3.ext E3 CR0.1
    have CS3 := CHr.ext E3 CR0.1
    have CR3 := CR0.trans CS3
    have hk3 : _ ≤ h3.size := Nat.le_trans hk0 E3.1
    have Z3 : n0 ≤ h3.size := Nat.le_trans Z0 E3.1
    have K3 : Keep h0 h3 [] := ((Keep.refl h0 []).ext E3)
    have F3_value : Fld Z h3 b3 "java/lang/String" "value" "[B" .null := D3 (Or.inr (wd20 hw)) (ty := (.array .byte)) (by decide)
    have F3_coder : Fld Z h3 b3 "java/lang/String" "coder" "B" (.int (0 : Int32)) := D3 (Or.inr (wd21 hw)) (ty := .byte) (by decide)
    obtain ⟨T4, h4, kk4, X4, e4, E4, A4, st4⟩ := newP X3 hx hZ (aty := .char) (wd7 hw) e3 (g := (mkF m 44 #[.val (.int x0), .val (.int (((x0.toUInt32 >>> ((24 : Int32) &&& 31).toUInt32).toInt32) &&& (3 : Int32))), .val (.int ((x0 &&& (255 : Int32)).toUInt32.toUInt16.toUInt32.toInt32)), .val (.int ((((x0.toUInt32 >>> ((8 : Int32) &&& 31).toUInt32).toInt32) &&& (255 : Int32)).toUInt32.toUInt16.toUInt32.toInt32)), .val (.int ((((x0.toUInt32 >>> ((16 : Int32) &&& 31).toUInt32).toInt32) &&& (255 : Int32)).toUInt32.toUInt16.toUInt32.toInt32))] [(.int (0 : Int32)), (.ref b3), (.ref b3)])) rfl (hb hby dr_44) rfl (by decide) (cap := 0) (by decide) (by decide) (by decide) (by decide)
    obtain ⟨b4, g4⟩ : ∃ z, z = h3.size := ⟨_, rfl⟩
    rw [← g4] at A4 st4
    have ne_b3_b4 : b3 ≠ b4 := Nat.ne_of_lt (Nat.lt_of_lt_of_le A3.lt (Nat.le_of_eq g4.symm))
    have ge_b4 : n0 ≤ b4 := Nat.le_trans Z3 (Nat.le_of_eq g4.symm)
    have sz_b4 : h0.size ≤ b4 := Nat.le_trans K3.1 (Nat.le_of_eq g4.symm)
    have CS4 := CHr.ext E4 CR3.1
    have CR4 := CR3.trans CS4
    have hk4 : _ ≤ h4.size := Nat.le_trans hk3 E4.1
    have Z4 : n0 ≤ h4.size := Nat.le_trans Z3 E4.1
    have K4 : Keep h0 h4 [] := (K3.ext E4)
    have V4 : Arv Z h4 b4 kk4 .char (0 : Int32) [] (.int (0 : Int32)) := (Arv.new A4 (by decide)).pad (pad_rep [] (.int (0 : Int32)) 0)
    have f5 := (A3.ext E4)
    have f6 := (F3_value.ext E4)
    have f7 := (F3_coder.ext E4)
    obtain ⟨_, _, ⟨T8, L8, kc8, ks8⟩, -, X8, hSq8, hgr8, ⟨Lc8, hQ8, l8, y8, z8, CS8⟩, st8⟩ := X4.specialBackS hx (y := mn5) rfl hown (mvT hZ (wd8 hw)) (mvT hZ (wd9 hw)) (mvT hZ (wd10 hw)) (by decide) (own_backSafe (s := s) (vm0 := s.vm) (EL := own_EL) (ss := [b3]) (W := 1) (rmSe1 l Z a0 hw [] b3 b4 _ _ _ _ h4 n0 Z4 ge_b3 f5 f6 f7 V4) hZ (wd10 hw) (wd6 hw) (by decide) (by decide) hEL CR4.1 (allS ⟨f5.lt, (CHr.safe CS4 A3.lt sf2_b3)⟩ all0)) (g := (mkF m 46 #[.val (.int x0), .val (.int (((x0.toUInt32 >>> ((24 : Int32) &&& 31).toUInt32).toInt32) &&& (3 : Int32))), .val (.int ((x0 &&& (255 : Int32)).toUInt32.toUInt16.toUInt32.toInt32)), .val (.int ((((x0.toUInt32 >>> ((8 : Int32) &&& 31).toUInt32).toInt32) &&& (255 : Int32)).toUInt32.toUInt16.toUInt32.toInt32)), .val (.int ((((x0.toUInt32 >>> ((16 : Int32) &&& 31).toUInt32).toInt32) &&& (255 : Int32)).toUInt32.toUInt16.toUInt32.toInt32))] [(.ref b4), (.ref b3), (.ref b3)])) rfl (by rw [hml]; rfl) (Steps.refl _) (a := b3) (argsL := [(.ref b4)]) (rest := [(.ref b3)]) (lenOf pd___C_V rfl) rfl (by show 2 * 0 + _ ≤ _; exact Nat.le_of_eq rfl) (hb hby dr_46) (fun _ _ => ⟨rfl, e4, (by decide : 2 + 4 ≤ _), (by decide : 4 + 8 ≤ _)⟩)
    dsimp only [Pt.U, Pt.locs, Pt.cells, Pt.slots] at X8 l8 y8 z8 st8 hQ8 hSq8 hgr8 CS8
    subst l8 y8 z8
    obtain ⟨X8, hS8, hZ8, hown8⟩ := rebS hS0 hk4 X8 hSq8 (by rw [e4] at hgr8; exact hgr8) hZ hown
    obtain ⟨rfl, Nq8, Kq8, gE8, gC8, t8, kb8, gV8, gK8⟩ := hQ8
    have N8 := Fr.app N0 Nq8
    have CR8 := CR4.trans CS8
    have Z8 : n0 ≤ T8.heap.size := Nat.le_trans Z4 Kq8.1
    have K8 : Keep h0 T8.heap [] := Keep.trans K4 Kq8 (allS (Or.inr sz_b3) all0)
    obtain ⟨lfs, lhr, lhrun, lhended, lhE⟩ := X8.leaveW hS8 (Nat.le_refl T8.heap.size) (v := some (.ref b3)) (fun h => by rw [Bd.returns] at h; cases h)
    refine ⟨_, _, k1 _ ?_, lhrun, lhended, _, _, rfl, ?_, ?_, lhE.1, lhE.2.1, lhE.2.2.1, lhE.2.2.2.mono (by decide) (by decide)⟩
    · skip
      show Steps p.tables e below (s₁.setTop (mkF m 36 #[.val (.int x0), .val (.int (((x0.toUInt32 >>> ((24 : Int32) &&& 31).toUInt32).toInt32) &&& (3 : Int32))), .val (.int ((x0 &&& (255 : Int32)).toUInt32.toUInt16.toUInt32.toInt32)), .val (.int ((((x0.toUInt32 >>> ((8 : Int32) &&& 31).toUInt32).toInt32) &&& (255 : Int32)).toUInt32.toUInt16.toUInt32.toInt32)), .val (.int ((((x0.toUInt32 >>> ((16 : Int32) &&& 31).toUInt32).toInt32) &&& (255 : Int32)).toUInt32.toUInt16.toUInt32.toInt32))] [(.int (((x0.toUInt32 >>> ((24 : Int32) &&& 31).toUInt32).toInt32) &&& (3 : Int32)))])) _
      refine XS.ifNo X0.here hx rfl (hb hby dr_36) rfl ((if0 _ _).trans (teq hc2).2) ?_
      show Steps p.tables e below (s₁.setTop (mkF m 39 #[.val (.int x0), .val (.int (((x0.toUInt32 >>> ((24 : Int32) &&& 31).toUInt32).toInt32) &&& (3 : Int32))), .val (.int ((x0 &&& (255 : Int32)).toUInt32.toUInt16.toUInt32.toInt32)), .val (.int ((((x0.toUInt32 >>> ((8 : Int32) &&& 31).toUInt32).toInt32) &&& (255 : Int32)).toUInt32.toUInt16.toUInt32.toInt32)), .val (.int ((((x0.toUInt32 >>> ((16 : Int32) &&& 31).toUInt32).toInt32) &&& (255 : Int32)).toUInt32.toUInt16.toUInt32.toInt32))] [])) _
      refine st3 _ ?_
      show Steps p.tables e below (T3.setTop (mkF m 42 #[.val (.int x0), .val (.int (((x0.toUInt32 >>> ((24 : Int32) &&& 31).toUInt32).toInt32) &&& (3 : Int32))), .val (.int ((x0 &&& (255 : Int32)).toUInt32.toUInt16.toUInt32.toInt32)), .val (.int ((((x0.toUInt32 >>> ((8 : Int32) &&& 31).toUInt32).toInt32) &&& (255 : Int32)).toUInt32.toUInt16.toUInt32.toInt32)), .val (.int ((((x0.toUInt32 >>> ((16 : Int32) &&& 31).toUInt32).toInt32) &&& (255 : Int32)).toUInt32.toUInt16.toUInt32.toInt32))] [(.ref b3)])) _
      refine XS.dup X3.here hx rfl (hb hby dr_42) rfl rfl ?_
      show Steps p.tables e below (T3.setTop (mkF m 43 #[.val (.int x0), .val (.int (((x0.toUInt32 >>> ((24 : Int32) &&& 31).toUInt32).toInt32) &&& (3 : Int32))), .val (.int ((x0 &&& (255 : Int32)).toUInt32.toUInt16.toUInt32.toInt32)), .val (.int ((((x0.toUInt32 >>> ((8 : Int32) &&& 31).toUInt32).toInt32) &&& (255 : Int32)).toUInt32.toUInt16.toUInt32.toInt32)), .val (.int ((((x0.toUInt32 >>> ((16 : Int32) &&& 31).toUInt32).toInt32) &&& (255 : Int32)).toUInt32.toUInt16.toUInt32.toInt32))] [(.ref b3), (.ref b3)])) _
      refine XS.iconst X3.here hx rfl (hb hby dr_43) ?_
      show Steps p.tables e below (T3.setTop (mkF m 44 #[.val (.int x0), .val (.int (((x0.toUInt32 >>> ((24 : Int32) &&& 31).toUInt32).toInt32) &&& (3 : Int32))), .val (.int ((x0 &&& (255 : Int32)).toUInt32.toUInt16.toUInt32.toInt32)), .val (.int ((((x0.toUInt32 >>> ((8 : Int32) &&& 31).toUInt32).toInt32) &&& (255 : Int32)).toUInt32.toUInt16.toUInt32.toInt32)), .val (.int ((((x0.toUInt32 >>> ((16 : Int32) &&& 31).toUInt32).toInt32) &&& (255 : Int32)).toUInt32.toUInt16.toUInt32.toInt32))] [(.int (0 : Int32)), (.ref b3), (.ref b3)])) _
      refine st4 _ ?_
      show Steps p.tables e below (T4.setTop (mkF m 46 #[.val (.int x0), .val (.int (((x0.toUInt32 >>> ((24 : Int32) &&& 31).toUInt32).toInt32) &&& (3 : Int32))), .val (.int ((x0 &&& (255 : Int32)).toUInt32.toUInt16.toUInt32.toInt32)), .val (.int ((((x0.toUInt32 >>> ((8 : Int32) &&& 31).toUInt32).toInt32) &&& (255 : Int32)).toUInt32.toUInt16.toUInt32.toInt32)), .val (.int ((((x0.toUInt32 >>> ((16 : Int32) &&& 31).toUInt32).toInt32) &&& (255 : Int32)).toUInt32.toUInt16.toUInt32.toInt32))] [(.ref b4), (.ref b3), (.ref b3)])) _
      refine st8.trans ?_
      show Steps p.tables e below (T8.setTop (mkF m 49 #[.val (.int x0), .val (.int (((x0.toUInt32 >>> ((24 : Int32) &&& 31).toUInt32).toInt32) &&& (3 : Int32))), .val (.int ((x0 &&& (255 : Int32)).toUInt32.toUInt16.toUInt32.toInt32)), .val (.int ((((x0.toUInt32 >>> ((8 : Int32) &&& 31).toUInt32).toInt32) &&& (255 : Int32)).toUInt32.toUInt16.toUInt32.toInt32)), .val (.int ((((x0.toUInt32 >>> ((16 : Int32) &&& 31).toUInt32).toInt32) &&& (255 : Int32)).toUInt32.toUInt16.toUInt32.toInt32))] [(.ref b3)])) _
      exact retOut X8 hx Bd.returns rfl (Or.inr (Or.inr (Or.inr (Or.inr ⟨rfl, rfl, rfl⟩)))) (hb hby dr_49) lhr
    · skip
      show QStr Z x0 G1 h0 n0 _ T8.heap _
      skip
      exact ⟨b3, rfl, N8, K8, sz_b3, gE8⟩
    · skip
      show CHr Z own_EL s.vm s.heap T8.vm T8.heap
      rw [hh]
      exact CR8.trans (CHv.at X8 hZ8 hEL CR8.1)
  · skip
    have k9 : ∀ t, Steps p.tables e below (s₁.setTop (mkF m 52 #[.val (.int x0), .val (.int (((x0.toUInt32 >>> ((24 : Int32) &&& 31).toUInt32).toInt32) &&& (3 : Int32))), .val (.int ((x0 &&& (255 : Int32)).toUInt32.toUInt16.toUInt32.toInt32)), .val (.int ((((x0.toUInt32 >>> ((8 : Int32) &&& 31).toUInt32).toInt32) &&& (255 : Int32)).toUInt32.toUInt16.toUInt32.toInt32)), .val (.int ((((x0.toUInt32 >>> ((16 : Int32) &&& 31).toUInt32).toInt32) &&& (255 : Int32)).toUInt32.toUInt16.toUInt32.toInt32))] [(.int (1 : Int32)), (.int (((x0.toUInt32 >>> ((24 : Int32) &&& 31).toUInt32).toInt32) &&& (3 : Int32)))])) t → Steps p.tables e below (s₁.setTop (entryFrame m #[(.int x0)] 5)) t := by
      intro t kt
      refine k1 t ?_
      show Steps p.tables e below (s₁.setTop (mkF m 36 #[.val (.int x0), .val (.int (((x0.toUInt32 >>> ((24 : Int32) &&& 31).toUInt32).toInt32) &&& (3 : Int32))), .val (.int ((x0 &&& (255 : Int32)).toUInt32.toUInt16.toUInt32.toInt32)), .val (.int ((((x0.toUInt32 >>> ((8 : Int32) &&& 31).toUInt32).toInt32) &&& (255 : Int32)).toUInt32.toUInt16.toUInt32.toInt32)), .val (.int ((((x0.toUInt32 >>> ((16 : Int32) &&& 31).toUInt32).toInt32) &&& (255 : Int32)).toUInt32.toUInt16.toUInt32.toInt32))] [(.int (((x0.toUInt32 >>> ((24 : Int32) &&& 31).toUInt32).toInt32) &&& (3 : Int32)))])) _
      refine XS.ifYes X0.here hx rfl (pc0 := 36) (pc' := 50) rfl (hb hby dr_36) rfl ((if0 _ _).trans (feq hc2).2) (by decide) (by decide) ?_
      show Steps p.tables e below (s₁.setTop (mkF m 50 #[.val (.int x0), .val (.int (((x0.toUInt32 >>> ((24 : Int32) &&& 31).toUInt32).toInt32) &&& (3 : Int32))), .val (.int ((x0 &&& (255 : Int32)).toUInt32.toUInt16.toUInt32.toInt32)), .val (.int ((((x0.toUInt32 >>> ((8 : Int32) &&& 31).toUInt32).toInt32) &&& (255 : Int32)).toUInt32.toUInt16.toUInt32.toInt32)), .val (.int ((((x0.toUInt32 >>> ((16 : Int32) &&& 31).toUInt32).toInt32) &&& (255 : Int32)).toUInt32.toUInt16.toUInt32.toInt32))] [])) _
      refine XS.iloadN X0.here hx rfl (hb hby dr_50) rfl ?_
      show Steps p.tables e below (s₁.setTop (mkF m 51 #[.val (.int x0), .val (.int (((x0.toUInt32 >>> ((24 : Int32) &&& 31).toUInt32).toInt32) &&& (3 : Int32))), .val (.int ((x0 &&& (255 : Int32)).toUInt32.toUInt16.toUInt32.toInt32)), .val (.int ((((x0.toUInt32 >>> ((8 : Int32) &&& 31).toUInt32).toInt32) &&& (255 : Int32)).toUInt32.toUInt16.toUInt32.toInt32)), .val (.int ((((x0.toUInt32 >>> ((16 : Int32) &&& 31).toUInt32).toInt32) &&& (255 : Int32)).toUInt32.toUInt16.toUInt32.toInt32))] [(.int (((x0.toUInt32 >>> ((24 : Int32) &&& 31).toUInt32).toInt32) &&& (3 : Int32)))])) _
      refine XS.iconst X0.here hx rfl (hb hby dr_51) ?_
      exact kt
    by_cases hc10 : (((x0.toUInt32 >>> ((24 : Int32) &&& 31).toUInt32).toInt32) &&& (3 : Int32)) = (1 : Int32)
    · skip
      obtain ⟨T11, h11, X11, e11, E11, A11, D11, -, st11⟩ := newO X0 hx hZ hown (wd4 hw) (wd5 hw) (wd6 hw) e0 (g := (mkF m 55 #[.val (.int x0), .val (.int (((x0.toUInt32 >>> ((24 : Int32) &&& 31).toUInt32).toInt32) &&& (3 : Int32))), .val (.int ((x0 &&& (255 : Int32)).toUInt32.toUInt16.toUInt32.toInt32)), .val (.int ((((x0.toUInt32 >>> ((8 : Int32) &&& 31).toUInt32).toInt32) &&& (255 : Int32)).toUInt32.toUInt16.toUInt32.toInt32)), .val (.int ((((x0.toUInt32 >>> ((16 : Int32) &&& 31).toUInt32).toInt32) &&& (255 : Int32)).toUInt32.toUInt16.toUInt32.toInt32))] [])) rfl (hb hby dr_55) (by decide) (by decide)
      obtain ⟨b11, g11⟩ : ∃ z, z = h0.size := ⟨_, rfl⟩
      rw [← g11] at A11 D11 st11
      have ge_b11 : n0 ≤ b11 := Nat.le_trans Z0 (Nat.le_of_eq g11.symm)
      have sz_b11 : h0.size ≤ b11 := Nat.le_trans (Nat.le_refl _) (Nat.le_of_eq g11.symm)
      have sf_b11 : Safe Z own_EL s.vm h0 b11 := Safe.new (Nat.le_of_eq g11.symm)
      have sf2_b11 : Safe Z own_EL s.vm h11 b11 := sf_b11.ext E11 CR0.1
      have CS11 := CHr.ext E11 CR0.1
      have CR11 := CR0.trans CS11
      have hk11 : _ ≤ h11.size := Nat.le_trans hk0 E11.1
      have Z11 : n0 ≤ h11.size := Nat.le_trans Z0 E11.1
      have K11 : Keep h0 h11 [] := ((Keep.refl h0 []).ext E11)
      have F11_value : Fld Z h11 b11 "java/lang/String" "value" "[B" .null := D11 (Or.inr (wd20 hw)) (ty := (.array .byte)) (by decide)
      have F11_coder : Fld Z h11 b11 "java/lang/String" "coder" "B" (.int (0 : Int32)) := D11 (Or.inr (wd21 hw)) (ty := .byte) (by decide)
      obtain ⟨T12, h12, kk12, X12, e12, E12, A12, st12⟩ := newP X11 hx hZ (aty := .char) (wd7 hw) e11 (g := (mkF m 60 #[.val (.int x0), .val (.int (((x0.toUInt32 >>> ((24 : Int32) &&& 31).toUInt32).toInt32) &&& (3 : Int32))), .val (.int ((x0 &&& (255 : Int32)).toUInt32.toUInt16.toUInt32.toInt32)), .val (.int ((((x0.toUInt32 >>> ((8 : Int32) &&& 31).toUInt32).toInt32) &&& (255 : Int32)).toUInt32.toUInt16.toUInt32.toInt32)), .val (.int ((((x0.toUInt32 >>> ((16 : Int32) &&& 31).toUInt32).toInt32) &&& (255 : Int32)).toUInt32.toUInt16.toUInt32.toInt32))] [(.int (1 : Int32)), (.ref b11), (.ref b11)])) rfl (hb hby dr_60) rfl (by decide) (cap := 1) (by decide) (by decide) (by decide) (by decide)
      obtain ⟨b12, g12⟩ : ∃ z, z = h11.size := ⟨_, rfl⟩
      rw [← g12] at A12 st12
      have ne_b11_b12 : b11 ≠ b12 := Nat.ne_of_lt (Nat.lt_of_lt_of_le A11.lt (Nat.le_of_eq g12.symm))
      have ge_b12 : n0 ≤ b12 := Nat.le_trans Z11 (Nat.le_of_eq g12.symm)
      have sz_b12 : h0.size ≤ b12 := Nat.le_trans K11.1 (Nat.le_of_eq g12.symm)
      have CS12 := CHr.ext E12 CR11.1
      have CR12 := CR11.trans CS12
      have hk12 : _ ≤ h12.size := Nat.le_trans hk11 E12.1
      have Z12 : n0 ≤ h12.size := Nat.le_trans Z11 E12.1
      have K12 : Keep h0 h12 [] := (K11.ext E12)
      have V12 : Arv Z h12 b12 kk12 .char (1 : Int32) [(.int (0 : Int32))] (.int (0 : Int32)) := (Arv.new A12 (by decide)).pad (pad_rep [] (.int (0 : Int32)) 1)
      obtain ⟨cl13, Ar13, q13, S13, M13, HH13, GG13⟩ := id V12
      have hin13 : ¬ ((0 : Int32) < 0 ∨ cl13.slots.size ≤ ((0 : Int32)).toNatClampNeg) := inb_of S13 ⟨by decide, by decide⟩
      obtain ⟨T14, h14, X14, e14, W14, st14⟩ := stC X12 hx hZ e12 Ar13 (j := (0 : Int32)) hin13 (g := (mkF m 65 #[.val (.int x0), .val (.int (((x0.toUInt32 >>> ((24 : Int32) &&& 31).toUInt32).toInt32) &&& (3 : Int32))), .val (.int ((x0 &&& (255 : Int32)).toUInt32.toUInt16.toUInt32.toInt32)), .val (.int ((((x0.toUInt32 >>> ((8 : Int32) &&& 31).toUInt32).toInt32) &&& (255 : Int32)).toUInt32.toUInt16.toUInt32.toInt32)), .val (.int ((((x0.toUInt32 >>> ((16 : Int32) &&& 31).toUInt32).toInt32) &&& (255 : Int32)).toUInt32.toUInt16.toUInt32.toInt32))] [(.int ((x0 &&& (255 : Int32)).toUInt32.toUInt16.toUInt32.toInt32)), (.int (0 : Int32)), (.ref b12), (.ref b12), (.ref b11), (.ref b11)])) rfl rfl (hb hby dr_65)
      have CS14 := CHr.wr W14 (own_safeArv hZ.alike V12 (by decide)) CR12.1
      have CR14 := CR12.trans CS14
      have hk14 : _ ≤ h14.size := Nat.le_trans hk12 (Nat.le_of_eq W14.size.symm)
      have N14 := Fr.snoc X14 N0 ge_b12
      have Z14 : n0 ≤ h14.size := by rw [W14.size]; exact Z12
      have K14 : Keep h0 h14 [] := (K12.wr W14 (Or.inr sz_b12))
      have V14 := Arv.set Ar13 q13 S13 M13 HH13 GG13 (fits_nar_char _) W14 0 rfl (Nat.le_of_ble_eq_true rfl)
      have hp15 : ∀ c ∈ ([(nar .char ((x0 &&& (255 : Int32)).toUInt32.toUInt16.toUInt32.toInt32))] : List Int32), ¬ c < 0 ∧ ¬ (255 : Int32) < c := by
        intro c hc
        simp only [List.mem_cons, List.not_mem_nil, or_false] at hc
        rcases hc with rfl
        · exact (own_and255 x0)
      have f16 := ((A11.ext E12).wr W14)
      have f17 := ((F11_value.ext E12).other W14 (Or.inl ne_b11_b12))
      have f18 := ((F11_coder.ext E12).other W14 (Or.inl ne_b11_b12))
      have f19 := (((X00.ext E11).ext E12).wr W14 ge_b12)
      obtain ⟨_, _, ⟨T20, L20, kc20, ks20⟩, -, X20, ⟨Lc20, hQ20, l20, y20, z20⟩, st20⟩ := X14.specialBack hx (y := mn5) rfl hown (mvT hZ (wd8 hw)) (mvT hZ (wd9 hw)) (mvT hZ (wd10 hw)) (by decide) (StrChars.Road.backV (W := 1) hZ (own_hws hw) (kI := 4) (wd5 hw) (cs := ([(nar .char ((x0 &&& (255 : Int32)).toUInt32.toUInt16.toUInt32.toInt32))] : List Int32)) (bs := ([(nar .char ((x0 &&& (255 : Int32)).toUInt32.toUInt16.toUInt32.toInt32))] : List Int32).map (fun c => c.toInt8.toInt32)) (n := 1) ge_b11 Z14 f16 f17 f18 V14 (O2.ext f19.2) P5 rfl rfl (by decide) (by decide) hp15 rfl (by decide) (by decide)) (g := (mkF m 66 #[.val (.int x0), .val (.int (((x0.toUInt32 >>> ((24 : Int32) &&& 31).toUInt32).toInt32) &&& (3 : Int32))), .val (.int ((x0 &&& (255 : Int32)).toUInt32.toUInt16.toUInt32.toInt32)), .val (.int ((((x0.toUInt32 >>> ((8 : Int32) &&& 31).toUInt32).toInt32) &&& (255 : Int32)).toUInt32.toUInt16.toUInt32.toInt32)), .val (.int ((((x0.toUInt32 >>> ((16 : Int32) &&& 31).toUInt32).toInt32) &&& (255 : Int32)).toUInt32.toUInt16.toUInt32.toInt32))] [(.ref b12), (.ref b11), (.ref b11)])) rfl (by rw [hml]; rfl) (Steps.refl _) (a := b11) (argsL := [(.ref b12)]) (rest := [(.ref b11)]) (lenOf pd___C_V rfl) rfl (by show 2 * 0 + _ ≤ _; exact Nat.le_of_eq rfl) (hb hby dr_66) (fun _ _ => ⟨rfl, e14, (by decide : 2 + 1 ≤ _), (by decide : 5 + 1 ≤ _)⟩)
      dsimp only [Pt.U, Pt.locs, Pt.cells, Pt.slots] at X20 l20 y20 z20 st20 hQ20
      subst l20 y20 z20
      obtain ⟨rfl, Nq20, Kq20, gE20, gC20, t20, kb20, gt20, gs20, gn20, gV20, gK20⟩ := hQ20
      have N20 := Fr.app N14 Nq20
      have CS20 := CHr.keep Kq20 (allS (CHr.safe (CS12.trans CS14) A11.lt sf2_b11) all0) CR14.1
      have CR20 := CR14.trans CS20
      have hk20 : _ ≤ T20.heap.size := Nat.le_trans hk14 Kq20.1
      have Z20 : n0 ≤ T20.heap.size := Nat.le_trans Z14 Kq20.1
      have K20 : Keep h0 T20.heap [] := Keep.trans K14 Kq20 (allS (Or.inr sz_b11) all0)
      have gL20 : Arv Z T20.heap t20 kb20 .byte (1 : Int32) [(.int (((nar .char ((x0 &&& (255 : Int32)).toUInt32.toUInt16.toUInt32.toInt32))).toInt8.toInt32))] (.int (0 : Int32)) := gK20
      have ne_b11_t20 : b11 ≠ t20 := Nat.ne_of_lt (Nat.lt_of_lt_of_le f16.lt gs20)
      have ne_b12_t20 : b12 ≠ t20 := Nat.ne_of_lt (Nat.lt_of_lt_of_le V14.lt gs20)
      have sz_t20 : h0.size ≤ t20 := Nat.le_trans K14.1 gs20
      obtain ⟨lfs, lhr, lhrun, lhended, lhE⟩ := X20.leaveW hS0 hk20 (v := some (.ref b11)) (fun h => by rw [Bd.returns] at h; cases h)
      refine ⟨_, _, k9 _ ?_, lhrun, lhended, _, _, rfl, ?_, ?_, lhE.1, lhE.2.1, lhE.2.2.1, lhE.2.2.2.mono (by decide) (by decide)⟩
      · skip
        show Steps p.tables e below (s₁.setTop (mkF m 52 #[.val (.int x0), .val (.int (((x0.toUInt32 >>> ((24 : Int32) &&& 31).toUInt32).toInt32) &&& (3 : Int32))), .val (.int ((x0 &&& (255 : Int32)).toUInt32.toUInt16.toUInt32.toInt32)), .val (.int ((((x0.toUInt32 >>> ((8 : Int32) &&& 31).toUInt32).toInt32) &&& (255 : Int32)).toUInt32.toUInt16.toUInt32.toInt32)), .val (.int ((((x0.toUInt32 >>> ((16 : Int32) &&& 31).toUInt32).toInt32) &&& (255 : Int32)).toUInt32.toUInt16.toUInt32.toInt32))] [(.int (1 : Int32)), (.int (((x0.toUInt32 >>> ((24 : Int32) &&& 31).toUInt32).toInt32) &&& (3 : Int32)))])) _
        refine XS.icmpNo X0.here hx rfl (hb hby dr_52) rfl (teq hc10).2 ?_
        show Steps p.tables e below (s₁.setTop (mkF m 55 #[.val (.int x0), .val (.int (((x0.toUInt32 >>> ((24 : Int32) &&& 31).toUInt32).toInt32) &&& (3 : Int32))), .val (.int ((x0 &&& (255 : Int32)).toUInt32.toUInt16.toUInt32.toInt32)), .val (.int ((((x0.toUInt32 >>> ((8 : Int32) &&& 31).toUInt32).toInt32) &&& (255 : Int32)).toUInt32.toUInt16.toUInt32.toInt32)), .val (.int ((((x0.toUInt32 >>> ((16 : Int32) &&& 31).toUInt32).toInt32) &&& (255 : Int32)).toUInt32.toUInt16.toUInt32.toInt32))] [])) _
        refine st11 _ ?_
        show Steps p.tables e below (T11.setTop (mkF m 58 #[.val (.int x0), .val (.int (((x0.toUInt32 >>> ((24 : Int32) &&& 31).toUInt32).toInt32) &&& (3 : Int32))), .val (.int ((x0 &&& (255 : Int32)).toUInt32.toUInt16.toUInt32.toInt32)), .val (.int ((((x0.toUInt32 >>> ((8 : Int32) &&& 31).toUInt32).toInt32) &&& (255 : Int32)).toUInt32.toUInt16.toUInt32.toInt32)), .val (.int ((((x0.toUInt32 >>> ((16 : Int32) &&& 31).toUInt32).toInt32) &&& (255 : Int32)).toUInt32.toUInt16.toUInt32.toInt32))] [(.ref b11)])) _
        refine XS.dup X11.here hx rfl (hb hby dr_58) rfl rfl ?_
        show Steps p.tables e below (T11.setTop (mkF m 59 #[.val (.int x0), .val (.int (((x0.toUInt32 >>> ((24 : Int32) &&& 31).toUInt32).toInt32) &&& (3 : Int32))), .val (.int ((x0 &&& (255 : Int32)).toUInt32.toUInt16.toUInt32.toInt32)), .val (.int ((((x0.toUInt32 >>> ((8 : Int32) &&& 31).toUInt32).toInt32) &&& (255 : Int32)).toUInt32.toUInt16.toUInt32.toInt32)), .val (.int ((((x0.toUInt32 >>> ((16 : Int32) &&& 31).toUInt32).toInt32) &&& (255 : Int32)).toUInt32.toUInt16.toUInt32.toInt32))] [(.ref b11), (.ref b11)])) _
        refine XS.iconst X11.here hx rfl (hb hby dr_59) ?_
        show Steps p.tables e below (T11.setTop (mkF m 60 #[.val (.int x0), .val (.int (((x0.toUInt32 >>> ((24 : Int32) &&& 31).toUInt32).toInt32) &&& (3 : Int32))), .val (.int ((x0 &&& (255 : Int32)).toUInt32.toUInt16.toUInt32.toInt32)), .val (.int ((((x0.toUInt32 >>> ((8 : Int32) &&& 31).toUInt32).toInt32) &&& (255 : Int32)).toUInt32.toUInt16.toUInt32.toInt32)), .val (.int ((((x0.toUInt32 >>> ((16 : Int32) &&& 31).toUInt32).toInt32) &&& (255 : Int32)).toUInt32.toUInt16.toUInt32.toInt32))] [(.int (1 : Int32)), (.ref b11), (.ref b11)])) _
        refine st12 _ ?_
        show Steps p.tables e below (T12.setTop (mkF m 62 #[.val (.int x0), .val (.int (((x0.toUInt32 >>> ((24 : Int32) &&& 31).toUInt32).toInt32) &&& (3 : Int32))), .val (.int ((x0 &&& (255 : Int32)).toUInt32.toUInt16.toUInt32.toInt32)), .val (.int ((((x0.toUInt32 >>> ((8 : Int32) &&& 31).toUInt32).toInt32) &&& (255 : Int32)).toUInt32.toUInt16.toUInt32.toInt32)), .val (.int ((((x0.toUInt32 >>> ((16 : Int32) &&& 31).toUInt32).toInt32) &&& (255 : Int32)).toUInt32.toUInt16.toUInt32.toInt32))] [(.ref b12), (.ref b11), (.ref b11)])) _
        refine XS.dup X12.here hx rfl (hb hby dr_62) rfl rfl ?_
        show Steps p.tables e below (T12.setTop (mkF m 63 #[.val (.int x0), .val (.int (((x0.toUInt32 >>> ((24 : Int32) &&& 31).toUInt32).toInt32) &&& (3 : Int32))), .val (.int ((x0 &&& (255 : Int32)).toUInt32.toUInt16.toUInt32.toInt32)), .val (.int ((((x0.toUInt32 >>> ((8 : Int32) &&& 31).toUInt32).toInt32) &&& (255 : Int32)).toUInt32.toUInt16.toUInt32.toInt32)), .val (.int ((((x0.toUInt32 >>> ((16 : Int32) &&& 31).toUInt32).toInt32) &&& (255 : Int32)).toUInt32.toUInt16.toUInt32.toInt32))] [(.ref b12), (.ref b12), (.ref b11), (.ref b11)])) _
        refine XS.iconst X12.here hx rfl (hb hby dr_63) ?_
        show Steps p.tables e below (T12.setTop (mkF m 64 #[.val (.int x0), .val (.int (((x0.toUInt32 >>> ((24 : Int32) &&& 31).toUInt32).toInt32) &&& (3 : Int32))), .val (.int ((x0 &&& (255 : Int32)).toUInt32.toUInt16.toUInt32.toInt32)), .val (.int ((((x0.toUInt32 >>> ((8 : Int32) &&& 31).toUInt32).toInt32) &&& (255 : Int32)).toUInt32.toUInt16.toUInt32.toInt32)), .val (.int ((((x0.toUInt32 >>> ((16 : Int32) &&& 31).toUInt32).toInt32) &&& (255 : Int32)).toUInt32.toUInt16.toUInt32.toInt32))] [(.int (0 : Int32)), (.ref b12), (.ref b12), (.ref b11), (.ref b11)])) _
        refine XS.iloadN X12.here hx rfl (hb hby dr_64) rfl ?_
        show Steps p.tables e below (T12.setTop (mkF m 65 #[.val (.int x0), .val (.int (((x0.toUInt32 >>> ((24 : Int32) &&& 31).toUInt32).toInt32) &&& (3 : Int32))), .val (.int ((x0 &&& (255 : Int32)).toUInt32.toUInt16.toUInt32.toInt32)), .val (.int ((((x0.toUInt32 >>> ((8 : Int32) &&& 31).toUInt32).toInt32) &&& (255 : Int32)).toUInt32.toUInt16.toUInt32.toInt32)), .val (.int ((((x0.toUInt32 >>> ((16 : Int32) &&& 31).toUInt32).toInt32) &&& (255 : Int32)).toUInt32.toUInt16.toUInt32.toInt32))] [(.int ((x0 &&& (255 : Int32)).toUInt32.toUInt16.toUInt32.toInt32)), (.int (0 : Int32)), (.ref b12), (.ref b12), (.ref b11), (.ref b11)])) _
        refine st14 _ ?_
        show Steps p.tables e below (T14.setTop (mkF m 66 #[.val (.int x0), .val (.int (((x0.toUInt32 >>> ((24 : Int32) &&& 31).toUInt32).toInt32) &&& (3 : Int32))), .val (.int ((x0 &&& (255 : Int32)).toUInt32.toUInt16.toUInt32.toInt32)), .val (.int ((((x0.toUInt32 >>> ((8 : Int32) &&& 31).toUInt32).toInt32) &&& (255 : Int32)).toUInt32.toUInt16.toUInt32.toInt32)), .val (.int ((((x0.toUInt32 >>> ((16 : Int32) &&& 31).toUInt32).toInt32) &&& (255 : Int32)).toUInt32.toUInt16.toUInt32.toInt32))] [(.ref b12), (.ref b11), (.ref b11)])) _
        refine st20.trans ?_
        show Steps p.tables e below (T20.setTop (mkF m 69 #[.val (.int x0), .val (.int (((x0.toUInt32 >>> ((24 : Int32) &&& 31).toUInt32).toInt32) &&& (3 : Int32))), .val (.int ((x0 &&& (255 : Int32)).toUInt32.toUInt16.toUInt32.toInt32)), .val (.int ((((x0.toUInt32 >>> ((8 : Int32) &&& 31).toUInt32).toInt32) &&& (255 : Int32)).toUInt32.toUInt16.toUInt32.toInt32)), .val (.int ((((x0.toUInt32 >>> ((16 : Int32) &&& 31).toUInt32).toInt32) &&& (255 : Int32)).toUInt32.toUInt16.toUInt32.toInt32))] [(.ref b11)])) _
        exact retOut X20 hx Bd.returns rfl (Or.inr (Or.inr (Or.inr (Or.inr ⟨rfl, rfl, rfl⟩)))) (hb hby dr_69) lhr
      · skip
        show QStr Z x0 G1 h0 n0 _ T20.heap _
        skip
        exact ⟨b11, rfl, N20, K20, sz_b11, gE20⟩
      · skip
        show CHr Z own_EL s.vm s.heap T20.vm T20.heap
        rw [hh]
        exact CR20.trans (CHv.at X20 hZ hEL CR20.1)
    · skip
      have k21 : ∀ t, Steps p.tables e below (s₁.setTop (mkF m 72 #[.val (.int x0), .val (.int (((x0.toUInt32 >>> ((24 : Int32) &&& 31).toUInt32).toInt32) &&& (3 : Int32))), .val (.int ((x0 &&& (255 : Int32)).toUInt32.toUInt16.toUInt32.toInt32)), .val (.int ((((x0.toUInt32 >>> ((8 : Int32) &&& 31).toUInt32).toInt32) &&& (255 : Int32)).toUInt32.toUInt16.toUInt32.toInt32)), .val (.int ((((x0.toUInt32 >>> ((16 : Int32) &&& 31).toUInt32).toInt32) &&& (255 : Int32)).toUInt32.toUInt16.toUInt32.toInt32))] [(.int (2 : Int32)), (.int (((x0.toUInt32 >>> ((24 : Int32) &&& 31).toUInt32).toInt32) &&& (3 : Int32)))])) t → Steps p.tables e below (s₁.setTop (entryFrame m #[(.int x0)] 5)) t := by
        intro t kt
        refine k9 t ?_
        show Steps p.tables e below (s₁.setTop (mkF m 52 #[.val (.int x0), .val (.int (((x0.toUInt32 >>> ((24 : Int32) &&& 31).toUInt32).toInt32) &&& (3 : Int32))), .val (.int ((x0 &&& (255 : Int32)).toUInt32.toUInt16.toUInt32.toInt32)), .val (.int ((((x0.toUInt32 >>> ((8 : Int32) &&& 31).toUInt32).toInt32) &&& (255 : Int32)).toUInt32.toUInt16.toUInt32.toInt32)), .val (.int ((((x0.toUInt32 >>> ((16 : Int32) &&& 31).toUInt32).toInt32) &&& (255 : Int32)).toUInt32.toUInt16.toUInt32.toInt32))] [(.int (1 : Int32)), (.int (((x0.toUInt32 >>> ((24 : Int32) &&& 31).toUInt32).toInt32) &&& (3 : Int32)))])) _
        refine XS.icmpYes X0.here hx rfl (pc0 := 52) (pc' := 70) rfl (hb hby dr_52) rfl (feq hc10).2 (by decide) (by decide) ?_
        show Steps p.tables e below (s₁.setTop (mkF m 70 #[.val (.int x0), .val (.int (((x0.toUInt32 >>> ((24 : Int32) &&& 31).toUInt32).toInt32) &&& (3 : Int32))), .val (.int ((x0 &&& (255 : Int32)).toUInt32.toUInt16.toUInt32.toInt32)), .val (.int ((((x0.toUInt32 >>> ((8 : Int32) &&& 31).toUInt32).toInt32) &&& (255 : Int32)).toUInt32.toUInt16.toUInt32.toInt32)), .val (.int ((((x0.toUInt32 >>> ((16 : Int32) &&& 31).toUInt32).toInt32) &&& (255 : Int32)).toUInt32.toUInt16.toUInt32.toInt32))] [])) _
        refine XS.iloadN X0.here hx rfl (hb hby dr_70) rfl ?_
        show Steps p.tables e below (s₁.setTop (mkF m 71 #[.val (.int x0), .val (.int (((x0.toUInt32 >>> ((24 : Int32) &&& 31).toUInt32).toInt32) &&& (3 : Int32))), .val (.int ((x0 &&& (255 : Int32)).toUInt32.toUInt16.toUInt32.toInt32)), .val (.int ((((x0.toUInt32 >>> ((8 : Int32) &&& 31).toUInt32).toInt32) &&& (255 : Int32)).toUInt32.toUInt16.toUInt32.toInt32)), .val (.int ((((x0.toUInt32 >>> ((16 : Int32) &&& 31).toUInt32).toInt32) &&& (255 : Int32)).toUInt32.toUInt16.toUInt32.toInt32))] [(.int (((x0.toUInt32 >>> ((24 : Int32) &&& 31).toUInt32).toInt32) &&& (3 : Int32)))])) _
        refine XS.iconst X0.here hx rfl (hb hby dr_71) ?_
        exact kt
      by_cases hc22 : (((x0.toUInt32 >>> ((24 : Int32) &&& 31).toUInt32).toInt32) &&& (3 : Int32)) = (2 : Int32)
      · skip
        obtain ⟨T23, h23, X23, e23, E23, A23, D23, -, st23⟩ := newO X0 hx hZ hown (wd4 hw) (wd5 hw) (wd6 hw) e0 (g := (mkF m 75 #[.val (.int x0), .val (.int (((x0.toUInt32 >>> ((24 : Int32) &&& 31).toUInt32).toInt32) &&& (3 : Int32))), .val (.int ((x0 &&& (255 : Int32)).toUInt32.toUInt16.toUInt32.toInt32)), .val (.int ((((x0.toUInt32 >>> ((8 : Int32) &&& 31).toUInt32).toInt32) &&& (255 : Int32)).toUInt32.toUInt16.toUInt32.toInt32)), .val (.int ((((x0.toUInt32 >>> ((16 : Int32) &&& 31).toUInt32).toInt32) &&& (255 : Int32)).toUInt32.toUInt16.toUInt32.toInt32))] [])) rfl (hb hby dr_75) (by decide) (by decide)
        obtain ⟨b23, g23⟩ : ∃ z, z = h0.size := ⟨_, rfl⟩
        rw [← g23] at A23 D23 st23
        have ge_b23 : n0 ≤ b23 := Nat.le_trans Z0 (Nat.le_of_eq g23.symm)
        have sz_b23 : h0.size ≤ b23 := Nat.le_trans (Nat.le_refl _) (Nat.le_of_eq g23.symm)
        have sf_b23 : Safe Z own_EL s.vm h0 b23 := Safe.new (Nat.le_of_eq g23.symm)
        have sf2_b23 : Safe Z own_EL s.vm h23 b23 := sf_b23.ext E23 CR0.1
        have CS23 := CHr.ext E23 CR0.1
        have CR23 := CR0.trans CS23
        have hk23 : _ ≤ h23.size := Nat.le_trans hk0 E23.1
        have Z23 : n0 ≤ h23.size := Nat.le_trans Z0 E23.1
        have K23 : Keep h0 h23 [] := ((Keep.refl h0 []).ext E23)
        have F23_value : Fld Z h23 b23 "java/lang/String" "value" "[B" .null := D23 (Or.inr (wd20 hw)) (ty := (.array .byte)) (by decide)
        have F23_coder : Fld Z h23 b23 "java/lang/String" "coder" "B" (.int (0 : Int32)) := D23 (Or.inr (wd21 hw)) (ty := .byte) (by decide)
        obtain ⟨T24, h24, kk24, X24, e24, E24, A24, st24⟩ := newP X23 hx hZ (aty := .char) (wd7 hw) e23 (g := (mkF m 80 #[.val (.int x0), .val (.int (((x0.toUInt32 >>> ((24 : Int32) &&& 31).toUInt32).toInt32) &&& (3 : Int32))), .val (.int ((x0 &&& (255 : Int32)).toUInt32.toUInt16.toUInt32.toInt32)), .val (.int ((((x0.toUInt32 >>> ((8 : Int32) &&& 31).toUInt32).toInt32) &&& (255 : Int32)).toUInt32.toUInt16.toUInt32.toInt32)), .val (.int ((((x0.toUInt32 >>> ((16 : Int32) &&& 31).toUInt32).toInt32) &&& (255 : Int32)).toUInt32.toUInt16.toUInt32.toInt32))] [(.int (2 : Int32)), (.ref b23), (.ref b23)])) rfl (hb hby dr_80) rfl (by decide) (cap := 2) (by decide) (by decide) (by decide) (by decide)
        obtain ⟨b24, g24⟩ : ∃ z, z = h23.size := ⟨_, rfl⟩
        rw [← g24] at A24 st24
        have ne_b23_b24 : b23 ≠ b24 := Nat.ne_of_lt (Nat.lt_of_lt_of_le A23.lt (Nat.le_of_eq g24.symm))
        have ge_b24 : n0 ≤ b24 := Nat.le_trans Z23 (Nat.le_of_eq g24.symm)
        have sz_b24 : h0.size ≤ b24 := Nat.le_trans K23.1 (Nat.le_of_eq g24.symm)
        have CS24 := CHr.ext E24 CR23.1
        have CR24 := CR23.trans CS24
        have hk24 : _ ≤ h24.size := Nat.le_trans hk23 E24.1
        have Z24 : n0 ≤ h24.size := Nat.le_trans Z23 E24.1
        have K24 : Keep h0 h24 [] := (K23.ext E24)
        have V24 : Arv Z h24 b24 kk24 .char (2 : Int32) [(.int (0 : Int32)), (.int (0 : Int32))] (.int (0 : Int32)) := (Arv.new A24 (by decide)).pad (pad_rep [] (.int (0 : Int32)) 2)
        obtain ⟨cl25, Ar25, q25, S25, M25, HH25, GG25⟩ := id V24
        have hin25 : ¬ ((0 : Int32) < 0 ∨ cl25.slots.size ≤ ((0 : Int32)).toNatClampNeg) := inb_of S25 ⟨by decide, by decide⟩
        obtain ⟨T26, h26, X26, e26, W26, st26⟩ := stC X24 hx hZ e24 Ar25 (j := (0 : Int32)) hin25 (g := (mkF m 85 #[.val (.int x0), .val (.int (((x0.toUInt32 >>> ((24 : Int32) &&& 31).toUInt32).toInt32) &&& (3 : Int32))), .val (.int ((x0 &&& (255 : Int32)).toUInt32.toUInt16.toUInt32.toInt32)), .val (.int ((((x0.toUInt32 >>> ((8 : Int32) &&& 31).toUInt32).toInt32) &&& (255 : Int32)).toUInt32.toUInt16.toUInt32.toInt32)), .val (.int ((((x0.toUInt32 >>> ((16 : Int32) &&& 31).toUInt32).toInt32) &&& (255 : Int32)).toUInt32.toUInt16.toUInt32.toInt32))] [(.int ((x0 &&& (255 : Int32)).toUInt32.toUInt16.toUInt32.toInt32)), (.int (0 : Int32)), (.ref b24), (.ref b24), (.ref b23), (.ref b23)])) rfl rfl (hb hby dr_85)
        have CS26 := CHr.wr W26 (own_safeArv hZ.alike V24 (by decide)) CR24.1
        have CR26 := CR24.trans CS26
        have hk26 : _ ≤ h26.size := Nat.le_trans hk24 (Nat.le_of_eq W26.size.symm)
        have N26 := Fr.snoc X26 N0 ge_b24
        have Z26 : n0 ≤ h26.size := by rw [W26.size]; exact Z24
        have K26 : Keep h0 h26 [] := (K24.wr W26 (Or.inr sz_b24))
        have V26 := Arv.set Ar25 q25 S25 M25 HH25 GG25 (fits_nar_char _) W26 0 rfl (Nat.le_of_ble_eq_true rfl)
        obtain ⟨cl27, Ar27, q27, S27, M27, HH27, GG27⟩ := id V26
        have hin27 : ¬ ((1 : Int32) < 0 ∨ cl27.slots.size ≤ ((1 : Int32)).toNatClampNeg) := inb_of S27 ⟨by decide, by decide⟩
        obtain ⟨T28, h28, X28, e28, W28, st28⟩ := stC X26 hx hZ e26 Ar27 (j := (1 : Int32)) hin27 (g := (mkF m 89 #[.val (.int x0), .val (.int (((x0.toUInt32 >>> ((24 : Int32) &&& 31).toUInt32).toInt32) &&& (3 : Int32))), .val (.int ((x0 &&& (255 : Int32)).toUInt32.toUInt16.toUInt32.toInt32)), .val (.int ((((x0.toUInt32 >>> ((8 : Int32) &&& 31).toUInt32).toInt32) &&& (255 : Int32)).toUInt32.toUInt16.toUInt32.toInt32)), .val (.int ((((x0.toUInt32 >>> ((16 : Int32) &&& 31).toUInt32).toInt32) &&& (255 : Int32)).toUInt32.toUInt16.toUInt32.toInt32))] [(.int ((((x0.toUInt32 >>> ((8 : Int32) &&& 31).toUInt32).toInt32) &&& (255 : Int32)).toUInt32.toUInt16.toUInt32.toInt32)), (.int (1 : Int32)), (.ref b24), (.ref b24), (.ref b23), (.ref b23)])) rfl rfl (hb hby dr_89)
        have CS28 := CHr.wr W28 (own_safeArv hZ.alike V26 (by decide)) CR26.1
        have CR28 := CR26.trans CS28
        have hk28 : _ ≤ h28.size := Nat.le_trans hk26 (Nat.le_of_eq W28.size.symm)
        have N28 := Fr.snoc X28 N26 ge_b24
        have Z28 : n0 ≤ h28.size := by rw [W28.size]; exact Z26
        have K28 : Keep h0 h28 [] := (K26.wr W28 (Or.inr sz_b24))
        have V28 := Arv.set Ar27 q27 S27 M27 HH27 GG27 (fits_nar_char _) W28 1 rfl (Nat.le_of_ble_eq_true rfl)
        have hp29 : ∀ c ∈ ([(nar .char ((x0 &&& (255 : Int32)).toUInt32.toUInt16.toUInt32.toInt32)), (nar .char ((((x0.toUInt32 >>> ((8 : Int32) &&& 31).toUInt32).toInt32) &&& (255 : Int32)).toUInt32.toUInt16.toUInt32.toInt32))] : List Int32), ¬ c < 0 ∧ ¬ (255 : Int32) < c := by
          intro c hc
          simp only [List.mem_cons, List.not_mem_nil, or_false] at hc
          rcases hc with rfl | rfl
          · exact (own_and255 x0)
          · exact (own_and255 ((x0.toUInt32 >>> ((8 : Int32) &&& 31).toUInt32).toInt32))
        have f30 := (((A23.ext E24).wr W26).wr W28)
        have f31 := (((F23_value.ext E24).other W26 (Or.inl ne_b23_b24)).other W28 (Or.inl ne_b23_b24))
        have f32 := (((F23_coder.ext E24).other W26 (Or.inl ne_b23_b24)).other W28 (Or.inl ne_b23_b24))
        have f33 := ((((X00.ext E23).ext E24).wr W26 ge_b24).wr W28 ge_b24)
        obtain ⟨_, _, ⟨T34, L34, kc34, ks34⟩, -, X34, ⟨Lc34, hQ34, l34, y34, z34⟩, st34⟩ := X28.specialBack hx (y := mn5) rfl hown (mvT hZ (wd8 hw)) (mvT hZ (wd9 hw)) (mvT hZ (wd10 hw)) (by decide) (StrChars.Road.backV (W := 1) hZ (own_hws hw) (kI := 4) (wd5 hw) (cs := ([(nar .char ((x0 &&& (255 : Int32)).toUInt32.toUInt16.toUInt32.toInt32)), (nar .char ((((x0.toUInt32 >>> ((8 : Int32) &&& 31).toUInt32).toInt32) &&& (255 : Int32)).toUInt32.toUInt16.toUInt32.toInt32))] : List Int32)) (bs := ([(nar .char ((x0 &&& (255 : Int32)).toUInt32.toUInt16.toUInt32.toInt32)), (nar .char ((((x0.toUInt32 >>> ((8 : Int32) &&& 31).toUInt32).toInt32) &&& (255 : Int32)).toUInt32.toUInt16.toUInt32.toInt32))] : List Int32).map (fun c => c.toInt8.toInt32)) (n := 2) ge_b23 Z28 f30 f31 f32 V28 (O2.ext f33.2) P5 rfl rfl (by decide) (by decide) hp29 rfl (by decide) (by decide)) (g := (mkF m 90 #[.val (.int x0), .val (.int (((x0.toUInt32 >>> ((24 : Int32) &&& 31).toUInt32).toInt32) &&& (3 : Int32))), .val (.int ((x0 &&& (255 : Int32)).toUInt32.toUInt16.toUInt32.toInt32)), .val (.int ((((x0.toUInt32 >>> ((8 : Int32) &&& 31).toUInt32).toInt32) &&& (255 : Int32)).toUInt32.toUInt16.toUInt32.toInt32)), .val (.int ((((x0.toUInt32 >>> ((16 : Int32) &&& 31).toUInt32).toInt32) &&& (255 : Int32)).toUInt32.toUInt16.toUInt32.toInt32))] [(.ref b24), (.ref b23), (.ref b23)])) rfl (by rw [hml]; rfl) (Steps.refl _) (a := b23) (argsL := [(.ref b24)]) (rest := [(.ref b23)]) (lenOf pd___C_V rfl) rfl (by show 2 * 0 + _ ≤ _; exact Nat.le_of_eq rfl) (hb hby dr_90) (fun _ _ => ⟨rfl, e28, (by decide : 2 + 1 ≤ _), (by decide : 6 + 2 ≤ _)⟩)
        dsimp only [Pt.U, Pt.locs, Pt.cells, Pt.slots] at X34 l34 y34 z34 st34 hQ34
        subst l34 y34 z34
        obtain ⟨rfl, Nq34, Kq34, gE34, gC34, t34, kb34, gt34, gs34, gn34, gV34, gK34⟩ := hQ34
        have N34 := Fr.app N28 Nq34
        have CS34 := CHr.keep Kq34 (allS (CHr.safe ((CS24.trans CS26).trans CS28) A23.lt sf2_b23) all0) CR28.1
        have CR34 := CR28.trans CS34
        have hk34 : _ ≤ T34.heap.size := Nat.le_trans hk28 Kq34.1
        have Z34 : n0 ≤ T34.heap.size := Nat.le_trans Z28 Kq34.1
        have K34 : Keep h0 T34.heap [] := Keep.trans K28 Kq34 (allS (Or.inr sz_b23) all0)
        have gL34 : Arv Z T34.heap t34 kb34 .byte (2 : Int32) [(.int (((nar .char ((x0 &&& (255 : Int32)).toUInt32.toUInt16.toUInt32.toInt32))).toInt8.toInt32)), (.int (((nar .char ((((x0.toUInt32 >>> ((8 : Int32) &&& 31).toUInt32).toInt32) &&& (255 : Int32)).toUInt32.toUInt16.toUInt32.toInt32))).toInt8.toInt32))] (.int (0 : Int32)) := gK34
        have ne_b23_t34 : b23 ≠ t34 := Nat.ne_of_lt (Nat.lt_of_lt_of_le f30.lt gs34)
        have ne_b24_t34 : b24 ≠ t34 := Nat.ne_of_lt (Nat.lt_of_lt_of_le V28.lt gs34)
        have sz_t34 : h0.size ≤ t34 := Nat.le_trans K28.1 gs34
        obtain ⟨lfs, lhr, lhrun, lhended, lhE⟩ := X34.leaveW hS0 hk34 (v := some (.ref b23)) (fun h => by rw [Bd.returns] at h; cases h)
        refine ⟨_, _, k21 _ ?_, lhrun, lhended, _, _, rfl, ?_, ?_, lhE.1, lhE.2.1, lhE.2.2.1, lhE.2.2.2.mono (by decide) (by decide)⟩
        · skip
          show Steps p.tables e below (s₁.setTop (mkF m 72 #[.val (.int x0), .val (.int (((x0.toUInt32 >>> ((24 : Int32) &&& 31).toUInt32).toInt32) &&& (3 : Int32))), .val (.int ((x0 &&& (255 : Int32)).toUInt32.toUInt16.toUInt32.toInt32)), .val (.int ((((x0.toUInt32 >>> ((8 : Int32) &&& 31).toUInt32).toInt32) &&& (255 : Int32)).toUInt32.toUInt16.toUInt32.toInt32)), .val (.int ((((x0.toUInt32 >>> ((16 : Int32) &&& 31).toUInt32).toInt32) &&& (255 : Int32)).toUInt32.toUInt16.toUInt32.toInt32))] [(.int (2 : Int32)), (.int (((x0.toUInt32 >>> ((24 : Int32) &&& 31).toUInt32).toInt32) &&& (3 : Int32)))])) _
          refine XS.icmpNo X0.here hx rfl (hb hby dr_72) rfl (teq hc22).2 ?_
          show Steps p.tables e below (s₁.setTop (mkF m 75 #[.val (.int x0), .val (.int (((x0.toUInt32 >>> ((24 : Int32) &&& 31).toUInt32).toInt32) &&& (3 : Int32))), .val (.int ((x0 &&& (255 : Int32)).toUInt32.toUInt16.toUInt32.toInt32)), .val (.int ((((x0.toUInt32 >>> ((8 : Int32) &&& 31).toUInt32).toInt32) &&& (255 : Int32)).toUInt32.toUInt16.toUInt32.toInt32)), .val (.int ((((x0.toUInt32 >>> ((16 : Int32) &&& 31).toUInt32).toInt32) &&& (255 : Int32)).toUInt32.toUInt16.toUInt32.toInt32))] [])) _
          refine st23 _ ?_
          show Steps p.tables e below (T23.setTop (mkF m 78 #[.val (.int x0), .val (.int (((x0.toUInt32 >>> ((24 : Int32) &&& 31).toUInt32).toInt32) &&& (3 : Int32))), .val (.int ((x0 &&& (255 : Int32)).toUInt32.toUInt16.toUInt32.toInt32)), .val (.int ((((x0.toUInt32 >>> ((8 : Int32) &&& 31).toUInt32).toInt32) &&& (255 : Int32)).toUInt32.toUInt16.toUInt32.toInt32)), .val (.int ((((x0.toUInt32 >>> ((16 : Int32) &&& 31).toUInt32).toInt32) &&& (255 : Int32)).toUInt32.toUInt16.toUInt32.toInt32))] [(.ref b23)])) _
          refine XS.dup X23.here hx rfl (hb hby dr_78) rfl rfl ?_
          show Steps p.tables e below (T23.setTop (mkF m 79 #[.val (.int x0), .val (.int (((x0.toUInt32 >>> ((24 : Int32) &&& 31).toUInt32).toInt32) &&& (3 : Int32))), .val (.int ((x0 &&& (255 : Int32)).toUInt32.toUInt16.toUInt32.toInt32)), .val (.int ((((x0.toUInt32 >>> ((8 : Int32) &&& 31).toUInt32).toInt32) &&& (255 : Int32)).toUInt32.toUInt16.toUInt32.toInt32)), .val (.int ((((x0.toUInt32 >>> ((16 : Int32) &&& 31).toUInt32).toInt32) &&& (255 : Int32)).toUInt32.toUInt16.toUInt32.toInt32))] [(.ref b23), (.ref b23)])) _
          refine XS.iconst X23.here hx rfl (hb hby dr_79) ?_
          show Steps p.tables e below (T23.setTop (mkF m 80 #[.val (.int x0), .val (.int (((x0.toUInt32 >>> ((24 : Int32) &&& 31).toUInt32).toInt32) &&& (3 : Int32))), .val (.int ((x0 &&& (255 : Int32)).toUInt32.toUInt16.toUInt32.toInt32)), .val (.int ((((x0.toUInt32 >>> ((8 : Int32) &&& 31).toUInt32).toInt32) &&& (255 : Int32)).toUInt32.toUInt16.toUInt32.toInt32)), .val (.int ((((x0.toUInt32 >>> ((16 : Int32) &&& 31).toUInt32).toInt32) &&& (255 : Int32)).toUInt32.toUInt16.toUInt32.toInt32))] [(.int (2 : Int32)), (.ref b23), (.ref b23)])) _
          refine st24 _ ?_
          show Steps p.tables e below (T24.setTop (mkF m 82 #[.val (.int x0), .val (.int (((x0.toUInt32 >>> ((24 : Int32) &&& 31).toUInt32).toInt32) &&& (3 : Int32))), .val (.int ((x0 &&& (255 : Int32)).toUInt32.toUInt16.toUInt32.toInt32)), .val (.int ((((x0.toUInt32 >>> ((8 : Int32) &&& 31).toUInt32).toInt32) &&& (255 : Int32)).toUInt32.toUInt16.toUInt32.toInt32)), .val (.int ((((x0.toUInt32 >>> ((16 : Int32) &&& 31).toUInt32).toInt32) &&& (255 : Int32)).toUInt32.toUInt16.toUInt32.toInt32))] [(.ref b24), (.ref b23), (.ref b23)])) _
          refine XS.dup X24.here hx rfl (hb hby dr_82) rfl rfl ?_
          show Steps p.tables e below (T24.setTop (mkF m 83 #[.val (.int x0), .val (.int (((x0.toUInt32 >>> ((24 : Int32) &&& 31).toUInt32).toInt32) &&& (3 : Int32))), .val (.int ((x0 &&& (255 : Int32)).toUInt32.toUInt16.toUInt32.toInt32)), .val (.int ((((x0.toUInt32 >>> ((8 : Int32) &&& 31).toUInt32).toInt32) &&& (255 : Int32)).toUInt32.toUInt16.toUInt32.toInt32)), .val (.int ((((x0.toUInt32 >>> ((16 : Int32) &&& 31).toUInt32).toInt32) &&& (255 : Int32)).toUInt32.toUInt16.toUInt32.toInt32))] [(.ref b24), (.ref b24), (.ref b23), (.ref b23)])) _
          refine XS.iconst X24.here hx rfl (hb hby dr_83) ?_
          show Steps p.tables e below (T24.setTop (mkF m 84 #[.val (.int x0), .val (.int (((x0.toUInt32 >>> ((24 : Int32) &&& 31).toUInt32).toInt32) &&& (3 : Int32))), .val (.int ((x0 &&& (255 : Int32)).toUInt32.toUInt16.toUInt32.toInt32)), .val (.int ((((x0.toUInt32 >>> ((8 : Int32) &&& 31).toUInt32).toInt32) &&& (255 : Int32)).toUInt32.toUInt16.toUInt32.toInt32)), .val (.int ((((x0.toUInt32 >>> ((16 : Int32) &&& 31).toUInt32).toInt32) &&& (255 : Int32)).toUInt32.toUInt16.toUInt32.toInt32))] [(.int (0 : Int32)), (.ref b24), (.ref b24), (.ref b23), (.ref b23)])) _
          refine XS.iloadN X24.here hx rfl (hb hby dr_84) rfl ?_
          show Steps p.tables e below (T24.setTop (mkF m 85 #[.val (.int x0), .val (.int (((x0.toUInt32 >>> ((24 : Int32) &&& 31).toUInt32).toInt32) &&& (3 : Int32))), .val (.int ((x0 &&& (255 : Int32)).toUInt32.toUInt16.toUInt32.toInt32)), .val (.int ((((x0.toUInt32 >>> ((8 : Int32) &&& 31).toUInt32).toInt32) &&& (255 : Int32)).toUInt32.toUInt16.toUInt32.toInt32)), .val (.int ((((x0.toUInt32 >>> ((16 : Int32) &&& 31).toUInt32).toInt32) &&& (255 : Int32)).toUInt32.toUInt16.toUInt32.toInt32))] [(.int ((x0 &&& (255 : Int32)).toUInt32.toUInt16.toUInt32.toInt32)), (.int (0 : Int32)), (.ref b24), (.ref b24), (.ref b23), (.ref b23)])) _
          refine st26 _ ?_
          show Steps p.tables e below (T26.setTop (mkF m 86 #[.val (.int x0), .val (.int (((x0.toUInt32 >>> ((24 : Int32) &&& 31).toUInt32).toInt32) &&& (3 : Int32))), .val (.int ((x0 &&& (255 : Int32)).toUInt32.toUInt16.toUInt32.toInt32)), .val (.int ((((x0.toUInt32 >>> ((8 : Int32) &&& 31).toUInt32).toInt32) &&& (255 : Int32)).toUInt32.toUInt16.toUInt32.toInt32)), .val (.int ((((x0.toUInt32 >>> ((16 : Int32) &&& 31).toUInt32).toInt32) &&& (255 : Int32)).toUInt32.toUInt16.toUInt32.toInt32))] [(.ref b24), (.ref b23), (.ref b23)])) _
          refine XS.dup X26.here hx rfl (hb hby dr_86) rfl rfl ?_
          show Steps p.tables e below (T26.setTop (mkF m 87 #[.val (.int x0), .val (.int (((x0.toUInt32 >>> ((24 : Int32) &&& 31).toUInt32).toInt32) &&& (3 : Int32))), .val (.int ((x0 &&& (255 : Int32)).toUInt32.toUInt16.toUInt32.toInt32)), .val (.int ((((x0.toUInt32 >>> ((8 : Int32) &&& 31).toUInt32).toInt32) &&& (255 : Int32)).toUInt32.toUInt16.toUInt32.toInt32)), .val (.int ((((x0.toUInt32 >>> ((16 : Int32) &&& 31).toUInt32).toInt32) &&& (255 : Int32)).toUInt32.toUInt16.toUInt32.toInt32))] [(.ref b24), (.ref b24), (.ref b23), (.ref b23)])) _
          refine XS.iconst X26.here hx rfl (hb hby dr_87) ?_
          show Steps p.tables e below (T26.setTop (mkF m 88 #[.val (.int x0), .val (.int (((x0.toUInt32 >>> ((24 : Int32) &&& 31).toUInt32).toInt32) &&& (3 : Int32))), .val (.int ((x0 &&& (255 : Int32)).toUInt32.toUInt16.toUInt32.toInt32)), .val (.int ((((x0.toUInt32 >>> ((8 : Int32) &&& 31).toUInt32).toInt32) &&& (255 : Int32)).toUInt32.toUInt16.toUInt32.toInt32)), .val (.int ((((x0.toUInt32 >>> ((16 : Int32) &&& 31).toUInt32).toInt32) &&& (255 : Int32)).toUInt32.toUInt16.toUInt32.toInt32))] [(.int (1 : Int32)), (.ref b24), (.ref b24), (.ref b23), (.ref b23)])) _
          refine XS.iloadN X26.here hx rfl (hb hby dr_88) rfl ?_
          show Steps p.tables e below (T26.setTop (mkF m 89 #[.val (.int x0), .val (.int (((x0.toUInt32 >>> ((24 : Int32) &&& 31).toUInt32).toInt32) &&& (3 : Int32))), .val (.int ((x0 &&& (255 : Int32)).toUInt32.toUInt16.toUInt32.toInt32)), .val (.int ((((x0.toUInt32 >>> ((8 : Int32) &&& 31).toUInt32).toInt32) &&& (255 : Int32)).toUInt32.toUInt16.toUInt32.toInt32)), .val (.int ((((x0.toUInt32 >>> ((16 : Int32) &&& 31).toUInt32).toInt32) &&& (255 : Int32)).toUInt32.toUInt16.toUInt32.toInt32))] [(.int ((((x0.toUInt32 >>> ((8 : Int32) &&& 31).toUInt32).toInt32) &&& (255 : Int32)).toUInt32.toUInt16.toUInt32.toInt32)), (.int (1 : Int32)), (.ref b24), (.ref b24), (.ref b23), (.ref b23)])) _
          refine st28 _ ?_
          show Steps p.tables e below (T28.setTop (mkF m 90 #[.val (.int x0), .val (.int (((x0.toUInt32 >>> ((24 : Int32) &&& 31).toUInt32).toInt32) &&& (3 : Int32))), .val (.int ((x0 &&& (255 : Int32)).toUInt32.toUInt16.toUInt32.toInt32)), .val (.int ((((x0.toUInt32 >>> ((8 : Int32) &&& 31).toUInt32).toInt32) &&& (255 : Int32)).toUInt32.toUInt16.toUInt32.toInt32)), .val (.int ((((x0.toUInt32 >>> ((16 : Int32) &&& 31).toUInt32).toInt32) &&& (255 : Int32)).toUInt32.toUInt16.toUInt32.toInt32))] [(.ref b24), (.ref b23), (.ref b23)])) _
          refine st34.trans ?_
          show Steps p.tables e below (T34.setTop (mkF m 93 #[.val (.int x0), .val (.int (((x0.toUInt32 >>> ((24 : Int32) &&& 31).toUInt32).toInt32) &&& (3 : Int32))), .val (.int ((x0 &&& (255 : Int32)).toUInt32.toUInt16.toUInt32.toInt32)), .val (.int ((((x0.toUInt32 >>> ((8 : Int32) &&& 31).toUInt32).toInt32) &&& (255 : Int32)).toUInt32.toUInt16.toUInt32.toInt32)), .val (.int ((((x0.toUInt32 >>> ((16 : Int32) &&& 31).toUInt32).toInt32) &&& (255 : Int32)).toUInt32.toUInt16.toUInt32.toInt32))] [(.ref b23)])) _
          exact retOut X34 hx Bd.returns rfl (Or.inr (Or.inr (Or.inr (Or.inr ⟨rfl, rfl, rfl⟩)))) (hb hby dr_93) lhr
        · skip
          show QStr Z x0 G1 h0 n0 _ T34.heap _
          skip
          exact ⟨b23, rfl, N34, K34, sz_b23, gE34⟩
        · skip
          show CHr Z own_EL s.vm s.heap T34.vm T34.heap
          rw [hh]
          exact CR34.trans (CHv.at X34 hZ hEL CR34.1)
      · skip
        obtain ⟨T35, h35, X35, e35, E35, A35, D35, -, st35⟩ := newO X0 hx hZ hown (wd4 hw) (wd5 hw) (wd6 hw) e0 (g := (mkF m 94 #[.val (.int x0), .val (.int (((x0.toUInt32 >>> ((24 : Int32) &&& 31).toUInt32).toInt32) &&& (3 : Int32))), .val (.int ((x0 &&& (255 : Int32)).toUInt32.toUInt16.toUInt32.toInt32)), .val (.int ((((x0.toUInt32 >>> ((8 : Int32) &&& 31).toUInt32).toInt32) &&& (255 : Int32)).toUInt32.toUInt16.toUInt32.toInt32)), .val (.int ((((x0.toUInt32 >>> ((16 : Int32) &&& 31).toUInt32).toInt32) &&& (255 : Int32)).toUInt32.toUInt16.toUInt32.toInt32))] [])) rfl (hb hby dr_94) (by decide) (by decide)
        obtain ⟨b35, g35⟩ : ∃ z, z = h0.size := ⟨_, rfl⟩
        rw [← g35] at A35 D35 st35
        have ge_b35 : n0 ≤ b35 := Nat.le_trans Z0 (Nat.le_of_eq g35.symm)
        have sz_b35 : h0.size ≤ b35 := Nat.le_trans (Nat.le_refl _) (Nat.le_of_eq g35.symm)
        have sf_b35 : Safe Z own_EL s.vm h0 b35 := Safe.new (Nat.le_of_eq g35.symm)
        have sf2_b35 : Safe Z own_EL s.vm h35 b35 := sf_b35.ext E35 CR0.1
        have CS35 := CHr.ext E35 CR0.1
        have CR35 := CR0.trans CS35
        have hk35 : _ ≤ h35.size := Nat.le_trans hk0 E35.1
        have Z35 : n0 ≤ h35.size := Nat.le_trans Z0 E35.1
        have K35 : Keep h0 h35 [] := ((Keep.refl h0 []).ext E35)
        have F35_value : Fld Z h35 b35 "java/lang/String" "value" "[B" .null := D35 (Or.inr (wd20 hw)) (ty := (.array .byte)) (by decide)
        have F35_coder : Fld Z h35 b35 "java/lang/String" "coder" "B" (.int (0 : Int32)) := D35 (Or.inr (wd21 hw)) (ty := .byte) (by decide)
        obtain ⟨T36, h36, kk36, X36, e36, E36, A36, st36⟩ := newP X35 hx hZ (aty := .char) (wd7 hw) e35 (g := (mkF m 99 #[.val (.int x0), .val (.int (((x0.toUInt32 >>> ((24 : Int32) &&& 31).toUInt32).toInt32) &&& (3 : Int32))), .val (.int ((x0 &&& (255 : Int32)).toUInt32.toUInt16.toUInt32.toInt32)), .val (.int ((((x0.toUInt32 >>> ((8 : Int32) &&& 31).toUInt32).toInt32) &&& (255 : Int32)).toUInt32.toUInt16.toUInt32.toInt32)), .val (.int ((((x0.toUInt32 >>> ((16 : Int32) &&& 31).toUInt32).toInt32) &&& (255 : Int32)).toUInt32.toUInt16.toUInt32.toInt32))] [(.int (3 : Int32)), (.ref b35), (.ref b35)])) rfl (hb hby dr_99) rfl (by decide) (cap := 3) (by decide) (by decide) (by decide) (by decide)
        obtain ⟨b36, g36⟩ : ∃ z, z = h35.size := ⟨_, rfl⟩
        rw [← g36] at A36 st36
        have ne_b35_b36 : b35 ≠ b36 := Nat.ne_of_lt (Nat.lt_of_lt_of_le A35.lt (Nat.le_of_eq g36.symm))
        have ge_b36 : n0 ≤ b36 := Nat.le_trans Z35 (Nat.le_of_eq g36.symm)
        have sz_b36 : h0.size ≤ b36 := Nat.le_trans K35.1 (Nat.le_of_eq g36.symm)
        have CS36 := CHr.ext E36 CR35.1
        have CR36 := CR35.trans CS36
        have hk36 : _ ≤ h36.size := Nat.le_trans hk35 E36.1
        have Z36 : n0 ≤ h36.size := Nat.le_trans Z35 E36.1
        have K36 : Keep h0 h36 [] := (K35.ext E36)
        have V36 : Arv Z h36 b36 kk36 .char (3 : Int32) [(.int (0 : Int32)), (.int (0 : Int32)), (.int (0 : Int32))] (.int (0 : Int32)) := (Arv.new A36 (by decide)).pad (pad_rep [] (.int (0 : Int32)) 3)
        obtain ⟨cl37, Ar37, q37, S37, M37, HH37, GG37⟩ := id V36
        have hin37 : ¬ ((0 : Int32) < 0 ∨ cl37.slots.size ≤ ((0 : Int32)).toNatClampNeg) := inb_of S37 ⟨by decide, by decide⟩
        obtain ⟨T38, h38, X38, e38, W38, st38⟩ := stC X36 hx hZ e36 Ar37 (j := (0 : Int32)) hin37 (g := (mkF m 104 #[.val (.int x0), .val (.int (((x0.toUInt32 >>> ((24 : Int32) &&& 31).toUInt32).toInt32) &&& (3 : Int32))), .val (.int ((x0 &&& (255 : Int32)).toUInt32.toUInt16.toUInt32.toInt32)), .val (.int ((((x0.toUInt32 >>> ((8 : Int32) &&& 31).toUInt32).toInt32) &&& (255 : Int32)).toUInt32.toUInt16.toUInt32.toInt32)), .val (.int ((((x0.toUInt32 >>> ((16 : Int32) &&& 31).toUInt32).toInt32) &&& (255 : Int32)).toUInt32.toUInt16.toUInt32.toInt32))] [(.int ((x0 &&& (255 : Int32)).toUInt32.toUInt16.toUInt32.toInt32)), (.int (0 : Int32)), (.ref b36), (.ref b36), (.ref b35), (.ref b35)])) rfl rfl (hb hby dr_104)
        have CS38 := CHr.wr W38 (own_safeArv hZ.alike V36 (by decide)) CR36.1
        have CR38 := CR36.trans CS38
        have hk38 : _ ≤ h38.size := Nat.le_trans hk36 (Nat.le_of_eq W38.size.symm)
        have N38 := Fr.snoc X38 N0 ge_b36
        have Z38 : n0 ≤ h38.size := by rw [W38.size]; exact Z36
        have K38 : Keep h0 h38 [] := (K36.wr W38 (Or.inr sz_b36))
        have V38 := Arv.set Ar37 q37 S37 M37 HH37 GG37 (fits_nar_char _) W38 0 rfl (Nat.le_of_ble_eq_true rfl)
        obtain ⟨cl39, Ar39, q39, S39, M39, HH39, GG39⟩ := id V38
        have hin39 : ¬ ((1 : Int32) < 0 ∨ cl39.slots.size ≤ ((1 : Int32)).toNatClampNeg) := inb_of S39 ⟨by decide, by decide⟩
        obtain ⟨T40, h40, X40, e40, W40, st40⟩ := stC X38 hx hZ e38 Ar39 (j := (1 : Int32)) hin39 (g := (mkF m 108 #[.val (.int x0), .val (.int (((x0.toUInt32 >>> ((24 : Int32) &&& 31).toUInt32).toInt32) &&& (3 : Int32))), .val (.int ((x0 &&& (255 : Int32)).toUInt32.toUInt16.toUInt32.toInt32)), .val (.int ((((x0.toUInt32 >>> ((8 : Int32) &&& 31).toUInt32).toInt32) &&& (255 : Int32)).toUInt32.toUInt16.toUInt32.toInt32)), .val (.int ((((x0.toUInt32 >>> ((16 : Int32) &&& 31).toUInt32).toInt32) &&& (255 : Int32)).toUInt32.toUInt16.toUInt32.toInt32))] [(.int ((((x0.toUInt32 >>> ((8 : Int32) &&& 31).toUInt32).toInt32) &&& (255 : Int32)).toUInt32.toUInt16.toUInt32.toInt32)), (.int (1 : Int32)), (.ref b36), (.ref b36), (.ref b35), (.ref b35)])) rfl rfl (hb hby dr_108)
        have CS40 := CHr.wr W40 (own_safeArv hZ.alike V38 (by decide)) CR38.1
        have CR40 := CR38.trans CS40
        have hk40 : _ ≤ h40.size := Nat.le_trans hk38 (Nat.le_of_eq W40.size.symm)
        have N40 := Fr.snoc X40 N38 ge_b36
        have Z40 : n0 ≤ h40.size := by rw [W40.size]; exact Z38
        have K40 : Keep h0 h40 [] := (K38.wr W40 (Or.inr sz_b36))
        have V40 := Arv.set Ar39 q39 S39 M39 HH39 GG39 (fits_nar_char _) W40 1 rfl (Nat.le_of_ble_eq_true rfl)
        obtain ⟨cl41, Ar41, q41, S41, M41, HH41, GG41⟩ := id V40
        have hin41 : ¬ ((2 : Int32) < 0 ∨ cl41.slots.size ≤ ((2 : Int32)).toNatClampNeg) := inb_of S41 ⟨by decide, by decide⟩
        obtain ⟨T42, h42, X42, e42, W42, st42⟩ := stC X40 hx hZ e40 Ar41 (j := (2 : Int32)) hin41 (g := (mkF m 113 #[.val (.int x0), .val (.int (((x0.toUInt32 >>> ((24 : Int32) &&& 31).toUInt32).toInt32) &&& (3 : Int32))), .val (.int ((x0 &&& (255 : Int32)).toUInt32.toUInt16.toUInt32.toInt32)), .val (.int ((((x0.toUInt32 >>> ((8 : Int32) &&& 31).toUInt32).toInt32) &&& (255 : Int32)).toUInt32.toUInt16.toUInt32.toInt32)), .val (.int ((((x0.toUInt32 >>> ((16 : Int32) &&& 31).toUInt32).toInt32) &&& (255 : Int32)).toUInt32.toUInt16.toUInt32.toInt32))] [(.int ((((x0.toUInt32 >>> ((16 : Int32) &&& 31).toUInt32).toInt32) &&& (255 : Int32)).toUInt32.toUInt16.toUInt32.toInt32)), (.int (2 : Int32)), (.ref b36), (.ref b36), (.ref b35), (.ref b35)])) rfl rfl (hb hby dr_113)
        have CS42 := CHr.wr W42 (own_safeArv hZ.alike V40 (by decide)) CR40.1
        have CR42 := CR40.trans CS42
        have hk42 : _ ≤ h42.size := Nat.le_trans hk40 (Nat.le_of_eq W42.size.symm)
        have N42 := Fr.snoc X42 N40 ge_b36
        have Z42 : n0 ≤ h42.size := by rw [W42.size]; exact Z40
        have K42 : Keep h0 h42 [] := (K40.wr W42 (Or.inr sz_b36))
        have V42 := Arv.set Ar41 q41 S41 M41 HH41 GG41 (fits_nar_char _) W42 2 rfl (Nat.le_of_ble_eq_true rfl)
        have hp43 : ∀ c ∈ ([(nar .char ((x0 &&& (255 : Int32)).toUInt32.toUInt16.toUInt32.toInt32)), (nar .char ((((x0.toUInt32 >>> ((8 : Int32) &&& 31).toUInt32).toInt32) &&& (255 : Int32)).toUInt32.toUInt16.toUInt32.toInt32)), (nar .char ((((x0.toUInt32 >>> ((16 : Int32) &&& 31).toUInt32).toInt32) &&& (255 : Int32)).toUInt32.toUInt16.toUInt32.toInt32))] : List Int32), ¬ c < 0 ∧ ¬ (255 : Int32) < c := by
          intro c hc
          simp only [List.mem_cons, List.not_mem_nil, or_false] at hc
          rcases hc with rfl | rfl | rfl
          · exact (own_and255 x0)
          · exact (own_and255 ((x0.toUInt32 >>> ((8 : Int32) &&& 31).toUInt32).toInt32))
          · exact (own_and255 ((x0.toUInt32 >>> ((16 : Int32) &&& 31).toUInt32).toInt32))
        have f44 := ((((A35.ext E36).wr W38).wr W40).wr W42)
        have f45 := ((((F35_value.ext E36).other W38 (Or.inl ne_b35_b36)).other W40 (Or.inl ne_b35_b36)).other W42 (Or.inl ne_b35_b36))
        have f46 := ((((F35_coder.ext E36).other W38 (Or.inl ne_b35_b36)).other W40 (Or.inl ne_b35_b36)).other W42 (Or.inl ne_b35_b36))
        have f47 := (((((X00.ext E35).ext E36).wr W38 ge_b36).wr W40 ge_b36).wr W42 ge_b36)
        obtain ⟨_, _, ⟨T48, L48, kc48, ks48⟩, -, X48, ⟨Lc48, hQ48, l48, y48, z48⟩, st48⟩ := X42.specialBack hx (y := mn5) rfl hown (mvT hZ (wd8 hw)) (mvT hZ (wd9 hw)) (mvT hZ (wd10 hw)) (by decide) (StrChars.Road.backV (W := 1) hZ (own_hws hw) (kI := 4) (wd5 hw) (cs := ([(nar .char ((x0 &&& (255 : Int32)).toUInt32.toUInt16.toUInt32.toInt32)), (nar .char ((((x0.toUInt32 >>> ((8 : Int32) &&& 31).toUInt32).toInt32) &&& (255 : Int32)).toUInt32.toUInt16.toUInt32.toInt32)), (nar .char ((((x0.toUInt32 >>> ((16 : Int32) &&& 31).toUInt32).toInt32) &&& (255 : Int32)).toUInt32.toUInt16.toUInt32.toInt32))] : List Int32)) (bs := ([(nar .char ((x0 &&& (255 : Int32)).toUInt32.toUInt16.toUInt32.toInt32)), (nar .char ((((x0.toUInt32 >>> ((8 : Int32) &&& 31).toUInt32).toInt32) &&& (255 : Int32)).toUInt32.toUInt16.toUInt32.toInt32)), (nar .char ((((x0.toUInt32 >>> ((16 : Int32) &&& 31).toUInt32).toInt32) &&& (255 : Int32)).toUInt32.toUInt16.toUInt32.toInt32))] : List Int32).map (fun c => c.toInt8.toInt32)) (n := 3) ge_b35 Z42 f44 f45 f46 V42 (O2.ext f47.2) P5 rfl rfl (by decide) (by decide) hp43 rfl (by decide) (by decide)) (g := (mkF m 114 #[.val (.int x0), .val (.int (((x0.toUInt32 >>> ((24 : Int32) &&& 31).toUInt32).toInt32) &&& (3 : Int32))), .val (.int ((x0 &&& (255 : Int32)).toUInt32.toUInt16.toUInt32.toInt32)), .val (.int ((((x0.toUInt32 >>> ((8 : Int32) &&& 31).toUInt32).toInt32) &&& (255 : Int32)).toUInt32.toUInt16.toUInt32.toInt32)), .val (.int ((((x0.toUInt32 >>> ((16 : Int32) &&& 31).toUInt32).toInt32) &&& (255 : Int32)).toUInt32.toUInt16.toUInt32.toInt32))] [(.ref b36), (.ref b35), (.ref b35)])) rfl (by rw [hml]; rfl) (Steps.refl _) (a := b35) (argsL := [(.ref b36)]) (rest := [(.ref b35)]) (lenOf pd___C_V rfl) rfl (by show 2 * 0 + _ ≤ _; exact Nat.le_of_eq rfl) (hb hby dr_114) (fun _ _ => ⟨rfl, e42, (by decide : 2 + 1 ≤ _), (by decide : 7 + 3 ≤ _)⟩)
        dsimp only [Pt.U, Pt.locs, Pt.cells, Pt.slots] at X48 l48 y48 z48 st48 hQ48
        subst l48 y48 z48
        obtain ⟨rfl, Nq48, Kq48, gE48, gC48, t48, kb48, gt48, gs48, gn48, gV48, gK48⟩ := hQ48
        have N48 := Fr.app N42 Nq48
        have CS48 := CHr.keep Kq48 (allS (CHr.safe (((CS36.trans CS38).trans CS40).trans CS42) A35.lt sf2_b35) all0) CR42.1
        have CR48 := CR42.trans CS48
        have hk48 : _ ≤ T48.heap.size := Nat.le_trans hk42 Kq48.1
        have Z48 : n0 ≤ T48.heap.size := Nat.le_trans Z42 Kq48.1
        have K48 : Keep h0 T48.heap [] := Keep.trans K42 Kq48 (allS (Or.inr sz_b35) all0)
        have gL48 : Arv Z T48.heap t48 kb48 .byte (3 : Int32) [(.int (((nar .char ((x0 &&& (255 : Int32)).toUInt32.toUInt16.toUInt32.toInt32))).toInt8.toInt32)), (.int (((nar .char ((((x0.toUInt32 >>> ((8 : Int32) &&& 31).toUInt32).toInt32) &&& (255 : Int32)).toUInt32.toUInt16.toUInt32.toInt32))).toInt8.toInt32)), (.int (((nar .char ((((x0.toUInt32 >>> ((16 : Int32) &&& 31).toUInt32).toInt32) &&& (255 : Int32)).toUInt32.toUInt16.toUInt32.toInt32))).toInt8.toInt32))] (.int (0 : Int32)) := gK48
        have ne_b35_t48 : b35 ≠ t48 := Nat.ne_of_lt (Nat.lt_of_lt_of_le f44.lt gs48)
        have ne_b36_t48 : b36 ≠ t48 := Nat.ne_of_lt (Nat.lt_of_lt_of_le V42.lt gs48)
        have sz_t48 : h0.size ≤ t48 := Nat.le_trans K42.1 gs48
        obtain ⟨lfs, lhr, lhrun, lhended, lhE⟩ := X48.leaveW hS0 hk48 (v := some (.ref b35)) (fun h => by rw [Bd.returns] at h; cases h)
        refine ⟨_, _, k21 _ ?_, lhrun, lhended, _, _, rfl, ?_, ?_, lhE.1, lhE.2.1, lhE.2.2.1, lhE.2.2.2.mono (by decide) (by decide)⟩
        · skip
          show Steps p.tables e below (s₁.setTop (mkF m 72 #[.val (.int x0), .val (.int (((x0.toUInt32 >>> ((24 : Int32) &&& 31).toUInt32).toInt32) &&& (3 : Int32))), .val (.int ((x0 &&& (255 : Int32)).toUInt32.toUInt16.toUInt32.toInt32)), .val (.int ((((x0.toUInt32 >>> ((8 : Int32) &&& 31).toUInt32).toInt32) &&& (255 : Int32)).toUInt32.toUInt16.toUInt32.toInt32)), .val (.int ((((x0.toUInt32 >>> ((16 : Int32) &&& 31).toUInt32).toInt32) &&& (255 : Int32)).toUInt32.toUInt16.toUInt32.toInt32))] [(.int (2 : Int32)), (.int (((x0.toUInt32 >>> ((24 : Int32) &&& 31).toUInt32).toInt32) &&& (3 : Int32)))])) _
          refine XS.icmpYes X0.here hx rfl (pc0 := 72) (pc' := 94) rfl (hb hby dr_72) rfl (feq hc22).2 (by decide) (by decide) ?_
          show Steps p.tables e below (s₁.setTop (mkF m 94 #[.val (.int x0), .val (.int (((x0.toUInt32 >>> ((24 : Int32) &&& 31).toUInt32).toInt32) &&& (3 : Int32))), .val (.int ((x0 &&& (255 : Int32)).toUInt32.toUInt16.toUInt32.toInt32)), .val (.int ((((x0.toUInt32 >>> ((8 : Int32) &&& 31).toUInt32).toInt32) &&& (255 : Int32)).toUInt32.toUInt16.toUInt32.toInt32)), .val (.int ((((x0.toUInt32 >>> ((16 : Int32) &&& 31).toUInt32).toInt32) &&& (255 : Int32)).toUInt32.toUInt16.toUInt32.toInt32))] [])) _
          refine st35 _ ?_
          show Steps p.tables e below (T35.setTop (mkF m 97 #[.val (.int x0), .val (.int (((x0.toUInt32 >>> ((24 : Int32) &&& 31).toUInt32).toInt32) &&& (3 : Int32))), .val (.int ((x0 &&& (255 : Int32)).toUInt32.toUInt16.toUInt32.toInt32)), .val (.int ((((x0.toUInt32 >>> ((8 : Int32) &&& 31).toUInt32).toInt32) &&& (255 : Int32)).toUInt32.toUInt16.toUInt32.toInt32)), .val (.int ((((x0.toUInt32 >>> ((16 : Int32) &&& 31).toUInt32).toInt32) &&& (255 : Int32)).toUInt32.toUInt16.toUInt32.toInt32))] [(.ref b35)])) _
          refine XS.dup X35.here hx rfl (hb hby dr_97) rfl rfl ?_
          show Steps p.tables e below (T35.setTop (mkF m 98 #[.val (.int x0), .val (.int (((x0.toUInt32 >>> ((24 : Int32) &&& 31).toUInt32).toInt32) &&& (3 : Int32))), .val (.int ((x0 &&& (255 : Int32)).toUInt32.toUInt16.toUInt32.toInt32)), .val (.int ((((x0.toUInt32 >>> ((8 : Int32) &&& 31).toUInt32).toInt32) &&& (255 : Int32)).toUInt32.toUInt16.toUInt32.toInt32)), .val (.int ((((x0.toUInt32 >>> ((16 : Int32) &&& 31).toUInt32).toInt32) &&& (255 : Int32)).toUInt32.toUInt16.toUInt32.toInt32))] [(.ref b35), (.ref b35)])) _
          refine XS.iconst X35.here hx rfl (hb hby dr_98) ?_
          show Steps p.tables e below (T35.setTop (mkF m 99 #[.val (.int x0), .val (.int (((x0.toUInt32 >>> ((24 : Int32) &&& 31).toUInt32).toInt32) &&& (3 : Int32))), .val (.int ((x0 &&& (255 : Int32)).toUInt32.toUInt16.toUInt32.toInt32)), .val (.int ((((x0.toUInt32 >>> ((8 : Int32) &&& 31).toUInt32).toInt32) &&& (255 : Int32)).toUInt32.toUInt16.toUInt32.toInt32)), .val (.int ((((x0.toUInt32 >>> ((16 : Int32) &&& 31).toUInt32).toInt32) &&& (255 : Int32)).toUInt32.toUInt16.toUInt32.toInt32))] [(.int (3 : Int32)), (.ref b35), (.ref b35)])) _
          refine st36 _ ?_
          show Steps p.tables e below (T36.setTop (mkF m 101 #[.val (.int x0), .val (.int (((x0.toUInt32 >>> ((24 : Int32) &&& 31).toUInt32).toInt32) &&& (3 : Int32))), .val (.int ((x0 &&& (255 : Int32)).toUInt32.toUInt16.toUInt32.toInt32)), .val (.int ((((x0.toUInt32 >>> ((8 : Int32) &&& 31).toUInt32).toInt32) &&& (255 : Int32)).toUInt32.toUInt16.toUInt32.toInt32)), .val (.int ((((x0.toUInt32 >>> ((16 : Int32) &&& 31).toUInt32).toInt32) &&& (255 : Int32)).toUInt32.toUInt16.toUInt32.toInt32))] [(.ref b36), (.ref b35), (.ref b35)])) _
          refine XS.dup X36.here hx rfl (hb hby dr_101) rfl rfl ?_
          show Steps p.tables e below (T36.setTop (mkF m 102 #[.val (.int x0), .val (.int (((x0.toUInt32 >>> ((24 : Int32) &&& 31).toUInt32).toInt32) &&& (3 : Int32))), .val (.int ((x0 &&& (255 : Int32)).toUInt32.toUInt16.toUInt32.toInt32)), .val (.int ((((x0.toUInt32 >>> ((8 : Int32) &&& 31).toUInt32).toInt32) &&& (255 : Int32)).toUInt32.toUInt16.toUInt32.toInt32)), .val (.int ((((x0.toUInt32 >>> ((16 : Int32) &&& 31).toUInt32).toInt32) &&& (255 : Int32)).toUInt32.toUInt16.toUInt32.toInt32))] [(.ref b36), (.ref b36), (.ref b35), (.ref b35)])) _
          refine XS.iconst X36.here hx rfl (hb hby dr_102) ?_
          show Steps p.tables e below (T36.setTop (mkF m 103 #[.val (.int x0), .val (.int (((x0.toUInt32 >>> ((24 : Int32) &&& 31).toUInt32).toInt32) &&& (3 : Int32))), .val (.int ((x0 &&& (255 : Int32)).toUInt32.toUInt16.toUInt32.toInt32)), .val (.int ((((x0.toUInt32 >>> ((8 : Int32) &&& 31).toUInt32).toInt32) &&& (255 : Int32)).toUInt32.toUInt16.toUInt32.toInt32)), .val (.int ((((x0.toUInt32 >>> ((16 : Int32) &&& 31).toUInt32).toInt32) &&& (255 : Int32)).toUInt32.toUInt16.toUInt32.toInt32))] [(.int (0 : Int32)), (.ref b36), (.ref b36), (.ref b35), (.ref b35)])) _
          refine XS.iloadN X36.here hx rfl (hb hby dr_103) rfl ?_
          show Steps p.tables e below (T36.setTop (mkF m 104 #[.val (.int x0), .val (.int (((x0.toUInt32 >>> ((24 : Int32) &&& 31).toUInt32).toInt32) &&& (3 : Int32))), .val (.int ((x0 &&& (255 : Int32)).toUInt32.toUInt16.toUInt32.toInt32)), .val (.int ((((x0.toUInt32 >>> ((8 : Int32) &&& 31).toUInt32).toInt32) &&& (255 : Int32)).toUInt32.toUInt16.toUInt32.toInt32)), .val (.int ((((x0.toUInt32 >>> ((16 : Int32) &&& 31).toUInt32).toInt32) &&& (255 : Int32)).toUInt32.toUInt16.toUInt32.toInt32))] [(.int ((x0 &&& (255 : Int32)).toUInt32.toUInt16.toUInt32.toInt32)), (.int (0 : Int32)), (.ref b36), (.ref b36), (.ref b35), (.ref b35)])) _
          refine st38 _ ?_
          show Steps p.tables e below (T38.setTop (mkF m 105 #[.val (.int x0), .val (.int (((x0.toUInt32 >>> ((24 : Int32) &&& 31).toUInt32).toInt32) &&& (3 : Int32))), .val (.int ((x0 &&& (255 : Int32)).toUInt32.toUInt16.toUInt32.toInt32)), .val (.int ((((x0.toUInt32 >>> ((8 : Int32) &&& 31).toUInt32).toInt32) &&& (255 : Int32)).toUInt32.toUInt16.toUInt32.toInt32)), .val (.int ((((x0.toUInt32 >>> ((16 : Int32) &&& 31).toUInt32).toInt32) &&& (255 : Int32)).toUInt32.toUInt16.toUInt32.toInt32))] [(.ref b36), (.ref b35), (.ref b35)])) _
          refine XS.dup X38.here hx rfl (hb hby dr_105) rfl rfl ?_
          show Steps p.tables e below (T38.setTop (mkF m 106 #[.val (.int x0), .val (.int (((x0.toUInt32 >>> ((24 : Int32) &&& 31).toUInt32).toInt32) &&& (3 : Int32))), .val (.int ((x0 &&& (255 : Int32)).toUInt32.toUInt16.toUInt32.toInt32)), .val (.int ((((x0.toUInt32 >>> ((8 : Int32) &&& 31).toUInt32).toInt32) &&& (255 : Int32)).toUInt32.toUInt16.toUInt32.toInt32)), .val (.int ((((x0.toUInt32 >>> ((16 : Int32) &&& 31).toUInt32).toInt32) &&& (255 : Int32)).toUInt32.toUInt16.toUInt32.toInt32))] [(.ref b36), (.ref b36), (.ref b35), (.ref b35)])) _
          refine XS.iconst X38.here hx rfl (hb hby dr_106) ?_
          show Steps p.tables e below (T38.setTop (mkF m 107 #[.val (.int x0), .val (.int (((x0.toUInt32 >>> ((24 : Int32) &&& 31).toUInt32).toInt32) &&& (3 : Int32))), .val (.int ((x0 &&& (255 : Int32)).toUInt32.toUInt16.toUInt32.toInt32)), .val (.int ((((x0.toUInt32 >>> ((8 : Int32) &&& 31).toUInt32).toInt32) &&& (255 : Int32)).toUInt32.toUInt16.toUInt32.toInt32)), .val (.int ((((x0.toUInt32 >>> ((16 : Int32) &&& 31).toUInt32).toInt32) &&& (255 : Int32)).toUInt32.toUInt16.toUInt32.toInt32))] [(.int (1 : Int32)), (.ref b36), (.ref b36), (.ref b35), (.ref b35)])) _
          refine XS.iloadN X38.here hx rfl (hb hby dr_107) rfl ?_
          show Steps p.tables e below (T38.setTop (mkF m 108 #[.val (.int x0), .val (.int (((x0.toUInt32 >>> ((24 : Int32) &&& 31).toUInt32).toInt32) &&& (3 : Int32))), .val (.int ((x0 &&& (255 : Int32)).toUInt32.toUInt16.toUInt32.toInt32)), .val (.int ((((x0.toUInt32 >>> ((8 : Int32) &&& 31).toUInt32).toInt32) &&& (255 : Int32)).toUInt32.toUInt16.toUInt32.toInt32)), .val (.int ((((x0.toUInt32 >>> ((16 : Int32) &&& 31).toUInt32).toInt32) &&& (255 : Int32)).toUInt32.toUInt16.toUInt32.toInt32))] [(.int ((((x0.toUInt32 >>> ((8 : Int32) &&& 31).toUInt32).toInt32) &&& (255 : Int32)).toUInt32.toUInt16.toUInt32.toInt32)), (.int (1 : Int32)), (.ref b36), (.ref b36), (.ref b35), (.ref b35)])) _
          refine st40 _ ?_
          show Steps p.tables e below (T40.setTop (mkF m 109 #[.val (.int x0), .val (.int (((x0.toUInt32 >>> ((24 : Int32) &&& 31).toUInt32).toInt32) &&& (3 : Int32))), .val (.int ((x0 &&& (255 : Int32)).toUInt32.toUInt16.toUInt32.toInt32)), .val (.int ((((x0.toUInt32 >>> ((8 : Int32) &&& 31).toUInt32).toInt32) &&& (255 : Int32)).toUInt32.toUInt16.toUInt32.toInt32)), .val (.int ((((x0.toUInt32 >>> ((16 : Int32) &&& 31).toUInt32).toInt32) &&& (255 : Int32)).toUInt32.toUInt16.toUInt32.toInt32))] [(.ref b36), (.ref b35), (.ref b35)])) _
          refine XS.dup X40.here hx rfl (hb hby dr_109) rfl rfl ?_
          show Steps p.tables e below (T40.setTop (mkF m 110 #[.val (.int x0), .val (.int (((x0.toUInt32 >>> ((24 : Int32) &&& 31).toUInt32).toInt32) &&& (3 : Int32))), .val (.int ((x0 &&& (255 : Int32)).toUInt32.toUInt16.toUInt32.toInt32)), .val (.int ((((x0.toUInt32 >>> ((8 : Int32) &&& 31).toUInt32).toInt32) &&& (255 : Int32)).toUInt32.toUInt16.toUInt32.toInt32)), .val (.int ((((x0.toUInt32 >>> ((16 : Int32) &&& 31).toUInt32).toInt32) &&& (255 : Int32)).toUInt32.toUInt16.toUInt32.toInt32))] [(.ref b36), (.ref b36), (.ref b35), (.ref b35)])) _
          refine XS.iconst X40.here hx rfl (hb hby dr_110) ?_
          show Steps p.tables e below (T40.setTop (mkF m 111 #[.val (.int x0), .val (.int (((x0.toUInt32 >>> ((24 : Int32) &&& 31).toUInt32).toInt32) &&& (3 : Int32))), .val (.int ((x0 &&& (255 : Int32)).toUInt32.toUInt16.toUInt32.toInt32)), .val (.int ((((x0.toUInt32 >>> ((8 : Int32) &&& 31).toUInt32).toInt32) &&& (255 : Int32)).toUInt32.toUInt16.toUInt32.toInt32)), .val (.int ((((x0.toUInt32 >>> ((16 : Int32) &&& 31).toUInt32).toInt32) &&& (255 : Int32)).toUInt32.toUInt16.toUInt32.toInt32))] [(.int (2 : Int32)), (.ref b36), (.ref b36), (.ref b35), (.ref b35)])) _
          refine XS.iload X40.here hx rfl (hb hby dr_111) rfl ?_
          show Steps p.tables e below (T40.setTop (mkF m 113 #[.val (.int x0), .val (.int (((x0.toUInt32 >>> ((24 : Int32) &&& 31).toUInt32).toInt32) &&& (3 : Int32))), .val (.int ((x0 &&& (255 : Int32)).toUInt32.toUInt16.toUInt32.toInt32)), .val (.int ((((x0.toUInt32 >>> ((8 : Int32) &&& 31).toUInt32).toInt32) &&& (255 : Int32)).toUInt32.toUInt16.toUInt32.toInt32)), .val (.int ((((x0.toUInt32 >>> ((16 : Int32) &&& 31).toUInt32).toInt32) &&& (255 : Int32)).toUInt32.toUInt16.toUInt32.toInt32))] [(.int ((((x0.toUInt32 >>> ((16 : Int32) &&& 31).toUInt32).toInt32) &&& (255 : Int32)).toUInt32.toUInt16.toUInt32.toInt32)), (.int (2 : Int32)), (.ref b36), (.ref b36), (.ref b35), (.ref b35)])) _
          refine st42 _ ?_
          show Steps p.tables e below (T42.setTop (mkF m 114 #[.val (.int x0), .val (.int (((x0.toUInt32 >>> ((24 : Int32) &&& 31).toUInt32).toInt32) &&& (3 : Int32))), .val (.int ((x0 &&& (255 : Int32)).toUInt32.toUInt16.toUInt32.toInt32)), .val (.int ((((x0.toUInt32 >>> ((8 : Int32) &&& 31).toUInt32).toInt32) &&& (255 : Int32)).toUInt32.toUInt16.toUInt32.toInt32)), .val (.int ((((x0.toUInt32 >>> ((16 : Int32) &&& 31).toUInt32).toInt32) &&& (255 : Int32)).toUInt32.toUInt16.toUInt32.toInt32))] [(.ref b36), (.ref b35), (.ref b35)])) _
          refine st48.trans ?_
          show Steps p.tables e below (T48.setTop (mkF m 117 #[.val (.int x0), .val (.int (((x0.toUInt32 >>> ((24 : Int32) &&& 31).toUInt32).toInt32) &&& (3 : Int32))), .val (.int ((x0 &&& (255 : Int32)).toUInt32.toUInt16.toUInt32.toInt32)), .val (.int ((((x0.toUInt32 >>> ((8 : Int32) &&& 31).toUInt32).toInt32) &&& (255 : Int32)).toUInt32.toUInt16.toUInt32.toInt32)), .val (.int ((((x0.toUInt32 >>> ((16 : Int32) &&& 31).toUInt32).toInt32) &&& (255 : Int32)).toUInt32.toUInt16.toUInt32.toInt32))] [(.ref b35)])) _
          exact retOut X48 hx Bd.returns rfl (Or.inr (Or.inr (Or.inr (Or.inr ⟨rfl, rfl, rfl⟩)))) (hb hby dr_117) lhr
        · skip
          show QStr Z x0 G1 h0 n0 _ T48.heap _
          skip
          exact ⟨b35, rfl, N48, K48, sz_b35, gE48⟩
        · skip
          show CHr Z own_EL s.vm s.heap T48.vm T48.heap
          rw [hh]
          exact CR48.trans (CHv.at X48 hZ hEL CR48.1)
def own_sg : Lambda.Shape := (Jvm.Lambda.Shape.mk cn9 "get" (Jvm.ClassFile.MethodDescriptor.mk ([] : List Jvm.ClassFile.FieldType) (Option.some (Jvm.ClassFile.FieldType.object "java/lang/Object"))) ([(Jvm.ClassFile.FieldType.object cn4)] : List Jvm.ClassFile.FieldType) (5 : Nat) cn4 "lambda$message$0" (Jvm.ClassFile.MethodDescriptor.mk ([] : List Jvm.ClassFile.FieldType) (Option.some (Jvm.ClassFile.FieldType.object "java/util/Optional"))) false (Jvm.ClassFile.MethodDescriptor.mk ([] : List Jvm.ClassFile.FieldType) (Option.some (Jvm.ClassFile.FieldType.object "java/util/Optional"))))
abbrev own_mN : MethodName := ⟨cn4, "message", "()Ljava/util/Optional;"⟩
abbrev own_lN : MethodName := ⟨cn4, "lambda$message$0", "()Ljava/util/Optional;"⟩
abbrev own_xi : MethodName := ⟨cn9, "get", "()Ljava/lang/Object;"⟩
def own_fwdB : ByteArray := ⟨#[0x2a, 0xb4, 0x00, 0x0f, 0xb6, 0x00, 0x17, 0xb0]⟩
theorem own_f0 : decode own_fwdB 0 = .ok (.aload_n 0, 1) := by decide +kernel
theorem own_f1 : decode own_fwdB 1 = .ok (.getfield 15, 3) := by decide +kernel
theorem own_f4 : decode own_fwdB 4 = .ok (.invokevirtual 23, 3) := by decide +kernel
theorem own_f7 : decode own_fwdB 7 = .ok (.areturn, 1) := by decide +kernel
def own_D : ClassFile := (own_sg.file cn4).getD { minorVersion := 0, majorVersion := 0, constantPool := #[], accessFlags := 0, thisClass := 0, superClass := 0, interfaces := #[], fields := #[], methods := #[], attributes := #[] }
def own_fwd : Method := ((layoutMethods own_D).bind (·[1]?)).getD default
def own_laid : Array Field × Array FieldType × Array FieldType := (layoutFields own_D 0).getD (#[], #[], #[])
theorem own_file : own_sg.file cn4 = some own_D := by
  obtain ⟨x, hx⟩ := Option.isSome_iff_exists.mp (by decide +kernel : (own_sg.file cn4).isSome = true)
  simp [own_D, hx]
theorem own_ms : ∃ ms, layoutMethods own_D = some ms ∧ ms[1]? = some own_fwd := by
  obtain ⟨x, hx⟩ := Option.isSome_iff_exists.mp (by decide +kernel : ((layoutMethods own_D).bind (·[1]?)).isSome = true)
  obtain ⟨ms, h1, h2⟩ := Option.bind_eq_some_iff.mp hx
  have hf : own_fwd = x := by simp [own_fwd, hx]
  exact ⟨ms, h1, by rw [hf]; exact h2⟩
theorem own_laid_is : layoutFields own_D 0 = some own_laid := by
  obtain ⟨x, hx⟩ := Option.isSome_iff_exists.mp (by decide +kernel : (layoutFields own_D 0).isSome = true)
  simp [own_laid, hx]
theorem own_fcode : (own_fwd.code.map fun c => (c.code.data, c.maxLocals)) = some (own_fwdB.data, 1) := by decide +kernel
theorem own_fflags : (own_fwd.accessFlags, own_fwd.name, own_fwd.sig.returnType) = (0x0001, "get", (some (.object "java/lang/Object") : Option FieldType)) := by decide +kernel
theorem own_eM : own_D.constantPool[23]? = some (.methodref 19 22) ∧ own_D.constantPool.className? 19 = some cn4 ∧ own_D.constantPool.nameAndType? 22 = some ("lambda$message$0", "()Ljava/util/Optional;") := by decide +kernel
theorem own_eC : own_D.constantPool[19]? = some (.class_ 18) ∧ own_D.constantPool.string? 18 = some cn4 ∧ 19 ≠ own_D.thisClass := by decide +kernel
theorem own_eF : own_D.constantPool[15]? = some (.fieldref 2 14) ∧ own_D.constantPool.nameAndType? 14 = some ("arg$1", "Lcom/example/typed_api_errors/typedapierrors/error/Occurrence;") ∧ own_laid.1.findIdx? (·.name == "arg$1") = some 0 ∧ (own_laid.1[0]?).map (fun f => (f.isStatic, f.slot)) = some (false, 0) := by decide +kernel
theorem own_lays : ((own_sg.file cn4).bind (layoutFields · 0)).map (·.2.1) = some #[.object cn4] := by decide +kernel
def own_K (Z : State) (cK : ClassId) : Prop := Z.lambdaAt? own_mN 5 37 own_sg = some (cK, none)
theorem own_site {Z : State} {a0 : Array Value} (hw : ∀ d ∈ tables_1, d.before a0 Z = true) : ∃ cK, own_K Z cK := by
  obtain ⟨cK, one, hat⟩ := Cond.lambdaSite_spec (wd105 hw)
  obtain ⟨m', kS, cfS, i0, p0, lk, hm', hkS, hcfS, hshape, -, hfind, hmade, hcan, hlk⟩ := State.lambdaAt?_spec hat
  rcases hlk with ⟨a, cell, -, -, h, -⟩ | ⟨-, h, -⟩
  · exact absurd h (by decide)
  · subst h; exact ⟨cK, hat⟩
theorem own_named {U : State} {y : MethodName} {b : ByteArray} {n : Nat} {r : Option FieldType} (h : (Jvm.Cond.code y b n r).before #[] U = true) : ∃ t, U.methodNamed? y = some t := by
  cases hn : U.methodNamed? y with
  | none => simp [Cond.before, Cond.holds, Cond.value, hn] at h
  | some t => exact ⟨t, rfl⟩
theorem own_res {Z : State} {vm' : Vm} (hZ : Z.Warmed39 vm') {c : ClassId} {i : Nat} {k : Class} {r : Resolved} (hk : Z.vm.classes[c]? = some k) (hr : k.resolved[i]? = some (some r)) : ∃ k', vm'.classes[c]? = some k' ∧ k'.resolved[i]? = some (some r) := by
  obtain ⟨k', h1, -, -, h2, -⟩ := hZ.2.2.2 _ _ hk
  refine ⟨k', h1, ?_⟩
  rcases h2 i with h | ⟨h, -⟩
  · rw [h]; exact hr
  · rw [hr] at h; cases h
theorem own_madeZ {Z : State} {a0 : Array Value} (hw : ∀ d ∈ tables_1, d.before a0 Z = true) {cK : ClassId} (hK : own_K Z cK) :
    ∃ (k tk : Class) (file : ClassFile) (methk : Method) (ck : Code) (toy : ClassId) (t : MethodId) (g0 : Field),
      Z.vm.classes[cK]? = some k ∧ k.name = "com/example/typed_api_errors/typedapierrors/error/Occurrence$$Lambda" ∧ k.cf = some file ∧ file.constantPool = own_D.constantPool ∧
      Z.vm.method? ⟨cK, 1⟩ = some methk ∧ methk.code = some ck ∧ ck.code = own_fwdB ∧ ck.maxLocals = 1 ∧ methk.locks = false ∧ methk.sig.returnType = some (.object "java/lang/Object") ∧
      Z.vm.findClass cn4 = some toy ∧ Z.vm.classes[toy]? = some tk ∧ tk.isInterface = false ∧ ((methodIn toy "lambda$message$0" "()Ljava/util/Optional;" tk.isInterface none).ask { classPath := fun _ => none } Z.vm).1 = .ok t ∧
      k.resolved[23]? = some (some (.method t)) ∧ k.resolved[19]? = some (some (.cls toy)) ∧ k.resolved[15]? = some (some (.field cK 0)) ∧ k.fields[0]? = some g0 ∧ g0.isStatic = false ∧ g0.slot = 0 := by
  obtain ⟨m', kS, cfS, i0, p0, lk, hm', hkS, -, -, -, -, hmade, -, -⟩ := State.lambdaAt?_spec hK
  obtain ⟨kS', hkS', hname⟩ := className_of_methodNamed hm'
  cases hkS.symm.trans hkS'
  obtain ⟨cO, kO, hfO, hkO, -, -, -, hsz⟩ := Cond.instantiable_spec (wd108 hw)
  obtain ⟨dk', k, ok, tk, file, cf, object, iface, toy, lay, methods, target, found, hd', hk, hfile, hcf, hobj, -, hok, hlay, hms, ht, htk, hg, -, hrec, -, -, -, hitf, hpool, hmeth, hfields, hty, hres, -⟩ := Lambda.isMade_spec hmade
  cases hkS.symm.trans hd'
  cases hfO.symm.trans hobj
  cases hkO.symm.trans hok
  have hname' : kS.name = cn4 := hname
  rw [hname', own_file] at hcf
  cases hcf
  rw [hsz, own_laid_is] at hlay
  cases hlay
  obtain ⟨ms, hm1, hm2⟩ := own_ms
  cases hms.symm.trans hm1
  obtain ⟨b, hb, hsame⟩ := hmeth 1 own_fwd hm2
  obtain ⟨hn1, -, hsig, hfl, x, y, hx1, hy1, -, c2, c3, -⟩ := Lambda.sameMethod_spec hsame
  have fc := own_fcode
  have ff := own_fflags
  simp only [Prod.mk.injEq] at ff
  simp only [hx1, Option.map_some, Option.some.injEq, Prod.mk.injEq] at fc
  obtain ⟨g0, hg0, hp0⟩ := Option.map_eq_some_iff.mp own_eF.2.2.2
  simp only [Prod.mk.injEq] at hp0
  refine ⟨k, tk, file, b, y, toy, target, g0, hk, by rw [hrec.1, hname']; first | rfl | decide, hfile, hpool.2.1, by simp [Vm.method?, hk, hb], hy1, ?_, by rw [c2]; exact fc.2, ?_, by rw [hsig]; exact ff.2.2, ht, htk, hitf, hg, hres 23 _ (Lambda.resolvedOf_method own_eM.1 own_eM.2.1 ht htk own_eM.2.2 hg), hres 19 _ (Lambda.resolvedOf_class own_eC.1 own_eC.2.2 own_eC.2.1 ht), hres 15 _ (Lambda.resolvedOf_field own_eF.1 own_eF.2.1 own_eF.2.2.1), hfields 0 _ hg0, hp0.1, hp0.2⟩
  · rw [c3]; exact ByteArray.ext fc.1
  · simp [Method.locks, Method.isSynchronized, hfl, ff.1, hasFlag, Acc.synchronized]
theorem own_fnx {Z s : State} {a0 : Array Value} (hZ : Z.Warmed39 s.vm) (hw : ∀ d ∈ tables_1, d.before a0 Z = true) {cK : ClassId} (hK : own_K Z cK) : Jvm.Free.HMW.FnX own_xi cK ⟨cK, 1⟩ s := by
  have al := hZ.alike
  obtain ⟨ms, hm1, hm2⟩ := own_ms
  have ff := own_fflags
  simp only [Prod.mk.injEq] at ff
  obtain ⟨⟨kF, methK, h1, h2, h3, h4, h5⟩, -⟩ := Jvm.Free.Fn.of_lambdaAt (x := own_mN) (xi := own_xi) hK rfl rfl (by decide +kernel) (wd121 hw) own_file hm1 hm2 ff.1
  obtain ⟨kF', h1', -⟩ := al.2.2 _ _ h1
  refine ⟨kF', methK, h1', by rw [al.method?]; exact h2, h3, h4, fun r0 r hn hr => ?_⟩
  have hn' : Z.methodNamed? own_xi = some r0 := by
    have q := State.methodNamed?_setVm (s := Z) al own_xi
    exact q.symm.trans hn
  obtain ⟨a1, a2, a3⟩ := h5 r0 r hn' (by rw [al.method?] at hr; exact hr)
  exact ⟨by rw [al.assignable]; exact a1, by rw [al.selectMethod]; exact a2, by simp only [al.superclasses, al.declaredIn]; exact a3⟩
theorem own_fw {Z s : State} {a0 args : Array Value} (hZ : Z.Warmed39 s.vm) (hw : ∀ d ∈ tables_1, d.before a0 Z = true) : ∀ w ∈ Jvm.Free.Fn.fnW "java/util/Optional" 69 own_xi, w.before args s = true := by
  intro w h
  simp only [Jvm.Free.Fn.fnW, List.mem_cons, List.not_mem_nil, or_false] at h
  rcases h with rfl | rfl | rfl
  · exact mvT hZ (wd119 hw)
  · exact mvT hZ (wd120 hw)
  · exact mvT hZ (wd121 hw)
section Lam
variable {p : Program} {l : Launch} {e : Env} {R : Room} {s : State} {m : MethodId} {args : Array Value} {below : List Frame} {meth : Method} {c : Code} {T : State} {locs : List Loc} {cells slots : Nat} {Z : State} {a0 : Array Value} {h : Heap} {n0 : Nat}
theorem own_makes (X : Stand p l e R s m args below meth c T locs cells slots) (hx : p.tables.exec = Jvm.exec) (hZ : Z.Warmed39 s.vm) (hw : ∀ d ∈ tables_1, d.before a0 Z = true) {cK : ClassId} (hK : own_K Z cK) (hnm : s.methodNamed? own_mN = some m)
    (eT : T.heap = h) {g : JFrame} (hg : g.method = m) (hsize : g.locals.size = c.maxLocals) {o : Addr} {rest : List Value} (hs : g.stack = .ref o :: rest) (hd : decode c.code g.pc = .ok (.invokedynamic 37, 5)) (hpc : g.pc = 5)
    (hwd : 2 * g.monitorRoom + (g.stack.map fun v => v.category).sum + 3072 ≤ R.locals) (hc : cells + 1 ≤ R.cells) (hsl : slots + 1 ≤ R.slots) :
    ∃ T' h', Stand p l e R s m args below meth c T' locs (cells + 1) (slots + 1) ∧ T'.heap = h' ∧ Ext h h' ∧ h'[h.size]? = some ({ cls := cK, slots := #[.ref o], vm := .none } : Cell) ∧
      ∀ target, Steps p.tables e below (T'.setTop { g with pc := g.pc + 5, stack := .ref h.size :: rest }) target → Steps p.tables e below (T.setTop g) target := by
  subst eT
  have al := hZ.alike
  obtain ⟨m', kS, cfS, i0, p0, lk, hm', hkS, hcfS, hshape, -, hfind, hmade, hcan, hlk⟩ := State.lambdaAt?_spec hK
  have hlk' : lk = .makes cK := by
    rcases hlk with ⟨a, cell, -, -, h, -⟩ | ⟨h, -, -⟩
    · exact absurd h (by decide)
    · exact h
  subst hlk'
  obtain ⟨kS2, hkS2, hnameS⟩ := className_of_methodNamed hm'
  cases hkS.symm.trans hkS2
  have hmm : m' = m := by
    have q := State.methodNamed?_setVm (s := Z) al own_mN
    have q2 : (Z.setVm s.vm).methodNamed? own_mN = some m := hnm
    exact Option.some.inj (hm'.symm.trans (q.symm.trans q2))
  subst hmm
  obtain ⟨kK, hkK, htyK, hkindK, -⟩ := Lambda.made_types hmade hkS (wd108 hw) (T := #[.object cn4]) (by rw [hnameS]; exact own_lays)
  obtain ⟨kS', hkS', he⟩ := al.2.2 _ _ hkS
  obtain ⟨kK', hkK', heK⟩ := al.2.2 _ _ hkK
  have hty : kK'.instanceTypes = #[.object cn4] := by rw [heK]; exact htyK
  have hkd : kK'.kind = .ordinary := by rw [heK]; exact hkindK
  obtain ⟨bsm, nt, desc, site, hc7, hnt7, hsite, hpar⟩ := Lambda.shapeOf?_site hshape
  have hE : ((kK'.instanceTypes.toList.zip [Value.ref o]).map fun (t, x) => narrow t x) = [.ref o] := by rw [hty]; rfl
  obtain ⟨X1, st1⟩ := X.lambdaMakes hx hg hsize hd (vals := [.ref o]) (rest := rest) hkS' (by rw [he, hpc]; exact hfind) (by rw [he]; exact hcfS) hc7 hnt7 (parseLong_of_parse hsite) (by rw [hpar]; rfl) hs hkK'
    (by rw [X.admits.platform]; exact hwd) hc (by rw [hE]; exact hsl)
    (fun i v hv => by
      rw [hE] at hv
      cases i with
      | zero => simp at hv; subst hv; simp [State.fitsSlot, State.slotType?, hkK', hkd, hty, fits]
      | succ j => simp at hv)
  rw [hE] at X1 st1
  exact ⟨_, _, X1, rfl, ext_of fun a q => Array.getElem?_push_lt q |>.trans (Array.getElem?_eq_getElem q).symm, State.heap_pushCell_size _ _, st1⟩
theorem ef_Lm (m : MethodId) (x0 : Addr) : entryFrame m #[(.ref x0)] 1 = mkF m 0 #[.val (.ref x0)] [] := by first | (simp [entryFrame, mkF, argsToLocals, Value.category]; done) | rfl
theorem dd_0 : decode prog_9_method_15_code 0 = .ok (.aload_n 0, 1) := by decide +kernel
theorem dd_1 : decode prog_9_method_15_code 1 = .ok (.getfield 17, 3) := by decide +kernel
theorem dd_4 : decode prog_9_method_15_code 4 = .ok (.areturn, 1) := by decide +kernel
def QLm (Z : State) (occ : Addr) (oc : Addr) (h0 : Heap) (n0 : Nat) (v : Option Value) (h : Heap) (L : List Loc) : Prop := v = some (.ref oc) ∧ Fr n0 L ∧ h = h0
set_option maxRecDepth 65536 in
set_option maxHeartbeats 40000000 in
theorem rmLm (l : Launch) (Z : State) (a0 : Array Value) (hw : ∀ d ∈ tables_1, d.before a0 Z = true) (ws : List Jvm.Cond) (occ : Addr) (oc : Addr) (h0 : Heap) (n0 : Nat) (Z0 : n0 ≤ h0.size) (F_c : Fld Z h0 occ cn4 "catalogueMessage" "Ljava/util/Optional;" (.ref oc)) :
    MetFree l mn1 (head1 (Jvm.Cond.code mn1 prog_9_method_15_code 1 (some (.object "java/util/Optional")) :: ws) ({ frames := 0, cells := 0, slots := 0, locals := 0 } : Room)) (fun a U => a = #[(.ref occ)] ∧ Z.Warmed39 U.vm ∧ U.heap = h0) (fun _ _ _ _ _ => True) (fun _ U oc_ U' => ∃ v L, oc_ = .returned v ∧ QLm Z occ oc h0 n0 v U'.heap L ∧ FrameEnd U oc_ U' L ({ frames := 0, cells := 0, slots := 0, locals := 0 } : Room).cells ({ frames := 0, cells := 0, slots := 0, locals := 0 } : Room).slots) := by
  refine MetFree.of_bodySF (plainFor_of_name pn_com_example_typed_api_errors_typedapierrors_error_Occurrence) hisR ?_
  intro p e s m args below meth c s₁ Bd hml0 hP hK
  obtain ⟨rfl, hZ, hh⟩ := hP
  have hx := Bd.exec
  have hby := Bd.bytes
  have hml : c.maxLocals = 1 := hml0
  have hown : s.vm.findClass cn4 = some m.cls := findClass_of_methodNamed Bd.named
  have hnm := (name_of_methodNamed Bd.named Bd.method).1
  have X0 : Stand p l e ({ frames := 0, cells := 0, slots := 0, locals := 0 } : Room) s m #[(.ref occ)] below meth c s₁ [] 0 0 := Stand.of_body Bd
  have e0 : s₁.heap = h0 := by rw [← hh, Bd.state]; rfl
  have N0 := Fr.nil n0
  have pre0 : ∀ t, Steps p.tables e below (s₁.setTop (mkF m 0 #[.val (.ref occ)] [])) t → Steps p.tables e below (s₁.setTop (entryFrame m #[(.ref occ)] 1)) t := fun t k => castTop (ef_Lm m occ) k
  obtain ⟨T1, X1, e1, st1⟩ := getF X0 hx hZ hown (host := "") (Or.inl (wd88 hw)) Via.refl e0 F_c (g := (mkF m 1 #[.val (.ref occ)] [(.ref occ)])) rfl rfl (hb hby dd_1)
  obtain ⟨lfs, lhr, lhrun, lhended, lhW, lhsame⟩ := X1.leave (v := some (.ref oc)) (fun h => by rw [Bd.returns] at h; cases h)
  refine ⟨_, _, pre0 _ ?_, lhrun, lhended, _, _, rfl, ?_, ⟨_, rfl⟩, lhW, lhsame.mono (by decide) (by decide)⟩
  · skip
    show Steps p.tables e below (s₁.setTop (mkF m 0 #[.val (.ref occ)] [])) _
    refine XS.aloadN X0.here hx rfl (hb hby dd_0) rfl rfl ?_
    show Steps p.tables e below (s₁.setTop (mkF m 1 #[.val (.ref occ)] [(.ref occ)])) _
    refine st1 _ ?_
    show Steps p.tables e below (T1.setTop (mkF m 4 #[.val (.ref occ)] [(.ref oc)])) _
    exact retOut X1 hx Bd.returns rfl (Or.inr (Or.inr (Or.inr (Or.inr ⟨rfl, rfl, rfl⟩)))) (hb hby dd_4) lhr
  · skip
    show QLm Z occ oc h0 n0 _ T1.heap _
    rw [e1]
    exact ⟨rfl, N0, rfl⟩
theorem own_supply (X : Stand p l e R s m args below meth c T locs cells slots) (hx : p.tables.exec = Jvm.exec) (hZ : Z.Warmed39 s.vm) (hw : ∀ d ∈ tables_1, d.before a0 Z = true) {cK : ClassId} (hK : own_K Z cK) (hown : s.vm.findClass "java/util/Optional" = some m.cls)
    (Z0 : n0 ≤ h.size) (eT : T.heap = h) {ff occ oc : Addr} (hf : h[ff]? = some ({ cls := cK, slots := #[.ref occ], vm := .none } : Cell)) (E : Exa Z h occ cn4) (F : Fld Z h occ cn4 "catalogueMessage" "Ljava/util/Optional;" (.ref oc))
    {g : JFrame} (hg : g.method = m) (hsize : g.locals.size = c.maxLocals) {rest : List Value} (hs : g.stack = .ref ff :: rest) (hd : decode c.code g.pc = .ok (.invokeinterface 69 1, 5)) (hW : 2 * g.monitorRoom + (rest.map fun v => v.category).sum ≤ 0) (hfr : 2 ≤ R.frames) (hlo : 24 ≤ R.locals) (hc : cells ≤ R.cells) (hsl : slots ≤ R.slots) :
    ∃ T' L', Stand p l e R s m args below meth c T' (locs ++ L') cells slots ∧ T'.heap = h ∧ Fr n0 L' ∧ ∀ target, Steps p.tables e below (T'.setTop { g with pc := g.pc + 5, stack := .ref oc :: rest }) target → Steps p.tables e below (T.setTop g) target := by
  subst eT
  obtain ⟨cr, kr, e1, e2, e3, e4, -⟩ := id E
  obtain ⟨k, tk, file, methk, ck, toy, t, g0, hk, hkn, hcf, hpool, hmk, hck, hbytes, hml, hlk, hret, htoy, htk, hitf, hlook, hres1, hres2, hres3, hfld, hst, hsl0⟩ := own_madeZ hw hK
  have hcB : cr.cls = toy := Option.some.inj (e2.symm.trans htoy)
  have T0 := Jvm.Free.Fw.cap1p0VR (l := l) (p := p) (e := e) hx (Rm := R) (R' := { frames := 1, cells := 0, slots := 0, locals := 12 }) (below' := below) (s' := s) (sargs' := args) (cK := cK) (mi := 23) (fi1 := 15) (sl1 := 0) (cB := cr.cls) (y := own_lN) (methk := methk) (ck := ck) (len := 5) (W := 0)
    (by rw [hbytes]; exact own_f0) (by rw [hbytes]; exact own_f1) (by rw [hbytes]; exact own_f4) (by rw [hbytes]; exact own_f7) occ
    (fun U hU => by
      have hZU : Z.Warmed39 U.vm := wtrans hZ hU
      have al := hZU.alike
      obtain ⟨k', hk', ek⟩ := al.2.2 _ _ hk
      obtain ⟨tk', htk', etk⟩ := al.2.2 _ _ htk
      obtain ⟨k1, q1, r1⟩ := own_res hZU hk hres1
      obtain ⟨k2, q2, r2⟩ := own_res hZU hk hres2
      obtain ⟨k3, q3, r3⟩ := own_res hZU hk hres3
      have hcU : (Jvm.Cond.code own_lN prog_9_method_15_code 1 (some (.object "java/util/Optional"))).before #[] U = true := mvT (s := U) hZU (wd124 hw)
      obtain ⟨tN, hnN⟩ := own_named hcU
      have htoyU : U.vm.findClass cn4 = some toy := by rw [al.findClass]; exact htoy
      have hitf' : tk'.isInterface = false := by rw [etk]; exact hitf
      have hlU : ((methodIn toy "lambda$message$0" "()Ljava/util/Optional;" tk'.isInterface none).ask { classPath := fun _ => none } U.vm).1 = .ok t := by
        rw [Lambda.methodIn_ask_alike al, hitf']; rw [hitf] at hlook; exact hlook
      have et : t = tN := Except.ok.inj (hlU.symm.trans (Jvm.Free.Fw.look_of_named hnN (by decide) _ _ htoyU htk'))
      subst et
      refine ⟨⟨by rw [al.method?]; exact hmk, hck, hlk, State.plainMethod.of_name (fun k9 hk9 => by cases hk'.symm.trans hk9; rw [ek]; show plainName k.name = true; rw [hkn]; first | (simp [plainName, overriddenIn]; done) | decide +kernel), hml, hret⟩, ⟨g0, ⟨k3, 0, k', q3, r3, hk', by rw [ek]; exact hfld⟩, hst, hsl0⟩, ?_⟩
      rw [hcB]
      exact Jvm.Free.Fw.VirtualAt.of_made X.admits (y := own_lN) (ci := 19) (nt := 22) hk' (by rw [ek]; exact hcf) (by rw [hpool]; exact own_eM.1) ⟨k1, q1, r1⟩ ⟨k2, q2, r2⟩ htoyU htk' hitf' hnN (by decide) hcU (mvT (s := U) hZU (wd122 hw))
        (own_selPriv (s := U) (args := #[]) (mvT hZU (wd72 hw)) (Cond.privateMethod_at (mvP hZU (wd123 hw) (args := #[]))) (mvT hZU (wd122 hw)) (by decide)) (sig := ⟨[], some (.object "java/util/Optional")⟩) (by decide +kernel) rfl)
    (PreT := fun A a => a = #[.ref occ] ∧ A.U.heap = T.heap ∧ A.cells + 0 ≤ 0 ∧ A.slots + 0 ≤ 0)
    (PostT := fun A _ v B => ∃ L, QLm Z occ oc T.heap n0 v B.U.heap L ∧ B.locs = A.locs ++ L ∧ B.cells = A.cells + 0 ∧ B.slots = A.slots + 0)
    (fun U g a hU => Jvm.RoadKit.backOf (W := 0) (s := U.calling g ⟨cK, 1⟩ a) (rmLm l Z a0 hw [] occ oc T.heap n0 Z0 F) (wtrans hZ hU) (wd124 hw) (wd73 hw) (by decide) (by decide))
    (fun A a v B _ hp => by
      obtain ⟨L, hq, -⟩ := hp
      exact ⟨_, hq.1, rfl⟩)
    hfr (by show 0 + (1 + 11) + 12 ≤ R.locals; omega)
  obtain ⟨v, vm1, B, hW1, X', hpost, st⟩ := X.fnAt hx (own := "java/util/Optional") (index := 69) (count := 1) (xi := own_xi) hown (own_fw hZ hw) (by decide) (own_fnx hZ hw hK) T0 (fun _ _ => rfl) (b := ff) ⟨_, hf, rfl, rfl⟩ hg hsize (Steps.refl _) (argsL := []) (rest := rest)
    (lenOf (by decide +kernel : parseMethodDescriptor "()Ljava/lang/Object;" = some ⟨[], some (.object "java/lang/Object")⟩) rfl) hs hW hd
    (fun vm1 hv1 => ⟨ff, _, cr, rfl, hf, (by simp), rfl, e1, rfl, (fun q hq => by rw [hq] at e4; cases e4), hc, hsl, fun U0 r1 r2 => ⟨rfl, r2, Nat.le_refl _, Nat.le_refl _⟩⟩)
  obtain ⟨U0, U1, L1, c1, n1, q1, q2, ⟨L, hQ, hL, hcc, hnn⟩, q3, q4, q5, q6, q7⟩ := hpost
  obtain ⟨hv, hN, hh⟩ := hQ
  subst hv
  obtain ⟨BU, BL, BC, BS⟩ := B
  dsimp only [Pt.U, Pt.locs, Pt.cells, Pt.slots] at X' st q3 q4 q5 q6 q7 hL hcc hnn hh
  have z1 : BL = locs ++ L := by rw [q5, hL]; rfl
  have z2 : BC = cells := by omega
  have z3 : BS = slots := by omega
  subst z1 z2 z3
  exact ⟨BU, L, X', by rw [q3]; exact hh, hN, fun target k => st.trans k⟩
end Lam
theorem efa_jdk_31_method_10_code_v (m : MethodId) (x0 : Addr) : entryFrame m #[(.ref x0)] 1 = mkF m 0 #[.val (.ref x0)] [] := by first | (simp [entryFrame, mkF, argsToLocals, Value.category]; done) | rfl
theorem db_0 : decode jdk_31_method_10_code 0 = .ok (.aload_n 0, 1) := by decide +kernel
theorem db_1 : decode jdk_31_method_10_code 1 = .ok (.ifnonnull 11, 3) := by decide +kernel
theorem db_12 : decode jdk_31_method_10_code 12 = .ok (.aload_n 0, 1) := by decide +kernel
theorem db_13 : decode jdk_31_method_10_code 13 = .ok (.areturn, 1) := by decide +kernel
def QA1 (Z : State) (o0 : Addr) (h0 : Heap) (n0 : Nat) (v : Option Value) (h : Heap) (L : List Loc) : Prop := v = some (.ref o0) ∧ Fr n0 L ∧ h = h0
set_option maxRecDepth 65536 in
set_option maxHeartbeats 40000000 in
theorem rmA1 (l : Launch) (Z : State) (a0 : Array Value) (hw : ∀ d ∈ tables_1, d.before a0 Z = true) (ws : List Jvm.Cond) (o0 : Addr) (h0 : Heap) (n0 : Nat) (Z0 : n0 ≤ h0.size) :
    MetFree l mn11 (head1 (Jvm.Cond.code mn11 jdk_31_method_10_code 1 (some (.object "java/lang/Object")) :: ws) ({ frames := 0, cells := 0, slots := 0, locals := 0 } : Room)) (fun a U => a = #[(.ref o0)] ∧ Z.Warmed39 U.vm ∧ U.heap = h0) (fun _ _ _ _ _ => True) (fun _ U oc_ U' => ∃ v L, oc_ = .returned v ∧ QA1 Z o0 h0 n0 v U'.heap L ∧ FrameEnd U oc_ U' L ({ frames := 0, cells := 0, slots := 0, locals := 0 } : Room).cells ({ frames := 0, cells := 0, slots := 0, locals := 0 } : Room).slots) := by
  refine MetFree.of_bodySF (plainFor_of_name pn_java_util_Objects) hisR ?_
  intro p e s m args below meth c s₁ Bd hml0 hP hK
  obtain ⟨rfl, hZ, hh⟩ := hP
  have hx := Bd.exec
  have hby := Bd.bytes
  have hml : c.maxLocals = 1 := hml0
  have hown : s.vm.findClass "java/util/Objects" = some m.cls := findClass_of_methodNamed Bd.named
  have hnm := (name_of_methodNamed Bd.named Bd.method).1
  have X0 : Stand p l e ({ frames := 0, cells := 0, slots := 0, locals := 0 } : Room) s m #[(.ref o0)] below meth c s₁ [] 0 0 := Stand.of_body Bd
  have e0 : s₁.heap = h0 := by rw [← hh, Bd.state]; rfl
  have N0 := Fr.nil n0
  have pre0 : ∀ t, Steps p.tables e below (s₁.setTop (mkF m 0 #[.val (.ref o0)] [])) t → Steps p.tables e below (s₁.setTop (entryFrame m #[(.ref o0)] 1)) t := fun t k => castTop (efa_jdk_31_method_10_code_v m o0) k
  obtain ⟨lfs, lhr, lhrun, lhended, lhW, lhsame⟩ := X0.leave (v := some (.ref o0)) (fun h => by rw [Bd.returns] at h; cases h)
  refine ⟨_, _, pre0 _ ?_, lhrun, lhended, _, _, rfl, ?_, ⟨_, rfl⟩, lhW, lhsame.mono (by decide) (by decide)⟩
  · skip
    show Steps p.tables e below (s₁.setTop (mkF m 0 #[.val (.ref o0)] [])) _
    refine XS.aloadN X0.here hx rfl (hb hby db_0) rfl rfl ?_
    show Steps p.tables e below (s₁.setTop (mkF m 1 #[.val (.ref o0)] [(.ref o0)])) _
    refine XS.ifnonnullYes X0.here hx rfl (pc0 := 1) (pc' := 12) rfl (hb hby db_1) rfl (by decide) (by decide) ?_
    show Steps p.tables e below (s₁.setTop (mkF m 12 #[.val (.ref o0)] [])) _
    refine XS.aloadN X0.here hx rfl (hb hby db_12) rfl rfl ?_
    show Steps p.tables e below (s₁.setTop (mkF m 13 #[.val (.ref o0)] [(.ref o0)])) _
    exact retOut X0 hx Bd.returns rfl (Or.inr (Or.inr (Or.inr (Or.inr ⟨rfl, rfl, rfl⟩)))) (hb hby db_13) lhr
  · skip
    show QA1 Z o0 h0 n0 _ s₁.heap _
    rw [e0]
    exact ⟨rfl, N0, rfl⟩
theorem efa_jdk_32_method_6_code_v (m : MethodId) (x0 : Addr) : entryFrame m #[(.ref x0)] 1 = mkF m 0 #[.val (.ref x0)] [] := by first | (simp [entryFrame, mkF, argsToLocals, Value.category]; done) | rfl
theorem di_0 : decode jdk_32_method_6_code 0 = .ok (.aload_n 0, 1) := by decide +kernel
theorem di_1 : decode jdk_32_method_6_code 1 = .ok (.getfield 13, 3) := by decide +kernel
theorem di_4 : decode jdk_32_method_6_code 4 = .ok (.ifnull 7, 3) := by decide +kernel
theorem di_7 : decode jdk_32_method_6_code 7 = .ok (.iconst 1, 1) := by decide +kernel
theorem di_8 : decode jdk_32_method_6_code 8 = .ok (.goto 4, 3) := by decide +kernel
theorem di_12 : decode jdk_32_method_6_code 12 = .ok (.ireturn, 1) := by decide +kernel
def QA2 (Z : State) (o0 : Addr) (o1 : Addr) (h0 : Heap) (n0 : Nat) (v : Option Value) (h : Heap) (L : List Loc) : Prop := v = some (.int (1 : Int32)) ∧ Fr n0 L ∧ h = h0
set_option maxRecDepth 65536 in
set_option maxHeartbeats 40000000 in
theorem rmA2 (l : Launch) (Z : State) (a0 : Array Value) (hw : ∀ d ∈ tables_1, d.before a0 Z = true) (ws : List Jvm.Cond) (o0 : Addr) (o1 : Addr) (h0 : Heap) (n0 : Nat) (Z0 : n0 ≤ h0.size) (F_o0_value : Fld Z h0 o0 "java/util/Optional" "value" "Ljava/lang/Object;" (.ref o1)) :
    MetFree l mn15 (head1 (Jvm.Cond.code mn15 jdk_32_method_6_code 1 (some .boolean) :: ws) ({ frames := 0, cells := 0, slots := 0, locals := 0 } : Room)) (fun a U => a = #[(.ref o0)] ∧ Z.Warmed39 U.vm ∧ U.heap = h0) (fun _ _ _ _ _ => True) (fun _ U oc_ U' => ∃ v L, oc_ = .returned v ∧ QA2 Z o0 o1 h0 n0 v U'.heap L ∧ FrameEnd U oc_ U' L ({ frames := 0, cells := 0, slots := 0, locals := 0 } : Room).cells ({ frames := 0, cells := 0, slots := 0, locals := 0 } : Room).slots) := by
  refine MetFree.of_bodySF (plainFor_of_name pn_java_util_Optional) hisR ?_
  intro p e s m args below meth c s₁ Bd hml0 hP hK
  obtain ⟨rfl, hZ, hh⟩ := hP
  have hx := Bd.exec
  have hby := Bd.bytes
  have hml : c.maxLocals = 1 := hml0
  have hown : s.vm.findClass "java/util/Optional" = some m.cls := findClass_of_methodNamed Bd.named
  have hnm := (name_of_methodNamed Bd.named Bd.method).1
  have X0 : Stand p l e ({ frames := 0, cells := 0, slots := 0, locals := 0 } : Room) s m #[(.ref o0)] below meth c s₁ [] 0 0 := Stand.of_body Bd
  have e0 : s₁.heap = h0 := by rw [← hh, Bd.state]; rfl
  have N0 := Fr.nil n0
  have pre0 : ∀ t, Steps p.tables e below (s₁.setTop (mkF m 0 #[.val (.ref o0)] [])) t → Steps p.tables e below (s₁.setTop (entryFrame m #[(.ref o0)] 1)) t := fun t k => castTop (efa_jdk_32_method_6_code_v m o0) k
  obtain ⟨T1, X1, e1, st1⟩ := getF X0 hx hZ hown (host := "") (Or.inl (wd45 hw)) Via.refl e0 F_o0_value (g := (mkF m 1 #[.val (.ref o0)] [(.ref o0)])) rfl rfl (hb hby di_1)
  obtain ⟨lfs, lhr, lhrun, lhended, lhW, lhsame⟩ := X1.leave (v := some (.int (1 : Int32))) (fun h => by rw [Bd.returns] at h; cases h)
  refine ⟨_, _, pre0 _ ?_, lhrun, lhended, _, _, rfl, ?_, ⟨_, rfl⟩, lhW, lhsame.mono (by decide) (by decide)⟩
  · skip
    show Steps p.tables e below (s₁.setTop (mkF m 0 #[.val (.ref o0)] [])) _
    refine XS.aloadN X0.here hx rfl (hb hby di_0) rfl rfl ?_
    show Steps p.tables e below (s₁.setTop (mkF m 1 #[.val (.ref o0)] [(.ref o0)])) _
    refine st1 _ ?_
    show Steps p.tables e below (T1.setTop (mkF m 4 #[.val (.ref o0)] [(.ref o1)])) _
    refine XS.ifnullNo X1.here hx rfl (hb hby di_4) rfl ?_
    show Steps p.tables e below (T1.setTop (mkF m 7 #[.val (.ref o0)] [])) _
    refine XS.iconst X1.here hx rfl (hb hby di_7) ?_
    show Steps p.tables e below (T1.setTop (mkF m 8 #[.val (.ref o0)] [(.int (1 : Int32))])) _
    refine XS.goto X1.here hx rfl (pc0 := 8) (pc' := 12) rfl (hb hby di_8) (by decide) (by decide) ?_
    show Steps p.tables e below (T1.setTop (mkF m 12 #[.val (.ref o0)] [(.int (1 : Int32))])) _
    exact retN X1 hx (t := .boolean) Bd.returns (by simp) (hb hby di_12) lhr
  · skip
    show QA2 Z o0 o1 h0 n0 _ T1.heap _
    rw [e1]
    exact ⟨rfl, N0, rfl⟩
theorem ef_OrP (m : MethodId) (x0 : Addr) (x1 : Addr) : entryFrame m #[(.ref x0), (.ref x1)] 3 = mkF m 0 #[.val (.ref x0), .val (.ref x1), .unset] [] := by first | (simp [entryFrame, mkF, argsToLocals, Value.category]; done) | rfl
theorem dc_0 : decode jdk_32_method_13_code 0 = .ok (.aload_n 1, 1) := by decide +kernel
theorem dc_1 : decode jdk_32_method_13_code 1 = .ok (.invokestatic 17, 3) := by decide +kernel
theorem dc_4 : decode jdk_32_method_13_code 4 = .ok (.pop, 1) := by decide +kernel
theorem dc_5 : decode jdk_32_method_13_code 5 = .ok (.aload_n 0, 1) := by decide +kernel
theorem dc_6 : decode jdk_32_method_13_code 6 = .ok (.invokevirtual 66, 3) := by decide +kernel
theorem dc_9 : decode jdk_32_method_13_code 9 = .ok (.ifCond .eq 5, 3) := by decide +kernel
theorem dc_12 : decode jdk_32_method_13_code 12 = .ok (.aload_n 0, 1) := by decide +kernel
theorem dc_13 : decode jdk_32_method_13_code 13 = .ok (.areturn, 1) := by decide +kernel
def QOrP (Z : State) (oo : Addr) (ff : Addr) (wv : Addr) (h0 : Heap) (n0 : Nat) (v : Option Value) (h : Heap) (L : List Loc) : Prop := v = some (.ref oo) ∧ Fr n0 L ∧ h = h0
set_option maxRecDepth 65536 in
set_option maxHeartbeats 40000000 in
theorem rmOrP (l : Launch) (Z : State) (a0 : Array Value) (hw : ∀ d ∈ tables_1, d.before a0 Z = true) (ws : List Jvm.Cond) (oo : Addr) (ff : Addr) (wv : Addr) (h0 : Heap) (n0 : Nat) (Z0 : n0 ≤ h0.size) (E_oo : Exa Z h0 oo "java/util/Optional") (F_v : Fld Z h0 oo "java/util/Optional" "value" "Ljava/lang/Object;" (.ref wv)) :
    MetFree l mn17 (head1 (Jvm.Cond.code mn17 jdk_32_method_13_code 3 (some (.object "java/util/Optional")) :: ws) ({ frames := 2, cells := 0, slots := 0, locals := 30 } : Room)) (fun a U => a = #[(.ref oo), (.ref ff)] ∧ Z.Warmed39 U.vm ∧ U.heap = h0) (fun _ _ _ _ _ => True) (fun _ U oc_ U' => ∃ v L, oc_ = .returned v ∧ QOrP Z oo ff wv h0 n0 v U'.heap L ∧ FrameEnd U oc_ U' L ({ frames := 2, cells := 0, slots := 0, locals := 30 } : Room).cells ({ frames := 2, cells := 0, slots := 0, locals := 30 } : Room).slots) := by
  refine MetFree.of_bodySF (plainFor_of_name pn_java_util_Optional) hisR ?_
  intro p e s m args below meth c s₁ Bd hml0 hP hK
  obtain ⟨rfl, hZ, hh⟩ := hP
  have hx := Bd.exec
  have hby := Bd.bytes
  have hml : c.maxLocals = 3 := hml0
  have hown : s.vm.findClass "java/util/Optional" = some m.cls := findClass_of_methodNamed Bd.named
  have hnm := (name_of_methodNamed Bd.named Bd.method).1
  have X0 : Stand p l e ({ frames := 2, cells := 0, slots := 0, locals := 30 } : Room) s m #[(.ref oo), (.ref ff)] below meth c s₁ [] 0 0 := Stand.of_body Bd
  have e0 : s₁.heap = h0 := by rw [← hh, Bd.state]; rfl
  have N0 := Fr.nil n0
  have pre0 : ∀ t, Steps p.tables e below (s₁.setTop (mkF m 0 #[.val (.ref oo), .val (.ref ff), .unset] [])) t → Steps p.tables e below (s₁.setTop (entryFrame m #[(.ref oo), (.ref ff)] 3)) t := fun t k => castTop (ef_OrP m oo ff) k
  obtain ⟨_, _, ⟨T1, L1, kc1, ks1⟩, -, X1, ⟨Lc1, hQ1, l1, y1, z1⟩, st1⟩ := Jvm.LawKit.callS X0 hx (y := mn11) hown (mvT hZ (wd36 hw)) (mvT hZ (wd37 hw)) (mvT hZ (wd38 hw)) (mvT hZ (wd39 hw)) (by decide) (backOf (W := 0) (rmA1 l Z a0 hw [] ff h0 n0 Z0 ) hZ (wd39 hw) (wd38 hw) (by decide) (by decide)) (g := (mkF m 1 #[.val (.ref oo), .val (.ref ff), .unset] [(.ref ff)])) rfl (by rw [hml]; rfl) (argsL := [(.ref ff)]) (rest := []) (lenOf pd__Ljava_lang_Object__Ljava_lang_Object_ rfl) rfl (by show 2 * 0 + _ ≤ _; exact Nat.le_of_eq rfl) (hb hby dc_1) (fun _ _ => ⟨rfl, e0, (by decide : 0 + 0 ≤ _), (by decide : 0 + 0 ≤ _)⟩)
  dsimp only [Pt.U, Pt.locs, Pt.cells, Pt.slots] at X1 l1 y1 z1 st1 hQ1
  subst l1 y1 z1
  obtain ⟨rfl, Nq1, eq1⟩ := hQ1
  have N1 := Fr.app N0 Nq1
  obtain ⟨cq2, kq2, q2a, q2b, q2c⟩ := isOf hZ eq1 E_oo
  obtain ⟨_, _, ⟨T2, L2, kc2, ks2⟩, -, X2, ⟨Lc2, hQ2, l2, y2, z2⟩, st2⟩ := X1.virtualBack hx (y := mn15) (z := mn15) hown (mvT hZ (wd114 hw)) (mvT hZ (wd115 hw)) (notFace_of_selects (args := #[]) (mvT hZ (wd117 hw))) (mvT hZ (wd117 hw)) (mvT hZ (wd116 hw)) (by decide) (backOf (W := 0) (rmA2 l Z a0 hw [] oo wv h0 n0 Z0 F_v) hZ (wd118 hw) (wd28 hw) (by decide) (by decide)) q2a q2c (g := (mkF m 6 #[.val (.ref oo), .val (.ref ff), .unset] [(.ref oo)])) rfl (by rw [hml]; rfl) (Steps.refl _) (argsL := []) (rest := []) (lenOf pd___Z rfl) rfl (by show 2 * 0 + _ ≤ _; exact Nat.le_of_eq rfl) (hb hby dc_6) (fun _ _ => ⟨rfl, eq1, (by decide : 0 + 0 ≤ _), (by decide : 0 + 0 ≤ _)⟩)
  dsimp only [Pt.U, Pt.locs, Pt.cells, Pt.slots] at X2 l2 y2 z2 st2 hQ2
  subst l2 y2 z2
  obtain ⟨rfl, Nq2, eq2⟩ := hQ2
  have N2 := Fr.app N1 Nq2
  obtain ⟨lfs, lhr, lhrun, lhended, lhW, lhsame⟩ := X2.leave (v := some (.ref oo)) (fun h => by rw [Bd.returns] at h; cases h)
  refine ⟨_, _, pre0 _ ?_, lhrun, lhended, _, _, rfl, ?_, ⟨_, rfl⟩, lhW, lhsame.mono (by decide) (by decide)⟩
  · skip
    show Steps p.tables e below (s₁.setTop (mkF m 0 #[.val (.ref oo), .val (.ref ff), .unset] [])) _
    refine XS.aloadN X0.here hx rfl (hb hby dc_0) rfl rfl ?_
    show Steps p.tables e below (s₁.setTop (mkF m 1 #[.val (.ref oo), .val (.ref ff), .unset] [(.ref ff)])) _
    refine st1 _ ?_
    show Steps p.tables e below (T1.setTop (mkF m 4 #[.val (.ref oo), .val (.ref ff), .unset] [(.ref ff)])) _
    refine XS.pop X1.here hx rfl (hb hby dc_4) rfl rfl ?_
    show Steps p.tables e below (T1.setTop (mkF m 5 #[.val (.ref oo), .val (.ref ff), .unset] [])) _
    refine XS.aloadN X1.here hx rfl (hb hby dc_5) rfl rfl ?_
    show Steps p.tables e below (T1.setTop (mkF m 6 #[.val (.ref oo), .val (.ref ff), .unset] [(.ref oo)])) _
    refine st2.trans ?_
    show Steps p.tables e below (T2.setTop (mkF m 9 #[.val (.ref oo), .val (.ref ff), .unset] [(.int (1 : Int32))])) _
    refine XS.ifNo X2.here hx rfl (hb hby dc_9) rfl ((if0 _ _).trans (feq (by decide : ¬ ((1 : Int32) = (0 : Int32)))).1) ?_
    show Steps p.tables e below (T2.setTop (mkF m 12 #[.val (.ref oo), .val (.ref ff), .unset] [])) _
    refine XS.aloadN X2.here hx rfl (hb hby dc_12) rfl rfl ?_
    show Steps p.tables e below (T2.setTop (mkF m 13 #[.val (.ref oo), .val (.ref ff), .unset] [(.ref oo)])) _
    exact retOut X2 hx Bd.returns rfl (Or.inr (Or.inr (Or.inr (Or.inr ⟨rfl, rfl, rfl⟩)))) (hb hby dc_13) lhr
  · skip
    show QOrP Z oo ff wv h0 n0 _ T2.heap _
    rw [eq2]
    exact ⟨rfl, N2, rfl⟩
theorem di_11 : decode jdk_32_method_6_code 11 = .ok (.iconst 0, 1) := by decide +kernel
def QA4 (Z : State) (o0 : Addr) (h0 : Heap) (n0 : Nat) (v : Option Value) (h : Heap) (L : List Loc) : Prop := v = some (.int (0 : Int32)) ∧ Fr n0 L ∧ h = h0
set_option maxRecDepth 65536 in
set_option maxHeartbeats 40000000 in
theorem rmA4 (l : Launch) (Z : State) (a0 : Array Value) (hw : ∀ d ∈ tables_1, d.before a0 Z = true) (ws : List Jvm.Cond) (o0 : Addr) (h0 : Heap) (n0 : Nat) (Z0 : n0 ≤ h0.size) (F_o0_value : Fld Z h0 o0 "java/util/Optional" "value" "Ljava/lang/Object;" .null) :
    MetFree l mn15 (head1 (Jvm.Cond.code mn15 jdk_32_method_6_code 1 (some .boolean) :: ws) ({ frames := 0, cells := 0, slots := 0, locals := 0 } : Room)) (fun a U => a = #[(.ref o0)] ∧ Z.Warmed39 U.vm ∧ U.heap = h0) (fun _ _ _ _ _ => True) (fun _ U oc_ U' => ∃ v L, oc_ = .returned v ∧ QA4 Z o0 h0 n0 v U'.heap L ∧ FrameEnd U oc_ U' L ({ frames := 0, cells := 0, slots := 0, locals := 0 } : Room).cells ({ frames := 0, cells := 0, slots := 0, locals := 0 } : Room).slots) := by
  refine MetFree.of_bodySF (plainFor_of_name pn_java_util_Optional) hisR ?_
  intro p e s m args below meth c s₁ Bd hml0 hP hK
  obtain ⟨rfl, hZ, hh⟩ := hP
  have hx := Bd.exec
  have hby := Bd.bytes
  have hml : c.maxLocals = 1 := hml0
  have hown : s.vm.findClass "java/util/Optional" = some m.cls := findClass_of_methodNamed Bd.named
  have hnm := (name_of_methodNamed Bd.named Bd.method).1
  have X0 : Stand p l e ({ frames := 0, cells := 0, slots := 0, locals := 0 } : Room) s m #[(.ref o0)] below meth c s₁ [] 0 0 := Stand.of_body Bd
  have e0 : s₁.heap = h0 := by rw [← hh, Bd.state]; rfl
  have N0 := Fr.nil n0
  have pre0 : ∀ t, Steps p.tables e below (s₁.setTop (mkF m 0 #[.val (.ref o0)] [])) t → Steps p.tables e below (s₁.setTop (entryFrame m #[(.ref o0)] 1)) t := fun t k => castTop (efa_jdk_32_method_6_code_v m o0) k
  obtain ⟨T1, X1, e1, st1⟩ := getF X0 hx hZ hown (host := "") (Or.inl (wd45 hw)) Via.refl e0 F_o0_value (g := (mkF m 1 #[.val (.ref o0)] [(.ref o0)])) rfl rfl (hb hby di_1)
  obtain ⟨lfs, lhr, lhrun, lhended, lhW, lhsame⟩ := X1.leave (v := some (.int (0 : Int32))) (fun h => by rw [Bd.returns] at h; cases h)
  refine ⟨_, _, pre0 _ ?_, lhrun, lhended, _, _, rfl, ?_, ⟨_, rfl⟩, lhW, lhsame.mono (by decide) (by decide)⟩
  · skip
    show Steps p.tables e below (s₁.setTop (mkF m 0 #[.val (.ref o0)] [])) _
    refine XS.aloadN X0.here hx rfl (hb hby di_0) rfl rfl ?_
    show Steps p.tables e below (s₁.setTop (mkF m 1 #[.val (.ref o0)] [(.ref o0)])) _
    refine st1 _ ?_
    show Steps p.tables e below (T1.setTop (mkF m 4 #[.val (.ref o0)] [.null])) _
    refine XS.ifnullYes X1.here hx rfl (pc0 := 4) (pc' := 11) rfl (hb hby di_4) rfl (by decide) (by decide) ?_
    show Steps p.tables e below (T1.setTop (mkF m 11 #[.val (.ref o0)] [])) _
    refine XS.iconst X1.here hx rfl (hb hby di_11) ?_
    show Steps p.tables e below (T1.setTop (mkF m 12 #[.val (.ref o0)] [(.int (0 : Int32))])) _
    exact retN X1 hx (t := .boolean) Bd.returns (by simp) (hb hby di_12) lhr
  · skip
    show QA4 Z o0 h0 n0 _ T1.heap _
    rw [e1]
    exact ⟨rfl, N0, rfl⟩
theorem ef_OrE (m : MethodId) (x0 : Addr) (x1 : Addr) : entryFrame m #[(.ref x0), (.ref x1)] 3 = mkF m 0 #[.val (.ref x0), .val (.ref x1), .unset] [] := by first | (simp [entryFrame, mkF, argsToLocals, Value.category]; done) | rfl
theorem dc_14 : decode jdk_32_method_13_code 14 = .ok (.aload_n 1, 1) := by decide +kernel
theorem dc_15 : decode jdk_32_method_13_code 15 = .ok (.invokeinterface 69 1, 5) := by decide +kernel
theorem dc_20 : decode jdk_32_method_13_code 20 = .ok (.checkcast 2, 3) := by decide +kernel
theorem dc_23 : decode jdk_32_method_13_code 23 = .ok (.astore_n 2, 1) := by decide +kernel
theorem dc_24 : decode jdk_32_method_13_code 24 = .ok (.aload_n 2, 1) := by decide +kernel
theorem dc_25 : decode jdk_32_method_13_code 25 = .ok (.invokestatic 17, 3) := by decide +kernel
theorem dc_28 : decode jdk_32_method_13_code 28 = .ok (.checkcast 2, 3) := by decide +kernel
theorem dc_31 : decode jdk_32_method_13_code 31 = .ok (.areturn, 1) := by decide +kernel
def QOrE (Z : State) (oo : Addr) (ff : Addr) (cK : ClassId) (occ : Addr) (oc : Addr) (h0 : Heap) (n0 : Nat) (v : Option Value) (h : Heap) (L : List Loc) : Prop := v = some (.ref oc) ∧ Fr n0 L ∧ h = h0
set_option maxRecDepth 65536 in
set_option maxHeartbeats 40000000 in
theorem rmOrE (l : Launch) (Z : State) (a0 : Array Value) (hw : ∀ d ∈ tables_1, d.before a0 Z = true) (ws : List Jvm.Cond) (oo : Addr) (ff : Addr) (cK : ClassId) (occ : Addr) (oc : Addr) (h0 : Heap) (n0 : Nat) (Z0 : n0 ≤ h0.size) (hLK : own_K Z cK) (E_oo : Exa Z h0 oo "java/util/Optional") (F_v : Fld Z h0 oo "java/util/Optional" "value" "Ljava/lang/Object;" .null) (hff : h0[ff]? = some ({ cls := cK, slots := #[.ref occ], vm := .none } : Cell)) (E_occ : Exa Z h0 occ cn4) (F_c : Fld Z h0 occ cn4 "catalogueMessage" "Ljava/util/Optional;" (.ref oc)) (E_oc : Exa Z h0 oc "java/util/Optional") :
    MetFree l mn17 (head1 (Jvm.Cond.code mn17 jdk_32_method_13_code 3 (some (.object "java/util/Optional")) :: ws) ({ frames := 2, cells := 0, slots := 0, locals := 30 } : Room)) (fun a U => a = #[(.ref oo), (.ref ff)] ∧ Z.Warmed39 U.vm ∧ U.heap = h0) (fun _ _ _ _ _ => True) (fun _ U oc_ U' => ∃ v L, oc_ = .returned v ∧ QOrE Z oo ff cK occ oc h0 n0 v U'.heap L ∧ FrameEnd U oc_ U' L ({ frames := 2, cells := 0, slots := 0, locals := 30 } : Room).cells ({ frames := 2, cells := 0, slots := 0, locals := 30 } : Room).slots) := by
  refine MetFree.of_bodySF (plainFor_of_name pn_java_util_Optional) hisR ?_
  intro p e s m args below meth c s₁ Bd hml0 hP hK
  obtain ⟨rfl, hZ, hh⟩ := hP
  have hx := Bd.exec
  have hby := Bd.bytes
  have hml : c.maxLocals = 3 := hml0
  have hown : s.vm.findClass "java/util/Optional" = some m.cls := findClass_of_methodNamed Bd.named
  have hnm := (name_of_methodNamed Bd.named Bd.method).1
  have X0 : Stand p l e ({ frames := 2, cells := 0, slots := 0, locals := 30 } : Room) s m #[(.ref oo), (.ref ff)] below meth c s₁ [] 0 0 := Stand.of_body Bd
  have e0 : s₁.heap = h0 := by rw [← hh, Bd.state]; rfl
  have N0 := Fr.nil n0
  have pre0 : ∀ t, Steps p.tables e below (s₁.setTop (mkF m 0 #[.val (.ref oo), .val (.ref ff), .unset] [])) t → Steps p.tables e below (s₁.setTop (entryFrame m #[(.ref oo), (.ref ff)] 3)) t := fun t k => castTop (ef_OrE m oo ff) k
  obtain ⟨_, _, ⟨T1, L1, kc1, ks1⟩, -, X1, ⟨Lc1, hQ1, l1, y1, z1⟩, st1⟩ := Jvm.LawKit.callS X0 hx (y := mn11) hown (mvT hZ (wd36 hw)) (mvT hZ (wd37 hw)) (mvT hZ (wd38 hw)) (mvT hZ (wd39 hw)) (by decide) (backOf (W := 0) (rmA1 l Z a0 hw [] ff h0 n0 Z0 ) hZ (wd39 hw) (wd38 hw) (by decide) (by decide)) (g := (mkF m 1 #[.val (.ref oo), .val (.ref ff), .unset] [(.ref ff)])) rfl (by rw [hml]; rfl) (argsL := [(.ref ff)]) (rest := []) (lenOf pd__Ljava_lang_Object__Ljava_lang_Object_ rfl) rfl (by show 2 * 0 + _ ≤ _; exact Nat.le_of_eq rfl) (hb hby dc_1) (fun _ _ => ⟨rfl, e0, (by decide : 0 + 0 ≤ _), (by decide : 0 + 0 ≤ _)⟩)
  dsimp only [Pt.U, Pt.locs, Pt.cells, Pt.slots] at X1 l1 y1 z1 st1 hQ1
  subst l1 y1 z1
  obtain ⟨rfl, Nq1, eq1⟩ := hQ1
  have N1 := Fr.app N0 Nq1
  obtain ⟨cq2, kq2, q2a, q2b, q2c⟩ := isOf hZ eq1 E_oo
  obtain ⟨_, _, ⟨T2, L2, kc2, ks2⟩, -, X2, ⟨Lc2, hQ2, l2, y2, z2⟩, st2⟩ := X1.virtualBack hx (y := mn15) (z := mn15) hown (mvT hZ (wd114 hw)) (mvT hZ (wd115 hw)) (notFace_of_selects (args := #[]) (mvT hZ (wd117 hw))) (mvT hZ (wd117 hw)) (mvT hZ (wd116 hw)) (by decide) (backOf (W := 0) (rmA4 l Z a0 hw [] oo h0 n0 Z0 F_v) hZ (wd118 hw) (wd28 hw) (by decide) (by decide)) q2a q2c (g := (mkF m 6 #[.val (.ref oo), .val (.ref ff), .unset] [(.ref oo)])) rfl (by rw [hml]; rfl) (Steps.refl _) (argsL := []) (rest := []) (lenOf pd___Z rfl) rfl (by show 2 * 0 + _ ≤ _; exact Nat.le_of_eq rfl) (hb hby dc_6) (fun _ _ => ⟨rfl, eq1, (by decide : 0 + 0 ≤ _), (by decide : 0 + 0 ≤ _)⟩)
  dsimp only [Pt.U, Pt.locs, Pt.cells, Pt.slots] at X2 l2 y2 z2 st2 hQ2
  subst l2 y2 z2
  obtain ⟨rfl, Nq2, eq2⟩ := hQ2
  have N2 := Fr.app N1 Nq2
  obtain ⟨T3, Lq3, X3, e3, Nq3, st3⟩ := own_supply (n0 := n0) X2 hx hZ hw hLK hown Z0 eq2 hff E_occ F_c (g := (mkF m 15 #[.val (.ref oo), .val (.ref ff), .unset] [(.ref ff)])) rfl (by rw [hml]; rfl) rfl (hb hby dc_15) (by show 2 * 0 + _ ≤ _; exact Nat.le_of_eq rfl) (by decide) (by decide) (by decide) (by decide)
  have N3 := Fr.app N2 Nq3
  obtain ⟨T4, X4, e4, st4⟩ := castY X3 hx hZ hown (wd34 hw) e3 (Ins.self E_oc) (g := (mkF m 20 #[.val (.ref oo), .val (.ref ff), .unset] [(.ref oc)])) rfl rfl (hb hby dc_20)
  obtain ⟨_, _, ⟨T5, L5, kc5, ks5⟩, -, X5, ⟨Lc5, hQ5, l5, y5, z5⟩, st5⟩ := Jvm.LawKit.callS X4 hx (y := mn11) hown (mvT hZ (wd36 hw)) (mvT hZ (wd37 hw)) (mvT hZ (wd38 hw)) (mvT hZ (wd39 hw)) (by decide) (backOf (W := 0) (rmA1 l Z a0 hw [] oc h0 n0 Z0 ) hZ (wd39 hw) (wd38 hw) (by decide) (by decide)) (g := (mkF m 25 #[.val (.ref oo), .val (.ref ff), .val (.ref oc)] [(.ref oc)])) rfl (by rw [hml]; rfl) (argsL := [(.ref oc)]) (rest := []) (lenOf pd__Ljava_lang_Object__Ljava_lang_Object_ rfl) rfl (by show 2 * 0 + _ ≤ _; exact Nat.le_of_eq rfl) (hb hby dc_25) (fun _ _ => ⟨rfl, e4, (by decide : 0 + 0 ≤ _), (by decide : 0 + 0 ≤ _)⟩)
  dsimp only [Pt.U, Pt.locs, Pt.cells, Pt.slots] at X5 l5 y5 z5 st5 hQ5
  subst l5 y5 z5
  obtain ⟨rfl, Nq5, eq5⟩ := hQ5
  have N5 := Fr.app N3 Nq5
  obtain ⟨T6, X6, e6, st6⟩ := castY X5 hx hZ hown (wd34 hw) eq5 (Ins.self E_oc) (g := (mkF m 28 #[.val (.ref oo), .val (.ref ff), .val (.ref oc)] [(.ref oc)])) rfl rfl (hb hby dc_28)
  obtain ⟨lfs, lhr, lhrun, lhended, lhW, lhsame⟩ := X6.leave (v := some (.ref oc)) (fun h => by rw [Bd.returns] at h; cases h)
  refine ⟨_, _, pre0 _ ?_, lhrun, lhended, _, _, rfl, ?_, ⟨_, rfl⟩, lhW, lhsame.mono (by decide) (by decide)⟩
  · skip
    show Steps p.tables e below (s₁.setTop (mkF m 0 #[.val (.ref oo), .val (.ref ff), .unset] [])) _
    refine XS.aloadN X0.here hx rfl (hb hby dc_0) rfl rfl ?_
    show Steps p.tables e below (s₁.setTop (mkF m 1 #[.val (.ref oo), .val (.ref ff), .unset] [(.ref ff)])) _
    refine st1 _ ?_
    show Steps p.tables e below (T1.setTop (mkF m 4 #[.val (.ref oo), .val (.ref ff), .unset] [(.ref ff)])) _
    refine XS.pop X1.here hx rfl (hb hby dc_4) rfl rfl ?_
    show Steps p.tables e below (T1.setTop (mkF m 5 #[.val (.ref oo), .val (.ref ff), .unset] [])) _
    refine XS.aloadN X1.here hx rfl (hb hby dc_5) rfl rfl ?_
    show Steps p.tables e below (T1.setTop (mkF m 6 #[.val (.ref oo), .val (.ref ff), .unset] [(.ref oo)])) _
    refine st2.trans ?_
    show Steps p.tables e below (T2.setTop (mkF m 9 #[.val (.ref oo), .val (.ref ff), .unset] [(.int (0 : Int32))])) _
    refine XS.ifYes X2.here hx rfl (pc0 := 9) (pc' := 14) rfl (hb hby dc_9) rfl ((if0 _ _).trans (teq (by decide : (0 : Int32) = (0 : Int32))).1) (by decide) (by decide) ?_
    show Steps p.tables e below (T2.setTop (mkF m 14 #[.val (.ref oo), .val (.ref ff), .unset] [])) _
    refine XS.aloadN X2.here hx rfl (hb hby dc_14) rfl rfl ?_
    show Steps p.tables e below (T2.setTop (mkF m 15 #[.val (.ref oo), .val (.ref ff), .unset] [(.ref ff)])) _
    refine st3 _ ?_
    show Steps p.tables e below (T3.setTop (mkF m 20 #[.val (.ref oo), .val (.ref ff), .unset] [(.ref oc)])) _
    refine st4 _ ?_
    show Steps p.tables e below (T4.setTop (mkF m 23 #[.val (.ref oo), .val (.ref ff), .unset] [(.ref oc)])) _
    refine XS.astoreN X4.here hx rfl (hb hby dc_23) rfl rfl (l' := #[.val (.ref oo), .val (.ref ff), .val (.ref oc)]) rfl ?_
    show Steps p.tables e below (T4.setTop (mkF m 24 #[.val (.ref oo), .val (.ref ff), .val (.ref oc)] [])) _
    refine XS.aloadN X4.here hx rfl (hb hby dc_24) rfl rfl ?_
    show Steps p.tables e below (T4.setTop (mkF m 25 #[.val (.ref oo), .val (.ref ff), .val (.ref oc)] [(.ref oc)])) _
    refine st5 _ ?_
    show Steps p.tables e below (T5.setTop (mkF m 28 #[.val (.ref oo), .val (.ref ff), .val (.ref oc)] [(.ref oc)])) _
    refine st6 _ ?_
    show Steps p.tables e below (T6.setTop (mkF m 31 #[.val (.ref oo), .val (.ref ff), .val (.ref oc)] [(.ref oc)])) _
    exact retOut X6 hx Bd.returns rfl (Or.inr (Or.inr (Or.inr (Or.inr ⟨rfl, rfl, rfl⟩)))) (hb hby dc_31) lhr
  · skip
    show QOrE Z oo ff cK occ oc h0 n0 _ T6.heap _
    rw [e6]
    exact ⟨rfl, N5, rfl⟩
theorem ef_MsP (m : MethodId) (x0 : Addr) : entryFrame m #[(.ref x0)] 1 = mkF m 0 #[.val (.ref x0)] [] := by first | (simp [entryFrame, mkF, argsToLocals, Value.category]; done) | rfl
theorem dn_0 : decode prog_9_method_2_code 0 = .ok (.aload_n 0, 1) := by decide +kernel
theorem dn_1 : decode prog_9_method_2_code 1 = .ok (.getfield 21, 3) := by decide +kernel
theorem dn_4 : decode prog_9_method_2_code 4 = .ok (.aload_n 0, 1) := by decide +kernel
theorem dn_5 : decode prog_9_method_2_code 5 = .ok (.invokedynamic 37, 5) := by decide +kernel
theorem dn_10 : decode prog_9_method_2_code 10 = .ok (.invokevirtual 41, 3) := by decide +kernel
theorem dn_13 : decode prog_9_method_2_code 13 = .ok (.areturn, 1) := by decide +kernel
def QMsP (Z : State) (occ : Addr) (oo : Addr) (wv : Addr) (h0 : Heap) (n0 : Nat) (v : Option Value) (h : Heap) (L : List Loc) : Prop := v = some (.ref oo) ∧ Fr n0 L ∧ Keep h0 h []
set_option maxRecDepth 65536 in
set_option maxHeartbeats 40000000 in
theorem rmMsP (l : Launch) (Z : State) (a0 : Array Value) (hw : ∀ d ∈ tables_1, d.before a0 Z = true) (ws : List Jvm.Cond) (occ : Addr) (oo : Addr) (wv : Addr) (h0 : Heap) (n0 : Nat) (Z0 : n0 ≤ h0.size) (E_occ : Exa Z h0 occ cn4) (F_o : Fld Z h0 occ cn4 "ownMessage" "Ljava/util/Optional;" (.ref oo)) (E_oo : Exa Z h0 oo "java/util/Optional") (F_v : Fld Z h0 oo "java/util/Optional" "value" "Ljava/lang/Object;" (.ref wv)) :
    MetFree l mn2 (head1 (Jvm.Cond.code mn2 prog_9_method_2_code 1 (some (.object "java/util/Optional")) :: ws) ({ frames := 3, cells := 1, slots := 1, locals := 3080 } : Room)) (fun a U => a = #[(.ref occ)] ∧ Z.Warmed39 U.vm ∧ U.heap = h0) (fun _ _ _ _ _ => True) (fun _ U oc_ U' => ∃ v L, oc_ = .returned v ∧ QMsP Z occ oo wv h0 n0 v U'.heap L ∧ FrameEnd U oc_ U' L ({ frames := 3, cells := 1, slots := 1, locals := 3080 } : Room).cells ({ frames := 3, cells := 1, slots := 1, locals := 3080 } : Room).slots) := by
  refine MetFree.of_bodySF (plainFor_of_name pn_com_example_typed_api_errors_typedapierrors_error_Occurrence) hisR ?_
  intro p e s m args below meth c s₁ Bd hml0 hP hK
  obtain ⟨rfl, hZ, hh⟩ := hP
  have hx := Bd.exec
  have hby := Bd.bytes
  have hml : c.maxLocals = 1 := hml0
  have hown : s.vm.findClass cn4 = some m.cls := findClass_of_methodNamed Bd.named
  have hnm := (name_of_methodNamed Bd.named Bd.method).1
  have X0 : Stand p l e ({ frames := 3, cells := 1, slots := 1, locals := 3080 } : Room) s m #[(.ref occ)] below meth c s₁ [] 0 0 := Stand.of_body Bd
  have e0 : s₁.heap = h0 := by rw [← hh, Bd.state]; rfl
  have N0 := Fr.nil n0
  have pre0 : ∀ t, Steps p.tables e below (s₁.setTop (mkF m 0 #[.val (.ref occ)] [])) t → Steps p.tables e below (s₁.setTop (entryFrame m #[(.ref occ)] 1)) t := fun t k => castTop (ef_MsP m occ) k
  obtain ⟨cK, hLK⟩ := own_site hw
  obtain ⟨T1, X1, e1, st1⟩ := getF X0 hx hZ hown (host := "") (Or.inl (wd90 hw)) Via.refl e0 F_o (g := (mkF m 1 #[.val (.ref occ)] [(.ref occ)])) rfl rfl (hb hby dn_1)
  obtain ⟨T2, h2, X2, e2, E2, C2, st2⟩ := own_makes X1 hx hZ hw hLK Bd.named e1 (g := (mkF m 5 #[.val (.ref occ)] [(.ref occ), (.ref oo)])) rfl (by rw [hml]; rfl) rfl (hb hby dn_5) rfl (by show 2 * 0 + (1 + (1 + 0)) + 3072 ≤ 3080; decide) (by decide) (by decide)
  obtain ⟨b2, g2⟩ : ∃ z, z = h0.size := ⟨_, rfl⟩
  rw [← g2] at C2 st2
  have ne_occ_b2 : occ ≠ b2 := Nat.ne_of_lt (Nat.lt_of_lt_of_le E_occ.lt (Nat.le_of_eq g2.symm))
  have ne_oo_b2 : oo ≠ b2 := Nat.ne_of_lt (Nat.lt_of_lt_of_le E_oo.lt (Nat.le_of_eq g2.symm))
  have ge_b2 : n0 ≤ b2 := Nat.le_trans Z0 (Nat.le_of_eq g2.symm)
  have sz_b2 : h0.size ≤ b2 := Nat.le_trans (Nat.le_refl _) (Nat.le_of_eq g2.symm)
  have Z2 : n0 ≤ h2.size := Nat.le_trans Z0 E2.1
  have K2 : Keep h0 h2 [] := ((Keep.refl h0 []).ext E2)
  have f3 := (E_oo.ext E2)
  have f4 := (F_v.ext E2)
  obtain ⟨cq5, kq5, q5a, q5b, q5c⟩ := isOf hZ e2 f3
  obtain ⟨_, _, ⟨T5, L5, kc5, ks5⟩, -, X5, ⟨Lc5, hQ5, l5, y5, z5⟩, st5⟩ := X2.virtualBack hx (y := mn17) (z := mn17) hown (mvT hZ (wd109 hw)) (mvT hZ (wd110 hw)) (notFace_of_selects (args := #[]) (mvT hZ (wd112 hw))) (mvT hZ (wd112 hw)) (mvT hZ (wd111 hw)) (by decide) (backOf (W := 0) (rmOrP l Z a0 hw [] oo b2 wv h2 n0 Z2 f3 f4) hZ (wd113 hw) (wd28 hw) (by decide) (by decide)) q5a q5c (g := (mkF m 10 #[.val (.ref occ)] [(.ref b2), (.ref oo)])) rfl (by rw [hml]; rfl) (Steps.refl _) (argsL := [(.ref b2)]) (rest := []) (lenOf pd__Ljava_util_function_Supplier__Ljava_util_Optional_ rfl) rfl (by show 2 * 0 + _ ≤ _; exact Nat.le_of_eq rfl) (hb hby dn_10) (fun _ _ => ⟨rfl, e2, (by decide : 1 + 0 ≤ _), (by decide : 1 + 0 ≤ _)⟩)
  dsimp only [Pt.U, Pt.locs, Pt.cells, Pt.slots] at X5 l5 y5 z5 st5 hQ5
  subst l5 y5 z5
  obtain ⟨rfl, Nq5, eq5⟩ := hQ5
  have N5 := Fr.app N0 Nq5
  obtain ⟨lfs, lhr, lhrun, lhended, lhW, lhsame⟩ := X5.leave (v := some (.ref oo)) (fun h => by rw [Bd.returns] at h; cases h)
  refine ⟨_, _, pre0 _ ?_, lhrun, lhended, _, _, rfl, ?_, ⟨_, rfl⟩, lhW, lhsame.mono (by decide) (by decide)⟩
  · skip
    show Steps p.tables e below (s₁.setTop (mkF m 0 #[.val (.ref occ)] [])) _
    refine XS.aloadN X0.here hx rfl (hb hby dn_0) rfl rfl ?_
    show Steps p.tables e below (s₁.setTop (mkF m 1 #[.val (.ref occ)] [(.ref occ)])) _
    refine st1 _ ?_
    show Steps p.tables e below (T1.setTop (mkF m 4 #[.val (.ref occ)] [(.ref oo)])) _
    refine XS.aloadN X1.here hx rfl (hb hby dn_4) rfl rfl ?_
    show Steps p.tables e below (T1.setTop (mkF m 5 #[.val (.ref occ)] [(.ref occ), (.ref oo)])) _
    refine st2 _ ?_
    show Steps p.tables e below (T2.setTop (mkF m 10 #[.val (.ref occ)] [(.ref b2), (.ref oo)])) _
    refine st5.trans ?_
    show Steps p.tables e below (T5.setTop (mkF m 13 #[.val (.ref occ)] [(.ref oo)])) _
    exact retOut X5 hx Bd.returns rfl (Or.inr (Or.inr (Or.inr (Or.inr ⟨rfl, rfl, rfl⟩)))) (hb hby dn_13) lhr
  · skip
    show QMsP Z occ oo wv h0 n0 _ T5.heap _
    rw [eq5]
    exact ⟨rfl, N5, K2⟩
theorem ef_MsE (m : MethodId) (x0 : Addr) : entryFrame m #[(.ref x0)] 1 = mkF m 0 #[.val (.ref x0)] [] := by first | (simp [entryFrame, mkF, argsToLocals, Value.category]; done) | rfl
def QMsE (Z : State) (occ : Addr) (oo : Addr) (oc : Addr) (h0 : Heap) (n0 : Nat) (v : Option Value) (h : Heap) (L : List Loc) : Prop := v = some (.ref oc) ∧ Fr n0 L ∧ Keep h0 h []
set_option maxRecDepth 65536 in
set_option maxHeartbeats 40000000 in
theorem rmMsE (l : Launch) (Z : State) (a0 : Array Value) (hw : ∀ d ∈ tables_1, d.before a0 Z = true) (ws : List Jvm.Cond) (occ : Addr) (oo : Addr) (oc : Addr) (h0 : Heap) (n0 : Nat) (Z0 : n0 ≤ h0.size) (E_occ : Exa Z h0 occ cn4) (F_o : Fld Z h0 occ cn4 "ownMessage" "Ljava/util/Optional;" (.ref oo)) (E_oo : Exa Z h0 oo "java/util/Optional") (F_v : Fld Z h0 oo "java/util/Optional" "value" "Ljava/lang/Object;" .null) (F_c : Fld Z h0 occ cn4 "catalogueMessage" "Ljava/util/Optional;" (.ref oc)) (E_oc : Exa Z h0 oc "java/util/Optional") :
    MetFree l mn2 (head1 (Jvm.Cond.code mn2 prog_9_method_2_code 1 (some (.object "java/util/Optional")) :: ws) ({ frames := 3, cells := 1, slots := 1, locals := 3080 } : Room)) (fun a U => a = #[(.ref occ)] ∧ Z.Warmed39 U.vm ∧ U.heap = h0) (fun _ _ _ _ _ => True) (fun _ U oc_ U' => ∃ v L, oc_ = .returned v ∧ QMsE Z occ oo oc h0 n0 v U'.heap L ∧ FrameEnd U oc_ U' L ({ frames := 3, cells := 1, slots := 1, locals := 3080 } : Room).cells ({ frames := 3, cells := 1, slots := 1, locals := 3080 } : Room).slots) := by
  refine MetFree.of_bodySF (plainFor_of_name pn_com_example_typed_api_errors_typedapierrors_error_Occurrence) hisR ?_
  intro p e s m args below meth c s₁ Bd hml0 hP hK
  obtain ⟨rfl, hZ, hh⟩ := hP
  have hx := Bd.exec
  have hby := Bd.bytes
  have hml : c.maxLocals = 1 := hml0
  have hown : s.vm.findClass cn4 = some m.cls := findClass_of_methodNamed Bd.named
  have hnm := (name_of_methodNamed Bd.named Bd.method).1
  have X0 : Stand p l e ({ frames := 3, cells := 1, slots := 1, locals := 3080 } : Room) s m #[(.ref occ)] below meth c s₁ [] 0 0 := Stand.of_body Bd
  have e0 : s₁.heap = h0 := by rw [← hh, Bd.state]; rfl
  have N0 := Fr.nil n0
  have pre0 : ∀ t, Steps p.tables e below (s₁.setTop (mkF m 0 #[.val (.ref occ)] [])) t → Steps p.tables e below (s₁.setTop (entryFrame m #[(.ref occ)] 1)) t := fun t k => castTop (ef_MsE m occ) k
  obtain ⟨cK, hLK⟩ := own_site hw
  obtain ⟨T1, X1, e1, st1⟩ := getF X0 hx hZ hown (host := "") (Or.inl (wd90 hw)) Via.refl e0 F_o (g := (mkF m 1 #[.val (.ref occ)] [(.ref occ)])) rfl rfl (hb hby dn_1)
  obtain ⟨T2, h2, X2, e2, E2, C2, st2⟩ := own_makes X1 hx hZ hw hLK Bd.named e1 (g := (mkF m 5 #[.val (.ref occ)] [(.ref occ), (.ref oo)])) rfl (by rw [hml]; rfl) rfl (hb hby dn_5) rfl (by show 2 * 0 + (1 + (1 + 0)) + 3072 ≤ 3080; decide) (by decide) (by decide)
  obtain ⟨b2, g2⟩ : ∃ z, z = h0.size := ⟨_, rfl⟩
  rw [← g2] at C2 st2
  have ne_occ_b2 : occ ≠ b2 := Nat.ne_of_lt (Nat.lt_of_lt_of_le E_occ.lt (Nat.le_of_eq g2.symm))
  have ne_oo_b2 : oo ≠ b2 := Nat.ne_of_lt (Nat.lt_of_lt_of_le E_oo.lt (Nat.le_of_eq g2.symm))
  have ne_oc_b2 : oc ≠ b2 := Nat.ne_of_lt (Nat.lt_of_lt_of_le E_oc.lt (Nat.le_of_eq g2.symm))
  have ge_b2 : n0 ≤ b2 := Nat.le_trans Z0 (Nat.le_of_eq g2.symm)
  have sz_b2 : h0.size ≤ b2 := Nat.le_trans (Nat.le_refl _) (Nat.le_of_eq g2.symm)
  have Z2 : n0 ≤ h2.size := Nat.le_trans Z0 E2.1
  have K2 : Keep h0 h2 [] := ((Keep.refl h0 []).ext E2)
  have f3 := (E_oo.ext E2)
  have f4 := (F_v.ext E2)
  have f5 := (E_occ.ext E2)
  have f6 := (F_c.ext E2)
  have f7 := (E_oc.ext E2)
  obtain ⟨cq8, kq8, q8a, q8b, q8c⟩ := isOf hZ e2 f3
  obtain ⟨_, _, ⟨T8, L8, kc8, ks8⟩, -, X8, ⟨Lc8, hQ8, l8, y8, z8⟩, st8⟩ := X2.virtualBack hx (y := mn17) (z := mn17) hown (mvT hZ (wd109 hw)) (mvT hZ (wd110 hw)) (notFace_of_selects (args := #[]) (mvT hZ (wd112 hw))) (mvT hZ (wd112 hw)) (mvT hZ (wd111 hw)) (by decide) (backOf (W := 0) (rmOrE l Z a0 hw [] oo b2 cK occ oc h2 n0 Z2 hLK f3 f4 C2 f5 f6 f7) hZ (wd113 hw) (wd28 hw) (by decide) (by decide)) q8a q8c (g := (mkF m 10 #[.val (.ref occ)] [(.ref b2), (.ref oo)])) rfl (by rw [hml]; rfl) (Steps.refl _) (argsL := [(.ref b2)]) (rest := []) (lenOf pd__Ljava_util_function_Supplier__Ljava_util_Optional_ rfl) rfl (by show 2 * 0 + _ ≤ _; exact Nat.le_of_eq rfl) (hb hby dn_10) (fun _ _ => ⟨rfl, e2, (by decide : 1 + 0 ≤ _), (by decide : 1 + 0 ≤ _)⟩)
  dsimp only [Pt.U, Pt.locs, Pt.cells, Pt.slots] at X8 l8 y8 z8 st8 hQ8
  subst l8 y8 z8
  obtain ⟨rfl, Nq8, eq8⟩ := hQ8
  have N8 := Fr.app N0 Nq8
  obtain ⟨lfs, lhr, lhrun, lhended, lhW, lhsame⟩ := X8.leave (v := some (.ref oc)) (fun h => by rw [Bd.returns] at h; cases h)
  refine ⟨_, _, pre0 _ ?_, lhrun, lhended, _, _, rfl, ?_, ⟨_, rfl⟩, lhW, lhsame.mono (by decide) (by decide)⟩
  · skip
    show Steps p.tables e below (s₁.setTop (mkF m 0 #[.val (.ref occ)] [])) _
    refine XS.aloadN X0.here hx rfl (hb hby dn_0) rfl rfl ?_
    show Steps p.tables e below (s₁.setTop (mkF m 1 #[.val (.ref occ)] [(.ref occ)])) _
    refine st1 _ ?_
    show Steps p.tables e below (T1.setTop (mkF m 4 #[.val (.ref occ)] [(.ref oo)])) _
    refine XS.aloadN X1.here hx rfl (hb hby dn_4) rfl rfl ?_
    show Steps p.tables e below (T1.setTop (mkF m 5 #[.val (.ref occ)] [(.ref occ), (.ref oo)])) _
    refine st2 _ ?_
    show Steps p.tables e below (T2.setTop (mkF m 10 #[.val (.ref occ)] [(.ref b2), (.ref oo)])) _
    refine st8.trans ?_
    show Steps p.tables e below (T8.setTop (mkF m 13 #[.val (.ref occ)] [(.ref oc)])) _
    exact retOut X8 hx Bd.returns rfl (Or.inr (Or.inr (Or.inr (Or.inr ⟨rfl, rfl, rfl⟩)))) (hb hby dn_13) lhr
  · skip
    show QMsE Z occ oo oc h0 n0 _ T8.heap _
    rw [eq8]
    exact ⟨rfl, N8, K2⟩
theorem efa_jdk_32_method_1_code_ (m : MethodId)  : entryFrame m #[] 1 = mkF m 0 #[.unset] [] := by first | (simp [entryFrame, mkF, argsToLocals, Value.category]; done) | rfl
theorem dp_0 : decode jdk_32_method_1_code 0 = .ok (.getstatic 1, 3) := by decide +kernel
theorem dp_3 : decode jdk_32_method_1_code 3 = .ok (.astore_n 0, 1) := by decide +kernel
theorem dp_4 : decode jdk_32_method_1_code 4 = .ok (.aload_n 0, 1) := by decide +kernel
theorem dp_5 : decode jdk_32_method_1_code 5 = .ok (.areturn, 1) := by decide +kernel
def QA6 (Z : State) (o0 : Addr) (h0 : Heap) (n0 : Nat) (v : Option Value) (h : Heap) (L : List Loc) : Prop := v = some (.ref o0) ∧ Fr n0 L ∧ h = h0
set_option maxRecDepth 65536 in
set_option maxHeartbeats 40000000 in
theorem rmA6 (l : Launch) (Z : State) (a0 : Array Value) (hw : ∀ d ∈ tables_1, d.before a0 Z = true) (ws : List Jvm.Cond) (o0 : Addr) (h0 : Heap) (n0 : Nat) (Z0 : n0 ≤ h0.size) (SZ_EMPTY : Sta Z Z.heap "java/util/Optional" "EMPTY" "Ljava/util/Optional;" (.ref o0)) (X00 : Old Z n0 h0) :
    MetFree l mn13 (head1 (Jvm.Cond.code mn13 jdk_32_method_1_code 1 (some (.object "java/util/Optional")) :: ws) ({ frames := 0, cells := 0, slots := 0, locals := 0 } : Room)) (fun a U => a = #[] ∧ Z.Warmed39 U.vm ∧ U.heap = h0) (fun _ _ _ _ _ => True) (fun _ U oc_ U' => ∃ v L, oc_ = .returned v ∧ QA6 Z o0 h0 n0 v U'.heap L ∧ FrameEnd U oc_ U' L ({ frames := 0, cells := 0, slots := 0, locals := 0 } : Room).cells ({ frames := 0, cells := 0, slots := 0, locals := 0 } : Room).slots) := by
  refine MetFree.of_bodySF (plainFor_of_name pn_java_util_Optional) hisR ?_
  intro p e s m args below meth c s₁ Bd hml0 hP hK
  obtain ⟨rfl, hZ, hh⟩ := hP
  have hx := Bd.exec
  have hby := Bd.bytes
  have hml : c.maxLocals = 1 := hml0
  have hown : s.vm.findClass "java/util/Optional" = some m.cls := findClass_of_methodNamed Bd.named
  have hnm := (name_of_methodNamed Bd.named Bd.method).1
  have X0 : Stand p l e ({ frames := 0, cells := 0, slots := 0, locals := 0 } : Room) s m #[] below meth c s₁ [] 0 0 := Stand.of_body Bd
  have e0 : s₁.heap = h0 := by rw [← hh, Bd.state]; rfl
  have N0 := Fr.nil n0
  have pre0 : ∀ t, Steps p.tables e below (s₁.setTop (mkF m 0 #[.unset] [])) t → Steps p.tables e below (s₁.setTop (entryFrame m #[] 1)) t := fun t k => castTop (efa_jdk_32_method_1_code_ m ) k
  obtain ⟨T1, X1, e1, st1⟩ := getS2 X0 hx hZ hown (host := "") (Or.inl (wd30 hw)) Via.refl e0 (SZ_EMPTY.ext X00.2) (g := (mkF m 0 #[.unset] [])) rfl (hb hby dp_0)
  obtain ⟨lfs, lhr, lhrun, lhended, lhW, lhsame⟩ := X1.leave (v := some (.ref o0)) (fun h => by rw [Bd.returns] at h; cases h)
  refine ⟨_, _, pre0 _ ?_, lhrun, lhended, _, _, rfl, ?_, ⟨_, rfl⟩, lhW, lhsame.mono (by decide) (by decide)⟩
  · skip
    show Steps p.tables e below (s₁.setTop (mkF m 0 #[.unset] [])) _
    refine st1 _ ?_
    show Steps p.tables e below (T1.setTop (mkF m 3 #[.unset] [(.ref o0)])) _
    refine XS.astoreN X1.here hx rfl (hb hby dp_3) rfl rfl (l' := #[.val (.ref o0)]) rfl ?_
    show Steps p.tables e below (T1.setTop (mkF m 4 #[.val (.ref o0)] [])) _
    refine XS.aloadN X1.here hx rfl (hb hby dp_4) rfl rfl ?_
    show Steps p.tables e below (T1.setTop (mkF m 5 #[.val (.ref o0)] [(.ref o0)])) _
    exact retOut X1 hx Bd.returns rfl (Or.inr (Or.inr (Or.inr (Or.inr ⟨rfl, rfl, rfl⟩)))) (hb hby dp_5) lhr
  · skip
    show QA6 Z o0 h0 n0 _ T1.heap _
    rw [e1]
    exact ⟨rfl, N0, rfl⟩
theorem efa_jdk_38_method_2_code_v (m : MethodId) (x0 : Addr) : entryFrame m #[(.ref x0)] 1 = mkF m 0 #[.val (.ref x0)] [] := by first | (simp [entryFrame, mkF, argsToLocals, Value.category]; done) | rfl
theorem dj_0 : decode jdk_38_method_2_code 0 = .ok (.aload_n 0, 1) := by decide +kernel
theorem dj_1 : decode jdk_38_method_2_code 1 = .ok (.invokespecial 1, 3) := by decide +kernel
theorem efa_jdk_39_method_1_code_v (m : MethodId) (x0 : Addr) : entryFrame m #[(.ref x0)] 1 = mkF m 0 #[.val (.ref x0)] [] := by first | (simp [entryFrame, mkF, argsToLocals, Value.category]; done) | rfl
theorem dk_0 : decode jdk_39_method_1_code 0 = .ok (.aload_n 0, 1) := by decide +kernel
theorem dk_1 : decode jdk_39_method_1_code 1 = .ok (.invokespecial 1, 3) := by decide +kernel
theorem efa_jdk_22_method_1_code_v (m : MethodId) (x0 : Addr) : entryFrame m #[(.ref x0)] 1 = mkF m 0 #[.val (.ref x0)] [] := by first | (simp [entryFrame, mkF, argsToLocals, Value.category]; done) | rfl
theorem df_0 : decode jdk_22_method_1_code 0 = .ok (.aload_n 0, 1) := by decide +kernel
theorem df_1 : decode jdk_22_method_1_code 1 = .ok (.invokespecial 1, 3) := by decide +kernel
theorem df_4 : decode jdk_22_method_1_code 4 = .ok (.return_, 1) := by decide +kernel
def QA10 (Z : State) (o0 : Addr) (h0 : Heap) (n0 : Nat) (v : Option Value) (h : Heap) (L : List Loc) : Prop := v = none ∧ Fr n0 L ∧ h = h0
set_option maxRecDepth 65536 in
set_option maxHeartbeats 40000000 in
theorem rmA10 (l : Launch) (Z : State) (a0 : Array Value) (hw : ∀ d ∈ tables_1, d.before a0 Z = true) (ws : List Jvm.Cond) (o0 : Addr) (h0 : Heap) (n0 : Nat) (Z0 : n0 ≤ h0.size) :
    MetFree l mn8 (head1 (Jvm.Cond.code mn8 jdk_22_method_1_code 1 none :: ws) ({ frames := 1, cells := 0, slots := 0, locals := 12 } : Room)) (fun a U => a = #[(.ref o0)] ∧ Z.Warmed39 U.vm ∧ U.heap = h0) (fun _ _ _ _ _ => True) (fun _ U oc_ U' => ∃ v L, oc_ = .returned v ∧ QA10 Z o0 h0 n0 v U'.heap L ∧ FrameEnd U oc_ U' L ({ frames := 1, cells := 0, slots := 0, locals := 12 } : Room).cells ({ frames := 1, cells := 0, slots := 0, locals := 12 } : Room).slots) := by
  refine MetFree.of_bodySF (plainFor_of_name pn_java_util_AbstractCollection) hisR ?_
  intro p e s m args below meth c s₁ Bd hml0 hP hK
  obtain ⟨rfl, hZ, hh⟩ := hP
  have hx := Bd.exec
  have hby := Bd.bytes
  have hml : c.maxLocals = 1 := hml0
  have hown : s.vm.findClass "java/util/AbstractCollection" = some m.cls := findClass_of_methodNamed Bd.named
  have hnm := (name_of_methodNamed Bd.named Bd.method).1
  have X0 : Stand p l e ({ frames := 1, cells := 0, slots := 0, locals := 12 } : Room) s m #[(.ref o0)] below meth c s₁ [] 0 0 := Stand.of_body Bd
  have e0 : s₁.heap = h0 := by rw [← hh, Bd.state]; rfl
  have N0 := Fr.nil n0
  have pre0 : ∀ t, Steps p.tables e below (s₁.setTop (mkF m 0 #[.val (.ref o0)] [])) t → Steps p.tables e below (s₁.setTop (entryFrame m #[(.ref o0)] 1)) t := fun t k => castTop (efa_jdk_22_method_1_code_v m o0) k
  obtain ⟨T1, X1, e1, st1⟩ := initO X0 hx hZ hown (wd65 hw) (wd16 hw) (wd17 hw) e0 (g := (mkF m 1 #[.val (.ref o0)] [(.ref o0)])) rfl (by rw [hml]; rfl) rfl (hb hby df_1) (by decide) (W := 0) (by show 2 * 0 + _ ≤ _; exact Nat.le_of_eq rfl) (by decide)
  obtain ⟨lfs, lhr, lhrun, lhended, lhW, lhsame⟩ := X1.leave (v := none) (fun _ => rfl)
  refine ⟨_, _, pre0 _ ?_, lhrun, lhended, _, _, rfl, ?_, ⟨_, rfl⟩, lhW, lhsame.mono (by decide) (by decide)⟩
  · skip
    show Steps p.tables e below (s₁.setTop (mkF m 0 #[.val (.ref o0)] [])) _
    refine XS.aloadN X0.here hx rfl (hb hby df_0) rfl rfl ?_
    show Steps p.tables e below (s₁.setTop (mkF m 1 #[.val (.ref o0)] [(.ref o0)])) _
    refine st1 _ ?_
    show Steps p.tables e below (T1.setTop (mkF m 4 #[.val (.ref o0)] [])) _
    exact X1.returnOut hx Bd.returns (hb hby df_4) lhr
  · skip
    show QA10 Z o0 h0 n0 _ T1.heap _
    rw [e1]
    exact ⟨rfl, N0, rfl⟩
theorem dk_4 : decode jdk_39_method_1_code 4 = .ok (.aload_n 0, 1) := by decide +kernel
theorem dk_5 : decode jdk_39_method_1_code 5 = .ok (.iconst 0, 1) := by decide +kernel
theorem dk_6 : decode jdk_39_method_1_code 6 = .ok (.putfield 7, 3) := by decide +kernel
theorem dk_9 : decode jdk_39_method_1_code 9 = .ok (.return_, 1) := by decide +kernel
def QA9 (Z : State) (o0 : Addr) (u100 : Value) (h0 : Heap) (n0 : Nat) (v : Option Value) (h : Heap) (L : List Loc) : Prop := v = none ∧ Fr n0 L ∧ Keep h0 h [o0] ∧ Exa Z h o0 "java/util/ArrayList" ∧ Fld Z h o0 "java/util/AbstractList" "modCount" "I" (.int (0 : Int32)) ∧ Fld Z h o0 "java/util/ArrayList" "elementData" "[Ljava/lang/Object;" u100
set_option maxRecDepth 65536 in
set_option maxHeartbeats 40000000 in
theorem rmA9 (l : Launch) (Z : State) (a0 : Array Value) (hw : ∀ d ∈ tables_1, d.before a0 Z = true) (ws : List Jvm.Cond) (o0 : Addr) (u100 : Value) (h0 : Heap) (n0 : Nat) (Z0 : n0 ≤ h0.size) (E_o0 : Exa Z h0 o0 "java/util/ArrayList") (F_o0_modCount : Fld Z h0 o0 "java/util/AbstractList" "modCount" "I" (.int (0 : Int32))) (g_o0 : n0 ≤ o0) (F_o0_elementData : Fld Z h0 o0 "java/util/ArrayList" "elementData" "[Ljava/lang/Object;" u100) :
    MetFree l mn9 (head1 (Jvm.Cond.code mn9 jdk_39_method_1_code 1 none :: ws) ({ frames := 2, cells := 0, slots := 0, locals := 24 } : Room)) (fun a U => a = #[(.ref o0)] ∧ Z.Warmed39 U.vm ∧ U.heap = h0) (fun _ _ _ _ _ => True) (fun _ U oc_ U' => ∃ v L, oc_ = .returned v ∧ QA9 Z o0 u100 h0 n0 v U'.heap L ∧ FrameEnd U oc_ U' L ({ frames := 2, cells := 0, slots := 0, locals := 24 } : Room).cells ({ frames := 2, cells := 0, slots := 0, locals := 24 } : Room).slots) := by
  refine MetFree.of_bodySF (plainFor_of_name pn_java_util_AbstractList) hisR ?_
  intro p e s m args below meth c s₁ Bd hml0 hP hK
  obtain ⟨rfl, hZ, hh⟩ := hP
  have hx := Bd.exec
  have hby := Bd.bytes
  have hml : c.maxLocals = 1 := hml0
  have hown : s.vm.findClass "java/util/AbstractList" = some m.cls := findClass_of_methodNamed Bd.named
  have hnm := (name_of_methodNamed Bd.named Bd.method).1
  have X0 : Stand p l e ({ frames := 2, cells := 0, slots := 0, locals := 24 } : Room) s m #[(.ref o0)] below meth c s₁ [] 0 0 := Stand.of_body Bd
  have e0 : s₁.heap = h0 := by rw [← hh, Bd.state]; rfl
  have N0 := Fr.nil n0
  have pre0 : ∀ t, Steps p.tables e below (s₁.setTop (mkF m 0 #[.val (.ref o0)] [])) t → Steps p.tables e below (s₁.setTop (entryFrame m #[(.ref o0)] 1)) t := fun t k => castTop (efa_jdk_39_method_1_code_v m o0) k
  obtain ⟨_, _, ⟨T1, L1, kc1, ks1⟩, -, X1, ⟨Lc1, hQ1, l1, y1, z1⟩, st1⟩ := X0.specialBack hx (y := mn8) rfl hown (mvT hZ (wd59 hw)) (mvT hZ (wd60 hw)) (mvT hZ (wd64 hw)) (by decide) (backOf (W := 0) (rmA10 l Z a0 hw [] o0 h0 n0 Z0 ) hZ (wd64 hw) (wd63 hw) (by decide) (by decide)) (g := (mkF m 1 #[.val (.ref o0)] [(.ref o0)])) rfl (by rw [hml]; rfl) (Steps.refl _) (a := o0) (argsL := []) (rest := []) (lenOf pd___V rfl) rfl (by show 2 * 0 + _ ≤ _; exact Nat.le_of_eq rfl) (hb hby dk_1) (fun _ _ => ⟨rfl, e0, (by decide : 0 + 0 ≤ _), (by decide : 0 + 0 ≤ _)⟩)
  dsimp only [Pt.U, Pt.locs, Pt.cells, Pt.slots] at X1 l1 y1 z1 st1 hQ1
  subst l1 y1 z1
  obtain ⟨rfl, Nq1, eq1⟩ := hQ1
  have N1 := Fr.app N0 Nq1
  obtain ⟨T2, h2, X2, e2, W2, st2⟩ := putF X1 hx hZ hown (host := "") (Or.inl (wd66 hw)) Via.refl eq1 F_o0_modCount E_o0 (Or.inl (wd67 hw)) (wd48 hw) (ty := .int) (by decide) rfl rfl (g := (mkF m 6 #[.val (.ref o0)] [(.int (0 : Int32)), (.ref o0)])) rfl rfl (hb hby dk_6)
  have N2 := Fr.snoc X2 N1 g_o0
  have Z2 : n0 ≤ h2.size := by rw [W2.size]; exact Z0
  have K2 : Keep h0 h2 [o0] := ((Keep.refl h0 [o0]).wr W2 (Or.inl (List.mem_of_getElem? (i := 0) rfl)))
  have Fw2 := F_o0_modCount.same W2
  have f3 := (E_o0.wr W2)
  have f4 := (F_o0_elementData.other W2 (Or.inr (slot_ne (Or.inl (wd70 hw)) (Or.inl (wd67 hw)) (by decide) (t := (.array (.object "java/lang/Object"))) (t' := .int) (by decide) (by decide))))
  obtain ⟨lfs, lhr, lhrun, lhended, lhW, lhsame⟩ := X2.leave (v := none) (fun _ => rfl)
  refine ⟨_, _, pre0 _ ?_, lhrun, lhended, _, _, rfl, ?_, ⟨_, rfl⟩, lhW, lhsame.mono (by decide) (by decide)⟩
  · skip
    show Steps p.tables e below (s₁.setTop (mkF m 0 #[.val (.ref o0)] [])) _
    refine XS.aloadN X0.here hx rfl (hb hby dk_0) rfl rfl ?_
    show Steps p.tables e below (s₁.setTop (mkF m 1 #[.val (.ref o0)] [(.ref o0)])) _
    refine st1.trans ?_
    show Steps p.tables e below (T1.setTop (mkF m 4 #[.val (.ref o0)] [])) _
    refine XS.aloadN X1.here hx rfl (hb hby dk_4) rfl rfl ?_
    show Steps p.tables e below (T1.setTop (mkF m 5 #[.val (.ref o0)] [(.ref o0)])) _
    refine XS.iconst X1.here hx rfl (hb hby dk_5) ?_
    show Steps p.tables e below (T1.setTop (mkF m 6 #[.val (.ref o0)] [(.int (0 : Int32)), (.ref o0)])) _
    refine st2 _ ?_
    show Steps p.tables e below (T2.setTop (mkF m 9 #[.val (.ref o0)] [])) _
    exact X2.returnOut hx Bd.returns (hb hby dk_9) lhr
  · skip
    show QA9 Z o0 u100 h0 n0 _ T2.heap _
    rw [e2]
    exact ⟨rfl, N2, K2, f3, Fw2, f4⟩
theorem dj_4 : decode jdk_38_method_2_code 4 = .ok (.aload_n 0, 1) := by decide +kernel
theorem dj_5 : decode jdk_38_method_2_code 5 = .ok (.getstatic 39, 3) := by decide +kernel
theorem dj_8 : decode jdk_38_method_2_code 8 = .ok (.putfield 9, 3) := by decide +kernel
theorem dj_11 : decode jdk_38_method_2_code 11 = .ok (.return_, 1) := by decide +kernel
def QA8 (Z : State) (o0 : Addr) (o1 : Addr) (h0 : Heap) (n0 : Nat) (v : Option Value) (h : Heap) (L : List Loc) : Prop := v = none ∧ Fr n0 L ∧ Keep h0 h [o0] ∧ Fld Z h o0 "java/util/AbstractList" "modCount" "I" (.int (0 : Int32)) ∧ Fld Z h o0 "java/util/ArrayList" "elementData" "[Ljava/lang/Object;" (.ref o1) ∧ Exa Z h o0 "java/util/ArrayList"
set_option maxRecDepth 65536 in
set_option maxHeartbeats 40000000 in
theorem rmA8 (l : Launch) (Z : State) (a0 : Array Value) (hw : ∀ d ∈ tables_1, d.before a0 Z = true) (ws : List Jvm.Cond) (o0 : Addr) (o1 : Addr) (h0 : Heap) (n0 : Nat) (Z0 : n0 ≤ h0.size) (F_o0_modCount : Fld Z h0 o0 "java/util/AbstractList" "modCount" "I" (.int (0 : Int32))) (F_o0_elementData : Fld Z h0 o0 "java/util/ArrayList" "elementData" "[Ljava/lang/Object;" .null) (E_o0 : Exa Z h0 o0 "java/util/ArrayList") (g_o0 : n0 ≤ o0) (SZ_DEFAULTCAPACITY_EMPTY_ELEMENTDATA : Sta Z Z.heap "java/util/ArrayList" "DEFAULTCAPACITY_EMPTY_ELEMENTDATA" "[Ljava/lang/Object;" (.ref o1)) (X00 : Old Z n0 h0) :
    MetFree l mn10 (head1 (Jvm.Cond.code mn10 jdk_38_method_2_code 1 none :: ws) ({ frames := 3, cells := 0, slots := 0, locals := 36 } : Room)) (fun a U => a = #[(.ref o0)] ∧ Z.Warmed39 U.vm ∧ U.heap = h0) (fun _ _ _ _ _ => True) (fun _ U oc_ U' => ∃ v L, oc_ = .returned v ∧ QA8 Z o0 o1 h0 n0 v U'.heap L ∧ FrameEnd U oc_ U' L ({ frames := 3, cells := 0, slots := 0, locals := 36 } : Room).cells ({ frames := 3, cells := 0, slots := 0, locals := 36 } : Room).slots) := by
  refine MetFree.of_bodySF (plainFor_of_name pn_java_util_ArrayList) hisR ?_
  intro p e s m args below meth c s₁ Bd hml0 hP hK
  obtain ⟨rfl, hZ, hh⟩ := hP
  have hx := Bd.exec
  have hby := Bd.bytes
  have hml : c.maxLocals = 1 := hml0
  have hown : s.vm.findClass "java/util/ArrayList" = some m.cls := findClass_of_methodNamed Bd.named
  have hnm := (name_of_methodNamed Bd.named Bd.method).1
  have X0 : Stand p l e ({ frames := 3, cells := 0, slots := 0, locals := 36 } : Room) s m #[(.ref o0)] below meth c s₁ [] 0 0 := Stand.of_body Bd
  have e0 : s₁.heap = h0 := by rw [← hh, Bd.state]; rfl
  have N0 := Fr.nil n0
  have pre0 : ∀ t, Steps p.tables e below (s₁.setTop (mkF m 0 #[.val (.ref o0)] [])) t → Steps p.tables e below (s₁.setTop (entryFrame m #[(.ref o0)] 1)) t := fun t k => castTop (efa_jdk_38_method_2_code_v m o0) k
  obtain ⟨_, _, ⟨T1, L1, kc1, ks1⟩, -, X1, ⟨Lc1, hQ1, l1, y1, z1⟩, st1⟩ := X0.specialBack hx (y := mn9) rfl hown (mvT hZ (wd53 hw)) (mvT hZ (wd54 hw)) (mvT hZ (wd58 hw)) (by decide) (backOf (W := 0) (rmA9 l Z a0 hw [] o0 .null h0 n0 Z0 E_o0 F_o0_modCount g_o0 F_o0_elementData) hZ (wd58 hw) (wd57 hw) (by decide) (by decide)) (g := (mkF m 1 #[.val (.ref o0)] [(.ref o0)])) rfl (by rw [hml]; rfl) (Steps.refl _) (a := o0) (argsL := []) (rest := []) (lenOf pd___V rfl) rfl (by show 2 * 0 + _ ≤ _; exact Nat.le_of_eq rfl) (hb hby dj_1) (fun _ _ => ⟨rfl, e0, (by decide : 0 + 0 ≤ _), (by decide : 0 + 0 ≤ _)⟩)
  dsimp only [Pt.U, Pt.locs, Pt.cells, Pt.slots] at X1 l1 y1 z1 st1 hQ1
  subst l1 y1 z1
  obtain ⟨rfl, Nq1, Kq1, g1_0, g1_1, g1_2⟩ := hQ1
  have N1 := Fr.app N0 Nq1
  have Z1 : n0 ≤ T1.heap.size := Nat.le_trans Z0 Kq1.1
  have K1 : Keep h0 T1.heap [o0] := Keep.trans (Keep.refl h0 [o0]) Kq1 (allS (Or.inl (List.mem_of_getElem? (i := 0) rfl)) all0)
  have f2 := (X00.keep Kq1 (allS g_o0 all0))
  obtain ⟨T3, X3, e3, st3⟩ := getS2 X1 hx hZ hown (host := "") (Or.inl (wd68 hw)) Via.refl rfl (SZ_DEFAULTCAPACITY_EMPTY_ELEMENTDATA.ext f2.2) (g := (mkF m 5 #[.val (.ref o0)] [(.ref o0)])) rfl (hb hby dj_5)
  obtain ⟨T4, h4, X4, e4, W4, st4⟩ := putF X3 hx hZ hown (host := "") (Or.inl (wd69 hw)) Via.refl e3 g1_2 g1_0 (Or.inl (wd70 hw)) (wd48 hw) (ty := (.array (.object "java/lang/Object"))) (by decide) rfl rfl (g := (mkF m 8 #[.val (.ref o0)] [(.ref o1), (.ref o0)])) rfl rfl (hb hby dj_8)
  have N4 := Fr.snoc X4 N1 g_o0
  have Z4 : n0 ≤ h4.size := by rw [W4.size]; exact Z1
  have K4 : Keep h0 h4 [o0] := (K1.wr W4 (Or.inl (List.mem_of_getElem? (i := 0) rfl)))
  have Fw4 := g1_2.same W4
  have f5 := (g1_1.other W4 (Or.inr (slot_ne (Or.inl (wd67 hw)) (Or.inl (wd70 hw)) (by decide) (t := .int) (t' := (.array (.object "java/lang/Object"))) (by decide) (by decide))))
  have f6 := (g1_0.wr W4)
  obtain ⟨lfs, lhr, lhrun, lhended, lhW, lhsame⟩ := X4.leave (v := none) (fun _ => rfl)
  refine ⟨_, _, pre0 _ ?_, lhrun, lhended, _, _, rfl, ?_, ⟨_, rfl⟩, lhW, lhsame.mono (by decide) (by decide)⟩
  · skip
    show Steps p.tables e below (s₁.setTop (mkF m 0 #[.val (.ref o0)] [])) _
    refine XS.aloadN X0.here hx rfl (hb hby dj_0) rfl rfl ?_
    show Steps p.tables e below (s₁.setTop (mkF m 1 #[.val (.ref o0)] [(.ref o0)])) _
    refine st1.trans ?_
    show Steps p.tables e below (T1.setTop (mkF m 4 #[.val (.ref o0)] [])) _
    refine XS.aloadN X1.here hx rfl (hb hby dj_4) rfl rfl ?_
    show Steps p.tables e below (T1.setTop (mkF m 5 #[.val (.ref o0)] [(.ref o0)])) _
    refine st3 _ ?_
    show Steps p.tables e below (T3.setTop (mkF m 8 #[.val (.ref o0)] [(.ref o1), (.ref o0)])) _
    refine st4 _ ?_
    show Steps p.tables e below (T4.setTop (mkF m 11 #[.val (.ref o0)] [])) _
    exact X4.returnOut hx Bd.returns (hb hby dj_11) lhr
  · skip
    show QA8 Z o0 o1 h0 n0 _ T4.heap _
    rw [e4]
    exact ⟨rfl, N4, K4, f5, Fw4, f6⟩
theorem efa_prog_9_method_1_code_vvvvvvvvv (m : MethodId) (x0 : Addr) (x1 : Addr) (x2 : Int32) (x3 : Addr) (x4 : Addr) (x5 : Addr) (x6 : Addr) (x7 : Addr) (x8 : Addr) : entryFrame m #[(.ref x0), (.ref x1), (.int x2), (.ref x3), (.ref x4), (.ref x5), (.ref x6), (.ref x7), (.ref x8)] 9 = mkF m 0 #[.val (.ref x0), .val (.ref x1), .val (.int x2), .val (.ref x3), .val (.ref x4), .val (.ref x5), .val (.ref x6), .val (.ref x7), .val (.ref x8)] [] := by first | (simp [entryFrame, mkF, argsToLocals, Value.category]; done) | rfl
theorem dg_0 : decode prog_9_method_1_code 0 = .ok (.aload_n 0, 1) := by decide +kernel
theorem dg_1 : decode prog_9_method_1_code 1 = .ok (.invokespecial 1, 3) := by decide +kernel
theorem efa_jdk_30_method_1_code_v (m : MethodId) (x0 : Addr) : entryFrame m #[(.ref x0)] 1 = mkF m 0 #[.val (.ref x0)] [] := by first | (simp [entryFrame, mkF, argsToLocals, Value.category]; done) | rfl
theorem dh_0 : decode jdk_30_method_1_code 0 = .ok (.aload_n 0, 1) := by decide +kernel
theorem dh_1 : decode jdk_30_method_1_code 1 = .ok (.invokespecial 1, 3) := by decide +kernel
theorem dh_4 : decode jdk_30_method_1_code 4 = .ok (.return_, 1) := by decide +kernel
def QA15 (Z : State) (o0 : Addr) (h0 : Heap) (n0 : Nat) (v : Option Value) (h : Heap) (L : List Loc) : Prop := v = none ∧ Fr n0 L ∧ h = h0
set_option maxRecDepth 65536 in
set_option maxHeartbeats 40000000 in
theorem rmA15 (l : Launch) (Z : State) (a0 : Array Value) (hw : ∀ d ∈ tables_1, d.before a0 Z = true) (ws : List Jvm.Cond) (o0 : Addr) (h0 : Heap) (n0 : Nat) (Z0 : n0 ≤ h0.size) :
    MetFree l mn4 (head1 (Jvm.Cond.code mn4 jdk_30_method_1_code 1 none :: ws) ({ frames := 1, cells := 0, slots := 0, locals := 12 } : Room)) (fun a U => a = #[(.ref o0)] ∧ Z.Warmed39 U.vm ∧ U.heap = h0) (fun _ _ _ _ _ => True) (fun _ U oc_ U' => ∃ v L, oc_ = .returned v ∧ QA15 Z o0 h0 n0 v U'.heap L ∧ FrameEnd U oc_ U' L ({ frames := 1, cells := 0, slots := 0, locals := 12 } : Room).cells ({ frames := 1, cells := 0, slots := 0, locals := 12 } : Room).slots) := by
  refine MetFree.of_bodySF (plainFor_of_name pn_java_lang_Record) hisR ?_
  intro p e s m args below meth c s₁ Bd hml0 hP hK
  obtain ⟨rfl, hZ, hh⟩ := hP
  have hx := Bd.exec
  have hby := Bd.bytes
  have hml : c.maxLocals = 1 := hml0
  have hown : s.vm.findClass "java/lang/Record" = some m.cls := findClass_of_methodNamed Bd.named
  have hnm := (name_of_methodNamed Bd.named Bd.method).1
  have X0 : Stand p l e ({ frames := 1, cells := 0, slots := 0, locals := 12 } : Room) s m #[(.ref o0)] below meth c s₁ [] 0 0 := Stand.of_body Bd
  have e0 : s₁.heap = h0 := by rw [← hh, Bd.state]; rfl
  have N0 := Fr.nil n0
  have pre0 : ∀ t, Steps p.tables e below (s₁.setTop (mkF m 0 #[.val (.ref o0)] [])) t → Steps p.tables e below (s₁.setTop (entryFrame m #[(.ref o0)] 1)) t := fun t k => castTop (efa_jdk_30_method_1_code_v m o0) k
  obtain ⟨T1, X1, e1, st1⟩ := initO X0 hx hZ hown (wd83 hw) (wd16 hw) (wd17 hw) e0 (g := (mkF m 1 #[.val (.ref o0)] [(.ref o0)])) rfl (by rw [hml]; rfl) rfl (hb hby dh_1) (by decide) (W := 0) (by show 2 * 0 + _ ≤ _; exact Nat.le_of_eq rfl) (by decide)
  obtain ⟨lfs, lhr, lhrun, lhended, lhW, lhsame⟩ := X1.leave (v := none) (fun _ => rfl)
  refine ⟨_, _, pre0 _ ?_, lhrun, lhended, _, _, rfl, ?_, ⟨_, rfl⟩, lhW, lhsame.mono (by decide) (by decide)⟩
  · skip
    show Steps p.tables e below (s₁.setTop (mkF m 0 #[.val (.ref o0)] [])) _
    refine XS.aloadN X0.here hx rfl (hb hby dh_0) rfl rfl ?_
    show Steps p.tables e below (s₁.setTop (mkF m 1 #[.val (.ref o0)] [(.ref o0)])) _
    refine st1 _ ?_
    show Steps p.tables e below (T1.setTop (mkF m 4 #[.val (.ref o0)] [])) _
    exact X1.returnOut hx Bd.returns (hb hby dh_4) lhr
  · skip
    show QA15 Z o0 h0 n0 _ T1.heap _
    rw [e1]
    exact ⟨rfl, N0, rfl⟩
theorem dg_4 : decode prog_9_method_1_code 4 = .ok (.aload_n 0, 1) := by decide +kernel
theorem dg_5 : decode prog_9_method_1_code 5 = .ok (.aload_n 1, 1) := by decide +kernel
theorem dg_6 : decode prog_9_method_1_code 6 = .ok (.putfield 7, 3) := by decide +kernel
theorem dg_9 : decode prog_9_method_1_code 9 = .ok (.aload_n 0, 1) := by decide +kernel
theorem dg_10 : decode prog_9_method_1_code 10 = .ok (.iload_n 2, 1) := by decide +kernel
theorem dg_11 : decode prog_9_method_1_code 11 = .ok (.putfield 13, 3) := by decide +kernel
theorem dg_14 : decode prog_9_method_1_code 14 = .ok (.aload_n 0, 1) := by decide +kernel
theorem dg_15 : decode prog_9_method_1_code 15 = .ok (.aload_n 3, 1) := by decide +kernel
theorem dg_16 : decode prog_9_method_1_code 16 = .ok (.putfield 17, 3) := by decide +kernel
theorem dg_19 : decode prog_9_method_1_code 19 = .ok (.aload_n 0, 1) := by decide +kernel
theorem dg_20 : decode prog_9_method_1_code 20 = .ok (.aload 4, 2) := by decide +kernel
theorem dg_22 : decode prog_9_method_1_code 22 = .ok (.putfield 21, 3) := by decide +kernel
theorem dg_25 : decode prog_9_method_1_code 25 = .ok (.aload_n 0, 1) := by decide +kernel
theorem dg_26 : decode prog_9_method_1_code 26 = .ok (.aload 5, 2) := by decide +kernel
theorem dg_28 : decode prog_9_method_1_code 28 = .ok (.putfield 24, 3) := by decide +kernel
theorem dg_31 : decode prog_9_method_1_code 31 = .ok (.aload_n 0, 1) := by decide +kernel
theorem dg_32 : decode prog_9_method_1_code 32 = .ok (.aload 6, 2) := by decide +kernel
theorem dg_34 : decode prog_9_method_1_code 34 = .ok (.putfield 27, 3) := by decide +kernel
theorem dg_37 : decode prog_9_method_1_code 37 = .ok (.aload_n 0, 1) := by decide +kernel
theorem dg_38 : decode prog_9_method_1_code 38 = .ok (.aload 7, 2) := by decide +kernel
theorem dg_40 : decode prog_9_method_1_code 40 = .ok (.putfield 30, 3) := by decide +kernel
theorem dg_43 : decode prog_9_method_1_code 43 = .ok (.aload_n 0, 1) := by decide +kernel
theorem dg_44 : decode prog_9_method_1_code 44 = .ok (.aload 8, 2) := by decide +kernel
theorem dg_46 : decode prog_9_method_1_code 46 = .ok (.putfield 33, 3) := by decide +kernel
theorem dg_49 : decode prog_9_method_1_code 49 = .ok (.return_, 1) := by decide +kernel
def QA14 (Z : State) (o0 : Addr) (o1 : Addr) (x2 : Int32) (o3 : Addr) (o4 : Addr) (h0 : Heap) (n0 : Nat) (v : Option Value) (h : Heap) (L : List Loc) : Prop := v = none ∧ Fr n0 L ∧ Keep h0 h [o0] ∧ Exa Z h o0 cn4 ∧ Fld Z h o0 cn4 "code" "Ljava/lang/String;" (.ref o1) ∧ Fld Z h o0 cn4 "status" "I" (.int x2) ∧ Fld Z h o0 cn4 "catalogueMessage" "Ljava/util/Optional;" (.ref o3) ∧ Fld Z h o0 cn4 "ownMessage" "Ljava/util/Optional;" (.ref o3) ∧ Fld Z h o0 cn4 "trace" "Ljava/util/Optional;" (.ref o3) ∧ Fld Z h o0 cn4 "moreInfo" "Ljava/util/Optional;" (.ref o3) ∧ Fld Z h o0 cn4 "target" "Ljava/util/Optional;" (.ref o3) ∧ Fld Z h o0 cn4 "details" "Ljava/util/List;" (.ref o4)
set_option maxRecDepth 65536 in
set_option maxHeartbeats 40000000 in
theorem rmA14 (l : Launch) (Z : State) (a0 : Array Value) (hw : ∀ d ∈ tables_1, d.before a0 Z = true) (ws : List Jvm.Cond) (o0 : Addr) (o1 : Addr) (x2 : Int32) (o3 : Addr) (o4 : Addr) (h0 : Heap) (n0 : Nat) (Z0 : n0 ≤ h0.size) (E_o0 : Exa Z h0 o0 cn4) (F_o0_code : Fld Z h0 o0 cn4 "code" "Ljava/lang/String;" .null) (g_o0 : n0 ≤ o0) (F_o0_status : Fld Z h0 o0 cn4 "status" "I" (.int (0 : Int32))) (F_o0_catalogueMessage : Fld Z h0 o0 cn4 "catalogueMessage" "Ljava/util/Optional;" .null) (F_o0_ownMessage : Fld Z h0 o0 cn4 "ownMessage" "Ljava/util/Optional;" .null) (F_o0_trace : Fld Z h0 o0 cn4 "trace" "Ljava/util/Optional;" .null) (F_o0_moreInfo : Fld Z h0 o0 cn4 "moreInfo" "Ljava/util/Optional;" .null) (F_o0_target : Fld Z h0 o0 cn4 "target" "Ljava/util/Optional;" .null) (F_o0_details : Fld Z h0 o0 cn4 "details" "Ljava/util/List;" .null) :
    MetFree l mn0 (head1 (Jvm.Cond.code mn0 prog_9_method_1_code 9 none :: ws) ({ frames := 2, cells := 0, slots := 0, locals := 24 } : Room)) (fun a U => a = #[(.ref o0), (.ref o1), (.int x2), (.ref o3), (.ref o3), (.ref o3), (.ref o3), (.ref o3), (.ref o4)] ∧ Z.Warmed39 U.vm ∧ U.heap = h0) (fun _ _ _ _ _ => True) (fun _ U oc_ U' => ∃ v L, oc_ = .returned v ∧ QA14 Z o0 o1 x2 o3 o4 h0 n0 v U'.heap L ∧ FrameEnd U oc_ U' L ({ frames := 2, cells := 0, slots := 0, locals := 24 } : Room).cells ({ frames := 2, cells := 0, slots := 0, locals := 24 } : Room).slots) := by
  refine MetFree.of_bodySF (plainFor_of_name pn_com_example_typed_api_errors_typedapierrors_error_Occurrence) hisR ?_
  intro p e s m args below meth c s₁ Bd hml0 hP hK
  obtain ⟨rfl, hZ, hh⟩ := hP
  have hx := Bd.exec
  have hby := Bd.bytes
  have hml : c.maxLocals = 9 := hml0
  have hown : s.vm.findClass cn4 = some m.cls := findClass_of_methodNamed Bd.named
  have hnm := (name_of_methodNamed Bd.named Bd.method).1
  have X0 : Stand p l e ({ frames := 2, cells := 0, slots := 0, locals := 24 } : Room) s m #[(.ref o0), (.ref o1), (.int x2), (.ref o3), (.ref o3), (.ref o3), (.ref o3), (.ref o3), (.ref o4)] below meth c s₁ [] 0 0 := Stand.of_body Bd
  have e0 : s₁.heap = h0 := by rw [← hh, Bd.state]; rfl
  have N0 := Fr.nil n0
  have pre0 : ∀ t, Steps p.tables e below (s₁.setTop (mkF m 0 #[.val (.ref o0), .val (.ref o1), .val (.int x2), .val (.ref o3), .val (.ref o3), .val (.ref o3), .val (.ref o3), .val (.ref o3), .val (.ref o4)] [])) t → Steps p.tables e below (s₁.setTop (entryFrame m #[(.ref o0), (.ref o1), (.int x2), (.ref o3), (.ref o3), (.ref o3), (.ref o3), (.ref o3), (.ref o4)] 9)) t := fun t k => castTop (efa_prog_9_method_1_code_vvvvvvvvv m o0 o1 x2 o3 o3 o3 o3 o3 o4) k
  obtain ⟨_, _, ⟨T1, L1, kc1, ks1⟩, -, X1, ⟨Lc1, hQ1, l1, y1, z1⟩, st1⟩ := X0.specialBack hx (y := mn4) rfl hown (mvT hZ (wd78 hw)) (mvT hZ (wd79 hw)) (mvT hZ (wd82 hw)) (by decide) (backOf (W := 0) (rmA15 l Z a0 hw [] o0 h0 n0 Z0 ) hZ (wd82 hw) (wd81 hw) (by decide) (by decide)) (g := (mkF m 1 #[.val (.ref o0), .val (.ref o1), .val (.int x2), .val (.ref o3), .val (.ref o3), .val (.ref o3), .val (.ref o3), .val (.ref o3), .val (.ref o4)] [(.ref o0)])) rfl (by rw [hml]; rfl) (Steps.refl _) (a := o0) (argsL := []) (rest := []) (lenOf pd___V rfl) rfl (by show 2 * 0 + _ ≤ _; exact Nat.le_of_eq rfl) (hb hby dg_1) (fun _ _ => ⟨rfl, e0, (by decide : 0 + 0 ≤ _), (by decide : 0 + 0 ≤ _)⟩)
  dsimp only [Pt.U, Pt.locs, Pt.cells, Pt.slots] at X1 l1 y1 z1 st1 hQ1
  subst l1 y1 z1
  obtain ⟨rfl, Nq1, eq1⟩ := hQ1
  have N1 := Fr.app N0 Nq1
  obtain ⟨T2, h2, X2, e2, W2, st2⟩ := putF X1 hx hZ hown (host := "") (Or.inl (wd84 hw)) Via.refl eq1 F_o0_code E_o0 (Or.inr ⟨(wd85 hw), rfl, hnm⟩) (wd72 hw) (ty := (.object "java/lang/String")) (by decide) rfl rfl (g := (mkF m 6 #[.val (.ref o0), .val (.ref o1), .val (.int x2), .val (.ref o3), .val (.ref o3), .val (.ref o3), .val (.ref o3), .val (.ref o3), .val (.ref o4)] [(.ref o1), (.ref o0)])) rfl rfl (hb hby dg_6)
  have N2 := Fr.snoc X2 N1 g_o0
  have Z2 : n0 ≤ h2.size := by rw [W2.size]; exact Z0
  have K2 : Keep h0 h2 [o0] := ((Keep.refl h0 [o0]).wr W2 (Or.inl (List.mem_of_getElem? (i := 0) rfl)))
  have Fw2 := F_o0_code.same W2
  have f3 := (E_o0.wr W2)
  have f4 := (F_o0_status.other W2 (Or.inr (slot_ne (Or.inr (wd87 hw)) (Or.inr (wd85 hw)) (by decide) (t := .int) (t' := (.object "java/lang/String")) (by decide) (by decide))))
  obtain ⟨T5, h5, X5, e5, W5, st5⟩ := putF X2 hx hZ hown (host := "") (Or.inl (wd86 hw)) Via.refl e2 f4 f3 (Or.inr ⟨(wd87 hw), rfl, hnm⟩) (wd72 hw) (ty := .int) (by decide) rfl rfl (g := (mkF m 11 #[.val (.ref o0), .val (.ref o1), .val (.int x2), .val (.ref o3), .val (.ref o3), .val (.ref o3), .val (.ref o3), .val (.ref o3), .val (.ref o4)] [(.int x2), (.ref o0)])) rfl rfl (hb hby dg_11)
  have N5 := Fr.snoc X5 N2 g_o0
  have Z5 : n0 ≤ h5.size := by rw [W5.size]; exact Z2
  have K5 : Keep h0 h5 [o0] := (K2.wr W5 (Or.inl (List.mem_of_getElem? (i := 0) rfl)))
  have Fw5 := f4.same W5
  have f6 := (f3.wr W5)
  have f7 := ((F_o0_catalogueMessage.other W2 (Or.inr (slot_ne (Or.inr (wd89 hw)) (Or.inr (wd85 hw)) (by decide) (t := (.object "java/util/Optional")) (t' := (.object "java/lang/String")) (by decide) (by decide)))).other W5 (Or.inr (slot_ne (Or.inr (wd89 hw)) (Or.inr (wd87 hw)) (by decide) (t := (.object "java/util/Optional")) (t' := .int) (by decide) (by decide))))
  obtain ⟨T8, h8, X8, e8, W8, st8⟩ := putF X5 hx hZ hown (host := "") (Or.inl (wd88 hw)) Via.refl e5 f7 f6 (Or.inr ⟨(wd89 hw), rfl, hnm⟩) (wd72 hw) (ty := (.object "java/util/Optional")) (by decide) rfl rfl (g := (mkF m 16 #[.val (.ref o0), .val (.ref o1), .val (.int x2), .val (.ref o3), .val (.ref o3), .val (.ref o3), .val (.ref o3), .val (.ref o3), .val (.ref o4)] [(.ref o3), (.ref o0)])) rfl rfl (hb hby dg_16)
  have N8 := Fr.snoc X8 N5 g_o0
  have Z8 : n0 ≤ h8.size := by rw [W8.size]; exact Z5
  have K8 : Keep h0 h8 [o0] := (K5.wr W8 (Or.inl (List.mem_of_getElem? (i := 0) rfl)))
  have Fw8 := f7.same W8
  have f9 := (f6.wr W8)
  have f10 := (((F_o0_ownMessage.other W2 (Or.inr (slot_ne (Or.inr (wd91 hw)) (Or.inr (wd85 hw)) (by decide) (t := (.object "java/util/Optional")) (t' := (.object "java/lang/String")) (by decide) (by decide)))).other W5 (Or.inr (slot_ne (Or.inr (wd91 hw)) (Or.inr (wd87 hw)) (by decide) (t := (.object "java/util/Optional")) (t' := .int) (by decide) (by decide)))).other W8 (Or.inr (slot_ne (Or.inr (wd91 hw)) (Or.inr (wd89 hw)) (by decide) (t := (.object "java/util/Optional")) (t' := (.object "java/util/Optional")) (by decide) (by decide))))
  obtain ⟨T11, h11, X11, e11, W11, st11⟩ := putF X8 hx hZ hown (host := "") (Or.inl (wd90 hw)) Via.refl e8 f10 f9 (Or.inr ⟨(wd91 hw), rfl, hnm⟩) (wd72 hw) (ty := (.object "java/util/Optional")) (by decide) rfl rfl (g := (mkF m 22 #[.val (.ref o0), .val (.ref o1), .val (.int x2), .val (.ref o3), .val (.ref o3), .val (.ref o3), .val (.ref o3), .val (.ref o3), .val (.ref o4)] [(.ref o3), (.ref o0)])) rfl rfl (hb hby dg_22)
  have N11 := Fr.snoc X11 N8 g_o0
  have Z11 : n0 ≤ h11.size := by rw [W11.size]; exact Z8
  have K11 : Keep h0 h11 [o0] := (K8.wr W11 (Or.inl (List.mem_of_getElem? (i := 0) rfl)))
  have Fw11 := f10.same W11
  have f12 := (f9.wr W11)
  have f13 := ((((F_o0_trace.other W2 (Or.inr (slot_ne (Or.inr (wd93 hw)) (Or.inr (wd85 hw)) (by decide) (t := (.object "java/util/Optional")) (t' := (.object "java/lang/String")) (by decide) (by decide)))).other W5 (Or.inr (slot_ne (Or.inr (wd93 hw)) (Or.inr (wd87 hw)) (by decide) (t := (.object "java/util/Optional")) (t' := .int) (by decide) (by decide)))).other W8 (Or.inr (slot_ne (Or.inr (wd93 hw)) (Or.inr (wd89 hw)) (by decide) (t := (.object "java/util/Optional")) (t' := (.object "java/util/Optional")) (by decide) (by decide)))).other W11 (Or.inr (slot_ne (Or.inr (wd93 hw)) (Or.inr (wd91 hw)) (by decide) (t := (.object "java/util/Optional")) (t' := (.object "java/util/Optional")) (by decide) (by decide))))
  obtain ⟨T14, h14, X14, e14, W14, st14⟩ := putF X11 hx hZ hown (host := "") (Or.inl (wd92 hw)) Via.refl e11 f13 f12 (Or.inr ⟨(wd93 hw), rfl, hnm⟩) (wd72 hw) (ty := (.object "java/util/Optional")) (by decide) rfl rfl (g := (mkF m 28 #[.val (.ref o0), .val (.ref o1), .val (.int x2), .val (.ref o3), .val (.ref o3), .val (.ref o3), .val (.ref o3), .val (.ref o3), .val (.ref o4)] [(.ref o3), (.ref o0)])) rfl rfl (hb hby dg_28)
  have N14 := Fr.snoc X14 N11 g_o0
  have Z14 : n0 ≤ h14.size := by rw [W14.size]; exact Z11
  have K14 : Keep h0 h14 [o0] := (K11.wr W14 (Or.inl (List.mem_of_getElem? (i := 0) rfl)))
  have Fw14 := f13.same W14
  have f15 := (f12.wr W14)
  have f16 := (((((F_o0_moreInfo.other W2 (Or.inr (slot_ne (Or.inr (wd95 hw)) (Or.inr (wd85 hw)) (by decide) (t := (.object "java/util/Optional")) (t' := (.object "java/lang/String")) (by decide) (by decide)))).other W5 (Or.inr (slot_ne (Or.inr (wd95 hw)) (Or.inr (wd87 hw)) (by decide) (t := (.object "java/util/Optional")) (t' := .int) (by decide) (by decide)))).other W8 (Or.inr (slot_ne (Or.inr (wd95 hw)) (Or.inr (wd89 hw)) (by decide) (t := (.object "java/util/Optional")) (t' := (.object "java/util/Optional")) (by decide) (by decide)))).other W11 (Or.inr (slot_ne (Or.inr (wd95 hw)) (Or.inr (wd91 hw)) (by decide) (t := (.object "java/util/Optional")) (t' := (.object "java/util/Optional")) (by decide) (by decide)))).other W14 (Or.inr (slot_ne (Or.inr (wd95 hw)) (Or.inr (wd93 hw)) (by decide) (t := (.object "java/util/Optional")) (t' := (.object "java/util/Optional")) (by decide) (by decide))))
  obtain ⟨T17, h17, X17, e17, W17, st17⟩ := putF X14 hx hZ hown (host := "") (Or.inl (wd94 hw)) Via.refl e14 f16 f15 (Or.inr ⟨(wd95 hw), rfl, hnm⟩) (wd72 hw) (ty := (.object "java/util/Optional")) (by decide) rfl rfl (g := (mkF m 34 #[.val (.ref o0), .val (.ref o1), .val (.int x2), .val (.ref o3), .val (.ref o3), .val (.ref o3), .val (.ref o3), .val (.ref o3), .val (.ref o4)] [(.ref o3), (.ref o0)])) rfl rfl (hb hby dg_34)
  have N17 := Fr.snoc X17 N14 g_o0
  have Z17 : n0 ≤ h17.size := by rw [W17.size]; exact Z14
  have K17 : Keep h0 h17 [o0] := (K14.wr W17 (Or.inl (List.mem_of_getElem? (i := 0) rfl)))
  have Fw17 := f16.same W17
  have f18 := (f15.wr W17)
  have f19 := ((((((F_o0_target.other W2 (Or.inr (slot_ne (Or.inr (wd97 hw)) (Or.inr (wd85 hw)) (by decide) (t := (.object "java/util/Optional")) (t' := (.object "java/lang/String")) (by decide) (by decide)))).other W5 (Or.inr (slot_ne (Or.inr (wd97 hw)) (Or.inr (wd87 hw)) (by decide) (t := (.object "java/util/Optional")) (t' := .int) (by decide) (by decide)))).other W8 (Or.inr (slot_ne (Or.inr (wd97 hw)) (Or.inr (wd89 hw)) (by decide) (t := (.object "java/util/Optional")) (t' := (.object "java/util/Optional")) (by decide) (by decide)))).other W11 (Or.inr (slot_ne (Or.inr (wd97 hw)) (Or.inr (wd91 hw)) (by decide) (t := (.object "java/util/Optional")) (t' := (.object "java/util/Optional")) (by decide) (by decide)))).other W14 (Or.inr (slot_ne (Or.inr (wd97 hw)) (Or.inr (wd93 hw)) (by decide) (t := (.object "java/util/Optional")) (t' := (.object "java/util/Optional")) (by decide) (by decide)))).other W17 (Or.inr (slot_ne (Or.inr (wd97 hw)) (Or.inr (wd95 hw)) (by decide) (t := (.object "java/util/Optional")) (t' := (.object "java/util/Optional")) (by decide) (by decide))))
  obtain ⟨T20, h20, X20, e20, W20, st20⟩ := putF X17 hx hZ hown (host := "") (Or.inl (wd96 hw)) Via.refl e17 f19 f18 (Or.inr ⟨(wd97 hw), rfl, hnm⟩) (wd72 hw) (ty := (.object "java/util/Optional")) (by decide) rfl rfl (g := (mkF m 40 #[.val (.ref o0), .val (.ref o1), .val (.int x2), .val (.ref o3), .val (.ref o3), .val (.ref o3), .val (.ref o3), .val (.ref o3), .val (.ref o4)] [(.ref o3), (.ref o0)])) rfl rfl (hb hby dg_40)
  have N20 := Fr.snoc X20 N17 g_o0
  have Z20 : n0 ≤ h20.size := by rw [W20.size]; exact Z17
  have K20 : Keep h0 h20 [o0] := (K17.wr W20 (Or.inl (List.mem_of_getElem? (i := 0) rfl)))
  have Fw20 := f19.same W20
  have f21 := (f18.wr W20)
  have f22 := (((((((F_o0_details.other W2 (Or.inr (slot_ne (Or.inr (wd99 hw)) (Or.inr (wd85 hw)) (by decide) (t := (.object "java/util/List")) (t' := (.object "java/lang/String")) (by decide) (by decide)))).other W5 (Or.inr (slot_ne (Or.inr (wd99 hw)) (Or.inr (wd87 hw)) (by decide) (t := (.object "java/util/List")) (t' := .int) (by decide) (by decide)))).other W8 (Or.inr (slot_ne (Or.inr (wd99 hw)) (Or.inr (wd89 hw)) (by decide) (t := (.object "java/util/List")) (t' := (.object "java/util/Optional")) (by decide) (by decide)))).other W11 (Or.inr (slot_ne (Or.inr (wd99 hw)) (Or.inr (wd91 hw)) (by decide) (t := (.object "java/util/List")) (t' := (.object "java/util/Optional")) (by decide) (by decide)))).other W14 (Or.inr (slot_ne (Or.inr (wd99 hw)) (Or.inr (wd93 hw)) (by decide) (t := (.object "java/util/List")) (t' := (.object "java/util/Optional")) (by decide) (by decide)))).other W17 (Or.inr (slot_ne (Or.inr (wd99 hw)) (Or.inr (wd95 hw)) (by decide) (t := (.object "java/util/List")) (t' := (.object "java/util/Optional")) (by decide) (by decide)))).other W20 (Or.inr (slot_ne (Or.inr (wd99 hw)) (Or.inr (wd97 hw)) (by decide) (t := (.object "java/util/List")) (t' := (.object "java/util/Optional")) (by decide) (by decide))))
  obtain ⟨T23, h23, X23, e23, W23, st23⟩ := putF X20 hx hZ hown (host := "") (Or.inl (wd98 hw)) Via.refl e20 f22 f21 (Or.inr ⟨(wd99 hw), rfl, hnm⟩) (wd72 hw) (ty := (.object "java/util/List")) (by decide) rfl rfl (g := (mkF m 46 #[.val (.ref o0), .val (.ref o1), .val (.int x2), .val (.ref o3), .val (.ref o3), .val (.ref o3), .val (.ref o3), .val (.ref o3), .val (.ref o4)] [(.ref o4), (.ref o0)])) rfl rfl (hb hby dg_46)
  have N23 := Fr.snoc X23 N20 g_o0
  have Z23 : n0 ≤ h23.size := by rw [W23.size]; exact Z20
  have K23 : Keep h0 h23 [o0] := (K20.wr W23 (Or.inl (List.mem_of_getElem? (i := 0) rfl)))
  have Fw23 := f22.same W23
  have f24 := (f21.wr W23)
  have f25 := (((((((Fw2.other W5 (Or.inr (slot_ne (Or.inr (wd85 hw)) (Or.inr (wd87 hw)) (by decide) (t := (.object "java/lang/String")) (t' := .int) (by decide) (by decide)))).other W8 (Or.inr (slot_ne (Or.inr (wd85 hw)) (Or.inr (wd89 hw)) (by decide) (t := (.object "java/lang/String")) (t' := (.object "java/util/Optional")) (by decide) (by decide)))).other W11 (Or.inr (slot_ne (Or.inr (wd85 hw)) (Or.inr (wd91 hw)) (by decide) (t := (.object "java/lang/String")) (t' := (.object "java/util/Optional")) (by decide) (by decide)))).other W14 (Or.inr (slot_ne (Or.inr (wd85 hw)) (Or.inr (wd93 hw)) (by decide) (t := (.object "java/lang/String")) (t' := (.object "java/util/Optional")) (by decide) (by decide)))).other W17 (Or.inr (slot_ne (Or.inr (wd85 hw)) (Or.inr (wd95 hw)) (by decide) (t := (.object "java/lang/String")) (t' := (.object "java/util/Optional")) (by decide) (by decide)))).other W20 (Or.inr (slot_ne (Or.inr (wd85 hw)) (Or.inr (wd97 hw)) (by decide) (t := (.object "java/lang/String")) (t' := (.object "java/util/Optional")) (by decide) (by decide)))).other W23 (Or.inr (slot_ne (Or.inr (wd85 hw)) (Or.inr (wd99 hw)) (by decide) (t := (.object "java/lang/String")) (t' := (.object "java/util/List")) (by decide) (by decide))))
  have f26 := ((((((Fw5.other W8 (Or.inr (slot_ne (Or.inr (wd87 hw)) (Or.inr (wd89 hw)) (by decide) (t := .int) (t' := (.object "java/util/Optional")) (by decide) (by decide)))).other W11 (Or.inr (slot_ne (Or.inr (wd87 hw)) (Or.inr (wd91 hw)) (by decide) (t := .int) (t' := (.object "java/util/Optional")) (by decide) (by decide)))).other W14 (Or.inr (slot_ne (Or.inr (wd87 hw)) (Or.inr (wd93 hw)) (by decide) (t := .int) (t' := (.object "java/util/Optional")) (by decide) (by decide)))).other W17 (Or.inr (slot_ne (Or.inr (wd87 hw)) (Or.inr (wd95 hw)) (by decide) (t := .int) (t' := (.object "java/util/Optional")) (by decide) (by decide)))).other W20 (Or.inr (slot_ne (Or.inr (wd87 hw)) (Or.inr (wd97 hw)) (by decide) (t := .int) (t' := (.object "java/util/Optional")) (by decide) (by decide)))).other W23 (Or.inr (slot_ne (Or.inr (wd87 hw)) (Or.inr (wd99 hw)) (by decide) (t := .int) (t' := (.object "java/util/List")) (by decide) (by decide))))
  have f27 := (((((Fw8.other W11 (Or.inr (slot_ne (Or.inr (wd89 hw)) (Or.inr (wd91 hw)) (by decide) (t := (.object "java/util/Optional")) (t' := (.object "java/util/Optional")) (by decide) (by decide)))).other W14 (Or.inr (slot_ne (Or.inr (wd89 hw)) (Or.inr (wd93 hw)) (by decide) (t := (.object "java/util/Optional")) (t' := (.object "java/util/Optional")) (by decide) (by decide)))).other W17 (Or.inr (slot_ne (Or.inr (wd89 hw)) (Or.inr (wd95 hw)) (by decide) (t := (.object "java/util/Optional")) (t' := (.object "java/util/Optional")) (by decide) (by decide)))).other W20 (Or.inr (slot_ne (Or.inr (wd89 hw)) (Or.inr (wd97 hw)) (by decide) (t := (.object "java/util/Optional")) (t' := (.object "java/util/Optional")) (by decide) (by decide)))).other W23 (Or.inr (slot_ne (Or.inr (wd89 hw)) (Or.inr (wd99 hw)) (by decide) (t := (.object "java/util/Optional")) (t' := (.object "java/util/List")) (by decide) (by decide))))
  have f28 := ((((Fw11.other W14 (Or.inr (slot_ne (Or.inr (wd91 hw)) (Or.inr (wd93 hw)) (by decide) (t := (.object "java/util/Optional")) (t' := (.object "java/util/Optional")) (by decide) (by decide)))).other W17 (Or.inr (slot_ne (Or.inr (wd91 hw)) (Or.inr (wd95 hw)) (by decide) (t := (.object "java/util/Optional")) (t' := (.object "java/util/Optional")) (by decide) (by decide)))).other W20 (Or.inr (slot_ne (Or.inr (wd91 hw)) (Or.inr (wd97 hw)) (by decide) (t := (.object "java/util/Optional")) (t' := (.object "java/util/Optional")) (by decide) (by decide)))).other W23 (Or.inr (slot_ne (Or.inr (wd91 hw)) (Or.inr (wd99 hw)) (by decide) (t := (.object "java/util/Optional")) (t' := (.object "java/util/List")) (by decide) (by decide))))
  have f29 := (((Fw14.other W17 (Or.inr (slot_ne (Or.inr (wd93 hw)) (Or.inr (wd95 hw)) (by decide) (t := (.object "java/util/Optional")) (t' := (.object "java/util/Optional")) (by decide) (by decide)))).other W20 (Or.inr (slot_ne (Or.inr (wd93 hw)) (Or.inr (wd97 hw)) (by decide) (t := (.object "java/util/Optional")) (t' := (.object "java/util/Optional")) (by decide) (by decide)))).other W23 (Or.inr (slot_ne (Or.inr (wd93 hw)) (Or.inr (wd99 hw)) (by decide) (t := (.object "java/util/Optional")) (t' := (.object "java/util/List")) (by decide) (by decide))))
  have f30 := ((Fw17.other W20 (Or.inr (slot_ne (Or.inr (wd95 hw)) (Or.inr (wd97 hw)) (by decide) (t := (.object "java/util/Optional")) (t' := (.object "java/util/Optional")) (by decide) (by decide)))).other W23 (Or.inr (slot_ne (Or.inr (wd95 hw)) (Or.inr (wd99 hw)) (by decide) (t := (.object "java/util/Optional")) (t' := (.object "java/util/List")) (by decide) (by decide))))
  have f31 := (Fw20.other W23 (Or.inr (slot_ne (Or.inr (wd97 hw)) (Or.inr (wd99 hw)) (by decide) (t := (.object "java/util/Optional")) (t' := (.object "java/util/List")) (by decide) (by decide))))
  obtain ⟨lfs, lhr, lhrun, lhended, lhW, lhsame⟩ := X23.leave (v := none) (fun _ => rfl)
  refine ⟨_, _, pre0 _ ?_, lhrun, lhended, _, _, rfl, ?_, ⟨_, rfl⟩, lhW, lhsame.mono (by decide) (by decide)⟩
  · skip
    show Steps p.tables e below (s₁.setTop (mkF m 0 #[.val (.ref o0), .val (.ref o1), .val (.int x2), .val (.ref o3), .val (.ref o3), .val (.ref o3), .val (.ref o3), .val (.ref o3), .val (.ref o4)] [])) _
    refine XS.aloadN X0.here hx rfl (hb hby dg_0) rfl rfl ?_
    show Steps p.tables e below (s₁.setTop (mkF m 1 #[.val (.ref o0), .val (.ref o1), .val (.int x2), .val (.ref o3), .val (.ref o3), .val (.ref o3), .val (.ref o3), .val (.ref o3), .val (.ref o4)] [(.ref o0)])) _
    refine st1.trans ?_
    show Steps p.tables e below (T1.setTop (mkF m 4 #[.val (.ref o0), .val (.ref o1), .val (.int x2), .val (.ref o3), .val (.ref o3), .val (.ref o3), .val (.ref o3), .val (.ref o3), .val (.ref o4)] [])) _
    refine XS.aloadN X1.here hx rfl (hb hby dg_4) rfl rfl ?_
    show Steps p.tables e below (T1.setTop (mkF m 5 #[.val (.ref o0), .val (.ref o1), .val (.int x2), .val (.ref o3), .val (.ref o3), .val (.ref o3), .val (.ref o3), .val (.ref o3), .val (.ref o4)] [(.ref o0)])) _
    refine XS.aloadN X1.here hx rfl (hb hby dg_5) rfl rfl ?_
    show Steps p.tables e below (T1.setTop (mkF m 6 #[.val (.ref o0), .val (.ref o1), .val (.int x2), .val (.ref o3), .val (.ref o3), .val (.ref o3), .val (.ref o3), .val (.ref o3), .val (.ref o4)] [(.ref o1), (.ref o0)])) _
    refine st2 _ ?_
    show Steps p.tables e below (T2.setTop (mkF m 9 #[.val (.ref o0), .val (.ref o1), .val (.int x2), .val (.ref o3), .val (.ref o3), .val (.ref o3), .val (.ref o3), .val (.ref o3), .val (.ref o4)] [])) _
    refine XS.aloadN X2.here hx rfl (hb hby dg_9) rfl rfl ?_
    show Steps p.tables e below (T2.setTop (mkF m 10 #[.val (.ref o0), .val (.ref o1), .val (.int x2), .val (.ref o3), .val (.ref o3), .val (.ref o3), .val (.ref o3), .val (.ref o3), .val (.ref o4)] [(.ref o0)])) _
    refine XS.iloadN X2.here hx rfl (hb hby dg_10) rfl ?_
    show Steps p.tables e below (T2.setTop (mkF m 11 #[.val (.ref o0), .val (.ref o1), .val (.int x2), .val (.ref o3), .val (.ref o3), .val (.ref o3), .val (.ref o3), .val (.ref o3), .val (.ref o4)] [(.int x2), (.ref o0)])) _
    refine st5 _ ?_
    show Steps p.tables e below (T5.setTop (mkF m 14 #[.val (.ref o0), .val (.ref o1), .val (.int x2), .val (.ref o3), .val (.ref o3), .val (.ref o3), .val (.ref o3), .val (.ref o3), .val (.ref o4)] [])) _
    refine XS.aloadN X5.here hx rfl (hb hby dg_14) rfl rfl ?_
    show Steps p.tables e below (T5.setTop (mkF m 15 #[.val (.ref o0), .val (.ref o1), .val (.int x2), .val (.ref o3), .val (.ref o3), .val (.ref o3), .val (.ref o3), .val (.ref o3), .val (.ref o4)] [(.ref o0)])) _
    refine XS.aloadN X5.here hx rfl (hb hby dg_15) rfl rfl ?_
    show Steps p.tables e below (T5.setTop (mkF m 16 #[.val (.ref o0), .val (.ref o1), .val (.int x2), .val (.ref o3), .val (.ref o3), .val (.ref o3), .val (.ref o3), .val (.ref o3), .val (.ref o4)] [(.ref o3), (.ref o0)])) _
    refine st8 _ ?_
    show Steps p.tables e below (T8.setTop (mkF m 19 #[.val (.ref o0), .val (.ref o1), .val (.int x2), .val (.ref o3), .val (.ref o3), .val (.ref o3), .val (.ref o3), .val (.ref o3), .val (.ref o4)] [])) _
    refine XS.aloadN X8.here hx rfl (hb hby dg_19) rfl rfl ?_
    show Steps p.tables e below (T8.setTop (mkF m 20 #[.val (.ref o0), .val (.ref o1), .val (.int x2), .val (.ref o3), .val (.ref o3), .val (.ref o3), .val (.ref o3), .val (.ref o3), .val (.ref o4)] [(.ref o0)])) _
    refine XS.aload X8.here hx rfl (hb hby dg_20) rfl rfl ?_
    show Steps p.tables e below (T8.setTop (mkF m 22 #[.val (.ref o0), .val (.ref o1), .val (.int x2), .val (.ref o3), .val (.ref o3), .val (.ref o3), .val (.ref o3), .val (.ref o3), .val (.ref o4)] [(.ref o3), (.ref o0)])) _
    refine st11 _ ?_
    show Steps p.tables e below (T11.setTop (mkF m 25 #[.val (.ref o0), .val (.ref o1), .val (.int x2), .val (.ref o3), .val (.ref o3), .val (.ref o3), .val (.ref o3), .val (.ref o3), .val (.ref o4)] [])) _
    refine XS.aloadN X11.here hx rfl (hb hby dg_25) rfl rfl ?_
    show Steps p.tables e below (T11.setTop (mkF m 26 #[.val (.ref o0), .val (.ref o1), .val (.int x2), .val (.ref o3), .val (.ref o3), .val (.ref o3), .val (.ref o3), .val (.ref o3), .val (.ref o4)] [(.ref o0)])) _
    refine XS.aload X11.here hx rfl (hb hby dg_26) rfl rfl ?_
    show Steps p.tables e below (T11.setTop (mkF m 28 #[.val (.ref o0), .val (.ref o1), .val (.int x2), .val (.ref o3), .val (.ref o3), .val (.ref o3), .val (.ref o3), .val (.ref o3), .val (.ref o4)] [(.ref o3), (.ref o0)])) _
    refine st14 _ ?_
    show Steps p.tables e below (T14.setTop (mkF m 31 #[.val (.ref o0), .val (.ref o1), .val (.int x2), .val (.ref o3), .val (.ref o3), .val (.ref o3), .val (.ref o3), .val (.ref o3), .val (.ref o4)] [])) _
    refine XS.aloadN X14.here hx rfl (hb hby dg_31) rfl rfl ?_
    show Steps p.tables e below (T14.setTop (mkF m 32 #[.val (.ref o0), .val (.ref o1), .val (.int x2), .val (.ref o3), .val (.ref o3), .val (.ref o3), .val (.ref o3), .val (.ref o3), .val (.ref o4)] [(.ref o0)])) _
    refine XS.aload X14.here hx rfl (hb hby dg_32) rfl rfl ?_
    show Steps p.tables e below (T14.setTop (mkF m 34 #[.val (.ref o0), .val (.ref o1), .val (.int x2), .val (.ref o3), .val (.ref o3), .val (.ref o3), .val (.ref o3), .val (.ref o3), .val (.ref o4)] [(.ref o3), (.ref o0)])) _
    refine st17 _ ?_
    show Steps p.tables e below (T17.setTop (mkF m 37 #[.val (.ref o0), .val (.ref o1), .val (.int x2), .val (.ref o3), .val (.ref o3), .val (.ref o3), .val (.ref o3), .val (.ref o3), .val (.ref o4)] [])) _
    refine XS.aloadN X17.here hx rfl (hb hby dg_37) rfl rfl ?_
    show Steps p.tables e below (T17.setTop (mkF m 38 #[.val (.ref o0), .val (.ref o1), .val (.int x2), .val (.ref o3), .val (.ref o3), .val (.ref o3), .val (.ref o3), .val (.ref o3), .val (.ref o4)] [(.ref o0)])) _
    refine XS.aload X17.here hx rfl (hb hby dg_38) rfl rfl ?_
    show Steps p.tables e below (T17.setTop (mkF m 40 #[.val (.ref o0), .val (.ref o1), .val (.int x2), .val (.ref o3), .val (.ref o3), .val (.ref o3), .val (.ref o3), .val (.ref o3), .val (.ref o4)] [(.ref o3), (.ref o0)])) _
    refine st20 _ ?_
    show Steps p.tables e below (T20.setTop (mkF m 43 #[.val (.ref o0), .val (.ref o1), .val (.int x2), .val (.ref o3), .val (.ref o3), .val (.ref o3), .val (.ref o3), .val (.ref o3), .val (.ref o4)] [])) _
    refine XS.aloadN X20.here hx rfl (hb hby dg_43) rfl rfl ?_
    show Steps p.tables e below (T20.setTop (mkF m 44 #[.val (.ref o0), .val (.ref o1), .val (.int x2), .val (.ref o3), .val (.ref o3), .val (.ref o3), .val (.ref o3), .val (.ref o3), .val (.ref o4)] [(.ref o0)])) _
    refine XS.aload X20.here hx rfl (hb hby dg_44) rfl rfl ?_
    show Steps p.tables e below (T20.setTop (mkF m 46 #[.val (.ref o0), .val (.ref o1), .val (.int x2), .val (.ref o3), .val (.ref o3), .val (.ref o3), .val (.ref o3), .val (.ref o3), .val (.ref o4)] [(.ref o4), (.ref o0)])) _
    refine st23 _ ?_
    show Steps p.tables e below (T23.setTop (mkF m 49 #[.val (.ref o0), .val (.ref o1), .val (.int x2), .val (.ref o3), .val (.ref o3), .val (.ref o3), .val (.ref o3), .val (.ref o3), .val (.ref o4)] [])) _
    exact X23.returnOut hx Bd.returns (hb hby dg_49) lhr
  · skip
    show QA14 Z o0 o1 x2 o3 o4 h0 n0 _ T23.heap _
    rw [e23]
    exact ⟨rfl, N23, K23, f24, f25, f26, f27, f28, f29, f30, f31, Fw23⟩
theorem efa_jdk_32_method_3_code_v (m : MethodId) (x0 : Addr) : entryFrame m #[(.ref x0)] 1 = mkF m 0 #[.val (.ref x0)] [] := by first | (simp [entryFrame, mkF, argsToLocals, Value.category]; done) | rfl
theorem dq_0 : decode jdk_32_method_3_code 0 = .ok (.new 2, 3) := by decide +kernel
theorem dq_3 : decode jdk_32_method_3_code 3 = .ok (.dup, 1) := by decide +kernel
theorem dq_4 : decode jdk_32_method_3_code 4 = .ok (.aload_n 0, 1) := by decide +kernel
theorem dq_5 : decode jdk_32_method_3_code 5 = .ok (.invokestatic 17, 3) := by decide +kernel
theorem dq_8 : decode jdk_32_method_3_code 8 = .ok (.invokespecial 23, 3) := by decide +kernel
theorem efa_jdk_32_method_2_code_vv (m : MethodId) (x0 : Addr) (x1 : Addr) : entryFrame m #[(.ref x0), (.ref x1)] 2 = mkF m 0 #[.val (.ref x0), .val (.ref x1)] [] := by first | (simp [entryFrame, mkF, argsToLocals, Value.category]; done) | rfl
theorem dm_0 : decode jdk_32_method_2_code 0 = .ok (.aload_n 0, 1) := by decide +kernel
theorem dm_1 : decode jdk_32_method_2_code 1 = .ok (.invokespecial 7, 3) := by decide +kernel
theorem dm_4 : decode jdk_32_method_2_code 4 = .ok (.aload_n 0, 1) := by decide +kernel
theorem dm_5 : decode jdk_32_method_2_code 5 = .ok (.aload_n 1, 1) := by decide +kernel
theorem dm_6 : decode jdk_32_method_2_code 6 = .ok (.putfield 13, 3) := by decide +kernel
theorem dm_9 : decode jdk_32_method_2_code 9 = .ok (.return_, 1) := by decide +kernel
def QA19 (Z : State) (o0 : Addr) (o1 : Addr) (h0 : Heap) (n0 : Nat) (v : Option Value) (h : Heap) (L : List Loc) : Prop := v = none ∧ Fr n0 L ∧ Keep h0 h [o0] ∧ Exa Z h o0 "java/util/Optional" ∧ Fld Z h o0 "java/util/Optional" "value" "Ljava/lang/Object;" (.ref o1)
set_option maxRecDepth 65536 in
set_option maxHeartbeats 40000000 in
theorem rmA19 (l : Launch) (Z : State) (a0 : Array Value) (hw : ∀ d ∈ tables_1, d.before a0 Z = true) (ws : List Jvm.Cond) (o0 : Addr) (o1 : Addr) (h0 : Heap) (n0 : Nat) (Z0 : n0 ≤ h0.size) (E_o0 : Exa Z h0 o0 "java/util/Optional") (F_o0_value : Fld Z h0 o0 "java/util/Optional" "value" "Ljava/lang/Object;" .null) (g_o0 : n0 ≤ o0) :
    MetFree l mn12 (head1 (Jvm.Cond.code mn12 jdk_32_method_2_code 2 none :: ws) ({ frames := 1, cells := 0, slots := 0, locals := 12 } : Room)) (fun a U => a = #[(.ref o0), (.ref o1)] ∧ Z.Warmed39 U.vm ∧ U.heap = h0) (fun _ _ _ _ _ => True) (fun _ U oc_ U' => ∃ v L, oc_ = .returned v ∧ QA19 Z o0 o1 h0 n0 v U'.heap L ∧ FrameEnd U oc_ U' L ({ frames := 1, cells := 0, slots := 0, locals := 12 } : Room).cells ({ frames := 1, cells := 0, slots := 0, locals := 12 } : Room).slots) := by
  refine MetFree.of_bodySF (plainFor_of_name pn_java_util_Optional) hisR ?_
  intro p e s m args below meth c s₁ Bd hml0 hP hK
  obtain ⟨rfl, hZ, hh⟩ := hP
  have hx := Bd.exec
  have hby := Bd.bytes
  have hml : c.maxLocals = 2 := hml0
  have hown : s.vm.findClass "java/util/Optional" = some m.cls := findClass_of_methodNamed Bd.named
  have hnm := (name_of_methodNamed Bd.named Bd.method).1
  have X0 : Stand p l e ({ frames := 1, cells := 0, slots := 0, locals := 12 } : Room) s m #[(.ref o0), (.ref o1)] below meth c s₁ [] 0 0 := Stand.of_body Bd
  have e0 : s₁.heap = h0 := by rw [← hh, Bd.state]; rfl
  have N0 := Fr.nil n0
  have pre0 : ∀ t, Steps p.tables e below (s₁.setTop (mkF m 0 #[.val (.ref o0), .val (.ref o1)] [])) t → Steps p.tables e below (s₁.setTop (entryFrame m #[(.ref o0), (.ref o1)] 2)) t := fun t k => castTop (efa_jdk_32_method_2_code_vv m o0 o1) k
  obtain ⟨T1, X1, e1, st1⟩ := initO X0 hx hZ hown (wd44 hw) (wd16 hw) (wd17 hw) e0 (g := (mkF m 1 #[.val (.ref o0), .val (.ref o1)] [(.ref o0)])) rfl (by rw [hml]; rfl) rfl (hb hby dm_1) (by decide) (W := 0) (by show 2 * 0 + _ ≤ _; exact Nat.le_of_eq rfl) (by decide)
  obtain ⟨T2, h2, X2, e2, W2, st2⟩ := putF X1 hx hZ hown (host := "") (Or.inl (wd45 hw)) Via.refl e1 F_o0_value E_o0 (Or.inr ⟨(wd46 hw), rfl, hnm⟩) (wd35 hw) (ty := (.object "java/lang/Object")) (by decide) rfl rfl (g := (mkF m 6 #[.val (.ref o0), .val (.ref o1)] [(.ref o1), (.ref o0)])) rfl rfl (hb hby dm_6)
  have N2 := Fr.snoc X2 N0 g_o0
  have Z2 : n0 ≤ h2.size := by rw [W2.size]; exact Z0
  have K2 : Keep h0 h2 [o0] := ((Keep.refl h0 [o0]).wr W2 (Or.inl (List.mem_of_getElem? (i := 0) rfl)))
  have Fw2 := F_o0_value.same W2
  have f3 := (E_o0.wr W2)
  obtain ⟨lfs, lhr, lhrun, lhended, lhW, lhsame⟩ := X2.leave (v := none) (fun _ => rfl)
  refine ⟨_, _, pre0 _ ?_, lhrun, lhended, _, _, rfl, ?_, ⟨_, rfl⟩, lhW, lhsame.mono (by decide) (by decide)⟩
  · skip
    show Steps p.tables e below (s₁.setTop (mkF m 0 #[.val (.ref o0), .val (.ref o1)] [])) _
    refine XS.aloadN X0.here hx rfl (hb hby dm_0) rfl rfl ?_
    show Steps p.tables e below (s₁.setTop (mkF m 1 #[.val (.ref o0), .val (.ref o1)] [(.ref o0)])) _
    refine st1 _ ?_
    show Steps p.tables e below (T1.setTop (mkF m 4 #[.val (.ref o0), .val (.ref o1)] [])) _
    refine XS.aloadN X1.here hx rfl (hb hby dm_4) rfl rfl ?_
    show Steps p.tables e below (T1.setTop (mkF m 5 #[.val (.ref o0), .val (.ref o1)] [(.ref o0)])) _
    refine XS.aloadN X1.here hx rfl (hb hby dm_5) rfl rfl ?_
    show Steps p.tables e below (T1.setTop (mkF m 6 #[.val (.ref o0), .val (.ref o1)] [(.ref o1), (.ref o0)])) _
    refine st2 _ ?_
    show Steps p.tables e below (T2.setTop (mkF m 9 #[.val (.ref o0), .val (.ref o1)] [])) _
    exact X2.returnOut hx Bd.returns (hb hby dm_9) lhr
  · skip
    show QA19 Z o0 o1 h0 n0 _ T2.heap _
    rw [e2]
    exact ⟨rfl, N2, K2, f3, Fw2⟩
theorem dq_11 : decode jdk_32_method_3_code 11 = .ok (.areturn, 1) := by decide +kernel
def QA17 (Z : State) (o0 : Addr) (h0 : Heap) (n0 : Nat) (v : Option Value) (h : Heap) (L : List Loc) : Prop := ∃ (b1 : Addr), v = some (.ref b1) ∧ Fr n0 L ∧ Keep h0 h [] ∧ h0.size ≤ b1 ∧ Exa Z h b1 "java/util/Optional" ∧ Fld Z h b1 "java/util/Optional" "value" "Ljava/lang/Object;" (.ref o0)
set_option maxRecDepth 65536 in
set_option maxHeartbeats 40000000 in
theorem rmA17 (l : Launch) (Z : State) (a0 : Array Value) (hw : ∀ d ∈ tables_1, d.before a0 Z = true) (ws : List Jvm.Cond) (o0 : Addr) (h0 : Heap) (n0 : Nat) (Z0 : n0 ≤ h0.size) :
    MetFree l mn16 (head1 (Jvm.Cond.code mn16 jdk_32_method_3_code 1 (some (.object "java/util/Optional")) :: ws) ({ frames := 2, cells := 1, slots := 1, locals := 26 } : Room)) (fun a U => a = #[(.ref o0)] ∧ Z.Warmed39 U.vm ∧ U.heap = h0) (fun _ _ _ _ _ => True) (fun _ U oc_ U' => ∃ v L, oc_ = .returned v ∧ QA17 Z o0 h0 n0 v U'.heap L ∧ FrameEnd U oc_ U' L ({ frames := 2, cells := 1, slots := 1, locals := 26 } : Room).cells ({ frames := 2, cells := 1, slots := 1, locals := 26 } : Room).slots) := by
  refine MetFree.of_bodySF (plainFor_of_name pn_java_util_Optional) hisR ?_
  intro p e s m args below meth c s₁ Bd hml0 hP hK
  obtain ⟨rfl, hZ, hh⟩ := hP
  have hx := Bd.exec
  have hby := Bd.bytes
  have hml : c.maxLocals = 1 := hml0
  have hown : s.vm.findClass "java/util/Optional" = some m.cls := findClass_of_methodNamed Bd.named
  have hnm := (name_of_methodNamed Bd.named Bd.method).1
  have X0 : Stand p l e ({ frames := 2, cells := 1, slots := 1, locals := 26 } : Room) s m #[(.ref o0)] below meth c s₁ [] 0 0 := Stand.of_body Bd
  have e0 : s₁.heap = h0 := by rw [← hh, Bd.state]; rfl
  have N0 := Fr.nil n0
  have pre0 : ∀ t, Steps p.tables e below (s₁.setTop (mkF m 0 #[.val (.ref o0)] [])) t → Steps p.tables e below (s₁.setTop (entryFrame m #[(.ref o0)] 1)) t := fun t k => castTop (efa_jdk_32_method_3_code_v m o0) k
  obtain ⟨T1, h1, X1, e1, E1, A1, D1, -, st1⟩ := newO X0 hx hZ hown (wd34 hw) (wd35 hw) (wd28 hw) e0 (g := (mkF m 0 #[.val (.ref o0)] [])) rfl (hb hby dq_0) (by decide) (by decide)
  obtain ⟨b1, g1⟩ : ∃ z, z = h0.size := ⟨_, rfl⟩
  rw [← g1] at A1 D1 st1
  have ge_b1 : n0 ≤ b1 := Nat.le_trans Z0 (Nat.le_of_eq g1.symm)
  have sz_b1 : h0.size ≤ b1 := Nat.le_trans (Nat.le_refl _) (Nat.le_of_eq g1.symm)
  have Z1 : n0 ≤ h1.size := Nat.le_trans Z0 E1.1
  have K1 : Keep h0 h1 [] := ((Keep.refl h0 []).ext E1)
  have F1_value : Fld Z h1 b1 "java/util/Optional" "value" "Ljava/lang/Object;" .null := D1 (Or.inr (wd46 hw)) (ty := (.object "java/lang/Object")) (by decide)
  obtain ⟨_, _, ⟨T2, L2, kc2, ks2⟩, -, X2, ⟨Lc2, hQ2, l2, y2, z2⟩, st2⟩ := Jvm.LawKit.callS X1 hx (y := mn11) hown (mvT hZ (wd36 hw)) (mvT hZ (wd37 hw)) (mvT hZ (wd38 hw)) (mvT hZ (wd39 hw)) (by decide) (backOf (W := 2) (rmA1 l Z a0 hw [] o0 h1 n0 Z1 ) hZ (wd39 hw) (wd38 hw) (by decide) (by decide)) (g := (mkF m 5 #[.val (.ref o0)] [(.ref o0), (.ref b1), (.ref b1)])) rfl (by rw [hml]; rfl) (argsL := [(.ref o0)]) (rest := [(.ref b1), (.ref b1)]) (lenOf pd__Ljava_lang_Object__Ljava_lang_Object_ rfl) rfl (by show 2 * 0 + _ ≤ _; exact Nat.le_of_eq rfl) (hb hby dq_5) (fun _ _ => ⟨rfl, e1, (by decide : 1 + 0 ≤ _), (by decide : 1 + 0 ≤ _)⟩)
  dsimp only [Pt.U, Pt.locs, Pt.cells, Pt.slots] at X2 l2 y2 z2 st2 hQ2
  subst l2 y2 z2
  obtain ⟨rfl, Nq2, eq2⟩ := hQ2
  have N2 := Fr.app N0 Nq2
  obtain ⟨_, _, ⟨T3, L3, kc3, ks3⟩, -, X3, ⟨Lc3, hQ3, l3, y3, z3⟩, st3⟩ := X2.specialBack hx (y := mn12) rfl hown (mvT hZ (wd40 hw)) (mvT hZ (wd41 hw)) (mvT hZ (wd43 hw)) (by decide) (backOf (W := 1) (rmA19 l Z a0 hw [] b1 o0 h1 n0 Z1 A1 F1_value ge_b1) hZ (wd43 hw) (wd28 hw) (by decide) (by decide)) (g := (mkF m 8 #[.val (.ref o0)] [(.ref o0), (.ref b1), (.ref b1)])) rfl (by rw [hml]; rfl) (Steps.refl _) (a := b1) (argsL := [(.ref o0)]) (rest := [(.ref b1)]) (lenOf pd__Ljava_lang_Object__V rfl) rfl (by show 2 * 0 + _ ≤ _; exact Nat.le_of_eq rfl) (hb hby dq_8) (fun _ _ => ⟨rfl, eq2, (by decide : 1 + 0 ≤ _), (by decide : 1 + 0 ≤ _)⟩)
  dsimp only [Pt.U, Pt.locs, Pt.cells, Pt.slots] at X3 l3 y3 z3 st3 hQ3
  subst l3 y3 z3
  obtain ⟨rfl, Nq3, Kq3, g3_0, g3_1⟩ := hQ3
  have N3 := Fr.app N2 Nq3
  have Z3 : n0 ≤ T3.heap.size := Nat.le_trans Z1 Kq3.1
  have K3 : Keep h0 T3.heap [] := Keep.trans K1 Kq3 (allS (Or.inr sz_b1) all0)
  obtain ⟨lfs, lhr, lhrun, lhended, lhW, lhsame⟩ := X3.leave (v := some (.ref b1)) (fun h => by rw [Bd.returns] at h; cases h)
  refine ⟨_, _, pre0 _ ?_, lhrun, lhended, _, _, rfl, ?_, ⟨_, rfl⟩, lhW, lhsame.mono (by decide) (by decide)⟩
  · skip
    show Steps p.tables e below (s₁.setTop (mkF m 0 #[.val (.ref o0)] [])) _
    refine st1 _ ?_
    show Steps p.tables e below (T1.setTop (mkF m 3 #[.val (.ref o0)] [(.ref b1)])) _
    refine XS.dup X1.here hx rfl (hb hby dq_3) rfl rfl ?_
    show Steps p.tables e below (T1.setTop (mkF m 4 #[.val (.ref o0)] [(.ref b1), (.ref b1)])) _
    refine XS.aloadN X1.here hx rfl (hb hby dq_4) rfl rfl ?_
    show Steps p.tables e below (T1.setTop (mkF m 5 #[.val (.ref o0)] [(.ref o0), (.ref b1), (.ref b1)])) _
    refine st2 _ ?_
    show Steps p.tables e below (T2.setTop (mkF m 8 #[.val (.ref o0)] [(.ref o0), (.ref b1), (.ref b1)])) _
    refine st3.trans ?_
    show Steps p.tables e below (T3.setTop (mkF m 11 #[.val (.ref o0)] [(.ref b1)])) _
    exact retOut X3 hx Bd.returns rfl (Or.inr (Or.inr (Or.inr (Or.inr ⟨rfl, rfl, rfl⟩)))) (hb hby dq_11) lhr
  · skip
    show QA17 Z o0 h0 n0 _ T3.heap _
    skip
    exact ⟨b1, rfl, N3, K3, sz_b1, g3_0, g3_1⟩
def QA26 (Z : State) (o0 : Addr) (o1 : Addr) (x2 : Int32) (o3 : Addr) (o4 : Addr) (o5 : Addr) (h0 : Heap) (n0 : Nat) (v : Option Value) (h : Heap) (L : List Loc) : Prop := v = none ∧ Fr n0 L ∧ Keep h0 h [o0] ∧ Exa Z h o0 cn4 ∧ Fld Z h o0 cn4 "code" "Ljava/lang/String;" (.ref o1) ∧ Fld Z h o0 cn4 "status" "I" (.int x2) ∧ Fld Z h o0 cn4 "catalogueMessage" "Ljava/util/Optional;" (.ref o3) ∧ Fld Z h o0 cn4 "ownMessage" "Ljava/util/Optional;" (.ref o4) ∧ Fld Z h o0 cn4 "trace" "Ljava/util/Optional;" (.ref o4) ∧ Fld Z h o0 cn4 "moreInfo" "Ljava/util/Optional;" (.ref o4) ∧ Fld Z h o0 cn4 "target" "Ljava/util/Optional;" (.ref o4) ∧ Fld Z h o0 cn4 "details" "Ljava/util/List;" (.ref o5)
set_option maxRecDepth 65536 in
set_option maxHeartbeats 40000000 in
theorem rmA26 (l : Launch) (Z : State) (a0 : Array Value) (hw : ∀ d ∈ tables_1, d.before a0 Z = true) (ws : List Jvm.Cond) (o0 : Addr) (o1 : Addr) (x2 : Int32) (o3 : Addr) (o4 : Addr) (o5 : Addr) (h0 : Heap) (n0 : Nat) (Z0 : n0 ≤ h0.size) (E_o0 : Exa Z h0 o0 cn4) (F_o0_code : Fld Z h0 o0 cn4 "code" "Ljava/lang/String;" .null) (g_o0 : n0 ≤ o0) (F_o0_status : Fld Z h0 o0 cn4 "status" "I" (.int (0 : Int32))) (F_o0_catalogueMessage : Fld Z h0 o0 cn4 "catalogueMessage" "Ljava/util/Optional;" .null) (F_o0_ownMessage : Fld Z h0 o0 cn4 "ownMessage" "Ljava/util/Optional;" .null) (F_o0_trace : Fld Z h0 o0 cn4 "trace" "Ljava/util/Optional;" .null) (F_o0_moreInfo : Fld Z h0 o0 cn4 "moreInfo" "Ljava/util/Optional;" .null) (F_o0_target : Fld Z h0 o0 cn4 "target" "Ljava/util/Optional;" .null) (F_o0_details : Fld Z h0 o0 cn4 "details" "Ljava/util/List;" .null) :
    MetFree l mn0 (head1 (Jvm.Cond.code mn0 prog_9_method_1_code 9 none :: ws) ({ frames := 2, cells := 0, slots := 0, locals := 24 } : Room)) (fun a U => a = #[(.ref o0), (.ref o1), (.int x2), (.ref o3), (.ref o4), (.ref o4), (.ref o4), (.ref o4), (.ref o5)] ∧ Z.Warmed39 U.vm ∧ U.heap = h0) (fun _ _ _ _ _ => True) (fun _ U oc_ U' => ∃ v L, oc_ = .returned v ∧ QA26 Z o0 o1 x2 o3 o4 o5 h0 n0 v U'.heap L ∧ FrameEnd U oc_ U' L ({ frames := 2, cells := 0, slots := 0, locals := 24 } : Room).cells ({ frames := 2, cells := 0, slots := 0, locals := 24 } : Room).slots) := by
  refine MetFree.of_bodySF (plainFor_of_name pn_com_example_typed_api_errors_typedapierrors_error_Occurrence) hisR ?_
  intro p e s m args below meth c s₁ Bd hml0 hP hK
  obtain ⟨rfl, hZ, hh⟩ := hP
  have hx := Bd.exec
  have hby := Bd.bytes
  have hml : c.maxLocals = 9 := hml0
  have hown : s.vm.findClass cn4 = some m.cls := findClass_of_methodNamed Bd.named
  have hnm := (name_of_methodNamed Bd.named Bd.method).1
  have X0 : Stand p l e ({ frames := 2, cells := 0, slots := 0, locals := 24 } : Room) s m #[(.ref o0), (.ref o1), (.int x2), (.ref o3), (.ref o4), (.ref o4), (.ref o4), (.ref o4), (.ref o5)] below meth c s₁ [] 0 0 := Stand.of_body Bd
  have e0 : s₁.heap = h0 := by rw [← hh, Bd.state]; rfl
  have N0 := Fr.nil n0
  have pre0 : ∀ t, Steps p.tables e below (s₁.setTop (mkF m 0 #[.val (.ref o0), .val (.ref o1), .val (.int x2), .val (.ref o3), .val (.ref o4), .val (.ref o4), .val (.ref o4), .val (.ref o4), .val (.ref o5)] [])) t → Steps p.tables e below (s₁.setTop (entryFrame m #[(.ref o0), (.ref o1), (.int x2), (.ref o3), (.ref o4), (.ref o4), (.ref o4), (.ref o4), (.ref o5)] 9)) t := fun t k => castTop (efa_prog_9_method_1_code_vvvvvvvvv m o0 o1 x2 o3 o4 o4 o4 o4 o5) k
  obtain ⟨_, _, ⟨T1, L1, kc1, ks1⟩, -, X1, ⟨Lc1, hQ1, l1, y1, z1⟩, st1⟩ := X0.specialBack hx (y := mn4) rfl hown (mvT hZ (wd78 hw)) (mvT hZ (wd79 hw)) (mvT hZ (wd82 hw)) (by decide) (backOf (W := 0) (rmA15 l Z a0 hw [] o0 h0 n0 Z0 ) hZ (wd82 hw) (wd81 hw) (by decide) (by decide)) (g := (mkF m 1 #[.val (.ref o0), .val (.ref o1), .val (.int x2), .val (.ref o3), .val (.ref o4), .val (.ref o4), .val (.ref o4), .val (.ref o4), .val (.ref o5)] [(.ref o0)])) rfl (by rw [hml]; rfl) (Steps.refl _) (a := o0) (argsL := []) (rest := []) (lenOf pd___V rfl) rfl (by show 2 * 0 + _ ≤ _; exact Nat.le_of_eq rfl) (hb hby dg_1) (fun _ _ => ⟨rfl, e0, (by decide : 0 + 0 ≤ _), (by decide : 0 + 0 ≤ _)⟩)
  dsimp only [Pt.U, Pt.locs, Pt.cells, Pt.slots] at X1 l1 y1 z1 st1 hQ1
  subst l1 y1 z1
  obtain ⟨rfl, Nq1, eq1⟩ := hQ1
  have N1 := Fr.app N0 Nq1
  obtain ⟨T2, h2, X2, e2, W2, st2⟩ := putF X1 hx hZ hown (host := "") (Or.inl (wd84 hw)) Via.refl eq1 F_o0_code E_o0 (Or.inr ⟨(wd85 hw), rfl, hnm⟩) (wd72 hw) (ty := (.object "java/lang/String")) (by decide) rfl rfl (g := (mkF m 6 #[.val (.ref o0), .val (.ref o1), .val (.int x2), .val (.ref o3), .val (.ref o4), .val (.ref o4), .val (.ref o4), .val (.ref o4), .val (.ref o5)] [(.ref o1), (.ref o0)])) rfl rfl (hb hby dg_6)
  have N2 := Fr.snoc X2 N1 g_o0
  have Z2 : n0 ≤ h2.size := by rw [W2.size]; exact Z0
  have K2 : Keep h0 h2 [o0] := ((Keep.refl h0 [o0]).wr W2 (Or.inl (List.mem_of_getElem? (i := 0) rfl)))
  have Fw2 := F_o0_code.same W2
  have f3 := (E_o0.wr W2)
  have f4 := (F_o0_status.other W2 (Or.inr (slot_ne (Or.inr (wd87 hw)) (Or.inr (wd85 hw)) (by decide) (t := .int) (t' := (.object "java/lang/String")) (by decide) (by decide))))
  obtain ⟨T5, h5, X5, e5, W5, st5⟩ := putF X2 hx hZ hown (host := "") (Or.inl (wd86 hw)) Via.refl e2 f4 f3 (Or.inr ⟨(wd87 hw), rfl, hnm⟩) (wd72 hw) (ty := .int) (by decide) rfl rfl (g := (mkF m 11 #[.val (.ref o0), .val (.ref o1), .val (.int x2), .val (.ref o3), .val (.ref o4), .val (.ref o4), .val (.ref o4), .val (.ref o4), .val (.ref o5)] [(.int x2), (.ref o0)])) rfl rfl (hb hby dg_11)
  have N5 := Fr.snoc X5 N2 g_o0
  have Z5 : n0 ≤ h5.size := by rw [W5.size]; exact Z2
  have K5 : Keep h0 h5 [o0] := (K2.wr W5 (Or.inl (List.mem_of_getElem? (i := 0) rfl)))
  have Fw5 := f4.same W5
  have f6 := (f3.wr W5)
  have f7 := ((F_o0_catalogueMessage.other W2 (Or.inr (slot_ne (Or.inr (wd89 hw)) (Or.inr (wd85 hw)) (by decide) (t := (.object "java/util/Optional")) (t' := (.object "java/lang/String")) (by decide) (by decide)))).other W5 (Or.inr (slot_ne (Or.inr (wd89 hw)) (Or.inr (wd87 hw)) (by decide) (t := (.object "java/util/Optional")) (t' := .int) (by decide) (by decide))))
  obtain ⟨T8, h8, X8, e8, W8, st8⟩ := putF X5 hx hZ hown (host := "") (Or.inl (wd88 hw)) Via.refl e5 f7 f6 (Or.inr ⟨(wd89 hw), rfl, hnm⟩) (wd72 hw) (ty := (.object "java/util/Optional")) (by decide) rfl rfl (g := (mkF m 16 #[.val (.ref o0), .val (.ref o1), .val (.int x2), .val (.ref o3), .val (.ref o4), .val (.ref o4), .val (.ref o4), .val (.ref o4), .val (.ref o5)] [(.ref o3), (.ref o0)])) rfl rfl (hb hby dg_16)
  have N8 := Fr.snoc X8 N5 g_o0
  have Z8 : n0 ≤ h8.size := by rw [W8.size]; exact Z5
  have K8 : Keep h0 h8 [o0] := (K5.wr W8 (Or.inl (List.mem_of_getElem? (i := 0) rfl)))
  have Fw8 := f7.same W8
  have f9 := (f6.wr W8)
  have f10 := (((F_o0_ownMessage.other W2 (Or.inr (slot_ne (Or.inr (wd91 hw)) (Or.inr (wd85 hw)) (by decide) (t := (.object "java/util/Optional")) (t' := (.object "java/lang/String")) (by decide) (by decide)))).other W5 (Or.inr (slot_ne (Or.inr (wd91 hw)) (Or.inr (wd87 hw)) (by decide) (t := (.object "java/util/Optional")) (t' := .int) (by decide) (by decide)))).other W8 (Or.inr (slot_ne (Or.inr (wd91 hw)) (Or.inr (wd89 hw)) (by decide) (t := (.object "java/util/Optional")) (t' := (.object "java/util/Optional")) (by decide) (by decide))))
  obtain ⟨T11, h11, X11, e11, W11, st11⟩ := putF X8 hx hZ hown (host := "") (Or.inl (wd90 hw)) Via.refl e8 f10 f9 (Or.inr ⟨(wd91 hw), rfl, hnm⟩) (wd72 hw) (ty := (.object "java/util/Optional")) (by decide) rfl rfl (g := (mkF m 22 #[.val (.ref o0), .val (.ref o1), .val (.int x2), .val (.ref o3), .val (.ref o4), .val (.ref o4), .val (.ref o4), .val (.ref o4), .val (.ref o5)] [(.ref o4), (.ref o0)])) rfl rfl (hb hby dg_22)
  have N11 := Fr.snoc X11 N8 g_o0
  have Z11 : n0 ≤ h11.size := by rw [W11.size]; exact Z8
  have K11 : Keep h0 h11 [o0] := (K8.wr W11 (Or.inl (List.mem_of_getElem? (i := 0) rfl)))
  have Fw11 := f10.same W11
  have f12 := (f9.wr W11)
  have f13 := ((((F_o0_trace.other W2 (Or.inr (slot_ne (Or.inr (wd93 hw)) (Or.inr (wd85 hw)) (by decide) (t := (.object "java/util/Optional")) (t' := (.object "java/lang/String")) (by decide) (by decide)))).other W5 (Or.inr (slot_ne (Or.inr (wd93 hw)) (Or.inr (wd87 hw)) (by decide) (t := (.object "java/util/Optional")) (t' := .int) (by decide) (by decide)))).other W8 (Or.inr (slot_ne (Or.inr (wd93 hw)) (Or.inr (wd89 hw)) (by decide) (t := (.object "java/util/Optional")) (t' := (.object "java/util/Optional")) (by decide) (by decide)))).other W11 (Or.inr (slot_ne (Or.inr (wd93 hw)) (Or.inr (wd91 hw)) (by decide) (t := (.object "java/util/Optional")) (t' := (.object "java/util/Optional")) (by decide) (by decide))))
  obtain ⟨T14, h14, X14, e14, W14, st14⟩ := putF X11 hx hZ hown (host := "") (Or.inl (wd92 hw)) Via.refl e11 f13 f12 (Or.inr ⟨(wd93 hw), rfl, hnm⟩) (wd72 hw) (ty := (.object "java/util/Optional")) (by decide) rfl rfl (g := (mkF m 28 #[.val (.ref o0), .val (.ref o1), .val (.int x2), .val (.ref o3), .val (.ref o4), .val (.ref o4), .val (.ref o4), .val (.ref o4), .val (.ref o5)] [(.ref o4), (.ref o0)])) rfl rfl (hb hby dg_28)
  have N14 := Fr.snoc X14 N11 g_o0
  have Z14 : n0 ≤ h14.size := by rw [W14.size]; exact Z11
  have K14 : Keep h0 h14 [o0] := (K11.wr W14 (Or.inl (List.mem_of_getElem? (i := 0) rfl)))
  have Fw14 := f13.same W14
  have f15 := (f12.wr W14)
  have f16 := (((((F_o0_moreInfo.other W2 (Or.inr (slot_ne (Or.inr (wd95 hw)) (Or.inr (wd85 hw)) (by decide) (t := (.object "java/util/Optional")) (t' := (.object "java/lang/String")) (by decide) (by decide)))).other W5 (Or.inr (slot_ne (Or.inr (wd95 hw)) (Or.inr (wd87 hw)) (by decide) (t := (.object "java/util/Optional")) (t' := .int) (by decide) (by decide)))).other W8 (Or.inr (slot_ne (Or.inr (wd95 hw)) (Or.inr (wd89 hw)) (by decide) (t := (.object "java/util/Optional")) (t' := (.object "java/util/Optional")) (by decide) (by decide)))).other W11 (Or.inr (slot_ne (Or.inr (wd95 hw)) (Or.inr (wd91 hw)) (by decide) (t := (.object "java/util/Optional")) (t' := (.object "java/util/Optional")) (by decide) (by decide)))).other W14 (Or.inr (slot_ne (Or.inr (wd95 hw)) (Or.inr (wd93 hw)) (by decide) (t := (.object "java/util/Optional")) (t' := (.object "java/util/Optional")) (by decide) (by decide))))
  obtain ⟨T17, h17, X17, e17, W17, st17⟩ := putF X14 hx hZ hown (host := "") (Or.inl (wd94 hw)) Via.refl e14 f16 f15 (Or.inr ⟨(wd95 hw), rfl, hnm⟩) (wd72 hw) (ty := (.object "java/util/Optional")) (by decide) rfl rfl (g := (mkF m 34 #[.val (.ref o0), .val (.ref o1), .val (.int x2), .val (.ref o3), .val (.ref o4), .val (.ref o4), .val (.ref o4), .val (.ref o4), .val (.ref o5)] [(.ref o4), (.ref o0)])) rfl rfl (hb hby dg_34)
  have N17 := Fr.snoc X17 N14 g_o0
  have Z17 : n0 ≤ h17.size := by rw [W17.size]; exact Z14
  have K17 : Keep h0 h17 [o0] := (K14.wr W17 (Or.inl (List.mem_of_getElem? (i := 0) rfl)))
  have Fw17 := f16.same W17
  have f18 := (f15.wr W17)
  have f19 := ((((((F_o0_target.other W2 (Or.inr (slot_ne (Or.inr (wd97 hw)) (Or.inr (wd85 hw)) (by decide) (t := (.object "java/util/Optional")) (t' := (.object "java/lang/String")) (by decide) (by decide)))).other W5 (Or.inr (slot_ne (Or.inr (wd97 hw)) (Or.inr (wd87 hw)) (by decide) (t := (.object "java/util/Optional")) (t' := .int) (by decide) (by decide)))).other W8 (Or.inr (slot_ne (Or.inr (wd97 hw)) (Or.inr (wd89 hw)) (by decide) (t := (.object "java/util/Optional")) (t' := (.object "java/util/Optional")) (by decide) (by decide)))).other W11 (Or.inr (slot_ne (Or.inr (wd97 hw)) (Or.inr (wd91 hw)) (by decide) (t := (.object "java/util/Optional")) (t' := (.object "java/util/Optional")) (by decide) (by decide)))).other W14 (Or.inr (slot_ne (Or.inr (wd97 hw)) (Or.inr (wd93 hw)) (by decide) (t := (.object "java/util/Optional")) (t' := (.object "java/util/Optional")) (by decide) (by decide)))).other W17 (Or.inr (slot_ne (Or.inr (wd97 hw)) (Or.inr (wd95 hw)) (by decide) (t := (.object "java/util/Optional")) (t' := (.object "java/util/Optional")) (by decide) (by decide))))
  obtain ⟨T20, h20, X20, e20, W20, st20⟩ := putF X17 hx hZ hown (host := "") (Or.inl (wd96 hw)) Via.refl e17 f19 f18 (Or.inr ⟨(wd97 hw), rfl, hnm⟩) (wd72 hw) (ty := (.object "java/util/Optional")) (by decide) rfl rfl (g := (mkF m 40 #[.val (.ref o0), .val (.ref o1), .val (.int x2), .val (.ref o3), .val (.ref o4), .val (.ref o4), .val (.ref o4), .val (.ref o4), .val (.ref o5)] [(.ref o4), (.ref o0)])) rfl rfl (hb hby dg_40)
  have N20 := Fr.snoc X20 N17 g_o0
  have Z20 : n0 ≤ h20.size := by rw [W20.size]; exact Z17
  have K20 : Keep h0 h20 [o0] := (K17.wr W20 (Or.inl (List.mem_of_getElem? (i := 0) rfl)))
  have Fw20 := f19.same W20
  have f21 := (f18.wr W20)
  have f22 := (((((((F_o0_details.other W2 (Or.inr (slot_ne (Or.inr (wd99 hw)) (Or.inr (wd85 hw)) (by decide) (t := (.object "java/util/List")) (t' := (.object "java/lang/String")) (by decide) (by decide)))).other W5 (Or.inr (slot_ne (Or.inr (wd99 hw)) (Or.inr (wd87 hw)) (by decide) (t := (.object "java/util/List")) (t' := .int) (by decide) (by decide)))).other W8 (Or.inr (slot_ne (Or.inr (wd99 hw)) (Or.inr (wd89 hw)) (by decide) (t := (.object "java/util/List")) (t' := (.object "java/util/Optional")) (by decide) (by decide)))).other W11 (Or.inr (slot_ne (Or.inr (wd99 hw)) (Or.inr (wd91 hw)) (by decide) (t := (.object "java/util/List")) (t' := (.object "java/util/Optional")) (by decide) (by decide)))).other W14 (Or.inr (slot_ne (Or.inr (wd99 hw)) (Or.inr (wd93 hw)) (by decide) (t := (.object "java/util/List")) (t' := (.object "java/util/Optional")) (by decide) (by decide)))).other W17 (Or.inr (slot_ne (Or.inr (wd99 hw)) (Or.inr (wd95 hw)) (by decide) (t := (.object "java/util/List")) (t' := (.object "java/util/Optional")) (by decide) (by decide)))).other W20 (Or.inr (slot_ne (Or.inr (wd99 hw)) (Or.inr (wd97 hw)) (by decide) (t := (.object "java/util/List")) (t' := (.object "java/util/Optional")) (by decide) (by decide))))
  obtain ⟨T23, h23, X23, e23, W23, st23⟩ := putF X20 hx hZ hown (host := "") (Or.inl (wd98 hw)) Via.refl e20 f22 f21 (Or.inr ⟨(wd99 hw), rfl, hnm⟩) (wd72 hw) (ty := (.object "java/util/List")) (by decide) rfl rfl (g := (mkF m 46 #[.val (.ref o0), .val (.ref o1), .val (.int x2), .val (.ref o3), .val (.ref o4), .val (.ref o4), .val (.ref o4), .val (.ref o4), .val (.ref o5)] [(.ref o5), (.ref o0)])) rfl rfl (hb hby dg_46)
  have N23 := Fr.snoc X23 N20 g_o0
  have Z23 : n0 ≤ h23.size := by rw [W23.size]; exact Z20
  have K23 : Keep h0 h23 [o0] := (K20.wr W23 (Or.inl (List.mem_of_getElem? (i := 0) rfl)))
  have Fw23 := f22.same W23
  have f24 := (f21.wr W23)
  have f25 := (((((((Fw2.other W5 (Or.inr (slot_ne (Or.inr (wd85 hw)) (Or.inr (wd87 hw)) (by decide) (t := (.object "java/lang/String")) (t' := .int) (by decide) (by decide)))).other W8 (Or.inr (slot_ne (Or.inr (wd85 hw)) (Or.inr (wd89 hw)) (by decide) (t := (.object "java/lang/String")) (t' := (.object "java/util/Optional")) (by decide) (by decide)))).other W11 (Or.inr (slot_ne (Or.inr (wd85 hw)) (Or.inr (wd91 hw)) (by decide) (t := (.object "java/lang/String")) (t' := (.object "java/util/Optional")) (by decide) (by decide)))).other W14 (Or.inr (slot_ne (Or.inr (wd85 hw)) (Or.inr (wd93 hw)) (by decide) (t := (.object "java/lang/String")) (t' := (.object "java/util/Optional")) (by decide) (by decide)))).other W17 (Or.inr (slot_ne (Or.inr (wd85 hw)) (Or.inr (wd95 hw)) (by decide) (t := (.object "java/lang/String")) (t' := (.object "java/util/Optional")) (by decide) (by decide)))).other W20 (Or.inr (slot_ne (Or.inr (wd85 hw)) (Or.inr (wd97 hw)) (by decide) (t := (.object "java/lang/String")) (t' := (.object "java/util/Optional")) (by decide) (by decide)))).other W23 (Or.inr (slot_ne (Or.inr (wd85 hw)) (Or.inr (wd99 hw)) (by decide) (t := (.object "java/lang/String")) (t' := (.object "java/util/List")) (by decide) (by decide))))
  have f26 := ((((((Fw5.other W8 (Or.inr (slot_ne (Or.inr (wd87 hw)) (Or.inr (wd89 hw)) (by decide) (t := .int) (t' := (.object "java/util/Optional")) (by decide) (by decide)))).other W11 (Or.inr (slot_ne (Or.inr (wd87 hw)) (Or.inr (wd91 hw)) (by decide) (t := .int) (t' := (.object "java/util/Optional")) (by decide) (by decide)))).other W14 (Or.inr (slot_ne (Or.inr (wd87 hw)) (Or.inr (wd93 hw)) (by decide) (t := .int) (t' := (.object "java/util/Optional")) (by decide) (by decide)))).other W17 (Or.inr (slot_ne (Or.inr (wd87 hw)) (Or.inr (wd95 hw)) (by decide) (t := .int) (t' := (.object "java/util/Optional")) (by decide) (by decide)))).other W20 (Or.inr (slot_ne (Or.inr (wd87 hw)) (Or.inr (wd97 hw)) (by decide) (t := .int) (t' := (.object "java/util/Optional")) (by decide) (by decide)))).other W23 (Or.inr (slot_ne (Or.inr (wd87 hw)) (Or.inr (wd99 hw)) (by decide) (t := .int) (t' := (.object "java/util/List")) (by decide) (by decide))))
  have f27 := (((((Fw8.other W11 (Or.inr (slot_ne (Or.inr (wd89 hw)) (Or.inr (wd91 hw)) (by decide) (t := (.object "java/util/Optional")) (t' := (.object "java/util/Optional")) (by decide) (by decide)))).other W14 (Or.inr (slot_ne (Or.inr (wd89 hw)) (Or.inr (wd93 hw)) (by decide) (t := (.object "java/util/Optional")) (t' := (.object "java/util/Optional")) (by decide) (by decide)))).other W17 (Or.inr (slot_ne (Or.inr (wd89 hw)) (Or.inr (wd95 hw)) (by decide) (t := (.object "java/util/Optional")) (t' := (.object "java/util/Optional")) (by decide) (by decide)))).other W20 (Or.inr (slot_ne (Or.inr (wd89 hw)) (Or.inr (wd97 hw)) (by decide) (t := (.object "java/util/Optional")) (t' := (.object "java/util/Optional")) (by decide) (by decide)))).other W23 (Or.inr (slot_ne (Or.inr (wd89 hw)) (Or.inr (wd99 hw)) (by decide) (t := (.object "java/util/Optional")) (t' := (.object "java/util/List")) (by decide) (by decide))))
  have f28 := ((((Fw11.other W14 (Or.inr (slot_ne (Or.inr (wd91 hw)) (Or.inr (wd93 hw)) (by decide) (t := (.object "java/util/Optional")) (t' := (.object "java/util/Optional")) (by decide) (by decide)))).other W17 (Or.inr (slot_ne (Or.inr (wd91 hw)) (Or.inr (wd95 hw)) (by decide) (t := (.object "java/util/Optional")) (t' := (.object "java/util/Optional")) (by decide) (by decide)))).other W20 (Or.inr (slot_ne (Or.inr (wd91 hw)) (Or.inr (wd97 hw)) (by decide) (t := (.object "java/util/Optional")) (t' := (.object "java/util/Optional")) (by decide) (by decide)))).other W23 (Or.inr (slot_ne (Or.inr (wd91 hw)) (Or.inr (wd99 hw)) (by decide) (t := (.object "java/util/Optional")) (t' := (.object "java/util/List")) (by decide) (by decide))))
  have f29 := (((Fw14.other W17 (Or.inr (slot_ne (Or.inr (wd93 hw)) (Or.inr (wd95 hw)) (by decide) (t := (.object "java/util/Optional")) (t' := (.object "java/util/Optional")) (by decide) (by decide)))).other W20 (Or.inr (slot_ne (Or.inr (wd93 hw)) (Or.inr (wd97 hw)) (by decide) (t := (.object "java/util/Optional")) (t' := (.object "java/util/Optional")) (by decide) (by decide)))).other W23 (Or.inr (slot_ne (Or.inr (wd93 hw)) (Or.inr (wd99 hw)) (by decide) (t := (.object "java/util/Optional")) (t' := (.object "java/util/List")) (by decide) (by decide))))
  have f30 := ((Fw17.other W20 (Or.inr (slot_ne (Or.inr (wd95 hw)) (Or.inr (wd97 hw)) (by decide) (t := (.object "java/util/Optional")) (t' := (.object "java/util/Optional")) (by decide) (by decide)))).other W23 (Or.inr (slot_ne (Or.inr (wd95 hw)) (Or.inr (wd99 hw)) (by decide) (t := (.object "java/util/Optional")) (t' := (.object "java/util/List")) (by decide) (by decide))))
  have f31 := (Fw20.other W23 (Or.inr (slot_ne (Or.inr (wd97 hw)) (Or.inr (wd99 hw)) (by decide) (t := (.object "java/util/Optional")) (t' := (.object "java/util/List")) (by decide) (by decide))))
  obtain ⟨lfs, lhr, lhrun, lhended, lhW, lhsame⟩ := X23.leave (v := none) (fun _ => rfl)
  refine ⟨_, _, pre0 _ ?_, lhrun, lhended, _, _, rfl, ?_, ⟨_, rfl⟩, lhW, lhsame.mono (by decide) (by decide)⟩
  · skip
    show Steps p.tables e below (s₁.setTop (mkF m 0 #[.val (.ref o0), .val (.ref o1), .val (.int x2), .val (.ref o3), .val (.ref o4), .val (.ref o4), .val (.ref o4), .val (.ref o4), .val (.ref o5)] [])) _
    refine XS.aloadN X0.here hx rfl (hb hby dg_0) rfl rfl ?_
    show Steps p.tables e below (s₁.setTop (mkF m 1 #[.val (.ref o0), .val (.ref o1), .val (.int x2), .val (.ref o3), .val (.ref o4), .val (.ref o4), .val (.ref o4), .val (.ref o4), .val (.ref o5)] [(.ref o0)])) _
    refine st1.trans ?_
    show Steps p.tables e below (T1.setTop (mkF m 4 #[.val (.ref o0), .val (.ref o1), .val (.int x2), .val (.ref o3), .val (.ref o4), .val (.ref o4), .val (.ref o4), .val (.ref o4), .val (.ref o5)] [])) _
    refine XS.aloadN X1.here hx rfl (hb hby dg_4) rfl rfl ?_
    show Steps p.tables e below (T1.setTop (mkF m 5 #[.val (.ref o0), .val (.ref o1), .val (.int x2), .val (.ref o3), .val (.ref o4), .val (.ref o4), .val (.ref o4), .val (.ref o4), .val (.ref o5)] [(.ref o0)])) _
    refine XS.aloadN X1.here hx rfl (hb hby dg_5) rfl rfl ?_
    show Steps p.tables e below (T1.setTop (mkF m 6 #[.val (.ref o0), .val (.ref o1), .val (.int x2), .val (.ref o3), .val (.ref o4), .val (.ref o4), .val (.ref o4), .val (.ref o4), .val (.ref o5)] [(.ref o1), (.ref o0)])) _
    refine st2 _ ?_
    show Steps p.tables e below (T2.setTop (mkF m 9 #[.val (.ref o0), .val (.ref o1), .val (.int x2), .val (.ref o3), .val (.ref o4), .val (.ref o4), .val (.ref o4), .val (.ref o4), .val (.ref o5)] [])) _
    refine XS.aloadN X2.here hx rfl (hb hby dg_9) rfl rfl ?_
    show Steps p.tables e below (T2.setTop (mkF m 10 #[.val (.ref o0), .val (.ref o1), .val (.int x2), .val (.ref o3), .val (.ref o4), .val (.ref o4), .val (.ref o4), .val (.ref o4), .val (.ref o5)] [(.ref o0)])) _
    refine XS.iloadN X2.here hx rfl (hb hby dg_10) rfl ?_
    show Steps p.tables e below (T2.setTop (mkF m 11 #[.val (.ref o0), .val (.ref o1), .val (.int x2), .val (.ref o3), .val (.ref o4), .val (.ref o4), .val (.ref o4), .val (.ref o4), .val (.ref o5)] [(.int x2), (.ref o0)])) _
    refine st5 _ ?_
    show Steps p.tables e below (T5.setTop (mkF m 14 #[.val (.ref o0), .val (.ref o1), .val (.int x2), .val (.ref o3), .val (.ref o4), .val (.ref o4), .val (.ref o4), .val (.ref o4), .val (.ref o5)] [])) _
    refine XS.aloadN X5.here hx rfl (hb hby dg_14) rfl rfl ?_
    show Steps p.tables e below (T5.setTop (mkF m 15 #[.val (.ref o0), .val (.ref o1), .val (.int x2), .val (.ref o3), .val (.ref o4), .val (.ref o4), .val (.ref o4), .val (.ref o4), .val (.ref o5)] [(.ref o0)])) _
    refine XS.aloadN X5.here hx rfl (hb hby dg_15) rfl rfl ?_
    show Steps p.tables e below (T5.setTop (mkF m 16 #[.val (.ref o0), .val (.ref o1), .val (.int x2), .val (.ref o3), .val (.ref o4), .val (.ref o4), .val (.ref o4), .val (.ref o4), .val (.ref o5)] [(.ref o3), (.ref o0)])) _
    refine st8 _ ?_
    show Steps p.tables e below (T8.setTop (mkF m 19 #[.val (.ref o0), .val (.ref o1), .val (.int x2), .val (.ref o3), .val (.ref o4), .val (.ref o4), .val (.ref o4), .val (.ref o4), .val (.ref o5)] [])) _
    refine XS.aloadN X8.here hx rfl (hb hby dg_19) rfl rfl ?_
    show Steps p.tables e below (T8.setTop (mkF m 20 #[.val (.ref o0), .val (.ref o1), .val (.int x2), .val (.ref o3), .val (.ref o4), .val (.ref o4), .val (.ref o4), .val (.ref o4), .val (.ref o5)] [(.ref o0)])) _
    refine XS.aload X8.here hx rfl (hb hby dg_20) rfl rfl ?_
    show Steps p.tables e below (T8.setTop (mkF m 22 #[.val (.ref o0), .val (.ref o1), .val (.int x2), .val (.ref o3), .val (.ref o4), .val (.ref o4), .val (.ref o4), .val (.ref o4), .val (.ref o5)] [(.ref o4), (.ref o0)])) _
    refine st11 _ ?_
    show Steps p.tables e below (T11.setTop (mkF m 25 #[.val (.ref o0), .val (.ref o1), .val (.int x2), .val (.ref o3), .val (.ref o4), .val (.ref o4), .val (.ref o4), .val (.ref o4), .val (.ref o5)] [])) _
    refine XS.aloadN X11.here hx rfl (hb hby dg_25) rfl rfl ?_
    show Steps p.tables e below (T11.setTop (mkF m 26 #[.val (.ref o0), .val (.ref o1), .val (.int x2), .val (.ref o3), .val (.ref o4), .val (.ref o4), .val (.ref o4), .val (.ref o4), .val (.ref o5)] [(.ref o0)])) _
    refine XS.aload X11.here hx rfl (hb hby dg_26) rfl rfl ?_
    show Steps p.tables e below (T11.setTop (mkF m 28 #[.val (.ref o0), .val (.ref o1), .val (.int x2), .val (.ref o3), .val (.ref o4), .val (.ref o4), .val (.ref o4), .val (.ref o4), .val (.ref o5)] [(.ref o4), (.ref o0)])) _
    refine st14 _ ?_
    show Steps p.tables e below (T14.setTop (mkF m 31 #[.val (.ref o0), .val (.ref o1), .val (.int x2), .val (.ref o3), .val (.ref o4), .val (.ref o4), .val (.ref o4), .val (.ref o4), .val (.ref o5)] [])) _
    refine XS.aloadN X14.here hx rfl (hb hby dg_31) rfl rfl ?_
    show Steps p.tables e below (T14.setTop (mkF m 32 #[.val (.ref o0), .val (.ref o1), .val (.int x2), .val (.ref o3), .val (.ref o4), .val (.ref o4), .val (.ref o4), .val (.ref o4), .val (.ref o5)] [(.ref o0)])) _
    refine XS.aload X14.here hx rfl (hb hby dg_32) rfl rfl ?_
    show Steps p.tables e below (T14.setTop (mkF m 34 #[.val (.ref o0), .val (.ref o1), .val (.int x2), .val (.ref o3), .val (.ref o4), .val (.ref o4), .val (.ref o4), .val (.ref o4), .val (.ref o5)] [(.ref o4), (.ref o0)])) _
    refine st17 _ ?_
    show Steps p.tables e below (T17.setTop (mkF m 37 #[.val (.ref o0), .val (.ref o1), .val (.int x2), .val (.ref o3), .val (.ref o4), .val (.ref o4), .val (.ref o4), .val (.ref o4), .val (.ref o5)] [])) _
    refine XS.aloadN X17.here hx rfl (hb hby dg_37) rfl rfl ?_
    show Steps p.tables e below (T17.setTop (mkF m 38 #[.val (.ref o0), .val (.ref o1), .val (.int x2), .val (.ref o3), .val (.ref o4), .val (.ref o4), .val (.ref o4), .val (.ref o4), .val (.ref o5)] [(.ref o0)])) _
    refine XS.aload X17.here hx rfl (hb hby dg_38) rfl rfl ?_
    show Steps p.tables e below (T17.setTop (mkF m 40 #[.val (.ref o0), .val (.ref o1), .val (.int x2), .val (.ref o3), .val (.ref o4), .val (.ref o4), .val (.ref o4), .val (.ref o4), .val (.ref o5)] [(.ref o4), (.ref o0)])) _
    refine st20 _ ?_
    show Steps p.tables e below (T20.setTop (mkF m 43 #[.val (.ref o0), .val (.ref o1), .val (.int x2), .val (.ref o3), .val (.ref o4), .val (.ref o4), .val (.ref o4), .val (.ref o4), .val (.ref o5)] [])) _
    refine XS.aloadN X20.here hx rfl (hb hby dg_43) rfl rfl ?_
    show Steps p.tables e below (T20.setTop (mkF m 44 #[.val (.ref o0), .val (.ref o1), .val (.int x2), .val (.ref o3), .val (.ref o4), .val (.ref o4), .val (.ref o4), .val (.ref o4), .val (.ref o5)] [(.ref o0)])) _
    refine XS.aload X20.here hx rfl (hb hby dg_44) rfl rfl ?_
    show Steps p.tables e below (T20.setTop (mkF m 46 #[.val (.ref o0), .val (.ref o1), .val (.int x2), .val (.ref o3), .val (.ref o4), .val (.ref o4), .val (.ref o4), .val (.ref o4), .val (.ref o5)] [(.ref o5), (.ref o0)])) _
    refine st23 _ ?_
    show Steps p.tables e below (T23.setTop (mkF m 49 #[.val (.ref o0), .val (.ref o1), .val (.int x2), .val (.ref o3), .val (.ref o4), .val (.ref o4), .val (.ref o4), .val (.ref o4), .val (.ref o5)] [])) _
    exact X23.returnOut hx Bd.returns (hb hby dg_49) lhr
  · skip
    show QA26 Z o0 o1 x2 o3 o4 o5 h0 n0 _ T23.heap _
    rw [e23]
    exact ⟨rfl, N23, K23, f24, f25, f26, f27, f28, f29, f30, f31, Fw23⟩
theorem efa_jdk_32_method_5_code_v (m : MethodId) (x0 : Addr) : entryFrame m #[(.ref x0)] 1 = mkF m 0 #[.val (.ref x0)] [] := by first | (simp [entryFrame, mkF, argsToLocals, Value.category]; done) | rfl
theorem dl_0 : decode jdk_32_method_5_code 0 = .ok (.aload_n 0, 1) := by decide +kernel
theorem dl_1 : decode jdk_32_method_5_code 1 = .ok (.getfield 13, 3) := by decide +kernel
theorem dl_4 : decode jdk_32_method_5_code 4 = .ok (.ifnonnull 13, 3) := by decide +kernel
theorem dl_17 : decode jdk_32_method_5_code 17 = .ok (.aload_n 0, 1) := by decide +kernel
theorem dl_18 : decode jdk_32_method_5_code 18 = .ok (.getfield 13, 3) := by decide +kernel
theorem dl_21 : decode jdk_32_method_5_code 21 = .ok (.areturn, 1) := by decide +kernel
def QA29 (Z : State) (o0 : Addr) (o1 : Addr) (h0 : Heap) (n0 : Nat) (v : Option Value) (h : Heap) (L : List Loc) : Prop := v = some (.ref o1) ∧ Fr n0 L ∧ h = h0
set_option maxRecDepth 65536 in
set_option maxHeartbeats 40000000 in
theorem rmA29 (l : Launch) (Z : State) (a0 : Array Value) (hw : ∀ d ∈ tables_1, d.before a0 Z = true) (ws : List Jvm.Cond) (o0 : Addr) (o1 : Addr) (h0 : Heap) (n0 : Nat) (Z0 : n0 ≤ h0.size) (F_o0_value : Fld Z h0 o0 "java/util/Optional" "value" "Ljava/lang/Object;" (.ref o1)) :
    MetFree l mn14 (head1 (Jvm.Cond.code mn14 jdk_32_method_5_code 1 (some (.object "java/lang/Object")) :: ws) ({ frames := 0, cells := 0, slots := 0, locals := 0 } : Room)) (fun a U => a = #[(.ref o0)] ∧ Z.Warmed39 U.vm ∧ U.heap = h0) (fun _ _ _ _ _ => True) (fun _ U oc_ U' => ∃ v L, oc_ = .returned v ∧ QA29 Z o0 o1 h0 n0 v U'.heap L ∧ FrameEnd U oc_ U' L ({ frames := 0, cells := 0, slots := 0, locals := 0 } : Room).cells ({ frames := 0, cells := 0, slots := 0, locals := 0 } : Room).slots) := by
  refine MetFree.of_bodySF (plainFor_of_name pn_java_util_Optional) hisR ?_
  intro p e s m args below meth c s₁ Bd hml0 hP hK
  obtain ⟨rfl, hZ, hh⟩ := hP
  have hx := Bd.exec
  have hby := Bd.bytes
  have hml : c.maxLocals = 1 := hml0
  have hown : s.vm.findClass "java/util/Optional" = some m.cls := findClass_of_methodNamed Bd.named
  have hnm := (name_of_methodNamed Bd.named Bd.method).1
  have X0 : Stand p l e ({ frames := 0, cells := 0, slots := 0, locals := 0 } : Room) s m #[(.ref o0)] below meth c s₁ [] 0 0 := Stand.of_body Bd
  have e0 : s₁.heap = h0 := by rw [← hh, Bd.state]; rfl
  have N0 := Fr.nil n0
  have pre0 : ∀ t, Steps p.tables e below (s₁.setTop (mkF m 0 #[.val (.ref o0)] [])) t → Steps p.tables e below (s₁.setTop (entryFrame m #[(.ref o0)] 1)) t := fun t k => castTop (efa_jdk_32_method_5_code_v m o0) k
  obtain ⟨T1, X1, e1, st1⟩ := getF X0 hx hZ hown (host := "") (Or.inl (wd45 hw)) Via.refl e0 F_o0_value (g := (mkF m 1 #[.val (.ref o0)] [(.ref o0)])) rfl rfl (hb hby dl_1)
  obtain ⟨T2, X2, e2, st2⟩ := getF X1 hx hZ hown (host := "") (Or.inl (wd45 hw)) Via.refl e1 F_o0_value (g := (mkF m 18 #[.val (.ref o0)] [(.ref o0)])) rfl rfl (hb hby dl_18)
  obtain ⟨lfs, lhr, lhrun, lhended, lhW, lhsame⟩ := X2.leave (v := some (.ref o1)) (fun h => by rw [Bd.returns] at h; cases h)
  refine ⟨_, _, pre0 _ ?_, lhrun, lhended, _, _, rfl, ?_, ⟨_, rfl⟩, lhW, lhsame.mono (by decide) (by decide)⟩
  · skip
    show Steps p.tables e below (s₁.setTop (mkF m 0 #[.val (.ref o0)] [])) _
    refine XS.aloadN X0.here hx rfl (hb hby dl_0) rfl rfl ?_
    show Steps p.tables e below (s₁.setTop (mkF m 1 #[.val (.ref o0)] [(.ref o0)])) _
    refine st1 _ ?_
    show Steps p.tables e below (T1.setTop (mkF m 4 #[.val (.ref o0)] [(.ref o1)])) _
    refine XS.ifnonnullYes X1.here hx rfl (pc0 := 4) (pc' := 17) rfl (hb hby dl_4) rfl (by decide) (by decide) ?_
    show Steps p.tables e below (T1.setTop (mkF m 17 #[.val (.ref o0)] [])) _
    refine XS.aloadN X1.here hx rfl (hb hby dl_17) rfl rfl ?_
    show Steps p.tables e below (T1.setTop (mkF m 18 #[.val (.ref o0)] [(.ref o0)])) _
    refine st2 _ ?_
    show Steps p.tables e below (T2.setTop (mkF m 21 #[.val (.ref o0)] [(.ref o1)])) _
    exact retOut X2 hx Bd.returns rfl (Or.inr (Or.inr (Or.inr (Or.inr ⟨rfl, rfl, rfl⟩)))) (hb hby dl_21) lhr
  · skip
    show QA29 Z o0 o1 h0 n0 _ T2.heap _
    rw [e2]
    exact ⟨rfl, N0, rfl⟩
theorem efa_jdk_42_method_66_code_vv (m : MethodId) (x0 : Addr) (x1 : Addr) : entryFrame m #[(.ref x0), (.ref x1)] 3 = mkF m 0 #[.val (.ref x0), .val (.ref x1), .unset] [] := by first | (simp [entryFrame, mkF, argsToLocals, Value.category]; done) | rfl
theorem de_0 : decode jdk_42_method_66_code 0 = .ok (.aload_n 0, 1) := by decide +kernel
theorem de_1 : decode jdk_42_method_66_code 1 = .ok (.aload_n 1, 1) := by decide +kernel
theorem de_2 : decode jdk_42_method_66_code 2 = .ok (.if_acmp .ne 5, 3) := by decide +kernel
theorem de_5 : decode jdk_42_method_66_code 5 = .ok (.iconst 1, 1) := by decide +kernel
theorem de_6 : decode jdk_42_method_66_code 6 = .ok (.ireturn, 1) := by decide +kernel
def QA30 (Z : State) (o0 : Addr) (h0 : Heap) (n0 : Nat) (v : Option Value) (h : Heap) (L : List Loc) : Prop := v = some (.int (1 : Int32)) ∧ Fr n0 L ∧ h = h0
set_option maxRecDepth 65536 in
set_option maxHeartbeats 40000000 in
theorem rmA30 (l : Launch) (Z : State) (a0 : Array Value) (hw : ∀ d ∈ tables_1, d.before a0 Z = true) (ws : List Jvm.Cond) (o0 : Addr) (h0 : Heap) (n0 : Nat) (Z0 : n0 ≤ h0.size) :
    MetFree l mn7 (head1 (Jvm.Cond.code mn7 jdk_42_method_66_code 3 (some .boolean) :: ws) ({ frames := 0, cells := 0, slots := 0, locals := 0 } : Room)) (fun a U => a = #[(.ref o0), (.ref o0)] ∧ Z.Warmed39 U.vm ∧ U.heap = h0) (fun _ _ _ _ _ => True) (fun _ U oc_ U' => ∃ v L, oc_ = .returned v ∧ QA30 Z o0 h0 n0 v U'.heap L ∧ FrameEnd U oc_ U' L ({ frames := 0, cells := 0, slots := 0, locals := 0 } : Room).cells ({ frames := 0, cells := 0, slots := 0, locals := 0 } : Room).slots) := by
  refine MetFree.of_bodySF (plainFor_of_name pn_java_lang_String) hisR ?_
  intro p e s m args below meth c s₁ Bd hml0 hP hK
  obtain ⟨rfl, hZ, hh⟩ := hP
  have hx := Bd.exec
  have hby := Bd.bytes
  have hml : c.maxLocals = 3 := hml0
  have hown : s.vm.findClass "java/lang/String" = some m.cls := findClass_of_methodNamed Bd.named
  have hnm := (name_of_methodNamed Bd.named Bd.method).1
  have X0 : Stand p l e ({ frames := 0, cells := 0, slots := 0, locals := 0 } : Room) s m #[(.ref o0), (.ref o0)] below meth c s₁ [] 0 0 := Stand.of_body Bd
  have e0 : s₁.heap = h0 := by rw [← hh, Bd.state]; rfl
  have N0 := Fr.nil n0
  have pre0 : ∀ t, Steps p.tables e below (s₁.setTop (mkF m 0 #[.val (.ref o0), .val (.ref o0), .unset] [])) t → Steps p.tables e below (s₁.setTop (entryFrame m #[(.ref o0), (.ref o0)] 3)) t := fun t k => castTop (efa_jdk_42_method_66_code_vv m o0 o0) k
  obtain ⟨lfs, lhr, lhrun, lhended, lhW, lhsame⟩ := X0.leave (v := some (.int (1 : Int32))) (fun h => by rw [Bd.returns] at h; cases h)
  refine ⟨_, _, pre0 _ ?_, lhrun, lhended, _, _, rfl, ?_, ⟨_, rfl⟩, lhW, lhsame.mono (by decide) (by decide)⟩
  · skip
    show Steps p.tables e below (s₁.setTop (mkF m 0 #[.val (.ref o0), .val (.ref o0), .unset] [])) _
    refine XS.aloadN X0.here hx rfl (hb hby de_0) rfl rfl ?_
    show Steps p.tables e below (s₁.setTop (mkF m 1 #[.val (.ref o0), .val (.ref o0), .unset] [(.ref o0)])) _
    refine XS.aloadN X0.here hx rfl (hb hby de_1) rfl rfl ?_
    show Steps p.tables e below (s₁.setTop (mkF m 2 #[.val (.ref o0), .val (.ref o0), .unset] [(.ref o0), (.ref o0)])) _
    refine Jvm.RoadKit.acmp (g := (mkF m 2 #[.val (.ref o0), .val (.ref o0), .unset] [(.ref o0), (.ref o0)])) X0 hx rfl rfl rfl (pc0 := 2) (pc' := 5) (same := true) rfl (hb hby de_2) rfl (decide_eq_true rfl) (by decide) (by decide) ?_
    show Steps p.tables e below (s₁.setTop (mkF m 5 #[.val (.ref o0), .val (.ref o0), .unset] [])) _
    refine XS.iconst X0.here hx rfl (hb hby de_5) ?_
    show Steps p.tables e below (s₁.setTop (mkF m 6 #[.val (.ref o0), .val (.ref o0), .unset] [(.int (1 : Int32))])) _
    exact retN X0 hx (t := .boolean) Bd.returns (by simp) (hb hby de_6) lhr
  · skip
    show QA30 Z o0 h0 n0 _ s₁.heap _
    rw [e0]
    exact ⟨rfl, N0, rfl⟩
def QA41 (Z : State) (o0 : Addr) (o1 : Addr) (x2 : Int32) (o3 : Addr) (o4 : Addr) (o5 : Addr) (h0 : Heap) (n0 : Nat) (v : Option Value) (h : Heap) (L : List Loc) : Prop := v = none ∧ Fr n0 L ∧ Keep h0 h [o0] ∧ Exa Z h o0 cn4 ∧ Fld Z h o0 cn4 "code" "Ljava/lang/String;" (.ref o1) ∧ Fld Z h o0 cn4 "status" "I" (.int x2) ∧ Fld Z h o0 cn4 "catalogueMessage" "Ljava/util/Optional;" (.ref o3) ∧ Fld Z h o0 cn4 "ownMessage" "Ljava/util/Optional;" (.ref o4) ∧ Fld Z h o0 cn4 "trace" "Ljava/util/Optional;" (.ref o3) ∧ Fld Z h o0 cn4 "moreInfo" "Ljava/util/Optional;" (.ref o3) ∧ Fld Z h o0 cn4 "target" "Ljava/util/Optional;" (.ref o3) ∧ Fld Z h o0 cn4 "details" "Ljava/util/List;" (.ref o5)
set_option maxRecDepth 65536 in
set_option maxHeartbeats 40000000 in
theorem rmA41 (l : Launch) (Z : State) (a0 : Array Value) (hw : ∀ d ∈ tables_1, d.before a0 Z = true) (ws : List Jvm.Cond) (o0 : Addr) (o1 : Addr) (x2 : Int32) (o3 : Addr) (o4 : Addr) (o5 : Addr) (h0 : Heap) (n0 : Nat) (Z0 : n0 ≤ h0.size) (E_o0 : Exa Z h0 o0 cn4) (F_o0_code : Fld Z h0 o0 cn4 "code" "Ljava/lang/String;" .null) (g_o0 : n0 ≤ o0) (F_o0_status : Fld Z h0 o0 cn4 "status" "I" (.int (0 : Int32))) (F_o0_catalogueMessage : Fld Z h0 o0 cn4 "catalogueMessage" "Ljava/util/Optional;" .null) (F_o0_ownMessage : Fld Z h0 o0 cn4 "ownMessage" "Ljava/util/Optional;" .null) (F_o0_trace : Fld Z h0 o0 cn4 "trace" "Ljava/util/Optional;" .null) (F_o0_moreInfo : Fld Z h0 o0 cn4 "moreInfo" "Ljava/util/Optional;" .null) (F_o0_target : Fld Z h0 o0 cn4 "target" "Ljava/util/Optional;" .null) (F_o0_details : Fld Z h0 o0 cn4 "details" "Ljava/util/List;" .null) :
    MetFree l mn0 (head1 (Jvm.Cond.code mn0 prog_9_method_1_code 9 none :: ws) ({ frames := 2, cells := 0, slots := 0, locals := 24 } : Room)) (fun a U => a = #[(.ref o0), (.ref o1), (.int x2), (.ref o3), (.ref o4), (.ref o3), (.ref o3), (.ref o3), (.ref o5)] ∧ Z.Warmed39 U.vm ∧ U.heap = h0) (fun _ _ _ _ _ => True) (fun _ U oc_ U' => ∃ v L, oc_ = .returned v ∧ QA41 Z o0 o1 x2 o3 o4 o5 h0 n0 v U'.heap L ∧ FrameEnd U oc_ U' L ({ frames := 2, cells := 0, slots := 0, locals := 24 } : Room).cells ({ frames := 2, cells := 0, slots := 0, locals := 24 } : Room).slots) := by
  refine MetFree.of_bodySF (plainFor_of_name pn_com_example_typed_api_errors_typedapierrors_error_Occurrence) hisR ?_
  intro p e s m args below meth c s₁ Bd hml0 hP hK
  obtain ⟨rfl, hZ, hh⟩ := hP
  have hx := Bd.exec
  have hby := Bd.bytes
  have hml : c.maxLocals = 9 := hml0
  have hown : s.vm.findClass cn4 = some m.cls := findClass_of_methodNamed Bd.named
  have hnm := (name_of_methodNamed Bd.named Bd.method).1
  have X0 : Stand p l e ({ frames := 2, cells := 0, slots := 0, locals := 24 } : Room) s m #[(.ref o0), (.ref o1), (.int x2), (.ref o3), (.ref o4), (.ref o3), (.ref o3), (.ref o3), (.ref o5)] below meth c s₁ [] 0 0 := Stand.of_body Bd
  have e0 : s₁.heap = h0 := by rw [← hh, Bd.state]; rfl
  have N0 := Fr.nil n0
  have pre0 : ∀ t, Steps p.tables e below (s₁.setTop (mkF m 0 #[.val (.ref o0), .val (.ref o1), .val (.int x2), .val (.ref o3), .val (.ref o4), .val (.ref o3), .val (.ref o3), .val (.ref o3), .val (.ref o5)] [])) t → Steps p.tables e below (s₁.setTop (entryFrame m #[(.ref o0), (.ref o1), (.int x2), (.ref o3), (.ref o4), (.ref o3), (.ref o3), (.ref o3), (.ref o5)] 9)) t := fun t k => castTop (efa_prog_9_method_1_code_vvvvvvvvv m o0 o1 x2 o3 o4 o3 o3 o3 o5) k
  obtain ⟨_, _, ⟨T1, L1, kc1, ks1⟩, -, X1, ⟨Lc1, hQ1, l1, y1, z1⟩, st1⟩ := X0.specialBack hx (y := mn4) rfl hown (mvT hZ (wd78 hw)) (mvT hZ (wd79 hw)) (mvT hZ (wd82 hw)) (by decide) (backOf (W := 0) (rmA15 l Z a0 hw [] o0 h0 n0 Z0 ) hZ (wd82 hw) (wd81 hw) (by decide) (by decide)) (g := (mkF m 1 #[.val (.ref o0), .val (.ref o1), .val (.int x2), .val (.ref o3), .val (.ref o4), .val (.ref o3), .val (.ref o3), .val (.ref o3), .val (.ref o5)] [(.ref o0)])) rfl (by rw [hml]; rfl) (Steps.refl _) (a := o0) (argsL := []) (rest := []) (lenOf pd___V rfl) rfl (by show 2 * 0 + _ ≤ _; exact Nat.le_of_eq rfl) (hb hby dg_1) (fun _ _ => ⟨rfl, e0, (by decide : 0 + 0 ≤ _), (by decide : 0 + 0 ≤ _)⟩)
  dsimp only [Pt.U, Pt.locs, Pt.cells, Pt.slots] at X1 l1 y1 z1 st1 hQ1
  subst l1 y1 z1
  obtain ⟨rfl, Nq1, eq1⟩ := hQ1
  have N1 := Fr.app N0 Nq1
  obtain ⟨T2, h2, X2, e2, W2, st2⟩ := putF X1 hx hZ hown (host := "") (Or.inl (wd84 hw)) Via.refl eq1 F_o0_code E_o0 (Or.inr ⟨(wd85 hw), rfl, hnm⟩) (wd72 hw) (ty := (.object "java/lang/String")) (by decide) rfl rfl (g := (mkF m 6 #[.val (.ref o0), .val (.ref o1), .val (.int x2), .val (.ref o3), .val (.ref o4), .val (.ref o3), .val (.ref o3), .val (.ref o3), .val (.ref o5)] [(.ref o1), (.ref o0)])) rfl rfl (hb hby dg_6)
  have N2 := Fr.snoc X2 N1 g_o0
  have Z2 : n0 ≤ h2.size := by rw [W2.size]; exact Z0
  have K2 : Keep h0 h2 [o0] := ((Keep.refl h0 [o0]).wr W2 (Or.inl (List.mem_of_getElem? (i := 0) rfl)))
  have Fw2 := F_o0_code.same W2
  have f3 := (E_o0.wr W2)
  have f4 := (F_o0_status.other W2 (Or.inr (slot_ne (Or.inr (wd87 hw)) (Or.inr (wd85 hw)) (by decide) (t := .int) (t' := (.object "java/lang/String")) (by decide) (by decide))))
  obtain ⟨T5, h5, X5, e5, W5, st5⟩ := putF X2 hx hZ hown (host := "") (Or.inl (wd86 hw)) Via.refl e2 f4 f3 (Or.inr ⟨(wd87 hw), rfl, hnm⟩) (wd72 hw) (ty := .int) (by decide) rfl rfl (g := (mkF m 11 #[.val (.ref o0), .val (.ref o1), .val (.int x2), .val (.ref o3), .val (.ref o4), .val (.ref o3), .val (.ref o3), .val (.ref o3), .val (.ref o5)] [(.int x2), (.ref o0)])) rfl rfl (hb hby dg_11)
  have N5 := Fr.snoc X5 N2 g_o0
  have Z5 : n0 ≤ h5.size := by rw [W5.size]; exact Z2
  have K5 : Keep h0 h5 [o0] := (K2.wr W5 (Or.inl (List.mem_of_getElem? (i := 0) rfl)))
  have Fw5 := f4.same W5
  have f6 := (f3.wr W5)
  have f7 := ((F_o0_catalogueMessage.other W2 (Or.inr (slot_ne (Or.inr (wd89 hw)) (Or.inr (wd85 hw)) (by decide) (t := (.object "java/util/Optional")) (t' := (.object "java/lang/String")) (by decide) (by decide)))).other W5 (Or.inr (slot_ne (Or.inr (wd89 hw)) (Or.inr (wd87 hw)) (by decide) (t := (.object "java/util/Optional")) (t' := .int) (by decide) (by decide))))
  obtain ⟨T8, h8, X8, e8, W8, st8⟩ := putF X5 hx hZ hown (host := "") (Or.inl (wd88 hw)) Via.refl e5 f7 f6 (Or.inr ⟨(wd89 hw), rfl, hnm⟩) (wd72 hw) (ty := (.object "java/util/Optional")) (by decide) rfl rfl (g := (mkF m 16 #[.val (.ref o0), .val (.ref o1), .val (.int x2), .val (.ref o3), .val (.ref o4), .val (.ref o3), .val (.ref o3), .val (.ref o3), .val (.ref o5)] [(.ref o3), (.ref o0)])) rfl rfl (hb hby dg_16)
  have N8 := Fr.snoc X8 N5 g_o0
  have Z8 : n0 ≤ h8.size := by rw [W8.size]; exact Z5
  have K8 : Keep h0 h8 [o0] := (K5.wr W8 (Or.inl (List.mem_of_getElem? (i := 0) rfl)))
  have Fw8 := f7.same W8
  have f9 := (f6.wr W8)
  have f10 := (((F_o0_ownMessage.other W2 (Or.inr (slot_ne (Or.inr (wd91 hw)) (Or.inr (wd85 hw)) (by decide) (t := (.object "java/util/Optional")) (t' := (.object "java/lang/String")) (by decide) (by decide)))).other W5 (Or.inr (slot_ne (Or.inr (wd91 hw)) (Or.inr (wd87 hw)) (by decide) (t := (.object "java/util/Optional")) (t' := .int) (by decide) (by decide)))).other W8 (Or.inr (slot_ne (Or.inr (wd91 hw)) (Or.inr (wd89 hw)) (by decide) (t := (.object "java/util/Optional")) (t' := (.object "java/util/Optional")) (by decide) (by decide))))
  obtain ⟨T11, h11, X11, e11, W11, st11⟩ := putF X8 hx hZ hown (host := "") (Or.inl (wd90 hw)) Via.refl e8 f10 f9 (Or.inr ⟨(wd91 hw), rfl, hnm⟩) (wd72 hw) (ty := (.object "java/util/Optional")) (by decide) rfl rfl (g := (mkF m 22 #[.val (.ref o0), .val (.ref o1), .val (.int x2), .val (.ref o3), .val (.ref o4), .val (.ref o3), .val (.ref o3), .val (.ref o3), .val (.ref o5)] [(.ref o4), (.ref o0)])) rfl rfl (hb hby dg_22)
  have N11 := Fr.snoc X11 N8 g_o0
  have Z11 : n0 ≤ h11.size := by rw [W11.size]; exact Z8
  have K11 : Keep h0 h11 [o0] := (K8.wr W11 (Or.inl (List.mem_of_getElem? (i := 0) rfl)))
  have Fw11 := f10.same W11
  have f12 := (f9.wr W11)
  have f13 := ((((F_o0_trace.other W2 (Or.inr (slot_ne (Or.inr (wd93 hw)) (Or.inr (wd85 hw)) (by decide) (t := (.object "java/util/Optional")) (t' := (.object "java/lang/String")) (by decide) (by decide)))).other W5 (Or.inr (slot_ne (Or.inr (wd93 hw)) (Or.inr (wd87 hw)) (by decide) (t := (.object "java/util/Optional")) (t' := .int) (by decide) (by decide)))).other W8 (Or.inr (slot_ne (Or.inr (wd93 hw)) (Or.inr (wd89 hw)) (by decide) (t := (.object "java/util/Optional")) (t' := (.object "java/util/Optional")) (by decide) (by decide)))).other W11 (Or.inr (slot_ne (Or.inr (wd93 hw)) (Or.inr (wd91 hw)) (by decide) (t := (.object "java/util/Optional")) (t' := (.object "java/util/Optional")) (by decide) (by decide))))
  obtain ⟨T14, h14, X14, e14, W14, st14⟩ := putF X11 hx hZ hown (host := "") (Or.inl (wd92 hw)) Via.refl e11 f13 f12 (Or.inr ⟨(wd93 hw), rfl, hnm⟩) (wd72 hw) (ty := (.object "java/util/Optional")) (by decide) rfl rfl (g := (mkF m 28 #[.val (.ref o0), .val (.ref o1), .val (.int x2), .val (.ref o3), .val (.ref o4), .val (.ref o3), .val (.ref o3), .val (.ref o3), .val (.ref o5)] [(.ref o3), (.ref o0)])) rfl rfl (hb hby dg_28)
  have N14 := Fr.snoc X14 N11 g_o0
  have Z14 : n0 ≤ h14.size := by rw [W14.size]; exact Z11
  have K14 : Keep h0 h14 [o0] := (K11.wr W14 (Or.inl (List.mem_of_getElem? (i := 0) rfl)))
  have Fw14 := f13.same W14
  have f15 := (f12.wr W14)
  have f16 := (((((F_o0_moreInfo.other W2 (Or.inr (slot_ne (Or.inr (wd95 hw)) (Or.inr (wd85 hw)) (by decide) (t := (.object "java/util/Optional")) (t' := (.object "java/lang/String")) (by decide) (by decide)))).other W5 (Or.inr (slot_ne (Or.inr (wd95 hw)) (Or.inr (wd87 hw)) (by decide) (t := (.object "java/util/Optional")) (t' := .int) (by decide) (by decide)))).other W8 (Or.inr (slot_ne (Or.inr (wd95 hw)) (Or.inr (wd89 hw)) (by decide) (t := (.object "java/util/Optional")) (t' := (.object "java/util/Optional")) (by decide) (by decide)))).other W11 (Or.inr (slot_ne (Or.inr (wd95 hw)) (Or.inr (wd91 hw)) (by decide) (t := (.object "java/util/Optional")) (t' := (.object "java/util/Optional")) (by decide) (by decide)))).other W14 (Or.inr (slot_ne (Or.inr (wd95 hw)) (Or.inr (wd93 hw)) (by decide) (t := (.object "java/util/Optional")) (t' := (.object "java/util/Optional")) (by decide) (by decide))))
  obtain ⟨T17, h17, X17, e17, W17, st17⟩ := putF X14 hx hZ hown (host := "") (Or.inl (wd94 hw)) Via.refl e14 f16 f15 (Or.inr ⟨(wd95 hw), rfl, hnm⟩) (wd72 hw) (ty := (.object "java/util/Optional")) (by decide) rfl rfl (g := (mkF m 34 #[.val (.ref o0), .val (.ref o1), .val (.int x2), .val (.ref o3), .val (.ref o4), .val (.ref o3), .val (.ref o3), .val (.ref o3), .val (.ref o5)] [(.ref o3), (.ref o0)])) rfl rfl (hb hby dg_34)
  have N17 := Fr.snoc X17 N14 g_o0
  have Z17 : n0 ≤ h17.size := by rw [W17.size]; exact Z14
  have K17 : Keep h0 h17 [o0] := (K14.wr W17 (Or.inl (List.mem_of_getElem? (i := 0) rfl)))
  have Fw17 := f16.same W17
  have f18 := (f15.wr W17)
  have f19 := ((((((F_o0_target.other W2 (Or.inr (slot_ne (Or.inr (wd97 hw)) (Or.inr (wd85 hw)) (by decide) (t := (.object "java/util/Optional")) (t' := (.object "java/lang/String")) (by decide) (by decide)))).other W5 (Or.inr (slot_ne (Or.inr (wd97 hw)) (Or.inr (wd87 hw)) (by decide) (t := (.object "java/util/Optional")) (t' := .int) (by decide) (by decide)))).other W8 (Or.inr (slot_ne (Or.inr (wd97 hw)) (Or.inr (wd89 hw)) (by decide) (t := (.object "java/util/Optional")) (t' := (.object "java/util/Optional")) (by decide) (by decide)))).other W11 (Or.inr (slot_ne (Or.inr (wd97 hw)) (Or.inr (wd91 hw)) (by decide) (t := (.object "java/util/Optional")) (t' := (.object "java/util/Optional")) (by decide) (by decide)))).other W14 (Or.inr (slot_ne (Or.inr (wd97 hw)) (Or.inr (wd93 hw)) (by decide) (t := (.object "java/util/Optional")) (t' := (.object "java/util/Optional")) (by decide) (by decide)))).other W17 (Or.inr (slot_ne (Or.inr (wd97 hw)) (Or.inr (wd95 hw)) (by decide) (t := (.object "java/util/Optional")) (t' := (.object "java/util/Optional")) (by decide) (by decide))))
  obtain ⟨T20, h20, X20, e20, W20, st20⟩ := putF X17 hx hZ hown (host := "") (Or.inl (wd96 hw)) Via.refl e17 f19 f18 (Or.inr ⟨(wd97 hw), rfl, hnm⟩) (wd72 hw) (ty := (.object "java/util/Optional")) (by decide) rfl rfl (g := (mkF m 40 #[.val (.ref o0), .val (.ref o1), .val (.int x2), .val (.ref o3), .val (.ref o4), .val (.ref o3), .val (.ref o3), .val (.ref o3), .val (.ref o5)] [(.ref o3), (.ref o0)])) rfl rfl (hb hby dg_40)
  have N20 := Fr.snoc X20 N17 g_o0
  have Z20 : n0 ≤ h20.size := by rw [W20.size]; exact Z17
  have K20 : Keep h0 h20 [o0] := (K17.wr W20 (Or.inl (List.mem_of_getElem? (i := 0) rfl)))
  have Fw20 := f19.same W20
  have f21 := (f18.wr W20)
  have f22 := (((((((F_o0_details.other W2 (Or.inr (slot_ne (Or.inr (wd99 hw)) (Or.inr (wd85 hw)) (by decide) (t := (.object "java/util/List")) (t' := (.object "java/lang/String")) (by decide) (by decide)))).other W5 (Or.inr (slot_ne (Or.inr (wd99 hw)) (Or.inr (wd87 hw)) (by decide) (t := (.object "java/util/List")) (t' := .int) (by decide) (by decide)))).other W8 (Or.inr (slot_ne (Or.inr (wd99 hw)) (Or.inr (wd89 hw)) (by decide) (t := (.object "java/util/List")) (t' := (.object "java/util/Optional")) (by decide) (by decide)))).other W11 (Or.inr (slot_ne (Or.inr (wd99 hw)) (Or.inr (wd91 hw)) (by decide) (t := (.object "java/util/List")) (t' := (.object "java/util/Optional")) (by decide) (by decide)))).other W14 (Or.inr (slot_ne (Or.inr (wd99 hw)) (Or.inr (wd93 hw)) (by decide) (t := (.object "java/util/List")) (t' := (.object "java/util/Optional")) (by decide) (by decide)))).other W17 (Or.inr (slot_ne (Or.inr (wd99 hw)) (Or.inr (wd95 hw)) (by decide) (t := (.object "java/util/List")) (t' := (.object "java/util/Optional")) (by decide) (by decide)))).other W20 (Or.inr (slot_ne (Or.inr (wd99 hw)) (Or.inr (wd97 hw)) (by decide) (t := (.object "java/util/List")) (t' := (.object "java/util/Optional")) (by decide) (by decide))))
  obtain ⟨T23, h23, X23, e23, W23, st23⟩ := putF X20 hx hZ hown (host := "") (Or.inl (wd98 hw)) Via.refl e20 f22 f21 (Or.inr ⟨(wd99 hw), rfl, hnm⟩) (wd72 hw) (ty := (.object "java/util/List")) (by decide) rfl rfl (g := (mkF m 46 #[.val (.ref o0), .val (.ref o1), .val (.int x2), .val (.ref o3), .val (.ref o4), .val (.ref o3), .val (.ref o3), .val (.ref o3), .val (.ref o5)] [(.ref o5), (.ref o0)])) rfl rfl (hb hby dg_46)
  have N23 := Fr.snoc X23 N20 g_o0
  have Z23 : n0 ≤ h23.size := by rw [W23.size]; exact Z20
  have K23 : Keep h0 h23 [o0] := (K20.wr W23 (Or.inl (List.mem_of_getElem? (i := 0) rfl)))
  have Fw23 := f22.same W23
  have f24 := (f21.wr W23)
  have f25 := (((((((Fw2.other W5 (Or.inr (slot_ne (Or.inr (wd85 hw)) (Or.inr (wd87 hw)) (by decide) (t := (.object "java/lang/String")) (t' := .int) (by decide) (by decide)))).other W8 (Or.inr (slot_ne (Or.inr (wd85 hw)) (Or.inr (wd89 hw)) (by decide) (t := (.object "java/lang/String")) (t' := (.object "java/util/Optional")) (by decide) (by decide)))).other W11 (Or.inr (slot_ne (Or.inr (wd85 hw)) (Or.inr (wd91 hw)) (by decide) (t := (.object "java/lang/String")) (t' := (.object "java/util/Optional")) (by decide) (by decide)))).other W14 (Or.inr (slot_ne (Or.inr (wd85 hw)) (Or.inr (wd93 hw)) (by decide) (t := (.object "java/lang/String")) (t' := (.object "java/util/Optional")) (by decide) (by decide)))).other W17 (Or.inr (slot_ne (Or.inr (wd85 hw)) (Or.inr (wd95 hw)) (by decide) (t := (.object "java/lang/String")) (t' := (.object "java/util/Optional")) (by decide) (by decide)))).other W20 (Or.inr (slot_ne (Or.inr (wd85 hw)) (Or.inr (wd97 hw)) (by decide) (t := (.object "java/lang/String")) (t' := (.object "java/util/Optional")) (by decide) (by decide)))).other W23 (Or.inr (slot_ne (Or.inr (wd85 hw)) (Or.inr (wd99 hw)) (by decide) (t := (.object "java/lang/String")) (t' := (.object "java/util/List")) (by decide) (by decide))))
  have f26 := ((((((Fw5.other W8 (Or.inr (slot_ne (Or.inr (wd87 hw)) (Or.inr (wd89 hw)) (by decide) (t := .int) (t' := (.object "java/util/Optional")) (by decide) (by decide)))).other W11 (Or.inr (slot_ne (Or.inr (wd87 hw)) (Or.inr (wd91 hw)) (by decide) (t := .int) (t' := (.object "java/util/Optional")) (by decide) (by decide)))).other W14 (Or.inr (slot_ne (Or.inr (wd87 hw)) (Or.inr (wd93 hw)) (by decide) (t := .int) (t' := (.object "java/util/Optional")) (by decide) (by decide)))).other W17 (Or.inr (slot_ne (Or.inr (wd87 hw)) (Or.inr (wd95 hw)) (by decide) (t := .int) (t' := (.object "java/util/Optional")) (by decide) (by decide)))).other W20 (Or.inr (slot_ne (Or.inr (wd87 hw)) (Or.inr (wd97 hw)) (by decide) (t := .int) (t' := (.object "java/util/Optional")) (by decide) (by decide)))).other W23 (Or.inr (slot_ne (Or.inr (wd87 hw)) (Or.inr (wd99 hw)) (by decide) (t := .int) (t' := (.object "java/util/List")) (by decide) (by decide))))
  have f27 := (((((Fw8.other W11 (Or.inr (slot_ne (Or.inr (wd89 hw)) (Or.inr (wd91 hw)) (by decide) (t := (.object "java/util/Optional")) (t' := (.object "java/util/Optional")) (by decide) (by decide)))).other W14 (Or.inr (slot_ne (Or.inr (wd89 hw)) (Or.inr (wd93 hw)) (by decide) (t := (.object "java/util/Optional")) (t' := (.object "java/util/Optional")) (by decide) (by decide)))).other W17 (Or.inr (slot_ne (Or.inr (wd89 hw)) (Or.inr (wd95 hw)) (by decide) (t := (.object "java/util/Optional")) (t' := (.object "java/util/Optional")) (by decide) (by decide)))).other W20 (Or.inr (slot_ne (Or.inr (wd89 hw)) (Or.inr (wd97 hw)) (by decide) (t := (.object "java/util/Optional")) (t' := (.object "java/util/Optional")) (by decide) (by decide)))).other W23 (Or.inr (slot_ne (Or.inr (wd89 hw)) (Or.inr (wd99 hw)) (by decide) (t := (.object "java/util/Optional")) (t' := (.object "java/util/List")) (by decide) (by decide))))
  have f28 := ((((Fw11.other W14 (Or.inr (slot_ne (Or.inr (wd91 hw)) (Or.inr (wd93 hw)) (by decide) (t := (.object "java/util/Optional")) (t' := (.object "java/util/Optional")) (by decide) (by decide)))).other W17 (Or.inr (slot_ne (Or.inr (wd91 hw)) (Or.inr (wd95 hw)) (by decide) (t := (.object "java/util/Optional")) (t' := (.object "java/util/Optional")) (by decide) (by decide)))).other W20 (Or.inr (slot_ne (Or.inr (wd91 hw)) (Or.inr (wd97 hw)) (by decide) (t := (.object "java/util/Optional")) (t' := (.object "java/util/Optional")) (by decide) (by decide)))).other W23 (Or.inr (slot_ne (Or.inr (wd91 hw)) (Or.inr (wd99 hw)) (by decide) (t := (.object "java/util/Optional")) (t' := (.object "java/util/List")) (by decide) (by decide))))
  have f29 := (((Fw14.other W17 (Or.inr (slot_ne (Or.inr (wd93 hw)) (Or.inr (wd95 hw)) (by decide) (t := (.object "java/util/Optional")) (t' := (.object "java/util/Optional")) (by decide) (by decide)))).other W20 (Or.inr (slot_ne (Or.inr (wd93 hw)) (Or.inr (wd97 hw)) (by decide) (t := (.object "java/util/Optional")) (t' := (.object "java/util/Optional")) (by decide) (by decide)))).other W23 (Or.inr (slot_ne (Or.inr (wd93 hw)) (Or.inr (wd99 hw)) (by decide) (t := (.object "java/util/Optional")) (t' := (.object "java/util/List")) (by decide) (by decide))))
  have f30 := ((Fw17.other W20 (Or.inr (slot_ne (Or.inr (wd95 hw)) (Or.inr (wd97 hw)) (by decide) (t := (.object "java/util/Optional")) (t' := (.object "java/util/Optional")) (by decide) (by decide)))).other W23 (Or.inr (slot_ne (Or.inr (wd95 hw)) (Or.inr (wd99 hw)) (by decide) (t := (.object "java/util/Optional")) (t' := (.object "java/util/List")) (by decide) (by decide))))
  have f31 := (Fw20.other W23 (Or.inr (slot_ne (Or.inr (wd97 hw)) (Or.inr (wd99 hw)) (by decide) (t := (.object "java/util/Optional")) (t' := (.object "java/util/List")) (by decide) (by decide))))
  obtain ⟨lfs, lhr, lhrun, lhended, lhW, lhsame⟩ := X23.leave (v := none) (fun _ => rfl)
  refine ⟨_, _, pre0 _ ?_, lhrun, lhended, _, _, rfl, ?_, ⟨_, rfl⟩, lhW, lhsame.mono (by decide) (by decide)⟩
  · skip
    show Steps p.tables e below (s₁.setTop (mkF m 0 #[.val (.ref o0), .val (.ref o1), .val (.int x2), .val (.ref o3), .val (.ref o4), .val (.ref o3), .val (.ref o3), .val (.ref o3), .val (.ref o5)] [])) _
    refine XS.aloadN X0.here hx rfl (hb hby dg_0) rfl rfl ?_
    show Steps p.tables e below (s₁.setTop (mkF m 1 #[.val (.ref o0), .val (.ref o1), .val (.int x2), .val (.ref o3), .val (.ref o4), .val (.ref o3), .val (.ref o3), .val (.ref o3), .val (.ref o5)] [(.ref o0)])) _
    refine st1.trans ?_
    show Steps p.tables e below (T1.setTop (mkF m 4 #[.val (.ref o0), .val (.ref o1), .val (.int x2), .val (.ref o3), .val (.ref o4), .val (.ref o3), .val (.ref o3), .val (.ref o3), .val (.ref o5)] [])) _
    refine XS.aloadN X1.here hx rfl (hb hby dg_4) rfl rfl ?_
    show Steps p.tables e below (T1.setTop (mkF m 5 #[.val (.ref o0), .val (.ref o1), .val (.int x2), .val (.ref o3), .val (.ref o4), .val (.ref o3), .val (.ref o3), .val (.ref o3), .val (.ref o5)] [(.ref o0)])) _
    refine XS.aloadN X1.here hx rfl (hb hby dg_5) rfl rfl ?_
    show Steps p.tables e below (T1.setTop (mkF m 6 #[.val (.ref o0), .val (.ref o1), .val (.int x2), .val (.ref o3), .val (.ref o4), .val (.ref o3), .val (.ref o3), .val (.ref o3), .val (.ref o5)] [(.ref o1), (.ref o0)])) _
    refine st2 _ ?_
    show Steps p.tables e below (T2.setTop (mkF m 9 #[.val (.ref o0), .val (.ref o1), .val (.int x2), .val (.ref o3), .val (.ref o4), .val (.ref o3), .val (.ref o3), .val (.ref o3), .val (.ref o5)] [])) _
    refine XS.aloadN X2.here hx rfl (hb hby dg_9) rfl rfl ?_
    show Steps p.tables e below (T2.setTop (mkF m 10 #[.val (.ref o0), .val (.ref o1), .val (.int x2), .val (.ref o3), .val (.ref o4), .val (.ref o3), .val (.ref o3), .val (.ref o3), .val (.ref o5)] [(.ref o0)])) _
    refine XS.iloadN X2.here hx rfl (hb hby dg_10) rfl ?_
    show Steps p.tables e below (T2.setTop (mkF m 11 #[.val (.ref o0), .val (.ref o1), .val (.int x2), .val (.ref o3), .val (.ref o4), .val (.ref o3), .val (.ref o3), .val (.ref o3), .val (.ref o5)] [(.int x2), (.ref o0)])) _
    refine st5 _ ?_
    show Steps p.tables e below (T5.setTop (mkF m 14 #[.val (.ref o0), .val (.ref o1), .val (.int x2), .val (.ref o3), .val (.ref o4), .val (.ref o3), .val (.ref o3), .val (.ref o3), .val (.ref o5)] [])) _
    refine XS.aloadN X5.here hx rfl (hb hby dg_14) rfl rfl ?_
    show Steps p.tables e below (T5.setTop (mkF m 15 #[.val (.ref o0), .val (.ref o1), .val (.int x2), .val (.ref o3), .val (.ref o4), .val (.ref o3), .val (.ref o3), .val (.ref o3), .val (.ref o5)] [(.ref o0)])) _
    refine XS.aloadN X5.here hx rfl (hb hby dg_15) rfl rfl ?_
    show Steps p.tables e below (T5.setTop (mkF m 16 #[.val (.ref o0), .val (.ref o1), .val (.int x2), .val (.ref o3), .val (.ref o4), .val (.ref o3), .val (.ref o3), .val (.ref o3), .val (.ref o5)] [(.ref o3), (.ref o0)])) _
    refine st8 _ ?_
    show Steps p.tables e below (T8.setTop (mkF m 19 #[.val (.ref o0), .val (.ref o1), .val (.int x2), .val (.ref o3), .val (.ref o4), .val (.ref o3), .val (.ref o3), .val (.ref o3), .val (.ref o5)] [])) _
    refine XS.aloadN X8.here hx rfl (hb hby dg_19) rfl rfl ?_
    show Steps p.tables e below (T8.setTop (mkF m 20 #[.val (.ref o0), .val (.ref o1), .val (.int x2), .val (.ref o3), .val (.ref o4), .val (.ref o3), .val (.ref o3), .val (.ref o3), .val (.ref o5)] [(.ref o0)])) _
    refine XS.aload X8.here hx rfl (hb hby dg_20) rfl rfl ?_
    show Steps p.tables e below (T8.setTop (mkF m 22 #[.val (.ref o0), .val (.ref o1), .val (.int x2), .val (.ref o3), .val (.ref o4), .val (.ref o3), .val (.ref o3), .val (.ref o3), .val (.ref o5)] [(.ref o4), (.ref o0)])) _
    refine st11 _ ?_
    show Steps p.tables e below (T11.setTop (mkF m 25 #[.val (.ref o0), .val (.ref o1), .val (.int x2), .val (.ref o3), .val (.ref o4), .val (.ref o3), .val (.ref o3), .val (.ref o3), .val (.ref o5)] [])) _
    refine XS.aloadN X11.here hx rfl (hb hby dg_25) rfl rfl ?_
    show Steps p.tables e below (T11.setTop (mkF m 26 #[.val (.ref o0), .val (.ref o1), .val (.int x2), .val (.ref o3), .val (.ref o4), .val (.ref o3), .val (.ref o3), .val (.ref o3), .val (.ref o5)] [(.ref o0)])) _
    refine XS.aload X11.here hx rfl (hb hby dg_26) rfl rfl ?_
    show Steps p.tables e below (T11.setTop (mkF m 28 #[.val (.ref o0), .val (.ref o1), .val (.int x2), .val (.ref o3), .val (.ref o4), .val (.ref o3), .val (.ref o3), .val (.ref o3), .val (.ref o5)] [(.ref o3), (.ref o0)])) _
    refine st14 _ ?_
    show Steps p.tables e below (T14.setTop (mkF m 31 #[.val (.ref o0), .val (.ref o1), .val (.int x2), .val (.ref o3), .val (.ref o4), .val (.ref o3), .val (.ref o3), .val (.ref o3), .val (.ref o5)] [])) _
    refine XS.aloadN X14.here hx rfl (hb hby dg_31) rfl rfl ?_
    show Steps p.tables e below (T14.setTop (mkF m 32 #[.val (.ref o0), .val (.ref o1), .val (.int x2), .val (.ref o3), .val (.ref o4), .val (.ref o3), .val (.ref o3), .val (.ref o3), .val (.ref o5)] [(.ref o0)])) _
    refine XS.aload X14.here hx rfl (hb hby dg_32) rfl rfl ?_
    show Steps p.tables e below (T14.setTop (mkF m 34 #[.val (.ref o0), .val (.ref o1), .val (.int x2), .val (.ref o3), .val (.ref o4), .val (.ref o3), .val (.ref o3), .val (.ref o3), .val (.ref o5)] [(.ref o3), (.ref o0)])) _
    refine st17 _ ?_
    show Steps p.tables e below (T17.setTop (mkF m 37 #[.val (.ref o0), .val (.ref o1), .val (.int x2), .val (.ref o3), .val (.ref o4), .val (.ref o3), .val (.ref o3), .val (.ref o3), .val (.ref o5)] [])) _
    refine XS.aloadN X17.here hx rfl (hb hby dg_37) rfl rfl ?_
    show Steps p.tables e below (T17.setTop (mkF m 38 #[.val (.ref o0), .val (.ref o1), .val (.int x2), .val (.ref o3), .val (.ref o4), .val (.ref o3), .val (.ref o3), .val (.ref o3), .val (.ref o5)] [(.ref o0)])) _
    refine XS.aload X17.here hx rfl (hb hby dg_38) rfl rfl ?_
    show Steps p.tables e below (T17.setTop (mkF m 40 #[.val (.ref o0), .val (.ref o1), .val (.int x2), .val (.ref o3), .val (.ref o4), .val (.ref o3), .val (.ref o3), .val (.ref o3), .val (.ref o5)] [(.ref o3), (.ref o0)])) _
    refine st20 _ ?_
    show Steps p.tables e below (T20.setTop (mkF m 43 #[.val (.ref o0), .val (.ref o1), .val (.int x2), .val (.ref o3), .val (.ref o4), .val (.ref o3), .val (.ref o3), .val (.ref o3), .val (.ref o5)] [])) _
    refine XS.aloadN X20.here hx rfl (hb hby dg_43) rfl rfl ?_
    show Steps p.tables e below (T20.setTop (mkF m 44 #[.val (.ref o0), .val (.ref o1), .val (.int x2), .val (.ref o3), .val (.ref o4), .val (.ref o3), .val (.ref o3), .val (.ref o3), .val (.ref o5)] [(.ref o0)])) _
    refine XS.aload X20.here hx rfl (hb hby dg_44) rfl rfl ?_
    show Steps p.tables e below (T20.setTop (mkF m 46 #[.val (.ref o0), .val (.ref o1), .val (.int x2), .val (.ref o3), .val (.ref o4), .val (.ref o3), .val (.ref o3), .val (.ref o3), .val (.ref o5)] [(.ref o5), (.ref o0)])) _
    refine st23 _ ?_
    show Steps p.tables e below (T23.setTop (mkF m 49 #[.val (.ref o0), .val (.ref o1), .val (.int x2), .val (.ref o3), .val (.ref o4), .val (.ref o3), .val (.ref o3), .val (.ref o3), .val (.ref o5)] [])) _
    exact X23.returnOut hx Bd.returns (hb hby dg_49) lhr
  · skip
    show QA41 Z o0 o1 x2 o3 o4 o5 h0 n0 _ T23.heap _
    rw [e23]
    exact ⟨rfl, N23, K23, f24, f25, f26, f27, f28, f29, f30, f31, Fw23⟩
def QA55 (Z : State) (o0 : Addr) (o1 : Addr) (x2 : Int32) (o3 : Addr) (o4 : Addr) (o5 : Addr) (o6 : Addr) (h0 : Heap) (n0 : Nat) (v : Option Value) (h : Heap) (L : List Loc) : Prop := v = none ∧ Fr n0 L ∧ Keep h0 h [o0] ∧ Exa Z h o0 cn4 ∧ Fld Z h o0 cn4 "code" "Ljava/lang/String;" (.ref o1) ∧ Fld Z h o0 cn4 "status" "I" (.int x2) ∧ Fld Z h o0 cn4 "catalogueMessage" "Ljava/util/Optional;" (.ref o3) ∧ Fld Z h o0 cn4 "ownMessage" "Ljava/util/Optional;" (.ref o4) ∧ Fld Z h o0 cn4 "trace" "Ljava/util/Optional;" (.ref o5) ∧ Fld Z h o0 cn4 "moreInfo" "Ljava/util/Optional;" (.ref o5) ∧ Fld Z h o0 cn4 "target" "Ljava/util/Optional;" (.ref o5) ∧ Fld Z h o0 cn4 "details" "Ljava/util/List;" (.ref o6)
set_option maxRecDepth 65536 in
set_option maxHeartbeats 40000000 in
theorem rmA55 (l : Launch) (Z : State) (a0 : Array Value) (hw : ∀ d ∈ tables_1, d.before a0 Z = true) (ws : List Jvm.Cond) (o0 : Addr) (o1 : Addr) (x2 : Int32) (o3 : Addr) (o4 : Addr) (o5 : Addr) (o6 : Addr) (h0 : Heap) (n0 : Nat) (Z0 : n0 ≤ h0.size) (E_o0 : Exa Z h0 o0 cn4) (F_o0_code : Fld Z h0 o0 cn4 "code" "Ljava/lang/String;" .null) (g_o0 : n0 ≤ o0) (F_o0_status : Fld Z h0 o0 cn4 "status" "I" (.int (0 : Int32))) (F_o0_catalogueMessage : Fld Z h0 o0 cn4 "catalogueMessage" "Ljava/util/Optional;" .null) (F_o0_ownMessage : Fld Z h0 o0 cn4 "ownMessage" "Ljava/util/Optional;" .null) (F_o0_trace : Fld Z h0 o0 cn4 "trace" "Ljava/util/Optional;" .null) (F_o0_moreInfo : Fld Z h0 o0 cn4 "moreInfo" "Ljava/util/Optional;" .null) (F_o0_target : Fld Z h0 o0 cn4 "target" "Ljava/util/Optional;" .null) (F_o0_details : Fld Z h0 o0 cn4 "details" "Ljava/util/List;" .null) :
    MetFree l mn0 (head1 (Jvm.Cond.code mn0 prog_9_method_1_code 9 none :: ws) ({ frames := 2, cells := 0, slots := 0, locals := 24 } : Room)) (fun a U => a = #[(.ref o0), (.ref o1), (.int x2), (.ref o3), (.ref o4), (.ref o5), (.ref o5), (.ref o5), (.ref o6)] ∧ Z.Warmed39 U.vm ∧ U.heap = h0) (fun _ _ _ _ _ => True) (fun _ U oc_ U' => ∃ v L, oc_ = .returned v ∧ QA55 Z o0 o1 x2 o3 o4 o5 o6 h0 n0 v U'.heap L ∧ FrameEnd U oc_ U' L ({ frames := 2, cells := 0, slots := 0, locals := 24 } : Room).cells ({ frames := 2, cells := 0, slots := 0, locals := 24 } : Room).slots) := by
  refine MetFree.of_bodySF (plainFor_of_name pn_com_example_typed_api_errors_typedapierrors_error_Occurrence) hisR ?_
  intro p e s m args below meth c s₁ Bd hml0 hP hK
  obtain ⟨rfl, hZ, hh⟩ := hP
  have hx := Bd.exec
  have hby := Bd.bytes
  have hml : c.maxLocals = 9 := hml0
  have hown : s.vm.findClass cn4 = some m.cls := findClass_of_methodNamed Bd.named
  have hnm := (name_of_methodNamed Bd.named Bd.method).1
  have X0 : Stand p l e ({ frames := 2, cells := 0, slots := 0, locals := 24 } : Room) s m #[(.ref o0), (.ref o1), (.int x2), (.ref o3), (.ref o4), (.ref o5), (.ref o5), (.ref o5), (.ref o6)] below meth c s₁ [] 0 0 := Stand.of_body Bd
  have e0 : s₁.heap = h0 := by rw [← hh, Bd.state]; rfl
  have N0 := Fr.nil n0
  have pre0 : ∀ t, Steps p.tables e below (s₁.setTop (mkF m 0 #[.val (.ref o0), .val (.ref o1), .val (.int x2), .val (.ref o3), .val (.ref o4), .val (.ref o5), .val (.ref o5), .val (.ref o5), .val (.ref o6)] [])) t → Steps p.tables e below (s₁.setTop (entryFrame m #[(.ref o0), (.ref o1), (.int x2), (.ref o3), (.ref o4), (.ref o5), (.ref o5), (.ref o5), (.ref o6)] 9)) t := fun t k => castTop (efa_prog_9_method_1_code_vvvvvvvvv m o0 o1 x2 o3 o4 o5 o5 o5 o6) k
  obtain ⟨_, _, ⟨T1, L1, kc1, ks1⟩, -, X1, ⟨Lc1, hQ1, l1, y1, z1⟩, st1⟩ := X0.specialBack hx (y := mn4) rfl hown (mvT hZ (wd78 hw)) (mvT hZ (wd79 hw)) (mvT hZ (wd82 hw)) (by decide) (backOf (W := 0) (rmA15 l Z a0 hw [] o0 h0 n0 Z0 ) hZ (wd82 hw) (wd81 hw) (by decide) (by decide)) (g := (mkF m 1 #[.val (.ref o0), .val (.ref o1), .val (.int x2), .val (.ref o3), .val (.ref o4), .val (.ref o5), .val (.ref o5), .val (.ref o5), .val (.ref o6)] [(.ref o0)])) rfl (by rw [hml]; rfl) (Steps.refl _) (a := o0) (argsL := []) (rest := []) (lenOf pd___V rfl) rfl (by show 2 * 0 + _ ≤ _; exact Nat.le_of_eq rfl) (hb hby dg_1) (fun _ _ => ⟨rfl, e0, (by decide : 0 + 0 ≤ _), (by decide : 0 + 0 ≤ _)⟩)
  dsimp only [Pt.U, Pt.locs, Pt.cells, Pt.slots] at X1 l1 y1 z1 st1 hQ1
  subst l1 y1 z1
  obtain ⟨rfl, Nq1, eq1⟩ := hQ1
  have N1 := Fr.app N0 Nq1
  obtain ⟨T2, h2, X2, e2, W2, st2⟩ := putF X1 hx hZ hown (host := "") (Or.inl (wd84 hw)) Via.refl eq1 F_o0_code E_o0 (Or.inr ⟨(wd85 hw), rfl, hnm⟩) (wd72 hw) (ty := (.object "java/lang/String")) (by decide) rfl rfl (g := (mkF m 6 #[.val (.ref o0), .val (.ref o1), .val (.int x2), .val (.ref o3), .val (.ref o4), .val (.ref o5), .val (.ref o5), .val (.ref o5), .val (.ref o6)] [(.ref o1), (.ref o0)])) rfl rfl (hb hby dg_6)
  have N2 := Fr.snoc X2 N1 g_o0
  have Z2 : n0 ≤ h2.size := by rw [W2.size]; exact Z0
  have K2 : Keep h0 h2 [o0] := ((Keep.refl h0 [o0]).wr W2 (Or.inl (List.mem_of_getElem? (i := 0) rfl)))
  have Fw2 := F_o0_code.same W2
  have f3 := (E_o0.wr W2)
  have f4 := (F_o0_status.other W2 (Or.inr (slot_ne (Or.inr (wd87 hw)) (Or.inr (wd85 hw)) (by decide) (t := .int) (t' := (.object "java/lang/String")) (by decide) (by decide))))
  obtain ⟨T5, h5, X5, e5, W5, st5⟩ := putF X2 hx hZ hown (host := "") (Or.inl (wd86 hw)) Via.refl e2 f4 f3 (Or.inr ⟨(wd87 hw), rfl, hnm⟩) (wd72 hw) (ty := .int) (by decide) rfl rfl (g := (mkF m 11 #[.val (.ref o0), .val (.ref o1), .val (.int x2), .val (.ref o3), .val (.ref o4), .val (.ref o5), .val (.ref o5), .val (.ref o5), .val (.ref o6)] [(.int x2), (.ref o0)])) rfl rfl (hb hby dg_11)
  have N5 := Fr.snoc X5 N2 g_o0
  have Z5 : n0 ≤ h5.size := by rw [W5.size]; exact Z2
  have K5 : Keep h0 h5 [o0] := (K2.wr W5 (Or.inl (List.mem_of_getElem? (i := 0) rfl)))
  have Fw5 := f4.same W5
  have f6 := (f3.wr W5)
  have f7 := ((F_o0_catalogueMessage.other W2 (Or.inr (slot_ne (Or.inr (wd89 hw)) (Or.inr (wd85 hw)) (by decide) (t := (.object "java/util/Optional")) (t' := (.object "java/lang/String")) (by decide) (by decide)))).other W5 (Or.inr (slot_ne (Or.inr (wd89 hw)) (Or.inr (wd87 hw)) (by decide) (t := (.object "java/util/Optional")) (t' := .int) (by decide) (by decide))))
  obtain ⟨T8, h8, X8, e8, W8, st8⟩ := putF X5 hx hZ hown (host := "") (Or.inl (wd88 hw)) Via.refl e5 f7 f6 (Or.inr ⟨(wd89 hw), rfl, hnm⟩) (wd72 hw) (ty := (.object "java/util/Optional")) (by decide) rfl rfl (g := (mkF m 16 #[.val (.ref o0), .val (.ref o1), .val (.int x2), .val (.ref o3), .val (.ref o4), .val (.ref o5), .val (.ref o5), .val (.ref o5), .val (.ref o6)] [(.ref o3), (.ref o0)])) rfl rfl (hb hby dg_16)
  have N8 := Fr.snoc X8 N5 g_o0
  have Z8 : n0 ≤ h8.size := by rw [W8.size]; exact Z5
  have K8 : Keep h0 h8 [o0] := (K5.wr W8 (Or.inl (List.mem_of_getElem? (i := 0) rfl)))
  have Fw8 := f7.same W8
  have f9 := (f6.wr W8)
  have f10 := (((F_o0_ownMessage.other W2 (Or.inr (slot_ne (Or.inr (wd91 hw)) (Or.inr (wd85 hw)) (by decide) (t := (.object "java/util/Optional")) (t' := (.object "java/lang/String")) (by decide) (by decide)))).other W5 (Or.inr (slot_ne (Or.inr (wd91 hw)) (Or.inr (wd87 hw)) (by decide) (t := (.object "java/util/Optional")) (t' := .int) (by decide) (by decide)))).other W8 (Or.inr (slot_ne (Or.inr (wd91 hw)) (Or.inr (wd89 hw)) (by decide) (t := (.object "java/util/Optional")) (t' := (.object "java/util/Optional")) (by decide) (by decide))))
  obtain ⟨T11, h11, X11, e11, W11, st11⟩ := putF X8 hx hZ hown (host := "") (Or.inl (wd90 hw)) Via.refl e8 f10 f9 (Or.inr ⟨(wd91 hw), rfl, hnm⟩) (wd72 hw) (ty := (.object "java/util/Optional")) (by decide) rfl rfl (g := (mkF m 22 #[.val (.ref o0), .val (.ref o1), .val (.int x2), .val (.ref o3), .val (.ref o4), .val (.ref o5), .val (.ref o5), .val (.ref o5), .val (.ref o6)] [(.ref o4), (.ref o0)])) rfl rfl (hb hby dg_22)
  have N11 := Fr.snoc X11 N8 g_o0
  have Z11 : n0 ≤ h11.size := by rw [W11.size]; exact Z8
  have K11 : Keep h0 h11 [o0] := (K8.wr W11 (Or.inl (List.mem_of_getElem? (i := 0) rfl)))
  have Fw11 := f10.same W11
  have f12 := (f9.wr W11)
  have f13 := ((((F_o0_trace.other W2 (Or.inr (slot_ne (Or.inr (wd93 hw)) (Or.inr (wd85 hw)) (by decide) (t := (.object "java/util/Optional")) (t' := (.object "java/lang/String")) (by decide) (by decide)))).other W5 (Or.inr (slot_ne (Or.inr (wd93 hw)) (Or.inr (wd87 hw)) (by decide) (t := (.object "java/util/Optional")) (t' := .int) (by decide) (by decide)))).other W8 (Or.inr (slot_ne (Or.inr (wd93 hw)) (Or.inr (wd89 hw)) (by decide) (t := (.object "java/util/Optional")) (t' := (.object "java/util/Optional")) (by decide) (by decide)))).other W11 (Or.inr (slot_ne (Or.inr (wd93 hw)) (Or.inr (wd91 hw)) (by decide) (t := (.object "java/util/Optional")) (t' := (.object "java/util/Optional")) (by decide) (by decide))))
  obtain ⟨T14, h14, X14, e14, W14, st14⟩ := putF X11 hx hZ hown (host := "") (Or.inl (wd92 hw)) Via.refl e11 f13 f12 (Or.inr ⟨(wd93 hw), rfl, hnm⟩) (wd72 hw) (ty := (.object "java/util/Optional")) (by decide) rfl rfl (g := (mkF m 28 #[.val (.ref o0), .val (.ref o1), .val (.int x2), .val (.ref o3), .val (.ref o4), .val (.ref o5), .val (.ref o5), .val (.ref o5), .val (.ref o6)] [(.ref o5), (.ref o0)])) rfl rfl (hb hby dg_28)
  have N14 := Fr.snoc X14 N11 g_o0
  have Z14 : n0 ≤ h14.size := by rw [W14.size]; exact Z11
  have K14 : Keep h0 h14 [o0] := (K11.wr W14 (Or.inl (List.mem_of_getElem? (i := 0) rfl)))
  have Fw14 := f13.same W14
  have f15 := (f12.wr W14)
  have f16 := (((((F_o0_moreInfo.other W2 (Or.inr (slot_ne (Or.inr (wd95 hw)) (Or.inr (wd85 hw)) (by decide) (t := (.object "java/util/Optional")) (t' := (.object "java/lang/String")) (by decide) (by decide)))).other W5 (Or.inr (slot_ne (Or.inr (wd95 hw)) (Or.inr (wd87 hw)) (by decide) (t := (.object "java/util/Optional")) (t' := .int) (by decide) (by decide)))).other W8 (Or.inr (slot_ne (Or.inr (wd95 hw)) (Or.inr (wd89 hw)) (by decide) (t := (.object "java/util/Optional")) (t' := (.object "java/util/Optional")) (by decide) (by decide)))).other W11 (Or.inr (slot_ne (Or.inr (wd95 hw)) (Or.inr (wd91 hw)) (by decide) (t := (.object "java/util/Optional")) (t' := (.object "java/util/Optional")) (by decide) (by decide)))).other W14 (Or.inr (slot_ne (Or.inr (wd95 hw)) (Or.inr (wd93 hw)) (by decide) (t := (.object "java/util/Optional")) (t' := (.object "java/util/Optional")) (by decide) (by decide))))
  obtain ⟨T17, h17, X17, e17, W17, st17⟩ := putF X14 hx hZ hown (host := "") (Or.inl (wd94 hw)) Via.refl e14 f16 f15 (Or.inr ⟨(wd95 hw), rfl, hnm⟩) (wd72 hw) (ty := (.object "java/util/Optional")) (by decide) rfl rfl (g := (mkF m 34 #[.val (.ref o0), .val (.ref o1), .val (.int x2), .val (.ref o3), .val (.ref o4), .val (.ref o5), .val (.ref o5), .val (.ref o5), .val (.ref o6)] [(.ref o5), (.ref o0)])) rfl rfl (hb hby dg_34)
  have N17 := Fr.snoc X17 N14 g_o0
  have Z17 : n0 ≤ h17.size := by rw [W17.size]; exact Z14
  have K17 : Keep h0 h17 [o0] := (K14.wr W17 (Or.inl (List.mem_of_getElem? (i := 0) rfl)))
  have Fw17 := f16.same W17
  have f18 := (f15.wr W17)
  have f19 := ((((((F_o0_target.other W2 (Or.inr (slot_ne (Or.inr (wd97 hw)) (Or.inr (wd85 hw)) (by decide) (t := (.object "java/util/Optional")) (t' := (.object "java/lang/String")) (by decide) (by decide)))).other W5 (Or.inr (slot_ne (Or.inr (wd97 hw)) (Or.inr (wd87 hw)) (by decide) (t := (.object "java/util/Optional")) (t' := .int) (by decide) (by decide)))).other W8 (Or.inr (slot_ne (Or.inr (wd97 hw)) (Or.inr (wd89 hw)) (by decide) (t := (.object "java/util/Optional")) (t' := (.object "java/util/Optional")) (by decide) (by decide)))).other W11 (Or.inr (slot_ne (Or.inr (wd97 hw)) (Or.inr (wd91 hw)) (by decide) (t := (.object "java/util/Optional")) (t' := (.object "java/util/Optional")) (by decide) (by decide)))).other W14 (Or.inr (slot_ne (Or.inr (wd97 hw)) (Or.inr (wd93 hw)) (by decide) (t := (.object "java/util/Optional")) (t' := (.object "java/util/Optional")) (by decide) (by decide)))).other W17 (Or.inr (slot_ne (Or.inr (wd97 hw)) (Or.inr (wd95 hw)) (by decide) (t := (.object "java/util/Optional")) (t' := (.object "java/util/Optional")) (by decide) (by decide))))
  obtain ⟨T20, h20, X20, e20, W20, st20⟩ := putF X17 hx hZ hown (host := "") (Or.inl (wd96 hw)) Via.refl e17 f19 f18 (Or.inr ⟨(wd97 hw), rfl, hnm⟩) (wd72 hw) (ty := (.object "java/util/Optional")) (by decide) rfl rfl (g := (mkF m 40 #[.val (.ref o0), .val (.ref o1), .val (.int x2), .val (.ref o3), .val (.ref o4), .val (.ref o5), .val (.ref o5), .val (.ref o5), .val (.ref o6)] [(.ref o5), (.ref o0)])) rfl rfl (hb hby dg_40)
  have N20 := Fr.snoc X20 N17 g_o0
  have Z20 : n0 ≤ h20.size := by rw [W20.size]; exact Z17
  have K20 : Keep h0 h20 [o0] := (K17.wr W20 (Or.inl (List.mem_of_getElem? (i := 0) rfl)))
  have Fw20 := f19.same W20
  have f21 := (f18.wr W20)
  have f22 := (((((((F_o0_details.other W2 (Or.inr (slot_ne (Or.inr (wd99 hw)) (Or.inr (wd85 hw)) (by decide) (t := (.object "java/util/List")) (t' := (.object "java/lang/String")) (by decide) (by decide)))).other W5 (Or.inr (slot_ne (Or.inr (wd99 hw)) (Or.inr (wd87 hw)) (by decide) (t := (.object "java/util/List")) (t' := .int) (by decide) (by decide)))).other W8 (Or.inr (slot_ne (Or.inr (wd99 hw)) (Or.inr (wd89 hw)) (by decide) (t := (.object "java/util/List")) (t' := (.object "java/util/Optional")) (by decide) (by decide)))).other W11 (Or.inr (slot_ne (Or.inr (wd99 hw)) (Or.inr (wd91 hw)) (by decide) (t := (.object "java/util/List")) (t' := (.object "java/util/Optional")) (by decide) (by decide)))).other W14 (Or.inr (slot_ne (Or.inr (wd99 hw)) (Or.inr (wd93 hw)) (by decide) (t := (.object "java/util/List")) (t' := (.object "java/util/Optional")) (by decide) (by decide)))).other W17 (Or.inr (slot_ne (Or.inr (wd99 hw)) (Or.inr (wd95 hw)) (by decide) (t := (.object "java/util/List")) (t' := (.object "java/util/Optional")) (by decide) (by decide)))).other W20 (Or.inr (slot_ne (Or.inr (wd99 hw)) (Or.inr (wd97 hw)) (by decide) (t := (.object "java/util/List")) (t' := (.object "java/util/Optional")) (by decide) (by decide))))
  obtain ⟨T23, h23, X23, e23, W23, st23⟩ := putF X20 hx hZ hown (host := "") (Or.inl (wd98 hw)) Via.refl e20 f22 f21 (Or.inr ⟨(wd99 hw), rfl, hnm⟩) (wd72 hw) (ty := (.object "java/util/List")) (by decide) rfl rfl (g := (mkF m 46 #[.val (.ref o0), .val (.ref o1), .val (.int x2), .val (.ref o3), .val (.ref o4), .val (.ref o5), .val (.ref o5), .val (.ref o5), .val (.ref o6)] [(.ref o6), (.ref o0)])) rfl rfl (hb hby dg_46)
  have N23 := Fr.snoc X23 N20 g_o0
  have Z23 : n0 ≤ h23.size := by rw [W23.size]; exact Z20
  have K23 : Keep h0 h23 [o0] := (K20.wr W23 (Or.inl (List.mem_of_getElem? (i := 0) rfl)))
  have Fw23 := f22.same W23
  have f24 := (f21.wr W23)
  have f25 := (((((((Fw2.other W5 (Or.inr (slot_ne (Or.inr (wd85 hw)) (Or.inr (wd87 hw)) (by decide) (t := (.object "java/lang/String")) (t' := .int) (by decide) (by decide)))).other W8 (Or.inr (slot_ne (Or.inr (wd85 hw)) (Or.inr (wd89 hw)) (by decide) (t := (.object "java/lang/String")) (t' := (.object "java/util/Optional")) (by decide) (by decide)))).other W11 (Or.inr (slot_ne (Or.inr (wd85 hw)) (Or.inr (wd91 hw)) (by decide) (t := (.object "java/lang/String")) (t' := (.object "java/util/Optional")) (by decide) (by decide)))).other W14 (Or.inr (slot_ne (Or.inr (wd85 hw)) (Or.inr (wd93 hw)) (by decide) (t := (.object "java/lang/String")) (t' := (.object "java/util/Optional")) (by decide) (by decide)))).other W17 (Or.inr (slot_ne (Or.inr (wd85 hw)) (Or.inr (wd95 hw)) (by decide) (t := (.object "java/lang/String")) (t' := (.object "java/util/Optional")) (by decide) (by decide)))).other W20 (Or.inr (slot_ne (Or.inr (wd85 hw)) (Or.inr (wd97 hw)) (by decide) (t := (.object "java/lang/String")) (t' := (.object "java/util/Optional")) (by decide) (by decide)))).other W23 (Or.inr (slot_ne (Or.inr (wd85 hw)) (Or.inr (wd99 hw)) (by decide) (t := (.object "java/lang/String")) (t' := (.object "java/util/List")) (by decide) (by decide))))
  have f26 := ((((((Fw5.other W8 (Or.inr (slot_ne (Or.inr (wd87 hw)) (Or.inr (wd89 hw)) (by decide) (t := .int) (t' := (.object "java/util/Optional")) (by decide) (by decide)))).other W11 (Or.inr (slot_ne (Or.inr (wd87 hw)) (Or.inr (wd91 hw)) (by decide) (t := .int) (t' := (.object "java/util/Optional")) (by decide) (by decide)))).other W14 (Or.inr (slot_ne (Or.inr (wd87 hw)) (Or.inr (wd93 hw)) (by decide) (t := .int) (t' := (.object "java/util/Optional")) (by decide) (by decide)))).other W17 (Or.inr (slot_ne (Or.inr (wd87 hw)) (Or.inr (wd95 hw)) (by decide) (t := .int) (t' := (.object "java/util/Optional")) (by decide) (by decide)))).other W20 (Or.inr (slot_ne (Or.inr (wd87 hw)) (Or.inr (wd97 hw)) (by decide) (t := .int) (t' := (.object "java/util/Optional")) (by decide) (by decide)))).other W23 (Or.inr (slot_ne (Or.inr (wd87 hw)) (Or.inr (wd99 hw)) (by decide) (t := .int) (t' := (.object "java/util/List")) (by decide) (by decide))))
  have f27 := (((((Fw8.other W11 (Or.inr (slot_ne (Or.inr (wd89 hw)) (Or.inr (wd91 hw)) (by decide) (t := (.object "java/util/Optional")) (t' := (.object "java/util/Optional")) (by decide) (by decide)))).other W14 (Or.inr (slot_ne (Or.inr (wd89 hw)) (Or.inr (wd93 hw)) (by decide) (t := (.object "java/util/Optional")) (t' := (.object "java/util/Optional")) (by decide) (by decide)))).other W17 (Or.inr (slot_ne (Or.inr (wd89 hw)) (Or.inr (wd95 hw)) (by decide) (t := (.object "java/util/Optional")) (t' := (.object "java/util/Optional")) (by decide) (by decide)))).other W20 (Or.inr (slot_ne (Or.inr (wd89 hw)) (Or.inr (wd97 hw)) (by decide) (t := (.object "java/util/Optional")) (t' := (.object "java/util/Optional")) (by decide) (by decide)))).other W23 (Or.inr (slot_ne (Or.inr (wd89 hw)) (Or.inr (wd99 hw)) (by decide) (t := (.object "java/util/Optional")) (t' := (.object "java/util/List")) (by decide) (by decide))))
  have f28 := ((((Fw11.other W14 (Or.inr (slot_ne (Or.inr (wd91 hw)) (Or.inr (wd93 hw)) (by decide) (t := (.object "java/util/Optional")) (t' := (.object "java/util/Optional")) (by decide) (by decide)))).other W17 (Or.inr (slot_ne (Or.inr (wd91 hw)) (Or.inr (wd95 hw)) (by decide) (t := (.object "java/util/Optional")) (t' := (.object "java/util/Optional")) (by decide) (by decide)))).other W20 (Or.inr (slot_ne (Or.inr (wd91 hw)) (Or.inr (wd97 hw)) (by decide) (t := (.object "java/util/Optional")) (t' := (.object "java/util/Optional")) (by decide) (by decide)))).other W23 (Or.inr (slot_ne (Or.inr (wd91 hw)) (Or.inr (wd99 hw)) (by decide) (t := (.object "java/util/Optional")) (t' := (.object "java/util/List")) (by decide) (by decide))))
  have f29 := (((Fw14.other W17 (Or.inr (slot_ne (Or.inr (wd93 hw)) (Or.inr (wd95 hw)) (by decide) (t := (.object "java/util/Optional")) (t' := (.object "java/util/Optional")) (by decide) (by decide)))).other W20 (Or.inr (slot_ne (Or.inr (wd93 hw)) (Or.inr (wd97 hw)) (by decide) (t := (.object "java/util/Optional")) (t' := (.object "java/util/Optional")) (by decide) (by decide)))).other W23 (Or.inr (slot_ne (Or.inr (wd93 hw)) (Or.inr (wd99 hw)) (by decide) (t := (.object "java/util/Optional")) (t' := (.object "java/util/List")) (by decide) (by decide))))
  have f30 := ((Fw17.other W20 (Or.inr (slot_ne (Or.inr (wd95 hw)) (Or.inr (wd97 hw)) (by decide) (t := (.object "java/util/Optional")) (t' := (.object "java/util/Optional")) (by decide) (by decide)))).other W23 (Or.inr (slot_ne (Or.inr (wd95 hw)) (Or.inr (wd99 hw)) (by decide) (t := (.object "java/util/Optional")) (t' := (.object "java/util/List")) (by decide) (by decide))))
  have f31 := (Fw20.other W23 (Or.inr (slot_ne (Or.inr (wd97 hw)) (Or.inr (wd99 hw)) (by decide) (t := (.object "java/util/Optional")) (t' := (.object "java/util/List")) (by decide) (by decide))))
  obtain ⟨lfs, lhr, lhrun, lhended, lhW, lhsame⟩ := X23.leave (v := none) (fun _ => rfl)
  refine ⟨_, _, pre0 _ ?_, lhrun, lhended, _, _, rfl, ?_, ⟨_, rfl⟩, lhW, lhsame.mono (by decide) (by decide)⟩
  · skip
    show Steps p.tables e below (s₁.setTop (mkF m 0 #[.val (.ref o0), .val (.ref o1), .val (.int x2), .val (.ref o3), .val (.ref o4), .val (.ref o5), .val (.ref o5), .val (.ref o5), .val (.ref o6)] [])) _
    refine XS.aloadN X0.here hx rfl (hb hby dg_0) rfl rfl ?_
    show Steps p.tables e below (s₁.setTop (mkF m 1 #[.val (.ref o0), .val (.ref o1), .val (.int x2), .val (.ref o3), .val (.ref o4), .val (.ref o5), .val (.ref o5), .val (.ref o5), .val (.ref o6)] [(.ref o0)])) _
    refine st1.trans ?_
    show Steps p.tables e below (T1.setTop (mkF m 4 #[.val (.ref o0), .val (.ref o1), .val (.int x2), .val (.ref o3), .val (.ref o4), .val (.ref o5), .val (.ref o5), .val (.ref o5), .val (.ref o6)] [])) _
    refine XS.aloadN X1.here hx rfl (hb hby dg_4) rfl rfl ?_
    show Steps p.tables e below (T1.setTop (mkF m 5 #[.val (.ref o0), .val (.ref o1), .val (.int x2), .val (.ref o3), .val (.ref o4), .val (.ref o5), .val (.ref o5), .val (.ref o5), .val (.ref o6)] [(.ref o0)])) _
    refine XS.aloadN X1.here hx rfl (hb hby dg_5) rfl rfl ?_
    show Steps p.tables e below (T1.setTop (mkF m 6 #[.val (.ref o0), .val (.ref o1), .val (.int x2), .val (.ref o3), .val (.ref o4), .val (.ref o5), .val (.ref o5), .val (.ref o5), .val (.ref o6)] [(.ref o1), (.ref o0)])) _
    refine st2 _ ?_
    show Steps p.tables e below (T2.setTop (mkF m 9 #[.val (.ref o0), .val (.ref o1), .val (.int x2), .val (.ref o3), .val (.ref o4), .val (.ref o5), .val (.ref o5), .val (.ref o5), .val (.ref o6)] [])) _
    refine XS.aloadN X2.here hx rfl (hb hby dg_9) rfl rfl ?_
    show Steps p.tables e below (T2.setTop (mkF m 10 #[.val (.ref o0), .val (.ref o1), .val (.int x2), .val (.ref o3), .val (.ref o4), .val (.ref o5), .val (.ref o5), .val (.ref o5), .val (.ref o6)] [(.ref o0)])) _
    refine XS.iloadN X2.here hx rfl (hb hby dg_10) rfl ?_
    show Steps p.tables e below (T2.setTop (mkF m 11 #[.val (.ref o0), .val (.ref o1), .val (.int x2), .val (.ref o3), .val (.ref o4), .val (.ref o5), .val (.ref o5), .val (.ref o5), .val (.ref o6)] [(.int x2), (.ref o0)])) _
    refine st5 _ ?_
    show Steps p.tables e below (T5.setTop (mkF m 14 #[.val (.ref o0), .val (.ref o1), .val (.int x2), .val (.ref o3), .val (.ref o4), .val (.ref o5), .val (.ref o5), .val (.ref o5), .val (.ref o6)] [])) _
    refine XS.aloadN X5.here hx rfl (hb hby dg_14) rfl rfl ?_
    show Steps p.tables e below (T5.setTop (mkF m 15 #[.val (.ref o0), .val (.ref o1), .val (.int x2), .val (.ref o3), .val (.ref o4), .val (.ref o5), .val (.ref o5), .val (.ref o5), .val (.ref o6)] [(.ref o0)])) _
    refine XS.aloadN X5.here hx rfl (hb hby dg_15) rfl rfl ?_
    show Steps p.tables e below (T5.setTop (mkF m 16 #[.val (.ref o0), .val (.ref o1), .val (.int x2), .val (.ref o3), .val (.ref o4), .val (.ref o5), .val (.ref o5), .val (.ref o5), .val (.ref o6)] [(.ref o3), (.ref o0)])) _
    refine st8 _ ?_
    show Steps p.tables e below (T8.setTop (mkF m 19 #[.val (.ref o0), .val (.ref o1), .val (.int x2), .val (.ref o3), .val (.ref o4), .val (.ref o5), .val (.ref o5), .val (.ref o5), .val (.ref o6)] [])) _
    refine XS.aloadN X8.here hx rfl (hb hby dg_19) rfl rfl ?_
    show Steps p.tables e below (T8.setTop (mkF m 20 #[.val (.ref o0), .val (.ref o1), .val (.int x2), .val (.ref o3), .val (.ref o4), .val (.ref o5), .val (.ref o5), .val (.ref o5), .val (.ref o6)] [(.ref o0)])) _
    refine XS.aload X8.here hx rfl (hb hby dg_20) rfl rfl ?_
    show Steps p.tables e below (T8.setTop (mkF m 22 #[.val (.ref o0), .val (.ref o1), .val (.int x2), .val (.ref o3), .val (.ref o4), .val (.ref o5), .val (.ref o5), .val (.ref o5), .val (.ref o6)] [(.ref o4), (.ref o0)])) _
    refine st11 _ ?_
    show Steps p.tables e below (T11.setTop (mkF m 25 #[.val (.ref o0), .val (.ref o1), .val (.int x2), .val (.ref o3), .val (.ref o4), .val (.ref o5), .val (.ref o5), .val (.ref o5), .val (.ref o6)] [])) _
    refine XS.aloadN X11.here hx rfl (hb hby dg_25) rfl rfl ?_
    show Steps p.tables e below (T11.setTop (mkF m 26 #[.val (.ref o0), .val (.ref o1), .val (.int x2), .val (.ref o3), .val (.ref o4), .val (.ref o5), .val (.ref o5), .val (.ref o5), .val (.ref o6)] [(.ref o0)])) _
    refine XS.aload X11.here hx rfl (hb hby dg_26) rfl rfl ?_
    show Steps p.tables e below (T11.setTop (mkF m 28 #[.val (.ref o0), .val (.ref o1), .val (.int x2), .val (.ref o3), .val (.ref o4), .val (.ref o5), .val (.ref o5), .val (.ref o5), .val (.ref o6)] [(.ref o5), (.ref o0)])) _
    refine st14 _ ?_
    show Steps p.tables e below (T14.setTop (mkF m 31 #[.val (.ref o0), .val (.ref o1), .val (.int x2), .val (.ref o3), .val (.ref o4), .val (.ref o5), .val (.ref o5), .val (.ref o5), .val (.ref o6)] [])) _
    refine XS.aloadN X14.here hx rfl (hb hby dg_31) rfl rfl ?_
    show Steps p.tables e below (T14.setTop (mkF m 32 #[.val (.ref o0), .val (.ref o1), .val (.int x2), .val (.ref o3), .val (.ref o4), .val (.ref o5), .val (.ref o5), .val (.ref o5), .val (.ref o6)] [(.ref o0)])) _
    refine XS.aload X14.here hx rfl (hb hby dg_32) rfl rfl ?_
    show Steps p.tables e below (T14.setTop (mkF m 34 #[.val (.ref o0), .val (.ref o1), .val (.int x2), .val (.ref o3), .val (.ref o4), .val (.ref o5), .val (.ref o5), .val (.ref o5), .val (.ref o6)] [(.ref o5), (.ref o0)])) _
    refine st17 _ ?_
    show Steps p.tables e below (T17.setTop (mkF m 37 #[.val (.ref o0), .val (.ref o1), .val (.int x2), .val (.ref o3), .val (.ref o4), .val (.ref o5), .val (.ref o5), .val (.ref o5), .val (.ref o6)] [])) _
    refine XS.aloadN X17.here hx rfl (hb hby dg_37) rfl rfl ?_
    show Steps p.tables e below (T17.setTop (mkF m 38 #[.val (.ref o0), .val (.ref o1), .val (.int x2), .val (.ref o3), .val (.ref o4), .val (.ref o5), .val (.ref o5), .val (.ref o5), .val (.ref o6)] [(.ref o0)])) _
    refine XS.aload X17.here hx rfl (hb hby dg_38) rfl rfl ?_
    show Steps p.tables e below (T17.setTop (mkF m 40 #[.val (.ref o0), .val (.ref o1), .val (.int x2), .val (.ref o3), .val (.ref o4), .val (.ref o5), .val (.ref o5), .val (.ref o5), .val (.ref o6)] [(.ref o5), (.ref o0)])) _
    refine st20 _ ?_
    show Steps p.tables e below (T20.setTop (mkF m 43 #[.val (.ref o0), .val (.ref o1), .val (.int x2), .val (.ref o3), .val (.ref o4), .val (.ref o5), .val (.ref o5), .val (.ref o5), .val (.ref o6)] [])) _
    refine XS.aloadN X20.here hx rfl (hb hby dg_43) rfl rfl ?_
    show Steps p.tables e below (T20.setTop (mkF m 44 #[.val (.ref o0), .val (.ref o1), .val (.int x2), .val (.ref o3), .val (.ref o4), .val (.ref o5), .val (.ref o5), .val (.ref o5), .val (.ref o6)] [(.ref o0)])) _
    refine XS.aload X20.here hx rfl (hb hby dg_44) rfl rfl ?_
    show Steps p.tables e below (T20.setTop (mkF m 46 #[.val (.ref o0), .val (.ref o1), .val (.int x2), .val (.ref o3), .val (.ref o4), .val (.ref o5), .val (.ref o5), .val (.ref o5), .val (.ref o6)] [(.ref o6), (.ref o0)])) _
    refine st23 _ ?_
    show Steps p.tables e below (T23.setTop (mkF m 49 #[.val (.ref o0), .val (.ref o1), .val (.int x2), .val (.ref o3), .val (.ref o4), .val (.ref o5), .val (.ref o5), .val (.ref o5), .val (.ref o6)] [])) _
    exact X23.returnOut hx Bd.returns (hb hby dg_49) lhr
  · skip
    show QA55 Z o0 o1 x2 o3 o4 o5 o6 h0 n0 _ T23.heap _
    rw [e23]
    exact ⟨rfl, N23, K23, f24, f25, f26, f27, f28, f29, f30, f31, Fw23⟩
theorem ef_0 (m : MethodId) (x0 : Int32) (x1 : Int32) (x2 : Int32) (x3 : Int32) : entryFrame m #[(.int x0), (.int x1), (.int x2), (.int x3)] maxLocals = mkF m 0 #[.val (.int x0), .val (.int x1), .val (.int x2), .val (.int x3), .unset, .unset, .unset, .unset, .unset, .unset, .unset, .unset, .unset] [] := by first | (simp [entryFrame, mkF, argsToLocals, Value.category, maxLocals]; done) | rfl
def Q0 (Z : State) (x0 : Int32) (x1 : Int32) (x2 : Int32) (x3 : Int32) (G1 : Int32) (wE : Addr) (wD : Addr) (h0 : Heap) (n0 : Nat) (v : Option Value) (h : Heap) (L : List Loc) : Prop := v = some (.int 1) ∧ Fr n0 L
set_option maxRecDepth 65536 in
set_option maxHeartbeats 40000000 in
theorem rm0 (l : Launch) (Z : State) (a0 : Array Value) (hw : ∀ d ∈ tables_1, d.before a0 Z = true) (ws : List Jvm.Cond) (x0 : Int32) (x1 : Int32) (x2 : Int32) (x3 : Int32) (G1 : Int32) (wE : Addr) (wD : Addr) (h0 : Heap) (n0 : Nat) (Z0 : n0 ≤ h0.size) (O2 : Sta Z Z.heap "java/lang/String" "COMPACT_STRINGS" "Z" (.int G1)) (P5 : ¬ (G1 = (0 : Int32))) (X00 : Old Z n0 h0) (S_E : Sta Z Z.heap "java/util/Optional" "EMPTY" "Ljava/util/Optional;" (.ref wE)) (E_w : Exa Z Z.heap wE "java/util/Optional") (F_w : Fld Z Z.heap wE "java/util/Optional" "value" "Ljava/lang/Object;" .null) (S_D : Sta Z Z.heap "java/util/ArrayList" "DEFAULTCAPACITY_EMPTY_ELEMENTDATA" "[Ljava/lang/Object;" (.ref wD)) :
    MetFree l x (head1 (Jvm.Cond.code x code maxLocals ret :: ws) room_1) (fun a U => a = #[(.int x0), (.int x1), (.int x2), (.int x3)] ∧ Z.Warmed39 U.vm ∧ U.heap = h0 ∧ CHv Z own_EL U.vm h0 ∧ ∀ x ∈ ([] : List Addr), Safe Z own_EL U.vm h0 x) (fun _ _ _ _ _ => True) (fun _ U oc_ U' => ∃ v L, oc_ = .returned v ∧ Q0 Z x0 x1 x2 x3 G1 wE wD h0 n0 v U'.heap L ∧ CHr Z own_EL U.vm U.heap U'.vm U'.heap ∧ ReturnedEndW U oc_ U' L 40 2240) := by
  refine MetFree.of_bodySF (plainFor_of_name pn_com_example_typed_api_errors_typedapierrors_error_OccurrenceMessagePinLaw) hisR ?_
  intro p e s m args below meth c s₁ Bd hml0 hP hK
  obtain ⟨rfl, hZ, hh, hCH, hSS⟩ := hP
  have hx := Bd.exec
  have hby := Bd.bytes
  have hml : c.maxLocals = 13 := hml0
  have hown : s.vm.findClass cn1 = some m.cls := findClass_of_methodNamed Bd.named
  have hnm := (name_of_methodNamed Bd.named Bd.method).1
  have X0 : Stand p l e room_1 s m #[(.int x0), (.int x1), (.int x2), (.int x3)] below meth c s₁ [] 0 0 := Stand.of_body Bd
  have e0 : s₁.heap = h0 := by rw [← hh, Bd.state]; rfl
  have N0 := Fr.nil n0
  have pre0 : ∀ t, Steps p.tables e below (s₁.setTop (mkF m 0 #[.val (.int x0), .val (.int x1), .val (.int x2), .val (.int x3), .unset, .unset, .unset, .unset, .unset, .unset, .unset, .unset, .unset] [])) t → Steps p.tables e below (s₁.setTop (entryFrame m #[(.int x0), (.int x1), (.int x2), (.int x3)] maxLocals)) t := fun t k => castTop (ef_0 m x0 x1 x2 x3) k
  have X0 : Stand p l e room_1 (s.setVm s.vm) m #[(.int x0), (.int x1), (.int x2), (.int x3)] below meth c s₁ [] 0 0 := X0
  have hS0 : s.Since s.vm 0 := own_since0 s
  have hk0 : 0 ≤ h0.size := Nat.zero_le _
  have CR0 : CHr Z own_EL s.vm h0 s.vm h0 := CHr.refl hCH
  have hEL := own_EW a0 Z hw
  have wS : ∀ a ∈ Bundle.stringAtoms, a.before a0 Z = true := fun d hd => hw d ((by decide +kernel : ∀ d ∈ Bundle.stringAtoms, d ∈ tables_1) d hd)
  have k1 : ∀ t, Steps p.tables e below (s₁.setTop (mkF m 3 #[.val (.int x0), .val (.int x1), .val (.int x2), .val (.int x3), .unset, .unset, .unset, .unset, .unset, .unset, .unset, .unset, .unset] [(.int (x2 &&& (1 : Int32)))])) t → Steps p.tables e below (s₁.setTop (entryFrame m #[(.int x0), (.int x1), (.int x2), (.int x3)] maxLocals)) t := by
    intro t kt
    refine pre0 t ?_
    show Steps p.tables e below (s₁.setTop (mkF m 0 #[.val (.int x0), .val (.int x1), .val (.int x2), .val (.int x3), .unset, .unset, .unset, .unset, .unset, .unset, .unset, .unset, .unset] [])) _
    refine XS.iloadN X0.here hx rfl (hb hby at_0) rfl ?_
    show Steps p.tables e below (s₁.setTop (mkF m 1 #[.val (.int x0), .val (.int x1), .val (.int x2), .val (.int x3), .unset, .unset, .unset, .unset, .unset, .unset, .unset, .unset, .unset] [(.int x2)])) _
    refine XS.iconst X0.here hx rfl (hb hby at_1) ?_
    show Steps p.tables e below (s₁.setTop (mkF m 2 #[.val (.int x0), .val (.int x1), .val (.int x2), .val (.int x3), .unset, .unset, .unset, .unset, .unset, .unset, .unset, .unset, .unset] [(.int (1 : Int32)), (.int x2)])) _
    refine XS.iand X0.here hx rfl (hb hby at_2) rfl ?_
    exact kt
  obtain ⟨fo, hj2, k2⟩ : ∃ (fo : Int32), (fo = (0 : Int32) ∨ fo = (1 : Int32)) ∧ ∀ t, Steps p.tables e below (s₁.setTop (mkF m 11 #[.val (.int x0), .val (.int x1), .val (.int x2), .val (.int x3), .unset, .unset, .unset, .unset, .unset, .unset, .unset, .unset, .unset] [(.int fo)])) t → Steps p.tables e below (s₁.setTop (entryFrame m #[(.int x0), (.int x1), (.int x2), (.int x3)] maxLocals)) t := by
    by_cases hc3 : (x2 &&& (1 : Int32)) = (0 : Int32)
    · skip
      have k4 : ∀ t, Steps p.tables e below (s₁.setTop (mkF m 11 #[.val (.int x0), .val (.int x1), .val (.int x2), .val (.int x3), .unset, .unset, .unset, .unset, .unset, .unset, .unset, .unset, .unset] [(.int (0 : Int32))])) t → Steps p.tables e below (s₁.setTop (entryFrame m #[(.int x0), (.int x1), (.int x2), (.int x3)] maxLocals)) t := by
        intro t kt
        refine k1 t ?_
        show Steps p.tables e below (s₁.setTop (mkF m 3 #[.val (.int x0), .val (.int x1), .val (.int x2), .val (.int x3), .unset, .unset, .unset, .unset, .unset, .unset, .unset, .unset, .unset] [(.int (x2 &&& (1 : Int32)))])) _
        refine XS.ifYes X0.here hx rfl (pc0 := 3) (pc' := 10) rfl (hb hby at_3) rfl ((if0 _ _).trans (teq hc3).1) (by decide) (by decide) ?_
        show Steps p.tables e below (s₁.setTop (mkF m 10 #[.val (.int x0), .val (.int x1), .val (.int x2), .val (.int x3), .unset, .unset, .unset, .unset, .unset, .unset, .unset, .unset, .unset] [])) _
        refine XS.iconst X0.here hx rfl (hb hby at_10) ?_
        exact kt
      exact ⟨(0 : Int32), (Or.inl rfl), k4⟩
    · skip
      have k5 : ∀ t, Steps p.tables e below (s₁.setTop (mkF m 11 #[.val (.int x0), .val (.int x1), .val (.int x2), .val (.int x3), .unset, .unset, .unset, .unset, .unset, .unset, .unset, .unset, .unset] [(.int (1 : Int32))])) t → Steps p.tables e below (s₁.setTop (entryFrame m #[(.int x0), (.int x1), (.int x2), (.int x3)] maxLocals)) t := by
        intro t kt
        refine k1 t ?_
        show Steps p.tables e below (s₁.setTop (mkF m 3 #[.val (.int x0), .val (.int x1), .val (.int x2), .val (.int x3), .unset, .unset, .unset, .unset, .unset, .unset, .unset, .unset, .unset] [(.int (x2 &&& (1 : Int32)))])) _
        refine XS.ifNo X0.here hx rfl (hb hby at_3) rfl ((if0 _ _).trans (feq hc3).1) ?_
        show Steps p.tables e below (s₁.setTop (mkF m 6 #[.val (.int x0), .val (.int x1), .val (.int x2), .val (.int x3), .unset, .unset, .unset, .unset, .unset, .unset, .unset, .unset, .unset] [])) _
        refine XS.iconst X0.here hx rfl (hb hby at_6) ?_
        show Steps p.tables e below (s₁.setTop (mkF m 7 #[.val (.int x0), .val (.int x1), .val (.int x2), .val (.int x3), .unset, .unset, .unset, .unset, .unset, .unset, .unset, .unset, .unset] [(.int (1 : Int32))])) _
        refine XS.goto X0.here hx rfl (pc0 := 7) (pc' := 11) rfl (hb hby at_7) (by decide) (by decide) ?_
        exact kt
      exact ⟨(1 : Int32), (Or.inr rfl), k5⟩
  have k6 : ∀ t, Steps p.tables e below (s₁.setTop (mkF m 16 #[.val (.int x0), .val (.int x1), .val (.int x2), .val (.int x3), .val (.int fo), .unset, .unset, .unset, .unset, .unset, .unset, .unset, .unset] [(.int (x2 &&& (2 : Int32)))])) t → Steps p.tables e below (s₁.setTop (entryFrame m #[(.int x0), (.int x1), (.int x2), (.int x3)] maxLocals)) t := by
    intro t kt
    refine k2 t ?_
    show Steps p.tables e below (s₁.setTop (mkF m 11 #[.val (.int x0), .val (.int x1), .val (.int x2), .val (.int x3), .unset, .unset, .unset, .unset, .unset, .unset, .unset, .unset, .unset] [(.int fo)])) _
    refine XS.istore X0.here hx rfl (hb hby at_11) rfl (l' := #[.val (.int x0), .val (.int x1), .val (.int x2), .val (.int x3), .val (.int fo), .unset, .unset, .unset, .unset, .unset, .unset, .unset, .unset]) rfl ?_
    show Steps p.tables e below (s₁.setTop (mkF m 13 #[.val (.int x0), .val (.int x1), .val (.int x2), .val (.int x3), .val (.int fo), .unset, .unset, .unset, .unset, .unset, .unset, .unset, .unset] [])) _
    refine XS.iloadN X0.here hx rfl (hb hby at_13) rfl ?_
    show Steps p.tables e below (s₁.setTop (mkF m 14 #[.val (.int x0), .val (.int x1), .val (.int x2), .val (.int x3), .val (.int fo), .unset, .unset, .unset, .unset, .unset, .unset, .unset, .unset] [(.int x2)])) _
    refine XS.iconst X0.here hx rfl (hb hby at_14) ?_
    show Steps p.tables e below (s₁.setTop (mkF m 15 #[.val (.int x0), .val (.int x1), .val (.int x2), .val (.int x3), .val (.int fo), .unset, .unset, .unset, .unset, .unset, .unset, .unset, .unset] [(.int (2 : Int32)), (.int x2)])) _
    refine XS.iand X0.here hx rfl (hb hby at_15) rfl ?_
    exact kt
  obtain ⟨fc, hj7, k7⟩ : ∃ (fc : Int32), (fc = (0 : Int32) ∨ fc = (1 : Int32)) ∧ ∀ t, Steps p.tables e below (s₁.setTop (mkF m 24 #[.val (.int x0), .val (.int x1), .val (.int x2), .val (.int x3), .val (.int fo), .unset, .unset, .unset, .unset, .unset, .unset, .unset, .unset] [(.int fc)])) t → Steps p.tables e below (s₁.setTop (entryFrame m #[(.int x0), (.int x1), (.int x2), (.int x3)] maxLocals)) t := by
    by_cases hc8 : (x2 &&& (2 : Int32)) = (0 : Int32)
    · skip
      have k9 : ∀ t, Steps p.tables e below (s₁.setTop (mkF m 24 #[.val (.int x0), .val (.int x1), .val (.int x2), .val (.int x3), .val (.int fo), .unset, .unset, .unset, .unset, .unset, .unset, .unset, .unset] [(.int (0 : Int32))])) t → Steps p.tables e below (s₁.setTop (entryFrame m #[(.int x0), (.int x1), (.int x2), (.int x3)] maxLocals)) t := by
        intro t kt
        refine k6 t ?_
        show Steps p.tables e below (s₁.setTop (mkF m 16 #[.val (.int x0), .val (.int x1), .val (.int x2), .val (.int x3), .val (.int fo), .unset, .unset, .unset, .unset, .unset, .unset, .unset, .unset] [(.int (x2 &&& (2 : Int32)))])) _
        refine XS.ifYes X0.here hx rfl (pc0 := 16) (pc' := 23) rfl (hb hby at_16) rfl ((if0 _ _).trans (teq hc8).1) (by decide) (by decide) ?_
        show Steps p.tables e below (s₁.setTop (mkF m 23 #[.val (.int x0), .val (.int x1), .val (.int x2), .val (.int x3), .val (.int fo), .unset, .unset, .unset, .unset, .unset, .unset, .unset, .unset] [])) _
        refine XS.iconst X0.here hx rfl (hb hby at_23) ?_
        exact kt
      exact ⟨(0 : Int32), (Or.inl rfl), k9⟩
    · skip
      have k10 : ∀ t, Steps p.tables e below (s₁.setTop (mkF m 24 #[.val (.int x0), .val (.int x1), .val (.int x2), .val (.int x3), .val (.int fo), .unset, .unset, .unset, .unset, .unset, .unset, .unset, .unset] [(.int (1 : Int32))])) t → Steps p.tables e below (s₁.setTop (entryFrame m #[(.int x0), (.int x1), (.int x2), (.int x3)] maxLocals)) t := by
        intro t kt
        refine k6 t ?_
        show Steps p.tables e below (s₁.setTop (mkF m 16 #[.val (.int x0), .val (.int x1), .val (.int x2), .val (.int x3), .val (.int fo), .unset, .unset, .unset, .unset, .unset, .unset, .unset, .unset] [(.int (x2 &&& (2 : Int32)))])) _
        refine XS.ifNo X0.here hx rfl (hb hby at_16) rfl ((if0 _ _).trans (feq hc8).1) ?_
        show Steps p.tables e below (s₁.setTop (mkF m 19 #[.val (.int x0), .val (.int x1), .val (.int x2), .val (.int x3), .val (.int fo), .unset, .unset, .unset, .unset, .unset, .unset, .unset, .unset] [])) _
        refine XS.iconst X0.here hx rfl (hb hby at_19) ?_
        show Steps p.tables e below (s₁.setTop (mkF m 20 #[.val (.int x0), .val (.int x1), .val (.int x2), .val (.int x3), .val (.int fo), .unset, .unset, .unset, .unset, .unset, .unset, .unset, .unset] [(.int (1 : Int32))])) _
        refine XS.goto X0.here hx rfl (pc0 := 20) (pc' := 24) rfl (hb hby at_20) (by decide) (by decide) ?_
        exact kt
      exact ⟨(1 : Int32), (Or.inr rfl), k10⟩
  obtain ⟨_, _, ⟨T11, L11, kc11, ks11⟩, -, X11, hSq11, hgr11, ⟨Lc11, hQ11, l11, y11, z11, CS11⟩, st11⟩ := Jvm.RoadKit.callSS X0 hx (y := mn3) hown (mvT hZ (wd0 hw)) (mvT hZ (wd1 hw)) (mvT hZ (wd2 hw)) (mvT hZ (wd3 hw)) (by decide) (own_backSafe (s := s) (vm0 := s.vm) (EL := own_EL) (ss := []) (W := 0) (rmStr l Z a0 hw [] x0 G1 h0 n0 Z0 O2 P5 X00) hZ (wd3 hw) (wd2 hw) (by decide) (by decide) hEL CR0.1 all0) (g := (mkF m 27 #[.val (.int x0), .val (.int x1), .val (.int x2), .val (.int x3), .val (.int fo), .val (.int fc), .unset, .unset, .unset, .unset, .unset, .unset, .unset] [(.int x0)])) rfl (by rw [hml]; rfl) (argsL := [(.int x0)]) (rest := []) (lenOf pd__I_Ljava_lang_String_ rfl) rfl (by show 2 * 0 + _ ≤ _; exact Nat.le_of_eq rfl) (hb hby at_27) (fun _ _ => ⟨rfl, e0, (by decide : 0 + 6 ≤ _), (by decide : 0 + 20 ≤ _)⟩)
  dsimp only [Pt.U, Pt.locs, Pt.cells, Pt.slots] at X11 l11 y11 z11 st11 hQ11 hSq11 hgr11 CS11
  subst l11 y11 z11
  obtain ⟨X11, hS11, hZ11, hown11⟩ := rebS hS0 hk0 X11 hSq11 (by rw [e0] at hgr11; exact hgr11) hZ hown
  obtain ⟨b11, rfl, Nq11, Kq11, szb11, gE11⟩ := hQ11
  have N11 := Fr.app N0 Nq11
  have CR11 := CR0.trans CS11
  have Z11 : n0 ≤ T11.heap.size := Nat.le_trans Z0 Kq11.1
  have K11 : Keep h0 T11.heap [] := Keep.trans (Keep.refl h0 []) Kq11 all0
  have ge_b11 : n0 ≤ b11 := Nat.le_trans Z0 szb11
  have sz_b11 : h0.size ≤ b11 := Nat.le_trans (Nat.le_refl _) szb11
  have f12 := (X00.keep Kq11 all0)
  obtain ⟨_, _, ⟨T13, L13, kc13, ks13⟩, -, X13, hSq13, hgr13, ⟨Lc13, hQ13, l13, y13, z13, CS13⟩, st13⟩ := Jvm.RoadKit.callSS X11 hx (y := mn3) hown11 (mvT hZ11 (wd0 hw)) (mvT hZ11 (wd1 hw)) (mvT hZ11 (wd2 hw)) (mvT hZ11 (wd3 hw)) (by decide) (own_backSafe (s := s) (vm0 := T11.vm) (EL := own_EL) (ss := []) (W := 0) (rmStr l Z a0 hw [] x1 G1 T11.heap n0 Z11 O2 P5 f12) hZ11 (wd3 hw) (wd2 hw) (by decide) (by decide) hEL CR11.1 all0) (g := (mkF m 33 #[.val (.int x0), .val (.int x1), .val (.int x2), .val (.int x3), .val (.int fo), .val (.int fc), .val (.ref b11), .unset, .unset, .unset, .unset, .unset, .unset] [(.int x1)])) rfl (by rw [hml]; rfl) (argsL := [(.int x1)]) (rest := []) (lenOf pd__I_Ljava_lang_String_ rfl) rfl (by show 2 * 0 + _ ≤ _; exact Nat.le_of_eq rfl) (hb hby at_33) (fun _ _ => ⟨rfl, rfl, (by decide : 6 + 6 ≤ _), (by decide : 20 + 20 ≤ _)⟩)
  dsimp only [Pt.U, Pt.locs, Pt.cells, Pt.slots] at X13 l13 y13 z13 st13 hQ13 hSq13 hgr13 CS13
  subst l13 y13 z13
  obtain ⟨X13, hS13, hZ13, hown13⟩ := rebS hS11 (Nat.le_refl T11.heap.size) X13 hSq13 hgr13 hZ11 hown11
  obtain ⟨b13, rfl, Nq13, Kq13, szb13, gE13⟩ := hQ13
  have N13 := Fr.app N11 Nq13
  have CR13 := CR11.trans CS13
  have Z13 : n0 ≤ T13.heap.size := Nat.le_trans Z11 Kq13.1
  have K13 : Keep h0 T13.heap [] := Keep.trans K11 Kq13 all0
  have ne_b11_b13 : b11 ≠ b13 := Nat.ne_of_lt (Nat.lt_of_lt_of_le gE11.lt szb13)
  have ge_b13 : n0 ≤ b13 := Nat.le_trans Z11 szb13
  have sz_b13 : h0.size ≤ b13 := Nat.le_trans K11.1 szb13
  have k14 : ∀ t, Steps p.tables e below (T13.setTop (mkF m 40 #[.val (.int x0), .val (.int x1), .val (.int x2), .val (.int x3), .val (.int fo), .val (.int fc), .val (.ref b11), .val (.ref b13), .unset, .unset, .unset, .unset, .unset] [(.int fo)])) t → Steps p.tables e below (s₁.setTop (entryFrame m #[(.int x0), (.int x1), (.int x2), (.int x3)] maxLocals)) t := by
    intro t kt
    refine k7 t ?_
    show Steps p.tables e below (s₁.setTop (mkF m 24 #[.val (.int x0), .val (.int x1), .val (.int x2), .val (.int x3), .val (.int fo), .unset, .unset, .unset, .unset, .unset, .unset, .unset, .unset] [(.int fc)])) _
    refine XS.istore X0.here hx rfl (hb hby at_24) rfl (l' := #[.val (.int x0), .val (.int x1), .val (.int x2), .val (.int x3), .val (.int fo), .val (.int fc), .unset, .unset, .unset, .unset, .unset, .unset, .unset]) rfl ?_
    show Steps p.tables e below (s₁.setTop (mkF m 26 #[.val (.int x0), .val (.int x1), .val (.int x2), .val (.int x3), .val (.int fo), .val (.int fc), .unset, .unset, .unset, .unset, .unset, .unset, .unset] [])) _
    refine XS.iloadN X0.here hx rfl (hb hby at_26) rfl ?_
    show Steps p.tables e below (s₁.setTop (mkF m 27 #[.val (.int x0), .val (.int x1), .val (.int x2), .val (.int x3), .val (.int fo), .val (.int fc), .unset, .unset, .unset, .unset, .unset, .unset, .unset] [(.int x0)])) _
    refine st11.trans ?_
    show Steps p.tables e below (T11.setTop (mkF m 30 #[.val (.int x0), .val (.int x1), .val (.int x2), .val (.int x3), .val (.int fo), .val (.int fc), .unset, .unset, .unset, .unset, .unset, .unset, .unset] [(.ref b11)])) _
    refine XS.astore X11.here hx rfl (hb hby at_30) rfl rfl (l' := #[.val (.int x0), .val (.int x1), .val (.int x2), .val (.int x3), .val (.int fo), .val (.int fc), .val (.ref b11), .unset, .unset, .unset, .unset, .unset, .unset]) rfl ?_
    show Steps p.tables e below (T11.setTop (mkF m 32 #[.val (.int x0), .val (.int x1), .val (.int x2), .val (.int x3), .val (.int fo), .val (.int fc), .val (.ref b11), .unset, .unset, .unset, .unset, .unset, .unset] [])) _
    refine XS.iloadN X11.here hx rfl (hb hby at_32) rfl ?_
    show Steps p.tables e below (T11.setTop (mkF m 33 #[.val (.int x0), .val (.int x1), .val (.int x2), .val (.int x3), .val (.int fo), .val (.int fc), .val (.ref b11), .unset, .unset, .unset, .unset, .unset, .unset] [(.int x1)])) _
    refine st13.trans ?_
    show Steps p.tables e below (T13.setTop (mkF m 36 #[.val (.int x0), .val (.int x1), .val (.int x2), .val (.int x3), .val (.int fo), .val (.int fc), .val (.ref b11), .unset, .unset, .unset, .unset, .unset, .unset] [(.ref b13)])) _
    refine XS.astore X13.here hx rfl (hb hby at_36) rfl rfl (l' := #[.val (.int x0), .val (.int x1), .val (.int x2), .val (.int x3), .val (.int fo), .val (.int fc), .val (.ref b11), .val (.ref b13), .unset, .unset, .unset, .unset, .unset]) rfl ?_
    show Steps p.tables e below (T13.setTop (mkF m 38 #[.val (.int x0), .val (.int x1), .val (.int x2), .val (.int x3), .val (.int fo), .val (.int fc), .val (.ref b11), .val (.ref b13), .unset, .unset, .unset, .unset, .unset] [])) _
    refine XS.iload X13.here hx rfl (hb hby at_38) rfl ?_
    exact kt
  by_cases hc15 : fo = (0 : Int32)
  · skip
    have f16 := (f12.keep Kq13 all0)
    obtain ⟨_, _, ⟨T17, L17, kc17, ks17⟩, -, X17, ⟨Lc17, hQ17, l17, y17, z17⟩, st17⟩ := Jvm.LawKit.callS X13 hx (y := mn13) hown13 (mvT hZ13 (wd26 hw)) (mvT hZ13 (wd27 hw)) (mvT hZ13 (wd28 hw)) (mvT hZ13 (wd29 hw)) (by decide) (backOf (W := 0) (rmA6 l Z a0 hw [] wE T13.heap n0 Z13 S_E f16) hZ13 (wd29 hw) (wd28 hw) (by decide) (by decide)) (g := (mkF m 51 #[.val (.int x0), .val (.int x1), .val (.int x2), .val (.int x3), .val (.int fo), .val (.int fc), .val (.ref b11), .val (.ref b13), .unset, .unset, .unset, .unset, .unset] [])) rfl (by rw [hml]; rfl) (argsL := []) (rest := []) (lenOf pd___Ljava_util_Optional_ rfl) rfl (by show 2 * 0 + _ ≤ _; exact Nat.le_of_eq rfl) (hb hby at_51) (fun _ _ => ⟨rfl, rfl, (by decide : 12 + 0 ≤ _), (by decide : 40 + 0 ≤ _)⟩)
    dsimp only [Pt.U, Pt.locs, Pt.cells, Pt.slots] at X17 l17 y17 z17 st17 hQ17
    subst l17 y17 z17
    obtain ⟨rfl, Nq17, eq17⟩ := hQ17
    have N17 := Fr.app N13 Nq17
    have k18 : ∀ t, Steps p.tables e below (T17.setTop (mkF m 58 #[.val (.int x0), .val (.int x1), .val (.int x2), .val (.int x3), .val (.int fo), .val (.int fc), .val (.ref b11), .val (.ref b13), .val (.ref wE), .unset, .unset, .unset, .unset] [(.int fc)])) t → Steps p.tables e below (s₁.setTop (entryFrame m #[(.int x0), (.int x1), (.int x2), (.int x3)] maxLocals)) t := by
      intro t kt
      refine k14 t ?_
      show Steps p.tables e below (T13.setTop (mkF m 40 #[.val (.int x0), .val (.int x1), .val (.int x2), .val (.int x3), .val (.int fo), .val (.int fc), .val (.ref b11), .val (.ref b13), .unset, .unset, .unset, .unset, .unset] [(.int fo)])) _
      refine XS.ifYes X13.here hx rfl (pc0 := 40) (pc' := 51) rfl (hb hby at_40) rfl ((if0 _ _).trans (teq hc15).1) (by decide) (by decide) ?_
      show Steps p.tables e below (T13.setTop (mkF m 51 #[.val (.int x0), .val (.int x1), .val (.int x2), .val (.int x3), .val (.int fo), .val (.int fc), .val (.ref b11), .val (.ref b13), .unset, .unset, .unset, .unset, .unset] [])) _
      refine st17 _ ?_
      show Steps p.tables e below (T17.setTop (mkF m 54 #[.val (.int x0), .val (.int x1), .val (.int x2), .val (.int x3), .val (.int fo), .val (.int fc), .val (.ref b11), .val (.ref b13), .unset, .unset, .unset, .unset, .unset] [(.ref wE)])) _
      refine XS.astore X17.here hx rfl (hb hby at_54) rfl rfl (l' := #[.val (.int x0), .val (.int x1), .val (.int x2), .val (.int x3), .val (.int fo), .val (.int fc), .val (.ref b11), .val (.ref b13), .val (.ref wE), .unset, .unset, .unset, .unset]) rfl ?_
      show Steps p.tables e below (T17.setTop (mkF m 56 #[.val (.int x0), .val (.int x1), .val (.int x2), .val (.int x3), .val (.int fo), .val (.int fc), .val (.ref b11), .val (.ref b13), .val (.ref wE), .unset, .unset, .unset, .unset] [])) _
      refine XS.iload X17.here hx rfl (hb hby at_56) rfl ?_
      exact kt
    by_cases hc19 : fc = (0 : Int32)
    · skip
      obtain ⟨_, _, ⟨T20, L20, kc20, ks20⟩, -, X20, ⟨Lc20, hQ20, l20, y20, z20⟩, st20⟩ := Jvm.LawKit.callS X17 hx (y := mn13) hown13 (mvT hZ13 (wd26 hw)) (mvT hZ13 (wd27 hw)) (mvT hZ13 (wd28 hw)) (mvT hZ13 (wd29 hw)) (by decide) (backOf (W := 0) (rmA6 l Z a0 hw [] wE T13.heap n0 Z13 S_E f16) hZ13 (wd29 hw) (wd28 hw) (by decide) (by decide)) (g := (mkF m 69 #[.val (.int x0), .val (.int x1), .val (.int x2), .val (.int x3), .val (.int fo), .val (.int fc), .val (.ref b11), .val (.ref b13), .val (.ref wE), .unset, .unset, .unset, .unset] [])) rfl (by rw [hml]; rfl) (argsL := []) (rest := []) (lenOf pd___Ljava_util_Optional_ rfl) rfl (by show 2 * 0 + _ ≤ _; exact Nat.le_of_eq rfl) (hb hby at_69) (fun _ _ => ⟨rfl, eq17, (by decide : 12 + 0 ≤ _), (by decide : 40 + 0 ≤ _)⟩)
      dsimp only [Pt.U, Pt.locs, Pt.cells, Pt.slots] at X20 l20 y20 z20 st20 hQ20
      subst l20 y20 z20
      obtain ⟨rfl, Nq20, eq20⟩ := hQ20
      have N20 := Fr.app N17 Nq20
      have f21 := (gE11.keep Kq13)
      obtain ⟨T22, h22, X22, e22, E22, A22, D22, -, st22⟩ := newO X20 hx hZ13 hown13 (wd47 hw) (wd48 hw) (wd49 hw) eq20 (g := (mkF m 74 #[.val (.int x0), .val (.int x1), .val (.int x2), .val (.int x3), .val (.int fo), .val (.int fc), .val (.ref b11), .val (.ref b13), .val (.ref wE), .val (.ref wE), .unset, .unset, .unset] [])) rfl (hb hby at_74) (by decide) (by decide)
      obtain ⟨b22, g22⟩ : ∃ z, z = T13.heap.size := ⟨_, rfl⟩
      rw [← g22] at A22 D22 st22
      have ne_b11_b22 : b11 ≠ b22 := Nat.ne_of_lt (Nat.lt_of_lt_of_le f21.lt (Nat.le_of_eq g22.symm))
      have ne_b13_b22 : b13 ≠ b22 := Nat.ne_of_lt (Nat.lt_of_lt_of_le gE13.lt (Nat.le_of_eq g22.symm))
      have ge_b22 : n0 ≤ b22 := Nat.le_trans Z13 (Nat.le_of_eq g22.symm)
      have sz_b22 : h0.size ≤ b22 := Nat.le_trans K13.1 (Nat.le_of_eq g22.symm)
      have CS22 := CHr.ext E22 CR13.1
      have CR22 := CR13.trans CS22
      have hk22 : _ ≤ h22.size := Nat.le_trans (Nat.le_refl T13.heap.size) E22.1
      have Z22 : n0 ≤ h22.size := Nat.le_trans Z13 E22.1
      have K22 : Keep h0 h22 [] := (K13.ext E22)
      have F22_modCount : Fld Z h22 b22 "java/util/AbstractList" "modCount" "I" (.int (0 : Int32)) := D22 (Or.inl (wd67 hw)) (ty := .int) (by decide)
      have F22_elementData : Fld Z h22 b22 "java/util/ArrayList" "elementData" "[Ljava/lang/Object;" .null := D22 (Or.inl (wd70 hw)) (ty := (.array (.object "java/lang/Object"))) (by decide)
      have f23 := (f16.ext E22)
      obtain ⟨_, _, ⟨T24, L24, kc24, ks24⟩, -, X24, ⟨Lc24, hQ24, l24, y24, z24⟩, st24⟩ := X22.specialBack hx (y := mn10) rfl hown13 (mvT hZ13 (wd50 hw)) (mvT hZ13 (wd51 hw)) (mvT hZ13 (wd52 hw)) (by decide) (backOf (W := 1) (rmA8 l Z a0 hw [] b22 wD h22 n0 Z22 F22_modCount F22_elementData A22 ge_b22 S_D f23) hZ13 (wd52 hw) (wd49 hw) (by decide) (by decide)) (g := (mkF m 78 #[.val (.int x0), .val (.int x1), .val (.int x2), .val (.int x3), .val (.int fo), .val (.int fc), .val (.ref b11), .val (.ref b13), .val (.ref wE), .val (.ref wE), .unset, .unset, .unset] [(.ref b22), (.ref b22)])) rfl (by rw [hml]; rfl) (Steps.refl _) (a := b22) (argsL := []) (rest := [(.ref b22)]) (lenOf pd___V rfl) rfl (by show 2 * 0 + _ ≤ _; exact Nat.le_of_eq rfl) (hb hby at_78) (fun _ _ => ⟨rfl, e22, (by decide : 13 + 0 ≤ _), (by decide : 43 + 0 ≤ _)⟩)
      dsimp only [Pt.U, Pt.locs, Pt.cells, Pt.slots] at X24 l24 y24 z24 st24 hQ24
      subst l24 y24 z24
      obtain ⟨rfl, Nq24, Kq24, g24_0, g24_1, g24_2⟩ := hQ24
      have N24 := Fr.app N20 Nq24
      have CS24 := CHr.keep Kq24 (allS (Safe.exa hZ13.alike A22 (by decide) (by decide)) all0) CR22.1
      have CR24 := CR22.trans CS24
      have hk24 : _ ≤ T24.heap.size := Nat.le_trans hk22 Kq24.1
      have Z24 : n0 ≤ T24.heap.size := Nat.le_trans Z22 Kq24.1
      have K24 : Keep h0 T24.heap [] := Keep.trans K22 Kq24 (allS (Or.inr sz_b22) all0)
      have f25 := ((f21.ext E22).keep Kq24)
      have f26 := ((gE13.ext E22).keep Kq24)
      obtain ⟨T27, h27, X27, e27, E27, A27, D27, -, st27⟩ := newO X24 hx hZ13 hown13 (wd71 hw) (wd72 hw) (wd73 hw) rfl (g := (mkF m 83 #[.val (.int x0), .val (.int x1), .val (.int x2), .val (.int x3), .val (.int fo), .val (.int fc), .val (.ref b11), .val (.ref b13), .val (.ref wE), .val (.ref wE), .val (.ref b22), .unset, .unset] [])) rfl (hb hby at_83) (by decide) (by decide)
      obtain ⟨b27, g27⟩ : ∃ z, z = T24.heap.size := ⟨_, rfl⟩
      rw [← g27] at A27 D27 st27
      have ne_b11_b27 : b11 ≠ b27 := Nat.ne_of_lt (Nat.lt_of_lt_of_le f25.lt (Nat.le_of_eq g27.symm))
      have ne_b13_b27 : b13 ≠ b27 := Nat.ne_of_lt (Nat.lt_of_lt_of_le f26.lt (Nat.le_of_eq g27.symm))
      have ne_b22_b27 : b22 ≠ b27 := Nat.ne_of_lt (Nat.lt_of_lt_of_le g24_2.lt (Nat.le_of_eq g27.symm))
      have ge_b27 : n0 ≤ b27 := Nat.le_trans Z24 (Nat.le_of_eq g27.symm)
      have sz_b27 : h0.size ≤ b27 := Nat.le_trans K24.1 (Nat.le_of_eq g27.symm)
      have CS27 := CHr.ext E27 CR24.1
      have CR27 := CR24.trans CS27
      have hk27 : _ ≤ h27.size := Nat.le_trans hk24 E27.1
      have Z27 : n0 ≤ h27.size := Nat.le_trans Z24 E27.1
      have K27 : Keep h0 h27 [] := (K24.ext E27)
      have F27_code : Fld Z h27 b27 cn4 "code" "Ljava/lang/String;" .null := D27 (Or.inr (wd85 hw)) (ty := (.object "java/lang/String")) (by decide)
      have F27_status : Fld Z h27 b27 cn4 "status" "I" (.int (0 : Int32)) := D27 (Or.inr (wd87 hw)) (ty := .int) (by decide)
      have F27_catalogueMessage : Fld Z h27 b27 cn4 "catalogueMessage" "Ljava/util/Optional;" .null := D27 (Or.inr (wd89 hw)) (ty := (.object "java/util/Optional")) (by decide)
      have F27_ownMessage : Fld Z h27 b27 cn4 "ownMessage" "Ljava/util/Optional;" .null := D27 (Or.inr (wd91 hw)) (ty := (.object "java/util/Optional")) (by decide)
      have F27_trace : Fld Z h27 b27 cn4 "trace" "Ljava/util/Optional;" .null := D27 (Or.inr (wd93 hw)) (ty := (.object "java/util/Optional")) (by decide)
      have F27_moreInfo : Fld Z h27 b27 cn4 "moreInfo" "Ljava/util/Optional;" .null := D27 (Or.inr (wd95 hw)) (ty := (.object "java/util/Optional")) (by decide)
      have F27_target : Fld Z h27 b27 cn4 "target" "Ljava/util/Optional;" .null := D27 (Or.inr (wd97 hw)) (ty := (.object "java/util/Optional")) (by decide)
      have F27_details : Fld Z h27 b27 cn4 "details" "Ljava/util/List;" .null := D27 (Or.inr (wd99 hw)) (ty := (.object "java/util/List")) (by decide)
      have f28 := (f25.ext E27)
      have f29 := (f26.ext E27)
      have f30 := (g24_2.ext E27)
      obtain ⟨a31, T31, h31, kk31, t31, kb31, X31, e31, E31, hS31, hk31, hZ31, hown31, gE31, gC31, gV31, gK31, la31, lt31, CS31, LL31, sne31, st31⟩ := ldcCH (s := s) (vm0 := T13.vm) (EL := own_EL) X27 hx hZ13 hown13 (wd74 hw) wS e27 hS13 hk27 hEL (by decide) CR27.1 (vs := [(.int (99 : Int32))]) (z := (1 : Int32)) ⟨by decide +kernel, by first | rfl | decide +kernel⟩ (by decide) (by decide) (g := (mkF m 87 #[.val (.int x0), .val (.int x1), .val (.int x2), .val (.int x3), .val (.int fo), .val (.int fc), .val (.ref b11), .val (.ref b13), .val (.ref wE), .val (.ref wE), .val (.ref b22), .unset, .unset] [(.ref b27), (.ref b27)])) rfl (hb hby at_87) (n := 4) (by decide +kernel) (by decide) (by decide) (by decide)
      have CR31 := CR27.trans CS31
      have Z31 : n0 ≤ h31.size := Nat.le_trans Z27 E31.1
      have K31 : Keep h0 h31 [] := (K27.ext E31)
      have f32 := (f30.ext E31)
      have nn_b22_31 := sne31 b22 (Safe.exa hZ31.alike f32 (by decide) (by decide))
      have f33 := (A27.ext E31)
      have nn_b27_31 := sne31 b27 (Safe.exa hZ31.alike f33 (by decide) (by decide))
      have f34 := (((f23.keep Kq24 (allS ge_b22 all0)).ext E27).ext E31)
      obtain ⟨_, _, ⟨T35, L35, kc35, ks35⟩, -, X35, ⟨Lc35, hQ35, l35, y35, z35⟩, st35⟩ := Jvm.LawKit.callS X31 hx (y := mn13) hown31 (mvT hZ31 (wd26 hw)) (mvT hZ31 (wd27 hw)) (mvT hZ31 (wd28 hw)) (mvT hZ31 (wd29 hw)) (by decide) (backOf (W := 6) (rmA6 l Z a0 hw [] wE h31 n0 Z31 S_E f34) hZ31 (wd29 hw) (wd28 hw) (by decide) (by decide)) (g := (mkF m 94 #[.val (.int x0), .val (.int x1), .val (.int x2), .val (.int x3), .val (.int fo), .val (.int fc), .val (.ref b11), .val (.ref b13), .val (.ref wE), .val (.ref wE), .val (.ref b22), .unset, .unset] [(.ref wE), (.ref wE), (.int x3), (.ref a31), (.ref b27), (.ref b27)])) rfl (by rw [hml]; rfl) (argsL := []) (rest := [(.ref wE), (.ref wE), (.int x3), (.ref a31), (.ref b27), (.ref b27)]) (lenOf pd___Ljava_util_Optional_ rfl) rfl (by show 2 * 0 + _ ≤ _; exact Nat.le_of_eq rfl) (hb hby at_94) (fun _ _ => ⟨rfl, e31, (by decide : 16 + 0 ≤ _), (by decide : 59 + 0 ≤ _)⟩)
      dsimp only [Pt.U, Pt.locs, Pt.cells, Pt.slots] at X35 l35 y35 z35 st35 hQ35
      subst l35 y35 z35
      obtain ⟨rfl, Nq35, eq35⟩ := hQ35
      have N35 := Fr.app N24 Nq35
      obtain ⟨_, _, ⟨T36, L36, kc36, ks36⟩, -, X36, ⟨Lc36, hQ36, l36, y36, z36⟩, st36⟩ := Jvm.LawKit.callS X35 hx (y := mn13) hown31 (mvT hZ31 (wd26 hw)) (mvT hZ31 (wd27 hw)) (mvT hZ31 (wd28 hw)) (mvT hZ31 (wd29 hw)) (by decide) (backOf (W := 7) (rmA6 l Z a0 hw [] wE h31 n0 Z31 S_E f34) hZ31 (wd29 hw) (wd28 hw) (by decide) (by decide)) (g := (mkF m 97 #[.val (.int x0), .val (.int x1), .val (.int x2), .val (.int x3), .val (.int fo), .val (.int fc), .val (.ref b11), .val (.ref b13), .val (.ref wE), .val (.ref wE), .val (.ref b22), .unset, .unset] [(.ref wE), (.ref wE), (.ref wE), (.int x3), (.ref a31), (.ref b27), (.ref b27)])) rfl (by rw [hml]; rfl) (argsL := []) (rest := [(.ref wE), (.ref wE), (.ref wE), (.int x3), (.ref a31), (.ref b27), (.ref b27)]) (lenOf pd___Ljava_util_Optional_ rfl) rfl (by show 2 * 0 + _ ≤ _; exact Nat.le_of_eq rfl) (hb hby at_97) (fun _ _ => ⟨rfl, eq35, (by decide : 16 + 0 ≤ _), (by decide : 59 + 0 ≤ _)⟩)
      dsimp only [Pt.U, Pt.locs, Pt.cells, Pt.slots] at X36 l36 y36 z36 st36 hQ36
      subst l36 y36 z36
      obtain ⟨rfl, Nq36, eq36⟩ := hQ36
      have N36 := Fr.app N35 Nq36
      obtain ⟨_, _, ⟨T37, L37, kc37, ks37⟩, -, X37, ⟨Lc37, hQ37, l37, y37, z37⟩, st37⟩ := Jvm.LawKit.callS X36 hx (y := mn13) hown31 (mvT hZ31 (wd26 hw)) (mvT hZ31 (wd27 hw)) (mvT hZ31 (wd28 hw)) (mvT hZ31 (wd29 hw)) (by decide) (backOf (W := 8) (rmA6 l Z a0 hw [] wE h31 n0 Z31 S_E f34) hZ31 (wd29 hw) (wd28 hw) (by decide) (by decide)) (g := (mkF m 100 #[.val (.int x0), .val (.int x1), .val (.int x2), .val (.int x3), .val (.int fo), .val (.int fc), .val (.ref b11), .val (.ref b13), .val (.ref wE), .val (.ref wE), .val (.ref b22), .unset, .unset] [(.ref wE), (.ref wE), (.ref wE), (.ref wE), (.int x3), (.ref a31), (.ref b27), (.ref b27)])) rfl (by rw [hml]; rfl) (argsL := []) (rest := [(.ref wE), (.ref wE), (.ref wE), (.ref wE), (.int x3), (.ref a31), (.ref b27), (.ref b27)]) (lenOf pd___Ljava_util_Optional_ rfl) rfl (by show 2 * 0 + _ ≤ _; exact Nat.le_of_eq rfl) (hb hby at_100) (fun _ _ => ⟨rfl, eq36, (by decide : 16 + 0 ≤ _), (by decide : 59 + 0 ≤ _)⟩)
      dsimp only [Pt.U, Pt.locs, Pt.cells, Pt.slots] at X37 l37 y37 z37 st37 hQ37
      subst l37 y37 z37
      obtain ⟨rfl, Nq37, eq37⟩ := hQ37
      have N37 := Fr.app N36 Nq37
      have f38 := (F27_code.ext E31)
      have f39 := (F27_status.ext E31)
      have f40 := (F27_catalogueMessage.ext E31)
      have f41 := (F27_ownMessage.ext E31)
      have f42 := (F27_trace.ext E31)
      have f43 := (F27_moreInfo.ext E31)
      have f44 := (F27_target.ext E31)
      have f45 := (F27_details.ext E31)
      obtain ⟨_, _, ⟨T46, L46, kc46, ks46⟩, -, X46, ⟨Lc46, hQ46, l46, y46, z46⟩, st46⟩ := X37.specialBack hx (y := mn0) rfl hown31 (mvT hZ31 (wd75 hw)) (mvT hZ31 (wd76 hw)) (mvT hZ31 (wd77 hw)) (by decide) (backOf (W := 1) (rmA14 l Z a0 hw [] b27 a31 x3 wE b22 h31 n0 Z31 f33 f38 ge_b27 f39 f40 f41 f42 f43 f44 f45) hZ31 (wd77 hw) (wd73 hw) (by decide) (by decide)) (g := (mkF m 105 #[.val (.int x0), .val (.int x1), .val (.int x2), .val (.int x3), .val (.int fo), .val (.int fc), .val (.ref b11), .val (.ref b13), .val (.ref wE), .val (.ref wE), .val (.ref b22), .unset, .unset] [(.ref b22), (.ref wE), (.ref wE), (.ref wE), (.ref wE), (.ref wE), (.int x3), (.ref a31), (.ref b27), (.ref b27)])) rfl (by rw [hml]; rfl) (Steps.refl _) (a := b27) (argsL := [(.ref a31), (.int x3), (.ref wE), (.ref wE), (.ref wE), (.ref wE), (.ref wE), (.ref b22)]) (rest := [(.ref b27)]) (lenOf pd__Ljava_lang_String_ILjava_util_Optional_Ljava_util_Optional_Ljava_util_Optional_Ljava_util_Optional_Ljava_util_Optional_Ljava_util_List__V rfl) rfl (by show 2 * 0 + _ ≤ _; exact Nat.le_of_eq rfl) (hb hby at_105) (fun _ _ => ⟨rfl, eq37, (by decide : 16 + 0 ≤ _), (by decide : 59 + 0 ≤ _)⟩)
      dsimp only [Pt.U, Pt.locs, Pt.cells, Pt.slots] at X46 l46 y46 z46 st46 hQ46
      subst l46 y46 z46
      obtain ⟨rfl, Nq46, Kq46, g46_0, g46_1, g46_2, g46_3, g46_4, g46_5, g46_6, g46_7, g46_8⟩ := hQ46
      have N46 := Fr.app N37 Nq46
      have CS46 := CHr.keep Kq46 (allS (Safe.exa hZ31.alike f33 (by decide) (by decide)) all0) CR31.1
      have CR46 := CR31.trans CS46
      have hk46 : _ ≤ T46.heap.size := Nat.le_trans hk31 Kq46.1
      have Z46 : n0 ≤ T46.heap.size := Nat.le_trans Z31 Kq46.1
      have K46 : Keep h0 T46.heap [] := Keep.trans K31 Kq46 (allS (Or.inr sz_b27) all0)
      have f47 := (f34.keep Kq46 (allS ge_b27 all0))
      obtain ⟨cq48, kq48, q48a, q48b, q48c⟩ := isOf hZ31 rfl g46_0
      obtain ⟨_, _, ⟨T48, L48, kc48, ks48⟩, -, X48, ⟨Lc48, hQ48, l48, y48, z48⟩, st48⟩ := X46.virtualBack hx (y := mn2) (z := mn2) hown31 (mvT hZ31 (wd100 hw)) (mvT hZ31 (wd101 hw)) (notFace_of_selects (args := #[]) (mvT hZ31 (wd103 hw))) (mvT hZ31 (wd103 hw)) (mvT hZ31 (wd102 hw)) (by decide) (backOf (W := 0) (rmMsE l Z a0 hw [] b27 wE wE T46.heap n0 Z46 g46_0 g46_4 (E_w.ext f47.2) (F_w.ext f47.2) g46_3 (E_w.ext f47.2)) hZ31 (wd104 hw) (wd73 hw) (by decide) (by decide)) q48a q48c (g := (mkF m 112 #[.val (.int x0), .val (.int x1), .val (.int x2), .val (.int x3), .val (.int fo), .val (.int fc), .val (.ref b11), .val (.ref b13), .val (.ref wE), .val (.ref wE), .val (.ref b22), .val (.ref b27), .unset] [(.ref b27)])) rfl (by rw [hml]; rfl) (Steps.refl _) (argsL := []) (rest := []) (lenOf pd___Ljava_util_Optional_ rfl) rfl (by show 2 * 0 + _ ≤ _; exact Nat.le_of_eq rfl) (hb hby at_112) (fun _ _ => ⟨rfl, rfl, (by decide : 16 + 1 ≤ _), (by decide : 59 + 1 ≤ _)⟩)
      dsimp only [Pt.U, Pt.locs, Pt.cells, Pt.slots] at X48 l48 y48 z48 st48 hQ48
      subst l48 y48 z48
      obtain ⟨rfl, Nq48, Kq48⟩ := hQ48
      have N48 := Fr.app N46 Nq48
      have CS48 := CHr.keep Kq48 all0 CR46.1
      have CR48 := CR46.trans CS48
      have hk48 : _ ≤ T48.heap.size := Nat.le_trans hk46 Kq48.1
      have Z48 : n0 ≤ T48.heap.size := Nat.le_trans Z46 Kq48.1
      have K48 : Keep h0 T48.heap [] := Keep.trans K46 Kq48 all0
      have f49 := (f47.keep Kq48 all0)
      obtain ⟨cq50, kq50, q50a, q50b, q50c⟩ := isOf hZ31 rfl (E_w.ext f49.2)
      obtain ⟨_, _, ⟨T50, L50, kc50, ks50⟩, -, X50, ⟨Lc50, hQ50, l50, y50, z50⟩, st50⟩ := X48.virtualBack hx (y := mn15) (z := mn15) hown31 (mvT hZ31 (wd125 hw)) (mvT hZ31 (wd115 hw)) (notFace_of_selects (args := #[]) (mvT hZ31 (wd117 hw))) (mvT hZ31 (wd117 hw)) (mvT hZ31 (wd116 hw)) (by decide) (backOf (W := 0) (rmA4 l Z a0 hw [] wE T48.heap n0 Z48 (F_w.ext f49.2)) hZ31 (wd118 hw) (wd28 hw) (by decide) (by decide)) q50a q50c (g := (mkF m 196 #[.val (.int x0), .val (.int x1), .val (.int x2), .val (.int x3), .val (.int fo), .val (.int fc), .val (.ref b11), .val (.ref b13), .val (.ref wE), .val (.ref wE), .val (.ref b22), .val (.ref b27), .val (.ref wE)] [(.ref wE)])) rfl (by rw [hml]; rfl) (Steps.refl _) (argsL := []) (rest := []) (lenOf pd___Z rfl) rfl (by show 2 * 0 + _ ≤ _; exact Nat.le_of_eq rfl) (hb hby at_196) (fun _ _ => ⟨rfl, rfl, (by decide : 17 + 0 ≤ _), (by decide : 60 + 0 ≤ _)⟩)
      dsimp only [Pt.U, Pt.locs, Pt.cells, Pt.slots] at X50 l50 y50 z50 st50 hQ50
      subst l50 y50 z50
      obtain ⟨rfl, Nq50, eq50⟩ := hQ50
      have N50 := Fr.app N48 Nq50
      obtain ⟨lfs, lhr, lhrun, lhended, lhE⟩ := X50.leaveW hS31 (by rw [eq50]; exact hk48) (v := some (.int (1 : Int32))) (fun h => by rw [Bd.returns] at h; cases h)
      refine ⟨_, _, k18 _ ?_, lhrun, lhended, _, _, rfl, ?_, ?_, lhE.1, lhE.2.1, lhE.2.2.1, lhE.2.2.2.mono (by decide) (by decide)⟩
      · skip
        show Steps p.tables e below (T17.setTop (mkF m 58 #[.val (.int x0), .val (.int x1), .val (.int x2), .val (.int x3), .val (.int fo), .val (.int fc), .val (.ref b11), .val (.ref b13), .val (.ref wE), .unset, .unset, .unset, .unset] [(.int fc)])) _
        refine XS.ifYes X17.here hx rfl (pc0 := 58) (pc' := 69) rfl (hb hby at_58) rfl ((if0 _ _).trans (teq hc19).1) (by decide) (by decide) ?_
        show Steps p.tables e below (T17.setTop (mkF m 69 #[.val (.int x0), .val (.int x1), .val (.int x2), .val (.int x3), .val (.int fo), .val (.int fc), .val (.ref b11), .val (.ref b13), .val (.ref wE), .unset, .unset, .unset, .unset] [])) _
        refine st20 _ ?_
        show Steps p.tables e below (T20.setTop (mkF m 72 #[.val (.int x0), .val (.int x1), .val (.int x2), .val (.int x3), .val (.int fo), .val (.int fc), .val (.ref b11), .val (.ref b13), .val (.ref wE), .unset, .unset, .unset, .unset] [(.ref wE)])) _
        refine XS.astore X20.here hx rfl (hb hby at_72) rfl rfl (l' := #[.val (.int x0), .val (.int x1), .val (.int x2), .val (.int x3), .val (.int fo), .val (.int fc), .val (.ref b11), .val (.ref b13), .val (.ref wE), .val (.ref wE), .unset, .unset, .unset]) rfl ?_
        show Steps p.tables e below (T20.setTop (mkF m 74 #[.val (.int x0), .val (.int x1), .val (.int x2), .val (.int x3), .val (.int fo), .val (.int fc), .val (.ref b11), .val (.ref b13), .val (.ref wE), .val (.ref wE), .unset, .unset, .unset] [])) _
        refine st22 _ ?_
        show Steps p.tables e below (T22.setTop (mkF m 77 #[.val (.int x0), .val (.int x1), .val (.int x2), .val (.int x3), .val (.int fo), .val (.int fc), .val (.ref b11), .val (.ref b13), .val (.ref wE), .val (.ref wE), .unset, .unset, .unset] [(.ref b22)])) _
        refine XS.dup X22.here hx rfl (hb hby at_77) rfl rfl ?_
        show Steps p.tables e below (T22.setTop (mkF m 78 #[.val (.int x0), .val (.int x1), .val (.int x2), .val (.int x3), .val (.int fo), .val (.int fc), .val (.ref b11), .val (.ref b13), .val (.ref wE), .val (.ref wE), .unset, .unset, .unset] [(.ref b22), (.ref b22)])) _
        refine st24.trans ?_
        show Steps p.tables e below (T24.setTop (mkF m 81 #[.val (.int x0), .val (.int x1), .val (.int x2), .val (.int x3), .val (.int fo), .val (.int fc), .val (.ref b11), .val (.ref b13), .val (.ref wE), .val (.ref wE), .unset, .unset, .unset] [(.ref b22)])) _
        refine XS.astore X24.here hx rfl (hb hby at_81) rfl rfl (l' := #[.val (.int x0), .val (.int x1), .val (.int x2), .val (.int x3), .val (.int fo), .val (.int fc), .val (.ref b11), .val (.ref b13), .val (.ref wE), .val (.ref wE), .val (.ref b22), .unset, .unset]) rfl ?_
        show Steps p.tables e below (T24.setTop (mkF m 83 #[.val (.int x0), .val (.int x1), .val (.int x2), .val (.int x3), .val (.int fo), .val (.int fc), .val (.ref b11), .val (.ref b13), .val (.ref wE), .val (.ref wE), .val (.ref b22), .unset, .unset] [])) _
        refine st27 _ ?_
        show Steps p.tables e below (T27.setTop (mkF m 86 #[.val (.int x0), .val (.int x1), .val (.int x2), .val (.int x3), .val (.int fo), .val (.int fc), .val (.ref b11), .val (.ref b13), .val (.ref wE), .val (.ref wE), .val (.ref b22), .unset, .unset] [(.ref b27)])) _
        refine XS.dup X27.here hx rfl (hb hby at_86) rfl rfl ?_
        show Steps p.tables e below (T27.setTop (mkF m 87 #[.val (.int x0), .val (.int x1), .val (.int x2), .val (.int x3), .val (.int fo), .val (.int fc), .val (.ref b11), .val (.ref b13), .val (.ref wE), .val (.ref wE), .val (.ref b22), .unset, .unset] [(.ref b27), (.ref b27)])) _
        refine st31 _ ?_
        show Steps p.tables e below (T31.setTop (mkF m 89 #[.val (.int x0), .val (.int x1), .val (.int x2), .val (.int x3), .val (.int fo), .val (.int fc), .val (.ref b11), .val (.ref b13), .val (.ref wE), .val (.ref wE), .val (.ref b22), .unset, .unset] [(.ref a31), (.ref b27), (.ref b27)])) _
        refine XS.iloadN X31.here hx rfl (hb hby at_89) rfl ?_
        show Steps p.tables e below (T31.setTop (mkF m 90 #[.val (.int x0), .val (.int x1), .val (.int x2), .val (.int x3), .val (.int fo), .val (.int fc), .val (.ref b11), .val (.ref b13), .val (.ref wE), .val (.ref wE), .val (.ref b22), .unset, .unset] [(.int x3), (.ref a31), (.ref b27), (.ref b27)])) _
        refine XS.aload X31.here hx rfl (hb hby at_90) rfl rfl ?_
        show Steps p.tables e below (T31.setTop (mkF m 92 #[.val (.int x0), .val (.int x1), .val (.int x2), .val (.int x3), .val (.int fo), .val (.int fc), .val (.ref b11), .val (.ref b13), .val (.ref wE), .val (.ref wE), .val (.ref b22), .unset, .unset] [(.ref wE), (.int x3), (.ref a31), (.ref b27), (.ref b27)])) _
        refine XS.aload X31.here hx rfl (hb hby at_92) rfl rfl ?_
        show Steps p.tables e below (T31.setTop (mkF m 94 #[.val (.int x0), .val (.int x1), .val (.int x2), .val (.int x3), .val (.int fo), .val (.int fc), .val (.ref b11), .val (.ref b13), .val (.ref wE), .val (.ref wE), .val (.ref b22), .unset, .unset] [(.ref wE), (.ref wE), (.int x3), (.ref a31), (.ref b27), (.ref b27)])) _
        refine st35 _ ?_
        show Steps p.tables e below (T35.setTop (mkF m 97 #[.val (.int x0), .val (.int x1), .val (.int x2), .val (.int x3), .val (.int fo), .val (.int fc), .val (.ref b11), .val (.ref b13), .val (.ref wE), .val (.ref wE), .val (.ref b22), .unset, .unset] [(.ref wE), (.ref wE), (.ref wE), (.int x3), (.ref a31), (.ref b27), (.ref b27)])) _
        refine st36 _ ?_
        show Steps p.tables e below (T36.setTop (mkF m 100 #[.val (.int x0), .val (.int x1), .val (.int x2), .val (.int x3), .val (.int fo), .val (.int fc), .val (.ref b11), .val (.ref b13), .val (.ref wE), .val (.ref wE), .val (.ref b22), .unset, .unset] [(.ref wE), (.ref wE), (.ref wE), (.ref wE), (.int x3), (.ref a31), (.ref b27), (.ref b27)])) _
        refine st37 _ ?_
        show Steps p.tables e below (T37.setTop (mkF m 103 #[.val (.int x0), .val (.int x1), .val (.int x2), .val (.int x3), .val (.int fo), .val (.int fc), .val (.ref b11), .val (.ref b13), .val (.ref wE), .val (.ref wE), .val (.ref b22), .unset, .unset] [(.ref wE), (.ref wE), (.ref wE), (.ref wE), (.ref wE), (.int x3), (.ref a31), (.ref b27), (.ref b27)])) _
        refine XS.aload X37.here hx rfl (hb hby at_103) rfl rfl ?_
        show Steps p.tables e below (T37.setTop (mkF m 105 #[.val (.int x0), .val (.int x1), .val (.int x2), .val (.int x3), .val (.int fo), .val (.int fc), .val (.ref b11), .val (.ref b13), .val (.ref wE), .val (.ref wE), .val (.ref b22), .unset, .unset] [(.ref b22), (.ref wE), (.ref wE), (.ref wE), (.ref wE), (.ref wE), (.int x3), (.ref a31), (.ref b27), (.ref b27)])) _
        refine st46.trans ?_
        show Steps p.tables e below (T46.setTop (mkF m 108 #[.val (.int x0), .val (.int x1), .val (.int x2), .val (.int x3), .val (.int fo), .val (.int fc), .val (.ref b11), .val (.ref b13), .val (.ref wE), .val (.ref wE), .val (.ref b22), .unset, .unset] [(.ref b27)])) _
        refine XS.astore X46.here hx rfl (hb hby at_108) rfl rfl (l' := #[.val (.int x0), .val (.int x1), .val (.int x2), .val (.int x3), .val (.int fo), .val (.int fc), .val (.ref b11), .val (.ref b13), .val (.ref wE), .val (.ref wE), .val (.ref b22), .val (.ref b27), .unset]) rfl ?_
        show Steps p.tables e below (T46.setTop (mkF m 110 #[.val (.int x0), .val (.int x1), .val (.int x2), .val (.int x3), .val (.int fo), .val (.int fc), .val (.ref b11), .val (.ref b13), .val (.ref wE), .val (.ref wE), .val (.ref b22), .val (.ref b27), .unset] [])) _
        refine XS.aload X46.here hx rfl (hb hby at_110) rfl rfl ?_
        show Steps p.tables e below (T46.setTop (mkF m 112 #[.val (.int x0), .val (.int x1), .val (.int x2), .val (.int x3), .val (.int fo), .val (.int fc), .val (.ref b11), .val (.ref b13), .val (.ref wE), .val (.ref wE), .val (.ref b22), .val (.ref b27), .unset] [(.ref b27)])) _
        refine st48.trans ?_
        show Steps p.tables e below (T48.setTop (mkF m 115 #[.val (.int x0), .val (.int x1), .val (.int x2), .val (.int x3), .val (.int fo), .val (.int fc), .val (.ref b11), .val (.ref b13), .val (.ref wE), .val (.ref wE), .val (.ref b22), .val (.ref b27), .unset] [(.ref wE)])) _
        refine XS.astore X48.here hx rfl (hb hby at_115) rfl rfl (l' := #[.val (.int x0), .val (.int x1), .val (.int x2), .val (.int x3), .val (.int fo), .val (.int fc), .val (.ref b11), .val (.ref b13), .val (.ref wE), .val (.ref wE), .val (.ref b22), .val (.ref b27), .val (.ref wE)]) rfl ?_
        show Steps p.tables e below (T48.setTop (mkF m 117 #[.val (.int x0), .val (.int x1), .val (.int x2), .val (.int x3), .val (.int fo), .val (.int fc), .val (.ref b11), .val (.ref b13), .val (.ref wE), .val (.ref wE), .val (.ref b22), .val (.ref b27), .val (.ref wE)] [])) _
        refine XS.aload X48.here hx rfl (hb hby at_117) rfl rfl ?_
        show Steps p.tables e below (T48.setTop (mkF m 119 #[.val (.int x0), .val (.int x1), .val (.int x2), .val (.int x3), .val (.int fo), .val (.int fc), .val (.ref b11), .val (.ref b13), .val (.ref wE), .val (.ref wE), .val (.ref b22), .val (.ref b27), .val (.ref wE)] [(.ref wE)])) _
        refine XS.ifnonnullYes X48.here hx rfl (pc0 := 119) (pc' := 124) rfl (hb hby at_119) rfl (by decide) (by decide) ?_
        show Steps p.tables e below (T48.setTop (mkF m 124 #[.val (.int x0), .val (.int x1), .val (.int x2), .val (.int x3), .val (.int fo), .val (.int fc), .val (.ref b11), .val (.ref b13), .val (.ref wE), .val (.ref wE), .val (.ref b22), .val (.ref b27), .val (.ref wE)] [])) _
        refine XS.iload X48.here hx rfl (hb hby at_124) rfl ?_
        show Steps p.tables e below (T48.setTop (mkF m 126 #[.val (.int x0), .val (.int x1), .val (.int x2), .val (.int x3), .val (.int fo), .val (.int fc), .val (.ref b11), .val (.ref b13), .val (.ref wE), .val (.ref wE), .val (.ref b22), .val (.ref b27), .val (.ref wE)] [(.int fo)])) _
        refine XS.ifYes X48.here hx rfl (pc0 := 126) (pc' := 159) rfl (hb hby at_126) rfl ((if0 _ _).trans (teq hc15).1) (by decide) (by decide) ?_
        show Steps p.tables e below (T48.setTop (mkF m 159 #[.val (.int x0), .val (.int x1), .val (.int x2), .val (.int x3), .val (.int fo), .val (.int fc), .val (.ref b11), .val (.ref b13), .val (.ref wE), .val (.ref wE), .val (.ref b22), .val (.ref b27), .val (.ref wE)] [])) _
        refine XS.iload X48.here hx rfl (hb hby at_159) rfl ?_
        show Steps p.tables e below (T48.setTop (mkF m 161 #[.val (.int x0), .val (.int x1), .val (.int x2), .val (.int x3), .val (.int fo), .val (.int fc), .val (.ref b11), .val (.ref b13), .val (.ref wE), .val (.ref wE), .val (.ref b22), .val (.ref b27), .val (.ref wE)] [(.int fc)])) _
        refine XS.ifYes X48.here hx rfl (pc0 := 161) (pc' := 194) rfl (hb hby at_161) rfl ((if0 _ _).trans (teq hc19).1) (by decide) (by decide) ?_
        show Steps p.tables e below (T48.setTop (mkF m 194 #[.val (.int x0), .val (.int x1), .val (.int x2), .val (.int x3), .val (.int fo), .val (.int fc), .val (.ref b11), .val (.ref b13), .val (.ref wE), .val (.ref wE), .val (.ref b22), .val (.ref b27), .val (.ref wE)] [])) _
        refine XS.aload X48.here hx rfl (hb hby at_194) rfl rfl ?_
        show Steps p.tables e below (T48.setTop (mkF m 196 #[.val (.int x0), .val (.int x1), .val (.int x2), .val (.int x3), .val (.int fo), .val (.int fc), .val (.ref b11), .val (.ref b13), .val (.ref wE), .val (.ref wE), .val (.ref b22), .val (.ref b27), .val (.ref wE)] [(.ref wE)])) _
        refine st50.trans ?_
        show Steps p.tables e below (T50.setTop (mkF m 199 #[.val (.int x0), .val (.int x1), .val (.int x2), .val (.int x3), .val (.int fo), .val (.int fc), .val (.ref b11), .val (.ref b13), .val (.ref wE), .val (.ref wE), .val (.ref b22), .val (.ref b27), .val (.ref wE)] [(.int (0 : Int32))])) _
        refine XS.ifNo X50.here hx rfl (hb hby at_199) rfl ((if0 _ _).trans (teq (by decide : (0 : Int32) = (0 : Int32))).2) ?_
        show Steps p.tables e below (T50.setTop (mkF m 202 #[.val (.int x0), .val (.int x1), .val (.int x2), .val (.int x3), .val (.int fo), .val (.int fc), .val (.ref b11), .val (.ref b13), .val (.ref wE), .val (.ref wE), .val (.ref b22), .val (.ref b27), .val (.ref wE)] [])) _
        refine XS.iconst X50.here hx rfl (hb hby at_202) ?_
        show Steps p.tables e below (T50.setTop (mkF m 203 #[.val (.int x0), .val (.int x1), .val (.int x2), .val (.int x3), .val (.int fo), .val (.int fc), .val (.ref b11), .val (.ref b13), .val (.ref wE), .val (.ref wE), .val (.ref b22), .val (.ref b27), .val (.ref wE)] [(.int (1 : Int32))])) _
        refine XS.goto X50.here hx rfl (pc0 := 203) (pc' := 207) rfl (hb hby at_203) (by decide) (by decide) ?_
        show Steps p.tables e below (T50.setTop (mkF m 207 #[.val (.int x0), .val (.int x1), .val (.int x2), .val (.int x3), .val (.int fo), .val (.int fc), .val (.ref b11), .val (.ref b13), .val (.ref wE), .val (.ref wE), .val (.ref b22), .val (.ref b27), .val (.ref wE)] [(.int (1 : Int32))])) _
        exact retN X50 hx (t := .boolean) Bd.returns (by simp) (hb hby at_207) lhr
      · skip
        show Q0 Z x0 x1 x2 x3 G1 wE wD h0 n0 _ T50.heap _
        rw [eq50]
        exact ⟨rfl, N50⟩
      · skip
        show CHr Z own_EL s.vm s.heap T50.vm T50.heap
        rw [hh]
        rw [eq50]
        exact CR48.trans (CHv.at X50 hZ31 hEL CR48.1)
    · skip
      have f51 := (gE11.keep Kq13)
      obtain ⟨_, _, ⟨T52, L52, kc52, ks52⟩, -, X52, ⟨Lc52, hQ52, l52, y52, z52⟩, st52⟩ := Jvm.LawKit.callS X17 hx (y := mn16) hown13 (mvT hZ13 (wd31 hw)) (mvT hZ13 (wd32 hw)) (mvT hZ13 (wd28 hw)) (mvT hZ13 (wd33 hw)) (by decide) (backOf (W := 0) (rmA17 l Z a0 hw [] b13 T13.heap n0 Z13 ) hZ13 (wd33 hw) (wd28 hw) (by decide) (by decide)) (g := (mkF m 63 #[.val (.int x0), .val (.int x1), .val (.int x2), .val (.int x3), .val (.int fo), .val (.int fc), .val (.ref b11), .val (.ref b13), .val (.ref wE), .unset, .unset, .unset, .unset] [(.ref b13)])) rfl (by rw [hml]; rfl) (argsL := [(.ref b13)]) (rest := []) (lenOf pd__Ljava_lang_Object__Ljava_util_Optional_ rfl) rfl (by show 2 * 0 + _ ≤ _; exact Nat.le_of_eq rfl) (hb hby at_63) (fun _ _ => ⟨rfl, eq17, (by decide : 12 + 1 ≤ _), (by decide : 40 + 1 ≤ _)⟩)
      dsimp only [Pt.U, Pt.locs, Pt.cells, Pt.slots] at X52 l52 y52 z52 st52 hQ52
      subst l52 y52 z52
      obtain ⟨b52_0, rfl, Nq52, Kq52, sz52_0, g52_0, g52_1⟩ := hQ52
      have N52 := Fr.app N17 Nq52
      have CS52 := CHr.keep Kq52 all0 CR13.1
      have CR52 := CR13.trans CS52
      have hk52 : _ ≤ T52.heap.size := Nat.le_trans (Nat.le_refl T13.heap.size) Kq52.1
      have Z52 : n0 ≤ T52.heap.size := Nat.le_trans Z13 Kq52.1
      have K52 : Keep h0 T52.heap [] := Keep.trans K13 Kq52 all0
      have ne_b11_b52_0 : b11 ≠ b52_0 := Nat.ne_of_lt (Nat.lt_of_lt_of_le f51.lt sz52_0)
      have ne_b13_b52_0 : b13 ≠ b52_0 := Nat.ne_of_lt (Nat.lt_of_lt_of_le gE13.lt sz52_0)
      have ge_b52_0 : n0 ≤ b52_0 := Nat.le_trans Z13 sz52_0
      have sz_b52_0 : h0.size ≤ b52_0 := Nat.le_trans K13.1 sz52_0
      have f53 := (f51.keep Kq52)
      have f54 := (gE13.keep Kq52)
      obtain ⟨T55, h55, X55, e55, E55, A55, D55, -, st55⟩ := newO X52 hx hZ13 hown13 (wd47 hw) (wd48 hw) (wd49 hw) rfl (g := (mkF m 74 #[.val (.int x0), .val (.int x1), .val (.int x2), .val (.int x3), .val (.int fo), .val (.int fc), .val (.ref b11), .val (.ref b13), .val (.ref wE), .val (.ref b52_0), .unset, .unset, .unset] [])) rfl (hb hby at_74) (by decide) (by decide)
      obtain ⟨b55, g55⟩ : ∃ z, z = T52.heap.size := ⟨_, rfl⟩
      rw [← g55] at A55 D55 st55
      have ne_b11_b55 : b11 ≠ b55 := Nat.ne_of_lt (Nat.lt_of_lt_of_le f53.lt (Nat.le_of_eq g55.symm))
      have ne_b13_b55 : b13 ≠ b55 := Nat.ne_of_lt (Nat.lt_of_lt_of_le f54.lt (Nat.le_of_eq g55.symm))
      have ne_b52_0_b55 : b52_0 ≠ b55 := Nat.ne_of_lt (Nat.lt_of_lt_of_le g52_0.lt (Nat.le_of_eq g55.symm))
      have ge_b55 : n0 ≤ b55 := Nat.le_trans Z52 (Nat.le_of_eq g55.symm)
      have sz_b55 : h0.size ≤ b55 := Nat.le_trans K52.1 (Nat.le_of_eq g55.symm)
      have CS55 := CHr.ext E55 CR52.1
      have CR55 := CR52.trans CS55
      have hk55 : _ ≤ h55.size := Nat.le_trans hk52 E55.1
      have Z55 : n0 ≤ h55.size := Nat.le_trans Z52 E55.1
      have K55 : Keep h0 h55 [] := (K52.ext E55)
      have F55_modCount : Fld Z h55 b55 "java/util/AbstractList" "modCount" "I" (.int (0 : Int32)) := D55 (Or.inl (wd67 hw)) (ty := .int) (by decide)
      have F55_elementData : Fld Z h55 b55 "java/util/ArrayList" "elementData" "[Ljava/lang/Object;" .null := D55 (Or.inl (wd70 hw)) (ty := (.array (.object "java/lang/Object"))) (by decide)
      have f56 := ((f16.keep Kq52 all0).ext E55)
      obtain ⟨_, _, ⟨T57, L57, kc57, ks57⟩, -, X57, ⟨Lc57, hQ57, l57, y57, z57⟩, st57⟩ := X55.specialBack hx (y := mn10) rfl hown13 (mvT hZ13 (wd50 hw)) (mvT hZ13 (wd51 hw)) (mvT hZ13 (wd52 hw)) (by decide) (backOf (W := 1) (rmA8 l Z a0 hw [] b55 wD h55 n0 Z55 F55_modCount F55_elementData A55 ge_b55 S_D f56) hZ13 (wd52 hw) (wd49 hw) (by decide) (by decide)) (g := (mkF m 78 #[.val (.int x0), .val (.int x1), .val (.int x2), .val (.int x3), .val (.int fo), .val (.int fc), .val (.ref b11), .val (.ref b13), .val (.ref wE), .val (.ref b52_0), .unset, .unset, .unset] [(.ref b55), (.ref b55)])) rfl (by rw [hml]; rfl) (Steps.refl _) (a := b55) (argsL := []) (rest := [(.ref b55)]) (lenOf pd___V rfl) rfl (by show 2 * 0 + _ ≤ _; exact Nat.le_of_eq rfl) (hb hby at_78) (fun _ _ => ⟨rfl, e55, (by decide : 14 + 0 ≤ _), (by decide : 44 + 0 ≤ _)⟩)
      dsimp only [Pt.U, Pt.locs, Pt.cells, Pt.slots] at X57 l57 y57 z57 st57 hQ57
      subst l57 y57 z57
      obtain ⟨rfl, Nq57, Kq57, g57_0, g57_1, g57_2⟩ := hQ57
      have N57 := Fr.app N52 Nq57
      have CS57 := CHr.keep Kq57 (allS (Safe.exa hZ13.alike A55 (by decide) (by decide)) all0) CR55.1
      have CR57 := CR55.trans CS57
      have hk57 : _ ≤ T57.heap.size := Nat.le_trans hk55 Kq57.1
      have Z57 : n0 ≤ T57.heap.size := Nat.le_trans Z55 Kq57.1
      have K57 : Keep h0 T57.heap [] := Keep.trans K55 Kq57 (allS (Or.inr sz_b55) all0)
      have f58 := ((f53.ext E55).keep Kq57)
      have f59 := ((f54.ext E55).keep Kq57)
      have f60 := ((g52_0.ext E55).keep Kq57)
      obtain ⟨T61, h61, X61, e61, E61, A61, D61, -, st61⟩ := newO X57 hx hZ13 hown13 (wd71 hw) (wd72 hw) (wd73 hw) rfl (g := (mkF m 83 #[.val (.int x0), .val (.int x1), .val (.int x2), .val (.int x3), .val (.int fo), .val (.int fc), .val (.ref b11), .val (.ref b13), .val (.ref wE), .val (.ref b52_0), .val (.ref b55), .unset, .unset] [])) rfl (hb hby at_83) (by decide) (by decide)
      obtain ⟨b61, g61⟩ : ∃ z, z = T57.heap.size := ⟨_, rfl⟩
      rw [← g61] at A61 D61 st61
      have ne_b11_b61 : b11 ≠ b61 := Nat.ne_of_lt (Nat.lt_of_lt_of_le f58.lt (Nat.le_of_eq g61.symm))
      have ne_b13_b61 : b13 ≠ b61 := Nat.ne_of_lt (Nat.lt_of_lt_of_le f59.lt (Nat.le_of_eq g61.symm))
      have ne_b52_0_b61 : b52_0 ≠ b61 := Nat.ne_of_lt (Nat.lt_of_lt_of_le f60.lt (Nat.le_of_eq g61.symm))
      have ne_b55_b61 : b55 ≠ b61 := Nat.ne_of_lt (Nat.lt_of_lt_of_le g57_2.lt (Nat.le_of_eq g61.symm))
      have ge_b61 : n0 ≤ b61 := Nat.le_trans Z57 (Nat.le_of_eq g61.symm)
      have sz_b61 : h0.size ≤ b61 := Nat.le_trans K57.1 (Nat.le_of_eq g61.symm)
      have CS61 := CHr.ext E61 CR57.1
      have CR61 := CR57.trans CS61
      have hk61 : _ ≤ h61.size := Nat.le_trans hk57 E61.1
      have Z61 : n0 ≤ h61.size := Nat.le_trans Z57 E61.1
      have K61 : Keep h0 h61 [] := (K57.ext E61)
      have F61_code : Fld Z h61 b61 cn4 "code" "Ljava/lang/String;" .null := D61 (Or.inr (wd85 hw)) (ty := (.object "java/lang/String")) (by decide)
      have F61_status : Fld Z h61 b61 cn4 "status" "I" (.int (0 : Int32)) := D61 (Or.inr (wd87 hw)) (ty := .int) (by decide)
      have F61_catalogueMessage : Fld Z h61 b61 cn4 "catalogueMessage" "Ljava/util/Optional;" .null := D61 (Or.inr (wd89 hw)) (ty := (.object "java/util/Optional")) (by decide)
      have F61_ownMessage : Fld Z h61 b61 cn4 "ownMessage" "Ljava/util/Optional;" .null := D61 (Or.inr (wd91 hw)) (ty := (.object "java/util/Optional")) (by decide)
      have F61_trace : Fld Z h61 b61 cn4 "trace" "Ljava/util/Optional;" .null := D61 (Or.inr (wd93 hw)) (ty := (.object "java/util/Optional")) (by decide)
      have F61_moreInfo : Fld Z h61 b61 cn4 "moreInfo" "Ljava/util/Optional;" .null := D61 (Or.inr (wd95 hw)) (ty := (.object "java/util/Optional")) (by decide)
      have F61_target : Fld Z h61 b61 cn4 "target" "Ljava/util/Optional;" .null := D61 (Or.inr (wd97 hw)) (ty := (.object "java/util/Optional")) (by decide)
      have F61_details : Fld Z h61 b61 cn4 "details" "Ljava/util/List;" .null := D61 (Or.inr (wd99 hw)) (ty := (.object "java/util/List")) (by decide)
      have f62 := (f58.ext E61)
      have f63 := (f59.ext E61)
      have f64 := (f60.ext E61)
      have f65 := (g57_2.ext E61)
      obtain ⟨a66, T66, h66, kk66, t66, kb66, X66, e66, E66, hS66, hk66, hZ66, hown66, gE66, gC66, gV66, gK66, la66, lt66, CS66, LL66, sne66, st66⟩ := ldcCH (s := s) (vm0 := T13.vm) (EL := own_EL) X61 hx hZ13 hown13 (wd74 hw) wS e61 hS13 hk61 hEL (by decide) CR61.1 (vs := [(.int (99 : Int32))]) (z := (1 : Int32)) ⟨by decide +kernel, by first | rfl | decide +kernel⟩ (by decide) (by decide) (g := (mkF m 87 #[.val (.int x0), .val (.int x1), .val (.int x2), .val (.int x3), .val (.int fo), .val (.int fc), .val (.ref b11), .val (.ref b13), .val (.ref wE), .val (.ref b52_0), .val (.ref b55), .unset, .unset] [(.ref b61), (.ref b61)])) rfl (hb hby at_87) (n := 4) (by decide +kernel) (by decide) (by decide) (by decide)
      have CR66 := CR61.trans CS66
      have Z66 : n0 ≤ h66.size := Nat.le_trans Z61 E66.1
      have K66 : Keep h0 h66 [] := (K61.ext E66)
      have f67 := (f64.ext E66)
      have nn_b52_0_66 := sne66 b52_0 (Safe.exa hZ66.alike f67 (by decide) (by decide))
      have f68 := (f65.ext E66)
      have nn_b55_66 := sne66 b55 (Safe.exa hZ66.alike f68 (by decide) (by decide))
      have f69 := (A61.ext E66)
      have nn_b61_66 := sne66 b61 (Safe.exa hZ66.alike f69 (by decide) (by decide))
      have f70 := (((f56.keep Kq57 (allS ge_b55 all0)).ext E61).ext E66)
      obtain ⟨_, _, ⟨T71, L71, kc71, ks71⟩, -, X71, ⟨Lc71, hQ71, l71, y71, z71⟩, st71⟩ := Jvm.LawKit.callS X66 hx (y := mn13) hown66 (mvT hZ66 (wd26 hw)) (mvT hZ66 (wd27 hw)) (mvT hZ66 (wd28 hw)) (mvT hZ66 (wd29 hw)) (by decide) (backOf (W := 6) (rmA6 l Z a0 hw [] wE h66 n0 Z66 S_E f70) hZ66 (wd29 hw) (wd28 hw) (by decide) (by decide)) (g := (mkF m 94 #[.val (.int x0), .val (.int x1), .val (.int x2), .val (.int x3), .val (.int fo), .val (.int fc), .val (.ref b11), .val (.ref b13), .val (.ref wE), .val (.ref b52_0), .val (.ref b55), .unset, .unset] [(.ref wE), (.ref b52_0), (.int x3), (.ref a66), (.ref b61), (.ref b61)])) rfl (by rw [hml]; rfl) (argsL := []) (rest := [(.ref wE), (.ref b52_0), (.int x3), (.ref a66), (.ref b61), (.ref b61)]) (lenOf pd___Ljava_util_Optional_ rfl) rfl (by show 2 * 0 + _ ≤ _; exact Nat.le_of_eq rfl) (hb hby at_94) (fun _ _ => ⟨rfl, e66, (by decide : 17 + 0 ≤ _), (by decide : 60 + 0 ≤ _)⟩)
      dsimp only [Pt.U, Pt.locs, Pt.cells, Pt.slots] at X71 l71 y71 z71 st71 hQ71
      subst l71 y71 z71
      obtain ⟨rfl, Nq71, eq71⟩ := hQ71
      have N71 := Fr.app N57 Nq71
      obtain ⟨_, _, ⟨T72, L72, kc72, ks72⟩, -, X72, ⟨Lc72, hQ72, l72, y72, z72⟩, st72⟩ := Jvm.LawKit.callS X71 hx (y := mn13) hown66 (mvT hZ66 (wd26 hw)) (mvT hZ66 (wd27 hw)) (mvT hZ66 (wd28 hw)) (mvT hZ66 (wd29 hw)) (by decide) (backOf (W := 7) (rmA6 l Z a0 hw [] wE h66 n0 Z66 S_E f70) hZ66 (wd29 hw) (wd28 hw) (by decide) (by decide)) (g := (mkF m 97 #[.val (.int x0), .val (.int x1), .val (.int x2), .val (.int x3), .val (.int fo), .val (.int fc), .val (.ref b11), .val (.ref b13), .val (.ref wE), .val (.ref b52_0), .val (.ref b55), .unset, .unset] [(.ref wE), (.ref wE), (.ref b52_0), (.int x3), (.ref a66), (.ref b61), (.ref b61)])) rfl (by rw [hml]; rfl) (argsL := []) (rest := [(.ref wE), (.ref wE), (.ref b52_0), (.int x3), (.ref a66), (.ref b61), (.ref b61)]) (lenOf pd___Ljava_util_Optional_ rfl) rfl (by show 2 * 0 + _ ≤ _; exact Nat.le_of_eq rfl) (hb hby at_97) (fun _ _ => ⟨rfl, eq71, (by decide : 17 + 0 ≤ _), (by decide : 60 + 0 ≤ _)⟩)
      dsimp only [Pt.U, Pt.locs, Pt.cells, Pt.slots] at X72 l72 y72 z72 st72 hQ72
      subst l72 y72 z72
      obtain ⟨rfl, Nq72, eq72⟩ := hQ72
      have N72 := Fr.app N71 Nq72
      obtain ⟨_, _, ⟨T73, L73, kc73, ks73⟩, -, X73, ⟨Lc73, hQ73, l73, y73, z73⟩, st73⟩ := Jvm.LawKit.callS X72 hx (y := mn13) hown66 (mvT hZ66 (wd26 hw)) (mvT hZ66 (wd27 hw)) (mvT hZ66 (wd28 hw)) (mvT hZ66 (wd29 hw)) (by decide) (backOf (W := 8) (rmA6 l Z a0 hw [] wE h66 n0 Z66 S_E f70) hZ66 (wd29 hw) (wd28 hw) (by decide) (by decide)) (g := (mkF m 100 #[.val (.int x0), .val (.int x1), .val (.int x2), .val (.int x3), .val (.int fo), .val (.int fc), .val (.ref b11), .val (.ref b13), .val (.ref wE), .val (.ref b52_0), .val (.ref b55), .unset, .unset] [(.ref wE), (.ref wE), (.ref wE), (.ref b52_0), (.int x3), (.ref a66), (.ref b61), (.ref b61)])) rfl (by rw [hml]; rfl) (argsL := []) (rest := [(.ref wE), (.ref wE), (.ref wE), (.ref b52_0), (.int x3), (.ref a66), (.ref b61), (.ref b61)]) (lenOf pd___Ljava_util_Optional_ rfl) rfl (by show 2 * 0 + _ ≤ _; exact Nat.le_of_eq rfl) (hb hby at_100) (fun _ _ => ⟨rfl, eq72, (by decide : 17 + 0 ≤ _), (by decide : 60 + 0 ≤ _)⟩)
      dsimp only [Pt.U, Pt.locs, Pt.cells, Pt.slots] at X73 l73 y73 z73 st73 hQ73
      subst l73 y73 z73
      obtain ⟨rfl, Nq73, eq73⟩ := hQ73
      have N73 := Fr.app N72 Nq73
      have f74 := (F61_code.ext E66)
      have f75 := (F61_status.ext E66)
      have f76 := (F61_catalogueMessage.ext E66)
      have f77 := (F61_ownMessage.ext E66)
      have f78 := (F61_trace.ext E66)
      have f79 := (F61_moreInfo.ext E66)
      have f80 := (F61_target.ext E66)
      have f81 := (F61_details.ext E66)
      obtain ⟨_, _, ⟨T82, L82, kc82, ks82⟩, -, X82, ⟨Lc82, hQ82, l82, y82, z82⟩, st82⟩ := X73.specialBack hx (y := mn0) rfl hown66 (mvT hZ66 (wd75 hw)) (mvT hZ66 (wd76 hw)) (mvT hZ66 (wd77 hw)) (by decide) (backOf (W := 1) (rmA26 l Z a0 hw [] b61 a66 x3 b52_0 wE b55 h66 n0 Z66 f69 f74 ge_b61 f75 f76 f77 f78 f79 f80 f81) hZ66 (wd77 hw) (wd73 hw) (by decide) (by decide)) (g := (mkF m 105 #[.val (.int x0), .val (.int x1), .val (.int x2), .val (.int x3), .val (.int fo), .val (.int fc), .val (.ref b11), .val (.ref b13), .val (.ref wE), .val (.ref b52_0), .val (.ref b55), .unset, .unset] [(.ref b55), (.ref wE), (.ref wE), (.ref wE), (.ref wE), (.ref b52_0), (.int x3), (.ref a66), (.ref b61), (.ref b61)])) rfl (by rw [hml]; rfl) (Steps.refl _) (a := b61) (argsL := [(.ref a66), (.int x3), (.ref b52_0), (.ref wE), (.ref wE), (.ref wE), (.ref wE), (.ref b55)]) (rest := [(.ref b61)]) (lenOf pd__Ljava_lang_String_ILjava_util_Optional_Ljava_util_Optional_Ljava_util_Optional_Ljava_util_Optional_Ljava_util_Optional_Ljava_util_List__V rfl) rfl (by show 2 * 0 + _ ≤ _; exact Nat.le_of_eq rfl) (hb hby at_105) (fun _ _ => ⟨rfl, eq73, (by decide : 17 + 0 ≤ _), (by decide : 60 + 0 ≤ _)⟩)
      dsimp only [Pt.U, Pt.locs, Pt.cells, Pt.slots] at X82 l82 y82 z82 st82 hQ82
      subst l82 y82 z82
      obtain ⟨rfl, Nq82, Kq82, g82_0, g82_1, g82_2, g82_3, g82_4, g82_5, g82_6, g82_7, g82_8⟩ := hQ82
      have N82 := Fr.app N73 Nq82
      have CS82 := CHr.keep Kq82 (allS (Safe.exa hZ66.alike f69 (by decide) (by decide)) all0) CR66.1
      have CR82 := CR66.trans CS82
      have hk82 : _ ≤ T82.heap.size := Nat.le_trans hk66 Kq82.1
      have Z82 : n0 ≤ T82.heap.size := Nat.le_trans Z66 Kq82.1
      have K82 : Keep h0 T82.heap [] := Keep.trans K66 Kq82 (allS (Or.inr sz_b61) all0)
      have f83 := (f70.keep Kq82 (allS ge_b61 all0))
      have f84 := (f67.keep Kq82)
      obtain ⟨cq85, kq85, q85a, q85b, q85c⟩ := isOf hZ66 rfl g82_0
      obtain ⟨_, _, ⟨T85, L85, kc85, ks85⟩, -, X85, ⟨Lc85, hQ85, l85, y85, z85⟩, st85⟩ := X82.virtualBack hx (y := mn2) (z := mn2) hown66 (mvT hZ66 (wd100 hw)) (mvT hZ66 (wd101 hw)) (notFace_of_selects (args := #[]) (mvT hZ66 (wd103 hw))) (mvT hZ66 (wd103 hw)) (mvT hZ66 (wd102 hw)) (by decide) (backOf (W := 0) (rmMsE l Z a0 hw [] b61 wE b52_0 T82.heap n0 Z82 g82_0 g82_4 (E_w.ext f83.2) (F_w.ext f83.2) g82_3 f84) hZ66 (wd104 hw) (wd73 hw) (by decide) (by decide)) q85a q85c (g := (mkF m 112 #[.val (.int x0), .val (.int x1), .val (.int x2), .val (.int x3), .val (.int fo), .val (.int fc), .val (.ref b11), .val (.ref b13), .val (.ref wE), .val (.ref b52_0), .val (.ref b55), .val (.ref b61), .unset] [(.ref b61)])) rfl (by rw [hml]; rfl) (Steps.refl _) (argsL := []) (rest := []) (lenOf pd___Ljava_util_Optional_ rfl) rfl (by show 2 * 0 + _ ≤ _; exact Nat.le_of_eq rfl) (hb hby at_112) (fun _ _ => ⟨rfl, rfl, (by decide : 17 + 1 ≤ _), (by decide : 60 + 1 ≤ _)⟩)
      dsimp only [Pt.U, Pt.locs, Pt.cells, Pt.slots] at X85 l85 y85 z85 st85 hQ85
      subst l85 y85 z85
      obtain ⟨rfl, Nq85, Kq85⟩ := hQ85
      have N85 := Fr.app N82 Nq85
      have CS85 := CHr.keep Kq85 all0 CR82.1
      have CR85 := CR82.trans CS85
      have hk85 : _ ≤ T85.heap.size := Nat.le_trans hk82 Kq85.1
      have Z85 : n0 ≤ T85.heap.size := Nat.le_trans Z82 Kq85.1
      have K85 : Keep h0 T85.heap [] := Keep.trans K82 Kq85 all0
      have f86 := ((((((g52_1.ext E55).keep Kq57 (ninS ne_b52_0_b55 nin0)).ext E61).ext E66).keep Kq82 (ninS ne_b52_0_b61 nin0)).keep Kq85 nin0)
      have f88 := (f84.keep Kq85)
      obtain ⟨cq87, kq87, q87a, q87b, q87c⟩ := isOf hZ66 rfl f88
      obtain ⟨_, _, ⟨T87, L87, kc87, ks87⟩, -, X87, ⟨Lc87, hQ87, l87, y87, z87⟩, st87⟩ := X85.virtualBack hx (y := mn15) (z := mn15) hown66 (mvT hZ66 (wd125 hw)) (mvT hZ66 (wd115 hw)) (notFace_of_selects (args := #[]) (mvT hZ66 (wd117 hw))) (mvT hZ66 (wd117 hw)) (mvT hZ66 (wd116 hw)) (by decide) (backOf (W := 0) (rmA2 l Z a0 hw [] b52_0 b13 T85.heap n0 Z85 f86) hZ66 (wd118 hw) (wd28 hw) (by decide) (by decide)) q87a q87c (g := (mkF m 166 #[.val (.int x0), .val (.int x1), .val (.int x2), .val (.int x3), .val (.int fo), .val (.int fc), .val (.ref b11), .val (.ref b13), .val (.ref wE), .val (.ref b52_0), .val (.ref b55), .val (.ref b61), .val (.ref b52_0)] [(.ref b52_0)])) rfl (by rw [hml]; rfl) (Steps.refl _) (argsL := []) (rest := []) (lenOf pd___Z rfl) rfl (by show 2 * 0 + _ ≤ _; exact Nat.le_of_eq rfl) (hb hby at_166) (fun _ _ => ⟨rfl, rfl, (by decide : 18 + 0 ≤ _), (by decide : 61 + 0 ≤ _)⟩)
      dsimp only [Pt.U, Pt.locs, Pt.cells, Pt.slots] at X87 l87 y87 z87 st87 hQ87
      subst l87 y87 z87
      obtain ⟨rfl, Nq87, eq87⟩ := hQ87
      have N87 := Fr.app N85 Nq87
      obtain ⟨cq89, kq89, q89a, q89b, q89c⟩ := isOf hZ66 eq87 f88
      obtain ⟨_, _, ⟨T89, L89, kc89, ks89⟩, -, X89, ⟨Lc89, hQ89, l89, y89, z89⟩, st89⟩ := X87.virtualBack hx (y := mn14) (z := mn14) hown66 (mvT hZ66 (wd126 hw)) (mvT hZ66 (wd127 hw)) (notFace_of_selects (args := #[]) (mvT hZ66 (wd129 hw))) (mvT hZ66 (wd129 hw)) (mvT hZ66 (wd128 hw)) (by decide) (backOf (W := 0) (rmA29 l Z a0 hw [] b52_0 b13 T85.heap n0 Z85 f86) hZ66 (wd130 hw) (wd28 hw) (by decide) (by decide)) q89a q89c (g := (mkF m 174 #[.val (.int x0), .val (.int x1), .val (.int x2), .val (.int x3), .val (.int fo), .val (.int fc), .val (.ref b11), .val (.ref b13), .val (.ref wE), .val (.ref b52_0), .val (.ref b55), .val (.ref b61), .val (.ref b52_0)] [(.ref b52_0)])) rfl (by rw [hml]; rfl) (Steps.refl _) (argsL := []) (rest := []) (lenOf pd___Ljava_lang_Object_ rfl) rfl (by show 2 * 0 + _ ≤ _; exact Nat.le_of_eq rfl) (hb hby at_174) (fun _ _ => ⟨rfl, eq87, (by decide : 18 + 0 ≤ _), (by decide : 61 + 0 ≤ _)⟩)
      dsimp only [Pt.U, Pt.locs, Pt.cells, Pt.slots] at X89 l89 y89 z89 st89 hQ89
      subst l89 y89 z89
      obtain ⟨rfl, Nq89, eq89⟩ := hQ89
      have N89 := Fr.app N87 Nq89
      have f90 := (((f63.ext E66).keep Kq82).keep Kq85)
      obtain ⟨T91, X91, e91, st91⟩ := castY X89 hx hZ66 hown66 (wd4 hw) eq89 (Ins.self f90) (g := (mkF m 177 #[.val (.int x0), .val (.int x1), .val (.int x2), .val (.int x3), .val (.int fo), .val (.int fc), .val (.ref b11), .val (.ref b13), .val (.ref wE), .val (.ref b52_0), .val (.ref b55), .val (.ref b61), .val (.ref b52_0)] [(.ref b13)])) rfl rfl (hb hby at_177)
      obtain ⟨cq92, kq92, q92a, q92b, q92c⟩ := isOf hZ66 e91 f90
      obtain ⟨_, _, ⟨T92, L92, kc92, ks92⟩, -, X92, ⟨Lc92, hQ92, l92, y92, z92⟩, st92⟩ := X91.virtualBack hx (y := mn7) (z := mn7) hown66 (mvT hZ66 (wd131 hw)) (mvT hZ66 (wd132 hw)) (notFace_of_selects (args := #[]) (mvT hZ66 (wd134 hw))) (mvT hZ66 (wd134 hw)) (mvT hZ66 (wd133 hw)) (by decide) (backOf (W := 0) (rmA30 l Z a0 hw [] b13 T85.heap n0 Z85 ) hZ66 (wd135 hw) (wd6 hw) (by decide) (by decide)) q92a q92c (g := (mkF m 182 #[.val (.int x0), .val (.int x1), .val (.int x2), .val (.int x3), .val (.int fo), .val (.int fc), .val (.ref b11), .val (.ref b13), .val (.ref wE), .val (.ref b52_0), .val (.ref b55), .val (.ref b61), .val (.ref b52_0)] [(.ref b13), (.ref b13)])) rfl (by rw [hml]; rfl) (Steps.refl _) (argsL := [(.ref b13)]) (rest := []) (lenOf pd__Ljava_lang_Object__Z rfl) rfl (by show 2 * 0 + _ ≤ _; exact Nat.le_of_eq rfl) (hb hby at_182) (fun _ _ => ⟨rfl, e91, (by decide : 18 + 0 ≤ _), (by decide : 61 + 0 ≤ _)⟩)
      dsimp only [Pt.U, Pt.locs, Pt.cells, Pt.slots] at X92 l92 y92 z92 st92 hQ92
      subst l92 y92 z92
      obtain ⟨rfl, Nq92, eq92⟩ := hQ92
      have N92 := Fr.app N89 Nq92
      obtain ⟨lfs, lhr, lhrun, lhended, lhE⟩ := X92.leaveW hS66 (by rw [eq92]; exact hk85) (v := some (.int (1 : Int32))) (fun h => by rw [Bd.returns] at h; cases h)
      refine ⟨_, _, k18 _ ?_, lhrun, lhended, _, _, rfl, ?_, ?_, lhE.1, lhE.2.1, lhE.2.2.1, lhE.2.2.2.mono (by decide) (by decide)⟩
      · skip
        show Steps p.tables e below (T17.setTop (mkF m 58 #[.val (.int x0), .val (.int x1), .val (.int x2), .val (.int x3), .val (.int fo), .val (.int fc), .val (.ref b11), .val (.ref b13), .val (.ref wE), .unset, .unset, .unset, .unset] [(.int fc)])) _
        refine XS.ifNo X17.here hx rfl (hb hby at_58) rfl ((if0 _ _).trans (feq hc19).1) ?_
        show Steps p.tables e below (T17.setTop (mkF m 61 #[.val (.int x0), .val (.int x1), .val (.int x2), .val (.int x3), .val (.int fo), .val (.int fc), .val (.ref b11), .val (.ref b13), .val (.ref wE), .unset, .unset, .unset, .unset] [])) _
        refine XS.aload X17.here hx rfl (hb hby at_61) rfl rfl ?_
        show Steps p.tables e below (T17.setTop (mkF m 63 #[.val (.int x0), .val (.int x1), .val (.int x2), .val (.int x3), .val (.int fo), .val (.int fc), .val (.ref b11), .val (.ref b13), .val (.ref wE), .unset, .unset, .unset, .unset] [(.ref b13)])) _
        refine st52 _ ?_
        show Steps p.tables e below (T52.setTop (mkF m 66 #[.val (.int x0), .val (.int x1), .val (.int x2), .val (.int x3), .val (.int fo), .val (.int fc), .val (.ref b11), .val (.ref b13), .val (.ref wE), .unset, .unset, .unset, .unset] [(.ref b52_0)])) _
        refine XS.goto X52.here hx rfl (pc0 := 66) (pc' := 72) rfl (hb hby at_66) (by decide) (by decide) ?_
        show Steps p.tables e below (T52.setTop (mkF m 72 #[.val (.int x0), .val (.int x1), .val (.int x2), .val (.int x3), .val (.int fo), .val (.int fc), .val (.ref b11), .val (.ref b13), .val (.ref wE), .unset, .unset, .unset, .unset] [(.ref b52_0)])) _
        refine XS.astore X52.here hx rfl (hb hby at_72) rfl rfl (l' := #[.val (.int x0), .val (.int x1), .val (.int x2), .val (.int x3), .val (.int fo), .val (.int fc), .val (.ref b11), .val (.ref b13), .val (.ref wE), .val (.ref b52_0), .unset, .unset, .unset]) rfl ?_
        show Steps p.tables e below (T52.setTop (mkF m 74 #[.val (.int x0), .val (.int x1), .val (.int x2), .val (.int x3), .val (.int fo), .val (.int fc), .val (.ref b11), .val (.ref b13), .val (.ref wE), .val (.ref b52_0), .unset, .unset, .unset] [])) _
        refine st55 _ ?_
        show Steps p.tables e below (T55.setTop (mkF m 77 #[.val (.int x0), .val (.int x1), .val (.int x2), .val (.int x3), .val (.int fo), .val (.int fc), .val (.ref b11), .val (.ref b13), .val (.ref wE), .val (.ref b52_0), .unset, .unset, .unset] [(.ref b55)])) _
        refine XS.dup X55.here hx rfl (hb hby at_77) rfl rfl ?_
        show Steps p.tables e below (T55.setTop (mkF m 78 #[.val (.int x0), .val (.int x1), .val (.int x2), .val (.int x3), .val (.int fo), .val (.int fc), .val (.ref b11), .val (.ref b13), .val (.ref wE), .val (.ref b52_0), .unset, .unset, .unset] [(.ref b55), (.ref b55)])) _
        refine st57.trans ?_
        show Steps p.tables e below (T57.setTop (mkF m 81 #[.val (.int x0), .val (.int x1), .val (.int x2), .val (.int x3), .val (.int fo), .val (.int fc), .val (.ref b11), .val (.ref b13), .val (.ref wE), .val (.ref b52_0), .unset, .unset, .unset] [(.ref b55)])) _
        refine XS.astore X57.here hx rfl (hb hby at_81) rfl rfl (l' := #[.val (.int x0), .val (.int x1), .val (.int x2), .val (.int x3), .val (.int fo), .val (.int fc), .val (.ref b11), .val (.ref b13), .val (.ref wE), .val (.ref b52_0), .val (.ref b55), .unset, .unset]) rfl ?_
        show Steps p.tables e below (T57.setTop (mkF m 83 #[.val (.int x0), .val (.int x1), .val (.int x2), .val (.int x3), .val (.int fo), .val (.int fc), .val (.ref b11), .val (.ref b13), .val (.ref wE), .val (.ref b52_0), .val (.ref b55), .unset, .unset] [])) _
        refine st61 _ ?_
        show Steps p.tables e below (T61.setTop (mkF m 86 #[.val (.int x0), .val (.int x1), .val (.int x2), .val (.int x3), .val (.int fo), .val (.int fc), .val (.ref b11), .val (.ref b13), .val (.ref wE), .val (.ref b52_0), .val (.ref b55), .unset, .unset] [(.ref b61)])) _
        refine XS.dup X61.here hx rfl (hb hby at_86) rfl rfl ?_
        show Steps p.tables e below (T61.setTop (mkF m 87 #[.val (.int x0), .val (.int x1), .val (.int x2), .val (.int x3), .val (.int fo), .val (.int fc), .val (.ref b11), .val (.ref b13), .val (.ref wE), .val (.ref b52_0), .val (.ref b55), .unset, .unset] [(.ref b61), (.ref b61)])) _
        refine st66 _ ?_
        show Steps p.tables e below (T66.setTop (mkF m 89 #[.val (.int x0), .val (.int x1), .val (.int x2), .val (.int x3), .val (.int fo), .val (.int fc), .val (.ref b11), .val (.ref b13), .val (.ref wE), .val (.ref b52_0), .val (.ref b55), .unset, .unset] [(.ref a66), (.ref b61), (.ref b61)])) _
        refine XS.iloadN X66.here hx rfl (hb hby at_89) rfl ?_
        show Steps p.tables e below (T66.setTop (mkF m 90 #[.val (.int x0), .val (.int x1), .val (.int x2), .val (.int x3), .val (.int fo), .val (.int fc), .val (.ref b11), .val (.ref b13), .val (.ref wE), .val (.ref b52_0), .val (.ref b55), .unset, .unset] [(.int x3), (.ref a66), (.ref b61), (.ref b61)])) _
        refine XS.aload X66.here hx rfl (hb hby at_90) rfl rfl ?_
        show Steps p.tables e below (T66.setTop (mkF m 92 #[.val (.int x0), .val (.int x1), .val (.int x2), .val (.int x3), .val (.int fo), .val (.int fc), .val (.ref b11), .val (.ref b13), .val (.ref wE), .val (.ref b52_0), .val (.ref b55), .unset, .unset] [(.ref b52_0), (.int x3), (.ref a66), (.ref b61), (.ref b61)])) _
        refine XS.aload X66.here hx rfl (hb hby at_92) rfl rfl ?_
        show Steps p.tables e below (T66.setTop (mkF m 94 #[.val (.int x0), .val (.int x1), .val (.int x2), .val (.int x3), .val (.int fo), .val (.int fc), .val (.ref b11), .val (.ref b13), .val (.ref wE), .val (.ref b52_0), .val (.ref b55), .unset, .unset] [(.ref wE), (.ref b52_0), (.int x3), (.ref a66), (.ref b61), (.ref b61)])) _
        refine st71 _ ?_
        show Steps p.tables e below (T71.setTop (mkF m 97 #[.val (.int x0), .val (.int x1), .val (.int x2), .val (.int x3), .val (.int fo), .val (.int fc), .val (.ref b11), .val (.ref b13), .val (.ref wE), .val (.ref b52_0), .val (.ref b55), .unset, .unset] [(.ref wE), (.ref wE), (.ref b52_0), (.int x3), (.ref a66), (.ref b61), (.ref b61)])) _
        refine st72 _ ?_
        show Steps p.tables e below (T72.setTop (mkF m 100 #[.val (.int x0), .val (.int x1), .val (.int x2), .val (.int x3), .val (.int fo), .val (.int fc), .val (.ref b11), .val (.ref b13), .val (.ref wE), .val (.ref b52_0), .val (.ref b55), .unset, .unset] [(.ref wE), (.ref wE), (.ref wE), (.ref b52_0), (.int x3), (.ref a66), (.ref b61), (.ref b61)])) _
        refine st73 _ ?_
        show Steps p.tables e below (T73.setTop (mkF m 103 #[.val (.int x0), .val (.int x1), .val (.int x2), .val (.int x3), .val (.int fo), .val (.int fc), .val (.ref b11), .val (.ref b13), .val (.ref wE), .val (.ref b52_0), .val (.ref b55), .unset, .unset] [(.ref wE), (.ref wE), (.ref wE), (.ref wE), (.ref b52_0), (.int x3), (.ref a66), (.ref b61), (.ref b61)])) _
        refine XS.aload X73.here hx rfl (hb hby at_103) rfl rfl ?_
        show Steps p.tables e below (T73.setTop (mkF m 105 #[.val (.int x0), .val (.int x1), .val (.int x2), .val (.int x3), .val (.int fo), .val (.int fc), .val (.ref b11), .val (.ref b13), .val (.ref wE), .val (.ref b52_0), .val (.ref b55), .unset, .unset] [(.ref b55), (.ref wE), (.ref wE), (.ref wE), (.ref wE), (.ref b52_0), (.int x3), (.ref a66), (.ref b61), (.ref b61)])) _
        refine st82.trans ?_
        show Steps p.tables e below (T82.setTop (mkF m 108 #[.val (.int x0), .val (.int x1), .val (.int x2), .val (.int x3), .val (.int fo), .val (.int fc), .val (.ref b11), .val (.ref b13), .val (.ref wE), .val (.ref b52_0), .val (.ref b55), .unset, .unset] [(.ref b61)])) _
        refine XS.astore X82.here hx rfl (hb hby at_108) rfl rfl (l' := #[.val (.int x0), .val (.int x1), .val (.int x2), .val (.int x3), .val (.int fo), .val (.int fc), .val (.ref b11), .val (.ref b13), .val (.ref wE), .val (.ref b52_0), .val (.ref b55), .val (.ref b61), .unset]) rfl ?_
        show Steps p.tables e below (T82.setTop (mkF m 110 #[.val (.int x0), .val (.int x1), .val (.int x2), .val (.int x3), .val (.int fo), .val (.int fc), .val (.ref b11), .val (.ref b13), .val (.ref wE), .val (.ref b52_0), .val (.ref b55), .val (.ref b61), .unset] [])) _
        refine XS.aload X82.here hx rfl (hb hby at_110) rfl rfl ?_
        show Steps p.tables e below (T82.setTop (mkF m 112 #[.val (.int x0), .val (.int x1), .val (.int x2), .val (.int x3), .val (.int fo), .val (.int fc), .val (.ref b11), .val (.ref b13), .val (.ref wE), .val (.ref b52_0), .val (.ref b55), .val (.ref b61), .unset] [(.ref b61)])) _
        refine st85.trans ?_
        show Steps p.tables e below (T85.setTop (mkF m 115 #[.val (.int x0), .val (.int x1), .val (.int x2), .val (.int x3), .val (.int fo), .val (.int fc), .val (.ref b11), .val (.ref b13), .val (.ref wE), .val (.ref b52_0), .val (.ref b55), .val (.ref b61), .unset] [(.ref b52_0)])) _
        refine XS.astore X85.here hx rfl (hb hby at_115) rfl rfl (l' := #[.val (.int x0), .val (.int x1), .val (.int x2), .val (.int x3), .val (.int fo), .val (.int fc), .val (.ref b11), .val (.ref b13), .val (.ref wE), .val (.ref b52_0), .val (.ref b55), .val (.ref b61), .val (.ref b52_0)]) rfl ?_
        show Steps p.tables e below (T85.setTop (mkF m 117 #[.val (.int x0), .val (.int x1), .val (.int x2), .val (.int x3), .val (.int fo), .val (.int fc), .val (.ref b11), .val (.ref b13), .val (.ref wE), .val (.ref b52_0), .val (.ref b55), .val (.ref b61), .val (.ref b52_0)] [])) _
        refine XS.aload X85.here hx rfl (hb hby at_117) rfl rfl ?_
        show Steps p.tables e below (T85.setTop (mkF m 119 #[.val (.int x0), .val (.int x1), .val (.int x2), .val (.int x3), .val (.int fo), .val (.int fc), .val (.ref b11), .val (.ref b13), .val (.ref wE), .val (.ref b52_0), .val (.ref b55), .val (.ref b61), .val (.ref b52_0)] [(.ref b52_0)])) _
        refine XS.ifnonnullYes X85.here hx rfl (pc0 := 119) (pc' := 124) rfl (hb hby at_119) rfl (by decide) (by decide) ?_
        show Steps p.tables e below (T85.setTop (mkF m 124 #[.val (.int x0), .val (.int x1), .val (.int x2), .val (.int x3), .val (.int fo), .val (.int fc), .val (.ref b11), .val (.ref b13), .val (.ref wE), .val (.ref b52_0), .val (.ref b55), .val (.ref b61), .val (.ref b52_0)] [])) _
        refine XS.iload X85.here hx rfl (hb hby at_124) rfl ?_
        show Steps p.tables e below (T85.setTop (mkF m 126 #[.val (.int x0), .val (.int x1), .val (.int x2), .val (.int x3), .val (.int fo), .val (.int fc), .val (.ref b11), .val (.ref b13), .val (.ref wE), .val (.ref b52_0), .val (.ref b55), .val (.ref b61), .val (.ref b52_0)] [(.int fo)])) _
        refine XS.ifYes X85.here hx rfl (pc0 := 126) (pc' := 159) rfl (hb hby at_126) rfl ((if0 _ _).trans (teq hc15).1) (by decide) (by decide) ?_
        show Steps p.tables e below (T85.setTop (mkF m 159 #[.val (.int x0), .val (.int x1), .val (.int x2), .val (.int x3), .val (.int fo), .val (.int fc), .val (.ref b11), .val (.ref b13), .val (.ref wE), .val (.ref b52_0), .val (.ref b55), .val (.ref b61), .val (.ref b52_0)] [])) _
        refine XS.iload X85.here hx rfl (hb hby at_159) rfl ?_
        show Steps p.tables e below (T85.setTop (mkF m 161 #[.val (.int x0), .val (.int x1), .val (.int x2), .val (.int x3), .val (.int fo), .val (.int fc), .val (.ref b11), .val (.ref b13), .val (.ref wE), .val (.ref b52_0), .val (.ref b55), .val (.ref b61), .val (.ref b52_0)] [(.int fc)])) _
        refine XS.ifNo X85.here hx rfl (hb hby at_161) rfl ((if0 _ _).trans (feq hc19).1) ?_
        show Steps p.tables e below (T85.setTop (mkF m 164 #[.val (.int x0), .val (.int x1), .val (.int x2), .val (.int x3), .val (.int fo), .val (.int fc), .val (.ref b11), .val (.ref b13), .val (.ref wE), .val (.ref b52_0), .val (.ref b55), .val (.ref b61), .val (.ref b52_0)] [])) _
        refine XS.aload X85.here hx rfl (hb hby at_164) rfl rfl ?_
        show Steps p.tables e below (T85.setTop (mkF m 166 #[.val (.int x0), .val (.int x1), .val (.int x2), .val (.int x3), .val (.int fo), .val (.int fc), .val (.ref b11), .val (.ref b13), .val (.ref wE), .val (.ref b52_0), .val (.ref b55), .val (.ref b61), .val (.ref b52_0)] [(.ref b52_0)])) _
        refine st87.trans ?_
        show Steps p.tables e below (T87.setTop (mkF m 169 #[.val (.int x0), .val (.int x1), .val (.int x2), .val (.int x3), .val (.int fo), .val (.int fc), .val (.ref b11), .val (.ref b13), .val (.ref wE), .val (.ref b52_0), .val (.ref b55), .val (.ref b61), .val (.ref b52_0)] [(.int (1 : Int32))])) _
        refine XS.ifNo X87.here hx rfl (hb hby at_169) rfl ((if0 _ _).trans (feq (by decide : ¬ ((1 : Int32) = (0 : Int32)))).1) ?_
        show Steps p.tables e below (T87.setTop (mkF m 172 #[.val (.int x0), .val (.int x1), .val (.int x2), .val (.int x3), .val (.int fo), .val (.int fc), .val (.ref b11), .val (.ref b13), .val (.ref wE), .val (.ref b52_0), .val (.ref b55), .val (.ref b61), .val (.ref b52_0)] [])) _
        refine XS.aload X87.here hx rfl (hb hby at_172) rfl rfl ?_
        show Steps p.tables e below (T87.setTop (mkF m 174 #[.val (.int x0), .val (.int x1), .val (.int x2), .val (.int x3), .val (.int fo), .val (.int fc), .val (.ref b11), .val (.ref b13), .val (.ref wE), .val (.ref b52_0), .val (.ref b55), .val (.ref b61), .val (.ref b52_0)] [(.ref b52_0)])) _
        refine st89.trans ?_
        show Steps p.tables e below (T89.setTop (mkF m 177 #[.val (.int x0), .val (.int x1), .val (.int x2), .val (.int x3), .val (.int fo), .val (.int fc), .val (.ref b11), .val (.ref b13), .val (.ref wE), .val (.ref b52_0), .val (.ref b55), .val (.ref b61), .val (.ref b52_0)] [(.ref b13)])) _
        refine st91 _ ?_
        show Steps p.tables e below (T91.setTop (mkF m 180 #[.val (.int x0), .val (.int x1), .val (.int x2), .val (.int x3), .val (.int fo), .val (.int fc), .val (.ref b11), .val (.ref b13), .val (.ref wE), .val (.ref b52_0), .val (.ref b55), .val (.ref b61), .val (.ref b52_0)] [(.ref b13)])) _
        refine XS.aload X91.here hx rfl (hb hby at_180) rfl rfl ?_
        show Steps p.tables e below (T91.setTop (mkF m 182 #[.val (.int x0), .val (.int x1), .val (.int x2), .val (.int x3), .val (.int fo), .val (.int fc), .val (.ref b11), .val (.ref b13), .val (.ref wE), .val (.ref b52_0), .val (.ref b55), .val (.ref b61), .val (.ref b52_0)] [(.ref b13), (.ref b13)])) _
        refine st92.trans ?_
        show Steps p.tables e below (T92.setTop (mkF m 185 #[.val (.int x0), .val (.int x1), .val (.int x2), .val (.int x3), .val (.int fo), .val (.int fc), .val (.ref b11), .val (.ref b13), .val (.ref wE), .val (.ref b52_0), .val (.ref b55), .val (.ref b61), .val (.ref b52_0)] [(.int (1 : Int32))])) _
        refine XS.ifNo X92.here hx rfl (hb hby at_185) rfl ((if0 _ _).trans (feq (by decide : ¬ ((1 : Int32) = (0 : Int32)))).1) ?_
        show Steps p.tables e below (T92.setTop (mkF m 188 #[.val (.int x0), .val (.int x1), .val (.int x2), .val (.int x3), .val (.int fo), .val (.int fc), .val (.ref b11), .val (.ref b13), .val (.ref wE), .val (.ref b52_0), .val (.ref b55), .val (.ref b61), .val (.ref b52_0)] [])) _
        refine XS.iconst X92.here hx rfl (hb hby at_188) ?_
        show Steps p.tables e below (T92.setTop (mkF m 189 #[.val (.int x0), .val (.int x1), .val (.int x2), .val (.int x3), .val (.int fo), .val (.int fc), .val (.ref b11), .val (.ref b13), .val (.ref wE), .val (.ref b52_0), .val (.ref b55), .val (.ref b61), .val (.ref b52_0)] [(.int (1 : Int32))])) _
        refine XS.goto X92.here hx rfl (pc0 := 189) (pc' := 193) rfl (hb hby at_189) (by decide) (by decide) ?_
        show Steps p.tables e below (T92.setTop (mkF m 193 #[.val (.int x0), .val (.int x1), .val (.int x2), .val (.int x3), .val (.int fo), .val (.int fc), .val (.ref b11), .val (.ref b13), .val (.ref wE), .val (.ref b52_0), .val (.ref b55), .val (.ref b61), .val (.ref b52_0)] [(.int (1 : Int32))])) _
        exact retN X92 hx (t := .boolean) Bd.returns (by simp) (hb hby at_193) lhr
      · skip
        show Q0 Z x0 x1 x2 x3 G1 wE wD h0 n0 _ T92.heap _
        rw [eq92]
        exact ⟨rfl, N92⟩
      · skip
        show CHr Z own_EL s.vm s.heap T92.vm T92.heap
        rw [hh]
        rw [eq92]
        exact CR85.trans (CHv.at X92 hZ66 hEL CR85.1)
  · skip
    have f93 := (gE11.keep Kq13)
    obtain ⟨_, _, ⟨T94, L94, kc94, ks94⟩, -, X94, ⟨Lc94, hQ94, l94, y94, z94⟩, st94⟩ := Jvm.LawKit.callS X13 hx (y := mn16) hown13 (mvT hZ13 (wd31 hw)) (mvT hZ13 (wd32 hw)) (mvT hZ13 (wd28 hw)) (mvT hZ13 (wd33 hw)) (by decide) (backOf (W := 0) (rmA17 l Z a0 hw [] b11 T13.heap n0 Z13 ) hZ13 (wd33 hw) (wd28 hw) (by decide) (by decide)) (g := (mkF m 45 #[.val (.int x0), .val (.int x1), .val (.int x2), .val (.int x3), .val (.int fo), .val (.int fc), .val (.ref b11), .val (.ref b13), .unset, .unset, .unset, .unset, .unset] [(.ref b11)])) rfl (by rw [hml]; rfl) (argsL := [(.ref b11)]) (rest := []) (lenOf pd__Ljava_lang_Object__Ljava_util_Optional_ rfl) rfl (by show 2 * 0 + _ ≤ _; exact Nat.le_of_eq rfl) (hb hby at_45) (fun _ _ => ⟨rfl, rfl, (by decide : 12 + 1 ≤ _), (by decide : 40 + 1 ≤ _)⟩)
    dsimp only [Pt.U, Pt.locs, Pt.cells, Pt.slots] at X94 l94 y94 z94 st94 hQ94
    subst l94 y94 z94
    obtain ⟨b94_0, rfl, Nq94, Kq94, sz94_0, g94_0, g94_1⟩ := hQ94
    have N94 := Fr.app N13 Nq94
    have CS94 := CHr.keep Kq94 all0 CR13.1
    have CR94 := CR13.trans CS94
    have hk94 : _ ≤ T94.heap.size := Nat.le_trans (Nat.le_refl T13.heap.size) Kq94.1
    have Z94 : n0 ≤ T94.heap.size := Nat.le_trans Z13 Kq94.1
    have K94 : Keep h0 T94.heap [] := Keep.trans K13 Kq94 all0
    have ne_b11_b94_0 : b11 ≠ b94_0 := Nat.ne_of_lt (Nat.lt_of_lt_of_le f93.lt sz94_0)
    have ne_b13_b94_0 : b13 ≠ b94_0 := Nat.ne_of_lt (Nat.lt_of_lt_of_le gE13.lt sz94_0)
    have ge_b94_0 : n0 ≤ b94_0 := Nat.le_trans Z13 sz94_0
    have sz_b94_0 : h0.size ≤ b94_0 := Nat.le_trans K13.1 sz94_0
    have k95 : ∀ t, Steps p.tables e below (T94.setTop (mkF m 58 #[.val (.int x0), .val (.int x1), .val (.int x2), .val (.int x3), .val (.int fo), .val (.int fc), .val (.ref b11), .val (.ref b13), .val (.ref b94_0), .unset, .unset, .unset, .unset] [(.int fc)])) t → Steps p.tables e below (s₁.setTop (entryFrame m #[(.int x0), (.int x1), (.int x2), (.int x3)] maxLocals)) t := by
      intro t kt
      refine k14 t ?_
      show Steps p.tables e below (T13.setTop (mkF m 40 #[.val (.int x0), .val (.int x1), .val (.int x2), .val (.int x3), .val (.int fo), .val (.int fc), .val (.ref b11), .val (.ref b13), .unset, .unset, .unset, .unset, .unset] [(.int fo)])) _
      refine XS.ifNo X13.here hx rfl (hb hby at_40) rfl ((if0 _ _).trans (feq hc15).1) ?_
      show Steps p.tables e below (T13.setTop (mkF m 43 #[.val (.int x0), .val (.int x1), .val (.int x2), .val (.int x3), .val (.int fo), .val (.int fc), .val (.ref b11), .val (.ref b13), .unset, .unset, .unset, .unset, .unset] [])) _
      refine XS.aload X13.here hx rfl (hb hby at_43) rfl rfl ?_
      show Steps p.tables e below (T13.setTop (mkF m 45 #[.val (.int x0), .val (.int x1), .val (.int x2), .val (.int x3), .val (.int fo), .val (.int fc), .val (.ref b11), .val (.ref b13), .unset, .unset, .unset, .unset, .unset] [(.ref b11)])) _
      refine st94 _ ?_
      show Steps p.tables e below (T94.setTop (mkF m 48 #[.val (.int x0), .val (.int x1), .val (.int x2), .val (.int x3), .val (.int fo), .val (.int fc), .val (.ref b11), .val (.ref b13), .unset, .unset, .unset, .unset, .unset] [(.ref b94_0)])) _
      refine XS.goto X94.here hx rfl (pc0 := 48) (pc' := 54) rfl (hb hby at_48) (by decide) (by decide) ?_
      show Steps p.tables e below (T94.setTop (mkF m 54 #[.val (.int x0), .val (.int x1), .val (.int x2), .val (.int x3), .val (.int fo), .val (.int fc), .val (.ref b11), .val (.ref b13), .unset, .unset, .unset, .unset, .unset] [(.ref b94_0)])) _
      refine XS.astore X94.here hx rfl (hb hby at_54) rfl rfl (l' := #[.val (.int x0), .val (.int x1), .val (.int x2), .val (.int x3), .val (.int fo), .val (.int fc), .val (.ref b11), .val (.ref b13), .val (.ref b94_0), .unset, .unset, .unset, .unset]) rfl ?_
      show Steps p.tables e below (T94.setTop (mkF m 56 #[.val (.int x0), .val (.int x1), .val (.int x2), .val (.int x3), .val (.int fo), .val (.int fc), .val (.ref b11), .val (.ref b13), .val (.ref b94_0), .unset, .unset, .unset, .unset] [])) _
      refine XS.iload X94.here hx rfl (hb hby at_56) rfl ?_
      exact kt
    by_cases hc96 : fc = (0 : Int32)
    · skip
      have f97 := ((f12.keep Kq13 all0).keep Kq94 all0)
      obtain ⟨_, _, ⟨T98, L98, kc98, ks98⟩, -, X98, ⟨Lc98, hQ98, l98, y98, z98⟩, st98⟩ := Jvm.LawKit.callS X94 hx (y := mn13) hown13 (mvT hZ13 (wd26 hw)) (mvT hZ13 (wd27 hw)) (mvT hZ13 (wd28 hw)) (mvT hZ13 (wd29 hw)) (by decide) (backOf (W := 0) (rmA6 l Z a0 hw [] wE T94.heap n0 Z94 S_E f97) hZ13 (wd29 hw) (wd28 hw) (by decide) (by decide)) (g := (mkF m 69 #[.val (.int x0), .val (.int x1), .val (.int x2), .val (.int x3), .val (.int fo), .val (.int fc), .val (.ref b11), .val (.ref b13), .val (.ref b94_0), .unset, .unset, .unset, .unset] [])) rfl (by rw [hml]; rfl) (argsL := []) (rest := []) (lenOf pd___Ljava_util_Optional_ rfl) rfl (by show 2 * 0 + _ ≤ _; exact Nat.le_of_eq rfl) (hb hby at_69) (fun _ _ => ⟨rfl, rfl, (by decide : 13 + 0 ≤ _), (by decide : 41 + 0 ≤ _)⟩)
      dsimp only [Pt.U, Pt.locs, Pt.cells, Pt.slots] at X98 l98 y98 z98 st98 hQ98
      subst l98 y98 z98
      obtain ⟨rfl, Nq98, eq98⟩ := hQ98
      have N98 := Fr.app N94 Nq98
      have f99 := (f93.keep Kq94)
      have f100 := (gE13.keep Kq94)
      obtain ⟨T101, h101, X101, e101, E101, A101, D101, -, st101⟩ := newO X98 hx hZ13 hown13 (wd47 hw) (wd48 hw) (wd49 hw) eq98 (g := (mkF m 74 #[.val (.int x0), .val (.int x1), .val (.int x2), .val (.int x3), .val (.int fo), .val (.int fc), .val (.ref b11), .val (.ref b13), .val (.ref b94_0), .val (.ref wE), .unset, .unset, .unset] [])) rfl (hb hby at_74) (by decide) (by decide)
      obtain ⟨b101, g101⟩ : ∃ z, z = T94.heap.size := ⟨_, rfl⟩
      rw [← g101] at A101 D101 st101
      have ne_b11_b101 : b11 ≠ b101 := Nat.ne_of_lt (Nat.lt_of_lt_of_le f99.lt (Nat.le_of_eq g101.symm))
      have ne_b13_b101 : b13 ≠ b101 := Nat.ne_of_lt (Nat.lt_of_lt_of_le f100.lt (Nat.le_of_eq g101.symm))
      have ne_b94_0_b101 : b94_0 ≠ b101 := Nat.ne_of_lt (Nat.lt_of_lt_of_le g94_0.lt (Nat.le_of_eq g101.symm))
      have ge_b101 : n0 ≤ b101 := Nat.le_trans Z94 (Nat.le_of_eq g101.symm)
      have sz_b101 : h0.size ≤ b101 := Nat.le_trans K94.1 (Nat.le_of_eq g101.symm)
      have CS101 := CHr.ext E101 CR94.1
      have CR101 := CR94.trans CS101
      have hk101 : _ ≤ h101.size := Nat.le_trans hk94 E101.1
      have Z101 : n0 ≤ h101.size := Nat.le_trans Z94 E101.1
      have K101 : Keep h0 h101 [] := (K94.ext E101)
      have F101_modCount : Fld Z h101 b101 "java/util/AbstractList" "modCount" "I" (.int (0 : Int32)) := D101 (Or.inl (wd67 hw)) (ty := .int) (by decide)
      have F101_elementData : Fld Z h101 b101 "java/util/ArrayList" "elementData" "[Ljava/lang/Object;" .null := D101 (Or.inl (wd70 hw)) (ty := (.array (.object "java/lang/Object"))) (by decide)
      have f102 := (f97.ext E101)
      obtain ⟨_, _, ⟨T103, L103, kc103, ks103⟩, -, X103, ⟨Lc103, hQ103, l103, y103, z103⟩, st103⟩ := X101.specialBack hx (y := mn10) rfl hown13 (mvT hZ13 (wd50 hw)) (mvT hZ13 (wd51 hw)) (mvT hZ13 (wd52 hw)) (by decide) (backOf (W := 1) (rmA8 l Z a0 hw [] b101 wD h101 n0 Z101 F101_modCount F101_elementData A101 ge_b101 S_D f102) hZ13 (wd52 hw) (wd49 hw) (by decide) (by decide)) (g := (mkF m 78 #[.val (.int x0), .val (.int x1), .val (.int x2), .val (.int x3), .val (.int fo), .val (.int fc), .val (.ref b11), .val (.ref b13), .val (.ref b94_0), .val (.ref wE), .unset, .unset, .unset] [(.ref b101), (.ref b101)])) rfl (by rw [hml]; rfl) (Steps.refl _) (a := b101) (argsL := []) (rest := [(.ref b101)]) (lenOf pd___V rfl) rfl (by show 2 * 0 + _ ≤ _; exact Nat.le_of_eq rfl) (hb hby at_78) (fun _ _ => ⟨rfl, e101, (by decide : 14 + 0 ≤ _), (by decide : 44 + 0 ≤ _)⟩)
      dsimp only [Pt.U, Pt.locs, Pt.cells, Pt.slots] at X103 l103 y103 z103 st103 hQ103
      subst l103 y103 z103
      obtain ⟨rfl, Nq103, Kq103, g103_0, g103_1, g103_2⟩ := hQ103
      have N103 := Fr.app N98 Nq103
      have CS103 := CHr.keep Kq103 (allS (Safe.exa hZ13.alike A101 (by decide) (by decide)) all0) CR101.1
      have CR103 := CR101.trans CS103
      have hk103 : _ ≤ T103.heap.size := Nat.le_trans hk101 Kq103.1
      have Z103 : n0 ≤ T103.heap.size := Nat.le_trans Z101 Kq103.1
      have K103 : Keep h0 T103.heap [] := Keep.trans K101 Kq103 (allS (Or.inr sz_b101) all0)
      have f104 := ((f99.ext E101).keep Kq103)
      have f105 := ((f100.ext E101).keep Kq103)
      have f106 := ((g94_0.ext E101).keep Kq103)
      obtain ⟨T107, h107, X107, e107, E107, A107, D107, -, st107⟩ := newO X103 hx hZ13 hown13 (wd71 hw) (wd72 hw) (wd73 hw) rfl (g := (mkF m 83 #[.val (.int x0), .val (.int x1), .val (.int x2), .val (.int x3), .val (.int fo), .val (.int fc), .val (.ref b11), .val (.ref b13), .val (.ref b94_0), .val (.ref wE), .val (.ref b101), .unset, .unset] [])) rfl (hb hby at_83) (by decide) (by decide)
      obtain ⟨b107, g107⟩ : ∃ z, z = T103.heap.size := ⟨_, rfl⟩
      rw [← g107] at A107 D107 st107
      have ne_b11_b107 : b11 ≠ b107 := Nat.ne_of_lt (Nat.lt_of_lt_of_le f104.lt (Nat.le_of_eq g107.symm))
      have ne_b13_b107 : b13 ≠ b107 := Nat.ne_of_lt (Nat.lt_of_lt_of_le f105.lt (Nat.le_of_eq g107.symm))
      have ne_b94_0_b107 : b94_0 ≠ b107 := Nat.ne_of_lt (Nat.lt_of_lt_of_le f106.lt (Nat.le_of_eq g107.symm))
      have ne_b101_b107 : b101 ≠ b107 := Nat.ne_of_lt (Nat.lt_of_lt_of_le g103_2.lt (Nat.le_of_eq g107.symm))
      have ge_b107 : n0 ≤ b107 := Nat.le_trans Z103 (Nat.le_of_eq g107.symm)
      have sz_b107 : h0.size ≤ b107 := Nat.le_trans K103.1 (Nat.le_of_eq g107.symm)
      have CS107 := CHr.ext E107 CR103.1
      have CR107 := CR103.trans CS107
      have hk107 : _ ≤ h107.size := Nat.le_trans hk103 E107.1
      have Z107 : n0 ≤ h107.size := Nat.le_trans Z103 E107.1
      have K107 : Keep h0 h107 [] := (K103.ext E107)
      have F107_code : Fld Z h107 b107 cn4 "code" "Ljava/lang/String;" .null := D107 (Or.inr (wd85 hw)) (ty := (.object "java/lang/String")) (by decide)
      have F107_status : Fld Z h107 b107 cn4 "status" "I" (.int (0 : Int32)) := D107 (Or.inr (wd87 hw)) (ty := .int) (by decide)
      have F107_catalogueMessage : Fld Z h107 b107 cn4 "catalogueMessage" "Ljava/util/Optional;" .null := D107 (Or.inr (wd89 hw)) (ty := (.object "java/util/Optional")) (by decide)
      have F107_ownMessage : Fld Z h107 b107 cn4 "ownMessage" "Ljava/util/Optional;" .null := D107 (Or.inr (wd91 hw)) (ty := (.object "java/util/Optional")) (by decide)
      have F107_trace : Fld Z h107 b107 cn4 "trace" "Ljava/util/Optional;" .null := D107 (Or.inr (wd93 hw)) (ty := (.object "java/util/Optional")) (by decide)
      have F107_moreInfo : Fld Z h107 b107 cn4 "moreInfo" "Ljava/util/Optional;" .null := D107 (Or.inr (wd95 hw)) (ty := (.object "java/util/Optional")) (by decide)
      have F107_target : Fld Z h107 b107 cn4 "target" "Ljava/util/Optional;" .null := D107 (Or.inr (wd97 hw)) (ty := (.object "java/util/Optional")) (by decide)
      have F107_details : Fld Z h107 b107 cn4 "details" "Ljava/util/List;" .null := D107 (Or.inr (wd99 hw)) (ty := (.object "java/util/List")) (by decide)
      have f108 := (f104.ext E107)
      have f109 := (f105.ext E107)
      have f110 := (f106.ext E107)
      have f111 := (g103_2.ext E107)
      obtain ⟨a112, T112, h112, kk112, t112, kb112, X112, e112, E112, hS112, hk112, hZ112, hown112, gE112, gC112, gV112, gK112, la112, lt112, CS112, LL112, sne112, st112⟩ := ldcCH (s := s) (vm0 := T13.vm) (EL := own_EL) X107 hx hZ13 hown13 (wd74 hw) wS e107 hS13 hk107 hEL (by decide) CR107.1 (vs := [(.int (99 : Int32))]) (z := (1 : Int32)) ⟨by decide +kernel, by first | rfl | decide +kernel⟩ (by decide) (by decide) (g := (mkF m 87 #[.val (.int x0), .val (.int x1), .val (.int x2), .val (.int x3), .val (.int fo), .val (.int fc), .val (.ref b11), .val (.ref b13), .val (.ref b94_0), .val (.ref wE), .val (.ref b101), .unset, .unset] [(.ref b107), (.ref b107)])) rfl (hb hby at_87) (n := 4) (by decide +kernel) (by decide) (by decide) (by decide)
      have CR112 := CR107.trans CS112
      have Z112 : n0 ≤ h112.size := Nat.le_trans Z107 E112.1
      have K112 : Keep h0 h112 [] := (K107.ext E112)
      have f113 := (f110.ext E112)
      have nn_b94_0_112 := sne112 b94_0 (Safe.exa hZ112.alike f113 (by decide) (by decide))
      have f114 := (f111.ext E112)
      have nn_b101_112 := sne112 b101 (Safe.exa hZ112.alike f114 (by decide) (by decide))
      have f115 := (A107.ext E112)
      have nn_b107_112 := sne112 b107 (Safe.exa hZ112.alike f115 (by decide) (by decide))
      have f116 := (((f102.keep Kq103 (allS ge_b101 all0)).ext E107).ext E112)
      obtain ⟨_, _, ⟨T117, L117, kc117, ks117⟩, -, X117, ⟨Lc117, hQ117, l117, y117, z117⟩, st117⟩ := Jvm.LawKit.callS X112 hx (y := mn13) hown112 (mvT hZ112 (wd26 hw)) (mvT hZ112 (wd27 hw)) (mvT hZ112 (wd28 hw)) (mvT hZ112 (wd29 hw)) (by decide) (backOf (W := 6) (rmA6 l Z a0 hw [] wE h112 n0 Z112 S_E f116) hZ112 (wd29 hw) (wd28 hw) (by decide) (by decide)) (g := (mkF m 94 #[.val (.int x0), .val (.int x1), .val (.int x2), .val (.int x3), .val (.int fo), .val (.int fc), .val (.ref b11), .val (.ref b13), .val (.ref b94_0), .val (.ref wE), .val (.ref b101), .unset, .unset] [(.ref b94_0), (.ref wE), (.int x3), (.ref a112), (.ref b107), (.ref b107)])) rfl (by rw [hml]; rfl) (argsL := []) (rest := [(.ref b94_0), (.ref wE), (.int x3), (.ref a112), (.ref b107), (.ref b107)]) (lenOf pd___Ljava_util_Optional_ rfl) rfl (by show 2 * 0 + _ ≤ _; exact Nat.le_of_eq rfl) (hb hby at_94) (fun _ _ => ⟨rfl, e112, (by decide : 17 + 0 ≤ _), (by decide : 60 + 0 ≤ _)⟩)
      dsimp only [Pt.U, Pt.locs, Pt.cells, Pt.slots] at X117 l117 y117 z117 st117 hQ117
      subst l117 y117 z117
      obtain ⟨rfl, Nq117, eq117⟩ := hQ117
      have N117 := Fr.app N103 Nq117
      obtain ⟨_, _, ⟨T118, L118, kc118, ks118⟩, -, X118, ⟨Lc118, hQ118, l118, y118, z118⟩, st118⟩ := Jvm.LawKit.callS X117 hx (y := mn13) hown112 (mvT hZ112 (wd26 hw)) (mvT hZ112 (wd27 hw)) (mvT hZ112 (wd28 hw)) (mvT hZ112 (wd29 hw)) (by decide) (backOf (W := 7) (rmA6 l Z a0 hw [] wE h112 n0 Z112 S_E f116) hZ112 (wd29 hw) (wd28 hw) (by decide) (by decide)) (g := (mkF m 97 #[.val (.int x0), .val (.int x1), .val (.int x2), .val (.int x3), .val (.int fo), .val (.int fc), .val (.ref b11), .val (.ref b13), .val (.ref b94_0), .val (.ref wE), .val (.ref b101), .unset, .unset] [(.ref wE), (.ref b94_0), (.ref wE), (.int x3), (.ref a112), (.ref b107), (.ref b107)])) rfl (by rw [hml]; rfl) (argsL := []) (rest := [(.ref wE), (.ref b94_0), (.ref wE), (.int x3), (.ref a112), (.ref b107), (.ref b107)]) (lenOf pd___Ljava_util_Optional_ rfl) rfl (by show 2 * 0 + _ ≤ _; exact Nat.le_of_eq rfl) (hb hby at_97) (fun _ _ => ⟨rfl, eq117, (by decide : 17 + 0 ≤ _), (by decide : 60 + 0 ≤ _)⟩)
      dsimp only [Pt.U, Pt.locs, Pt.cells, Pt.slots] at X118 l118 y118 z118 st118 hQ118
      subst l118 y118 z118
      obtain ⟨rfl, Nq118, eq118⟩ := hQ118
      have N118 := Fr.app N117 Nq118
      obtain ⟨_, _, ⟨T119, L119, kc119, ks119⟩, -, X119, ⟨Lc119, hQ119, l119, y119, z119⟩, st119⟩ := Jvm.LawKit.callS X118 hx (y := mn13) hown112 (mvT hZ112 (wd26 hw)) (mvT hZ112 (wd27 hw)) (mvT hZ112 (wd28 hw)) (mvT hZ112 (wd29 hw)) (by decide) (backOf (W := 8) (rmA6 l Z a0 hw [] wE h112 n0 Z112 S_E f116) hZ112 (wd29 hw) (wd28 hw) (by decide) (by decide)) (g := (mkF m 100 #[.val (.int x0), .val (.int x1), .val (.int x2), .val (.int x3), .val (.int fo), .val (.int fc), .val (.ref b11), .val (.ref b13), .val (.ref b94_0), .val (.ref wE), .val (.ref b101), .unset, .unset] [(.ref wE), (.ref wE), (.ref b94_0), (.ref wE), (.int x3), (.ref a112), (.ref b107), (.ref b107)])) rfl (by rw [hml]; rfl) (argsL := []) (rest := [(.ref wE), (.ref wE), (.ref b94_0), (.ref wE), (.int x3), (.ref a112), (.ref b107), (.ref b107)]) (lenOf pd___Ljava_util_Optional_ rfl) rfl (by show 2 * 0 + _ ≤ _; exact Nat.le_of_eq rfl) (hb hby at_100) (fun _ _ => ⟨rfl, eq118, (by decide : 17 + 0 ≤ _), (by decide : 60 + 0 ≤ _)⟩)
      dsimp only [Pt.U, Pt.locs, Pt.cells, Pt.slots] at X119 l119 y119 z119 st119 hQ119
      subst l119 y119 z119
      obtain ⟨rfl, Nq119, eq119⟩ := hQ119
      have N119 := Fr.app N118 Nq119
      have f120 := (F107_code.ext E112)
      have f121 := (F107_status.ext E112)
      have f122 := (F107_catalogueMessage.ext E112)
      have f123 := (F107_ownMessage.ext E112)
      have f124 := (F107_trace.ext E112)
      have f125 := (F107_moreInfo.ext E112)
      have f126 := (F107_target.ext E112)
      have f127 := (F107_details.ext E112)
      obtain ⟨_, _, ⟨T128, L128, kc128, ks128⟩, -, X128, ⟨Lc128, hQ128, l128, y128, z128⟩, st128⟩ := X119.specialBack hx (y := mn0) rfl hown112 (mvT hZ112 (wd75 hw)) (mvT hZ112 (wd76 hw)) (mvT hZ112 (wd77 hw)) (by decide) (backOf (W := 1) (rmA41 l Z a0 hw [] b107 a112 x3 wE b94_0 b101 h112 n0 Z112 f115 f120 ge_b107 f121 f122 f123 f124 f125 f126 f127) hZ112 (wd77 hw) (wd73 hw) (by decide) (by decide)) (g := (mkF m 105 #[.val (.int x0), .val (.int x1), .val (.int x2), .val (.int x3), .val (.int fo), .val (.int fc), .val (.ref b11), .val (.ref b13), .val (.ref b94_0), .val (.ref wE), .val (.ref b101), .unset, .unset] [(.ref b101), (.ref wE), (.ref wE), (.ref wE), (.ref b94_0), (.ref wE), (.int x3), (.ref a112), (.ref b107), (.ref b107)])) rfl (by rw [hml]; rfl) (Steps.refl _) (a := b107) (argsL := [(.ref a112), (.int x3), (.ref wE), (.ref b94_0), (.ref wE), (.ref wE), (.ref wE), (.ref b101)]) (rest := [(.ref b107)]) (lenOf pd__Ljava_lang_String_ILjava_util_Optional_Ljava_util_Optional_Ljava_util_Optional_Ljava_util_Optional_Ljava_util_Optional_Ljava_util_List__V rfl) rfl (by show 2 * 0 + _ ≤ _; exact Nat.le_of_eq rfl) (hb hby at_105) (fun _ _ => ⟨rfl, eq119, (by decide : 17 + 0 ≤ _), (by decide : 60 + 0 ≤ _)⟩)
      dsimp only [Pt.U, Pt.locs, Pt.cells, Pt.slots] at X128 l128 y128 z128 st128 hQ128
      subst l128 y128 z128
      obtain ⟨rfl, Nq128, Kq128, g128_0, g128_1, g128_2, g128_3, g128_4, g128_5, g128_6, g128_7, g128_8⟩ := hQ128
      have N128 := Fr.app N119 Nq128
      have CS128 := CHr.keep Kq128 (allS (Safe.exa hZ112.alike f115 (by decide) (by decide)) all0) CR112.1
      have CR128 := CR112.trans CS128
      have hk128 : _ ≤ T128.heap.size := Nat.le_trans hk112 Kq128.1
      have Z128 : n0 ≤ T128.heap.size := Nat.le_trans Z112 Kq128.1
      have K128 : Keep h0 T128.heap [] := Keep.trans K112 Kq128 (allS (Or.inr sz_b107) all0)
      have f129 := (((((g94_1.ext E101).keep Kq103 (ninS ne_b94_0_b101 nin0)).ext E107).ext E112).keep Kq128 (ninS ne_b94_0_b107 nin0))
      have f130 := (f113.keep Kq128)
      obtain ⟨cq131, kq131, q131a, q131b, q131c⟩ := isOf hZ112 rfl g128_0
      obtain ⟨_, _, ⟨T131, L131, kc131, ks131⟩, -, X131, ⟨Lc131, hQ131, l131, y131, z131⟩, st131⟩ := X128.virtualBack hx (y := mn2) (z := mn2) hown112 (mvT hZ112 (wd100 hw)) (mvT hZ112 (wd101 hw)) (notFace_of_selects (args := #[]) (mvT hZ112 (wd103 hw))) (mvT hZ112 (wd103 hw)) (mvT hZ112 (wd102 hw)) (by decide) (backOf (W := 0) (rmMsP l Z a0 hw [] b107 b94_0 b11 T128.heap n0 Z128 g128_0 g128_4 f130 f129) hZ112 (wd104 hw) (wd73 hw) (by decide) (by decide)) q131a q131c (g := (mkF m 112 #[.val (.int x0), .val (.int x1), .val (.int x2), .val (.int x3), .val (.int fo), .val (.int fc), .val (.ref b11), .val (.ref b13), .val (.ref b94_0), .val (.ref wE), .val (.ref b101), .val (.ref b107), .unset] [(.ref b107)])) rfl (by rw [hml]; rfl) (Steps.refl _) (argsL := []) (rest := []) (lenOf pd___Ljava_util_Optional_ rfl) rfl (by show 2 * 0 + _ ≤ _; exact Nat.le_of_eq rfl) (hb hby at_112) (fun _ _ => ⟨rfl, rfl, (by decide : 17 + 1 ≤ _), (by decide : 60 + 1 ≤ _)⟩)
      dsimp only [Pt.U, Pt.locs, Pt.cells, Pt.slots] at X131 l131 y131 z131 st131 hQ131
      subst l131 y131 z131
      obtain ⟨rfl, Nq131, Kq131⟩ := hQ131
      have N131 := Fr.app N128 Nq131
      have CS131 := CHr.keep Kq131 all0 CR128.1
      have CR131 := CR128.trans CS131
      have hk131 : _ ≤ T131.heap.size := Nat.le_trans hk128 Kq131.1
      have Z131 : n0 ≤ T131.heap.size := Nat.le_trans Z128 Kq131.1
      have K131 : Keep h0 T131.heap [] := Keep.trans K128 Kq131 all0
      have f132 := (f129.keep Kq131 nin0)
      have f134 := (f130.keep Kq131)
      obtain ⟨cq133, kq133, q133a, q133b, q133c⟩ := isOf hZ112 rfl f134
      obtain ⟨_, _, ⟨T133, L133, kc133, ks133⟩, -, X133, ⟨Lc133, hQ133, l133, y133, z133⟩, st133⟩ := X131.virtualBack hx (y := mn15) (z := mn15) hown112 (mvT hZ112 (wd125 hw)) (mvT hZ112 (wd115 hw)) (notFace_of_selects (args := #[]) (mvT hZ112 (wd117 hw))) (mvT hZ112 (wd117 hw)) (mvT hZ112 (wd116 hw)) (by decide) (backOf (W := 0) (rmA2 l Z a0 hw [] b94_0 b11 T131.heap n0 Z131 f132) hZ112 (wd118 hw) (wd28 hw) (by decide) (by decide)) q133a q133c (g := (mkF m 131 #[.val (.int x0), .val (.int x1), .val (.int x2), .val (.int x3), .val (.int fo), .val (.int fc), .val (.ref b11), .val (.ref b13), .val (.ref b94_0), .val (.ref wE), .val (.ref b101), .val (.ref b107), .val (.ref b94_0)] [(.ref b94_0)])) rfl (by rw [hml]; rfl) (Steps.refl _) (argsL := []) (rest := []) (lenOf pd___Z rfl) rfl (by show 2 * 0 + _ ≤ _; exact Nat.le_of_eq rfl) (hb hby at_131) (fun _ _ => ⟨rfl, rfl, (by decide : 18 + 0 ≤ _), (by decide : 61 + 0 ≤ _)⟩)
      dsimp only [Pt.U, Pt.locs, Pt.cells, Pt.slots] at X133 l133 y133 z133 st133 hQ133
      subst l133 y133 z133
      obtain ⟨rfl, Nq133, eq133⟩ := hQ133
      have N133 := Fr.app N131 Nq133
      obtain ⟨cq135, kq135, q135a, q135b, q135c⟩ := isOf hZ112 eq133 f134
      obtain ⟨_, _, ⟨T135, L135, kc135, ks135⟩, -, X135, ⟨Lc135, hQ135, l135, y135, z135⟩, st135⟩ := X133.virtualBack hx (y := mn14) (z := mn14) hown112 (mvT hZ112 (wd126 hw)) (mvT hZ112 (wd127 hw)) (notFace_of_selects (args := #[]) (mvT hZ112 (wd129 hw))) (mvT hZ112 (wd129 hw)) (mvT hZ112 (wd128 hw)) (by decide) (backOf (W := 0) (rmA29 l Z a0 hw [] b94_0 b11 T131.heap n0 Z131 f132) hZ112 (wd130 hw) (wd28 hw) (by decide) (by decide)) q135a q135c (g := (mkF m 139 #[.val (.int x0), .val (.int x1), .val (.int x2), .val (.int x3), .val (.int fo), .val (.int fc), .val (.ref b11), .val (.ref b13), .val (.ref b94_0), .val (.ref wE), .val (.ref b101), .val (.ref b107), .val (.ref b94_0)] [(.ref b94_0)])) rfl (by rw [hml]; rfl) (Steps.refl _) (argsL := []) (rest := []) (lenOf pd___Ljava_lang_Object_ rfl) rfl (by show 2 * 0 + _ ≤ _; exact Nat.le_of_eq rfl) (hb hby at_139) (fun _ _ => ⟨rfl, eq133, (by decide : 18 + 0 ≤ _), (by decide : 61 + 0 ≤ _)⟩)
      dsimp only [Pt.U, Pt.locs, Pt.cells, Pt.slots] at X135 l135 y135 z135 st135 hQ135
      subst l135 y135 z135
      obtain ⟨rfl, Nq135, eq135⟩ := hQ135
      have N135 := Fr.app N133 Nq135
      have f136 := (((f108.ext E112).keep Kq128).keep Kq131)
      obtain ⟨T137, X137, e137, st137⟩ := castY X135 hx hZ112 hown112 (wd4 hw) eq135 (Ins.self f136) (g := (mkF m 142 #[.val (.int x0), .val (.int x1), .val (.int x2), .val (.int x3), .val (.int fo), .val (.int fc), .val (.ref b11), .val (.ref b13), .val (.ref b94_0), .val (.ref wE), .val (.ref b101), .val (.ref b107), .val (.ref b94_0)] [(.ref b11)])) rfl rfl (hb hby at_142)
      obtain ⟨cq138, kq138, q138a, q138b, q138c⟩ := isOf hZ112 e137 f136
      obtain ⟨_, _, ⟨T138, L138, kc138, ks138⟩, -, X138, ⟨Lc138, hQ138, l138, y138, z138⟩, st138⟩ := X137.virtualBack hx (y := mn7) (z := mn7) hown112 (mvT hZ112 (wd131 hw)) (mvT hZ112 (wd132 hw)) (notFace_of_selects (args := #[]) (mvT hZ112 (wd134 hw))) (mvT hZ112 (wd134 hw)) (mvT hZ112 (wd133 hw)) (by decide) (backOf (W := 0) (rmA30 l Z a0 hw [] b11 T131.heap n0 Z131 ) hZ112 (wd135 hw) (wd6 hw) (by decide) (by decide)) q138a q138c (g := (mkF m 147 #[.val (.int x0), .val (.int x1), .val (.int x2), .val (.int x3), .val (.int fo), .val (.int fc), .val (.ref b11), .val (.ref b13), .val (.ref b94_0), .val (.ref wE), .val (.ref b101), .val (.ref b107), .val (.ref b94_0)] [(.ref b11), (.ref b11)])) rfl (by rw [hml]; rfl) (Steps.refl _) (argsL := [(.ref b11)]) (rest := []) (lenOf pd__Ljava_lang_Object__Z rfl) rfl (by show 2 * 0 + _ ≤ _; exact Nat.le_of_eq rfl) (hb hby at_147) (fun _ _ => ⟨rfl, e137, (by decide : 18 + 0 ≤ _), (by decide : 61 + 0 ≤ _)⟩)
      dsimp only [Pt.U, Pt.locs, Pt.cells, Pt.slots] at X138 l138 y138 z138 st138 hQ138
      subst l138 y138 z138
      obtain ⟨rfl, Nq138, eq138⟩ := hQ138
      have N138 := Fr.app N135 Nq138
      obtain ⟨lfs, lhr, lhrun, lhended, lhE⟩ := X138.leaveW hS112 (by rw [eq138]; exact hk131) (v := some (.int (1 : Int32))) (fun h => by rw [Bd.returns] at h; cases h)
      refine ⟨_, _, k95 _ ?_, lhrun, lhended, _, _, rfl, ?_, ?_, lhE.1, lhE.2.1, lhE.2.2.1, lhE.2.2.2.mono (by decide) (by decide)⟩
      · skip
        show Steps p.tables e below (T94.setTop (mkF m 58 #[.val (.int x0), .val (.int x1), .val (.int x2), .val (.int x3), .val (.int fo), .val (.int fc), .val (.ref b11), .val (.ref b13), .val (.ref b94_0), .unset, .unset, .unset, .unset] [(.int fc)])) _
        refine XS.ifYes X94.here hx rfl (pc0 := 58) (pc' := 69) rfl (hb hby at_58) rfl ((if0 _ _).trans (teq hc96).1) (by decide) (by decide) ?_
        show Steps p.tables e below (T94.setTop (mkF m 69 #[.val (.int x0), .val (.int x1), .val (.int x2), .val (.int x3), .val (.int fo), .val (.int fc), .val (.ref b11), .val (.ref b13), .val (.ref b94_0), .unset, .unset, .unset, .unset] [])) _
        refine st98 _ ?_
        show Steps p.tables e below (T98.setTop (mkF m 72 #[.val (.int x0), .val (.int x1), .val (.int x2), .val (.int x3), .val (.int fo), .val (.int fc), .val (.ref b11), .val (.ref b13), .val (.ref b94_0), .unset, .unset, .unset, .unset] [(.ref wE)])) _
        refine XS.astore X98.here hx rfl (hb hby at_72) rfl rfl (l' := #[.val (.int x0), .val (.int x1), .val (.int x2), .val (.int x3), .val (.int fo), .val (.int fc), .val (.ref b11), .val (.ref b13), .val (.ref b94_0), .val (.ref wE), .unset, .unset, .unset]) rfl ?_
        show Steps p.tables e below (T98.setTop (mkF m 74 #[.val (.int x0), .val (.int x1), .val (.int x2), .val (.int x3), .val (.int fo), .val (.int fc), .val (.ref b11), .val (.ref b13), .val (.ref b94_0), .val (.ref wE), .unset, .unset, .unset] [])) _
        refine st101 _ ?_
        show Steps p.tables e below (T101.setTop (mkF m 77 #[.val (.int x0), .val (.int x1), .val (.int x2), .val (.int x3), .val (.int fo), .val (.int fc), .val (.ref b11), .val (.ref b13), .val (.ref b94_0), .val (.ref wE), .unset, .unset, .unset] [(.ref b101)])) _
        refine XS.dup X101.here hx rfl (hb hby at_77) rfl rfl ?_
        show Steps p.tables e below (T101.setTop (mkF m 78 #[.val (.int x0), .val (.int x1), .val (.int x2), .val (.int x3), .val (.int fo), .val (.int fc), .val (.ref b11), .val (.ref b13), .val (.ref b94_0), .val (.ref wE), .unset, .unset, .unset] [(.ref b101), (.ref b101)])) _
        refine st103.trans ?_
        show Steps p.tables e below (T103.setTop (mkF m 81 #[.val (.int x0), .val (.int x1), .val (.int x2), .val (.int x3), .val (.int fo), .val (.int fc), .val (.ref b11), .val (.ref b13), .val (.ref b94_0), .val (.ref wE), .unset, .unset, .unset] [(.ref b101)])) _
        refine XS.astore X103.here hx rfl (hb hby at_81) rfl rfl (l' := #[.val (.int x0), .val (.int x1), .val (.int x2), .val (.int x3), .val (.int fo), .val (.int fc), .val (.ref b11), .val (.ref b13), .val (.ref b94_0), .val (.ref wE), .val (.ref b101), .unset, .unset]) rfl ?_
        show Steps p.tables e below (T103.setTop (mkF m 83 #[.val (.int x0), .val (.int x1), .val (.int x2), .val (.int x3), .val (.int fo), .val (.int fc), .val (.ref b11), .val (.ref b13), .val (.ref b94_0), .val (.ref wE), .val (.ref b101), .unset, .unset] [])) _
        refine st107 _ ?_
        show Steps p.tables e below (T107.setTop (mkF m 86 #[.val (.int x0), .val (.int x1), .val (.int x2), .val (.int x3), .val (.int fo), .val (.int fc), .val (.ref b11), .val (.ref b13), .val (.ref b94_0), .val (.ref wE), .val (.ref b101), .unset, .unset] [(.ref b107)])) _
        refine XS.dup X107.here hx rfl (hb hby at_86) rfl rfl ?_
        show Steps p.tables e below (T107.setTop (mkF m 87 #[.val (.int x0), .val (.int x1), .val (.int x2), .val (.int x3), .val (.int fo), .val (.int fc), .val (.ref b11), .val (.ref b13), .val (.ref b94_0), .val (.ref wE), .val (.ref b101), .unset, .unset] [(.ref b107), (.ref b107)])) _
        refine st112 _ ?_
        show Steps p.tables e below (T112.setTop (mkF m 89 #[.val (.int x0), .val (.int x1), .val (.int x2), .val (.int x3), .val (.int fo), .val (.int fc), .val (.ref b11), .val (.ref b13), .val (.ref b94_0), .val (.ref wE), .val (.ref b101), .unset, .unset] [(.ref a112), (.ref b107), (.ref b107)])) _
        refine XS.iloadN X112.here hx rfl (hb hby at_89) rfl ?_
        show Steps p.tables e below (T112.setTop (mkF m 90 #[.val (.int x0), .val (.int x1), .val (.int x2), .val (.int x3), .val (.int fo), .val (.int fc), .val (.ref b11), .val (.ref b13), .val (.ref b94_0), .val (.ref wE), .val (.ref b101), .unset, .unset] [(.int x3), (.ref a112), (.ref b107), (.ref b107)])) _
        refine XS.aload X112.here hx rfl (hb hby at_90) rfl rfl ?_
        show Steps p.tables e below (T112.setTop (mkF m 92 #[.val (.int x0), .val (.int x1), .val (.int x2), .val (.int x3), .val (.int fo), .val (.int fc), .val (.ref b11), .val (.ref b13), .val (.ref b94_0), .val (.ref wE), .val (.ref b101), .unset, .unset] [(.ref wE), (.int x3), (.ref a112), (.ref b107), (.ref b107)])) _
        refine XS.aload X112.here hx rfl (hb hby at_92) rfl rfl ?_
        show Steps p.tables e below (T112.setTop (mkF m 94 #[.val (.int x0), .val (.int x1), .val (.int x2), .val (.int x3), .val (.int fo), .val (.int fc), .val (.ref b11), .val (.ref b13), .val (.ref b94_0), .val (.ref wE), .val (.ref b101), .unset, .unset] [(.ref b94_0), (.ref wE), (.int x3), (.ref a112), (.ref b107), (.ref b107)])) _
        refine st117 _ ?_
        show Steps p.tables e below (T117.setTop (mkF m 97 #[.val (.int x0), .val (.int x1), .val (.int x2), .val (.int x3), .val (.int fo), .val (.int fc), .val (.ref b11), .val (.ref b13), .val (.ref b94_0), .val (.ref wE), .val (.ref b101), .unset, .unset] [(.ref wE), (.ref b94_0), (.ref wE), (.int x3), (.ref a112), (.ref b107), (.ref b107)])) _
        refine st118 _ ?_
        show Steps p.tables e below (T118.setTop (mkF m 100 #[.val (.int x0), .val (.int x1), .val (.int x2), .val (.int x3), .val (.int fo), .val (.int fc), .val (.ref b11), .val (.ref b13), .val (.ref b94_0), .val (.ref wE), .val (.ref b101), .unset, .unset] [(.ref wE), (.ref wE), (.ref b94_0), (.ref wE), (.int x3), (.ref a112), (.ref b107), (.ref b107)])) _
        refine st119 _ ?_
        show Steps p.tables e below (T119.setTop (mkF m 103 #[.val (.int x0), .val (.int x1), .val (.int x2), .val (.int x3), .val (.int fo), .val (.int fc), .val (.ref b11), .val (.ref b13), .val (.ref b94_0), .val (.ref wE), .val (.ref b101), .unset, .unset] [(.ref wE), (.ref wE), (.ref wE), (.ref b94_0), (.ref wE), (.int x3), (.ref a112), (.ref b107), (.ref b107)])) _
        refine XS.aload X119.here hx rfl (hb hby at_103) rfl rfl ?_
        show Steps p.tables e below (T119.setTop (mkF m 105 #[.val (.int x0), .val (.int x1), .val (.int x2), .val (.int x3), .val (.int fo), .val (.int fc), .val (.ref b11), .val (.ref b13), .val (.ref b94_0), .val (.ref wE), .val (.ref b101), .unset, .unset] [(.ref b101), (.ref wE), (.ref wE), (.ref wE), (.ref b94_0), (.ref wE), (.int x3), (.ref a112), (.ref b107), (.ref b107)])) _
        refine st128.trans ?_
        show Steps p.tables e below (T128.setTop (mkF m 108 #[.val (.int x0), .val (.int x1), .val (.int x2), .val (.int x3), .val (.int fo), .val (.int fc), .val (.ref b11), .val (.ref b13), .val (.ref b94_0), .val (.ref wE), .val (.ref b101), .unset, .unset] [(.ref b107)])) _
        refine XS.astore X128.here hx rfl (hb hby at_108) rfl rfl (l' := #[.val (.int x0), .val (.int x1), .val (.int x2), .val (.int x3), .val (.int fo), .val (.int fc), .val (.ref b11), .val (.ref b13), .val (.ref b94_0), .val (.ref wE), .val (.ref b101), .val (.ref b107), .unset]) rfl ?_
        show Steps p.tables e below (T128.setTop (mkF m 110 #[.val (.int x0), .val (.int x1), .val (.int x2), .val (.int x3), .val (.int fo), .val (.int fc), .val (.ref b11), .val (.ref b13), .val (.ref b94_0), .val (.ref wE), .val (.ref b101), .val (.ref b107), .unset] [])) _
        refine XS.aload X128.here hx rfl (hb hby at_110) rfl rfl ?_
        show Steps p.tables e below (T128.setTop (mkF m 112 #[.val (.int x0), .val (.int x1), .val (.int x2), .val (.int x3), .val (.int fo), .val (.int fc), .val (.ref b11), .val (.ref b13), .val (.ref b94_0), .val (.ref wE), .val (.ref b101), .val (.ref b107), .unset] [(.ref b107)])) _
        refine st131.trans ?_
        show Steps p.tables e below (T131.setTop (mkF m 115 #[.val (.int x0), .val (.int x1), .val (.int x2), .val (.int x3), .val (.int fo), .val (.int fc), .val (.ref b11), .val (.ref b13), .val (.ref b94_0), .val (.ref wE), .val (.ref b101), .val (.ref b107), .unset] [(.ref b94_0)])) _
        refine XS.astore X131.here hx rfl (hb hby at_115) rfl rfl (l' := #[.val (.int x0), .val (.int x1), .val (.int x2), .val (.int x3), .val (.int fo), .val (.int fc), .val (.ref b11), .val (.ref b13), .val (.ref b94_0), .val (.ref wE), .val (.ref b101), .val (.ref b107), .val (.ref b94_0)]) rfl ?_
        show Steps p.tables e below (T131.setTop (mkF m 117 #[.val (.int x0), .val (.int x1), .val (.int x2), .val (.int x3), .val (.int fo), .val (.int fc), .val (.ref b11), .val (.ref b13), .val (.ref b94_0), .val (.ref wE), .val (.ref b101), .val (.ref b107), .val (.ref b94_0)] [])) _
        refine XS.aload X131.here hx rfl (hb hby at_117) rfl rfl ?_
        show Steps p.tables e below (T131.setTop (mkF m 119 #[.val (.int x0), .val (.int x1), .val (.int x2), .val (.int x3), .val (.int fo), .val (.int fc), .val (.ref b11), .val (.ref b13), .val (.ref b94_0), .val (.ref wE), .val (.ref b101), .val (.ref b107), .val (.ref b94_0)] [(.ref b94_0)])) _
        refine XS.ifnonnullYes X131.here hx rfl (pc0 := 119) (pc' := 124) rfl (hb hby at_119) rfl (by decide) (by decide) ?_
        show Steps p.tables e below (T131.setTop (mkF m 124 #[.val (.int x0), .val (.int x1), .val (.int x2), .val (.int x3), .val (.int fo), .val (.int fc), .val (.ref b11), .val (.ref b13), .val (.ref b94_0), .val (.ref wE), .val (.ref b101), .val (.ref b107), .val (.ref b94_0)] [])) _
        refine XS.iload X131.here hx rfl (hb hby at_124) rfl ?_
        show Steps p.tables e below (T131.setTop (mkF m 126 #[.val (.int x0), .val (.int x1), .val (.int x2), .val (.int x3), .val (.int fo), .val (.int fc), .val (.ref b11), .val (.ref b13), .val (.ref b94_0), .val (.ref wE), .val (.ref b101), .val (.ref b107), .val (.ref b94_0)] [(.int fo)])) _
        refine XS.ifNo X131.here hx rfl (hb hby at_126) rfl ((if0 _ _).trans (feq hc15).1) ?_
        show Steps p.tables e below (T131.setTop (mkF m 129 #[.val (.int x0), .val (.int x1), .val (.int x2), .val (.int x3), .val (.int fo), .val (.int fc), .val (.ref b11), .val (.ref b13), .val (.ref b94_0), .val (.ref wE), .val (.ref b101), .val (.ref b107), .val (.ref b94_0)] [])) _
        refine XS.aload X131.here hx rfl (hb hby at_129) rfl rfl ?_
        show Steps p.tables e below (T131.setTop (mkF m 131 #[.val (.int x0), .val (.int x1), .val (.int x2), .val (.int x3), .val (.int fo), .val (.int fc), .val (.ref b11), .val (.ref b13), .val (.ref b94_0), .val (.ref wE), .val (.ref b101), .val (.ref b107), .val (.ref b94_0)] [(.ref b94_0)])) _
        refine st133.trans ?_
        show Steps p.tables e below (T133.setTop (mkF m 134 #[.val (.int x0), .val (.int x1), .val (.int x2), .val (.int x3), .val (.int fo), .val (.int fc), .val (.ref b11), .val (.ref b13), .val (.ref b94_0), .val (.ref wE), .val (.ref b101), .val (.ref b107), .val (.ref b94_0)] [(.int (1 : Int32))])) _
        refine XS.ifNo X133.here hx rfl (hb hby at_134) rfl ((if0 _ _).trans (feq (by decide : ¬ ((1 : Int32) = (0 : Int32)))).1) ?_
        show Steps p.tables e below (T133.setTop (mkF m 137 #[.val (.int x0), .val (.int x1), .val (.int x2), .val (.int x3), .val (.int fo), .val (.int fc), .val (.ref b11), .val (.ref b13), .val (.ref b94_0), .val (.ref wE), .val (.ref b101), .val (.ref b107), .val (.ref b94_0)] [])) _
        refine XS.aload X133.here hx rfl (hb hby at_137) rfl rfl ?_
        show Steps p.tables e below (T133.setTop (mkF m 139 #[.val (.int x0), .val (.int x1), .val (.int x2), .val (.int x3), .val (.int fo), .val (.int fc), .val (.ref b11), .val (.ref b13), .val (.ref b94_0), .val (.ref wE), .val (.ref b101), .val (.ref b107), .val (.ref b94_0)] [(.ref b94_0)])) _
        refine st135.trans ?_
        show Steps p.tables e below (T135.setTop (mkF m 142 #[.val (.int x0), .val (.int x1), .val (.int x2), .val (.int x3), .val (.int fo), .val (.int fc), .val (.ref b11), .val (.ref b13), .val (.ref b94_0), .val (.ref wE), .val (.ref b101), .val (.ref b107), .val (.ref b94_0)] [(.ref b11)])) _
        refine st137 _ ?_
        show Steps p.tables e below (T137.setTop (mkF m 145 #[.val (.int x0), .val (.int x1), .val (.int x2), .val (.int x3), .val (.int fo), .val (.int fc), .val (.ref b11), .val (.ref b13), .val (.ref b94_0), .val (.ref wE), .val (.ref b101), .val (.ref b107), .val (.ref b94_0)] [(.ref b11)])) _
        refine XS.aload X137.here hx rfl (hb hby at_145) rfl rfl ?_
        show Steps p.tables e below (T137.setTop (mkF m 147 #[.val (.int x0), .val (.int x1), .val (.int x2), .val (.int x3), .val (.int fo), .val (.int fc), .val (.ref b11), .val (.ref b13), .val (.ref b94_0), .val (.ref wE), .val (.ref b101), .val (.ref b107), .val (.ref b94_0)] [(.ref b11), (.ref b11)])) _
        refine st138.trans ?_
        show Steps p.tables e below (T138.setTop (mkF m 150 #[.val (.int x0), .val (.int x1), .val (.int x2), .val (.int x3), .val (.int fo), .val (.int fc), .val (.ref b11), .val (.ref b13), .val (.ref b94_0), .val (.ref wE), .val (.ref b101), .val (.ref b107), .val (.ref b94_0)] [(.int (1 : Int32))])) _
        refine XS.ifNo X138.here hx rfl (hb hby at_150) rfl ((if0 _ _).trans (feq (by decide : ¬ ((1 : Int32) = (0 : Int32)))).1) ?_
        show Steps p.tables e below (T138.setTop (mkF m 153 #[.val (.int x0), .val (.int x1), .val (.int x2), .val (.int x3), .val (.int fo), .val (.int fc), .val (.ref b11), .val (.ref b13), .val (.ref b94_0), .val (.ref wE), .val (.ref b101), .val (.ref b107), .val (.ref b94_0)] [])) _
        refine XS.iconst X138.here hx rfl (hb hby at_153) ?_
        show Steps p.tables e below (T138.setTop (mkF m 154 #[.val (.int x0), .val (.int x1), .val (.int x2), .val (.int x3), .val (.int fo), .val (.int fc), .val (.ref b11), .val (.ref b13), .val (.ref b94_0), .val (.ref wE), .val (.ref b101), .val (.ref b107), .val (.ref b94_0)] [(.int (1 : Int32))])) _
        refine XS.goto X138.here hx rfl (pc0 := 154) (pc' := 158) rfl (hb hby at_154) (by decide) (by decide) ?_
        show Steps p.tables e below (T138.setTop (mkF m 158 #[.val (.int x0), .val (.int x1), .val (.int x2), .val (.int x3), .val (.int fo), .val (.int fc), .val (.ref b11), .val (.ref b13), .val (.ref b94_0), .val (.ref wE), .val (.ref b101), .val (.ref b107), .val (.ref b94_0)] [(.int (1 : Int32))])) _
        exact retN X138 hx (t := .boolean) Bd.returns (by simp) (hb hby at_158) lhr
      · skip
        show Q0 Z x0 x1 x2 x3 G1 wE wD h0 n0 _ T138.heap _
        rw [eq138]
        exact ⟨rfl, N138⟩
      · skip
        show CHr Z own_EL s.vm s.heap T138.vm T138.heap
        rw [hh]
        rw [eq138]
        exact CR131.trans (CHv.at X138 hZ112 hEL CR131.1)
    · skip
      have f139 := (f93.keep Kq94)
      have f140 := (gE13.keep Kq94)
      obtain ⟨_, _, ⟨T141, L141, kc141, ks141⟩, -, X141, ⟨Lc141, hQ141, l141, y141, z141⟩, st141⟩ := Jvm.LawKit.callS X94 hx (y := mn16) hown13 (mvT hZ13 (wd31 hw)) (mvT hZ13 (wd32 hw)) (mvT hZ13 (wd28 hw)) (mvT hZ13 (wd33 hw)) (by decide) (backOf (W := 0) (rmA17 l Z a0 hw [] b13 T94.heap n0 Z94 ) hZ13 (wd33 hw) (wd28 hw) (by decide) (by decide)) (g := (mkF m 63 #[.val (.int x0), .val (.int x1), .val (.int x2), .val (.int x3), .val (.int fo), .val (.int fc), .val (.ref b11), .val (.ref b13), .val (.ref b94_0), .unset, .unset, .unset, .unset] [(.ref b13)])) rfl (by rw [hml]; rfl) (argsL := [(.ref b13)]) (rest := []) (lenOf pd__Ljava_lang_Object__Ljava_util_Optional_ rfl) rfl (by show 2 * 0 + _ ≤ _; exact Nat.le_of_eq rfl) (hb hby at_63) (fun _ _ => ⟨rfl, rfl, (by decide : 13 + 1 ≤ _), (by decide : 41 + 1 ≤ _)⟩)
      dsimp only [Pt.U, Pt.locs, Pt.cells, Pt.slots] at X141 l141 y141 z141 st141 hQ141
      subst l141 y141 z141
      obtain ⟨b141_0, rfl, Nq141, Kq141, sz141_0, g141_0, g141_1⟩ := hQ141
      have N141 := Fr.app N94 Nq141
      have CS141 := CHr.keep Kq141 all0 CR94.1
      have CR141 := CR94.trans CS141
      have hk141 : _ ≤ T141.heap.size := Nat.le_trans hk94 Kq141.1
      have Z141 : n0 ≤ T141.heap.size := Nat.le_trans Z94 Kq141.1
      have K141 : Keep h0 T141.heap [] := Keep.trans K94 Kq141 all0
      have ne_b11_b141_0 : b11 ≠ b141_0 := Nat.ne_of_lt (Nat.lt_of_lt_of_le f139.lt sz141_0)
      have ne_b13_b141_0 : b13 ≠ b141_0 := Nat.ne_of_lt (Nat.lt_of_lt_of_le f140.lt sz141_0)
      have ne_b94_0_b141_0 : b94_0 ≠ b141_0 := Nat.ne_of_lt (Nat.lt_of_lt_of_le g94_0.lt sz141_0)
      have ge_b141_0 : n0 ≤ b141_0 := Nat.le_trans Z94 sz141_0
      have sz_b141_0 : h0.size ≤ b141_0 := Nat.le_trans K94.1 sz141_0
      have f142 := (f139.keep Kq141)
      have f143 := (f140.keep Kq141)
      have f144 := (g94_0.keep Kq141)
      obtain ⟨T145, h145, X145, e145, E145, A145, D145, -, st145⟩ := newO X141 hx hZ13 hown13 (wd47 hw) (wd48 hw) (wd49 hw) rfl (g := (mkF m 74 #[.val (.int x0), .val (.int x1), .val (.int x2), .val (.int x3), .val (.int fo), .val (.int fc), .val (.ref b11), .val (.ref b13), .val (.ref b94_0), .val (.ref b141_0), .unset, .unset, .unset] [])) rfl (hb hby at_74) (by decide) (by decide)
      obtain ⟨b145, g145⟩ : ∃ z, z = T141.heap.size := ⟨_, rfl⟩
      rw [← g145] at A145 D145 st145
      have ne_b11_b145 : b11 ≠ b145 := Nat.ne_of_lt (Nat.lt_of_lt_of_le f142.lt (Nat.le_of_eq g145.symm))
      have ne_b13_b145 : b13 ≠ b145 := Nat.ne_of_lt (Nat.lt_of_lt_of_le f143.lt (Nat.le_of_eq g145.symm))
      have ne_b94_0_b145 : b94_0 ≠ b145 := Nat.ne_of_lt (Nat.lt_of_lt_of_le f144.lt (Nat.le_of_eq g145.symm))
      have ne_b141_0_b145 : b141_0 ≠ b145 := Nat.ne_of_lt (Nat.lt_of_lt_of_le g141_0.lt (Nat.le_of_eq g145.symm))
      have ge_b145 : n0 ≤ b145 := Nat.le_trans Z141 (Nat.le_of_eq g145.symm)
      have sz_b145 : h0.size ≤ b145 := Nat.le_trans K141.1 (Nat.le_of_eq g145.symm)
      have CS145 := CHr.ext E145 CR141.1
      have CR145 := CR141.trans CS145
      have hk145 : _ ≤ h145.size := Nat.le_trans hk141 E145.1
      have Z145 : n0 ≤ h145.size := Nat.le_trans Z141 E145.1
      have K145 : Keep h0 h145 [] := (K141.ext E145)
      have F145_modCount : Fld Z h145 b145 "java/util/AbstractList" "modCount" "I" (.int (0 : Int32)) := D145 (Or.inl (wd67 hw)) (ty := .int) (by decide)
      have F145_elementData : Fld Z h145 b145 "java/util/ArrayList" "elementData" "[Ljava/lang/Object;" .null := D145 (Or.inl (wd70 hw)) (ty := (.array (.object "java/lang/Object"))) (by decide)
      have f146 := ((((f12.keep Kq13 all0).keep Kq94 all0).keep Kq141 all0).ext E145)
      obtain ⟨_, _, ⟨T147, L147, kc147, ks147⟩, -, X147, ⟨Lc147, hQ147, l147, y147, z147⟩, st147⟩ := X145.specialBack hx (y := mn10) rfl hown13 (mvT hZ13 (wd50 hw)) (mvT hZ13 (wd51 hw)) (mvT hZ13 (wd52 hw)) (by decide) (backOf (W := 1) (rmA8 l Z a0 hw [] b145 wD h145 n0 Z145 F145_modCount F145_elementData A145 ge_b145 S_D f146) hZ13 (wd52 hw) (wd49 hw) (by decide) (by decide)) (g := (mkF m 78 #[.val (.int x0), .val (.int x1), .val (.int x2), .val (.int x3), .val (.int fo), .val (.int fc), .val (.ref b11), .val (.ref b13), .val (.ref b94_0), .val (.ref b141_0), .unset, .unset, .unset] [(.ref b145), (.ref b145)])) rfl (by rw [hml]; rfl) (Steps.refl _) (a := b145) (argsL := []) (rest := [(.ref b145)]) (lenOf pd___V rfl) rfl (by show 2 * 0 + _ ≤ _; exact Nat.le_of_eq rfl) (hb hby at_78) (fun _ _ => ⟨rfl, e145, (by decide : 15 + 0 ≤ _), (by decide : 45 + 0 ≤ _)⟩)
      dsimp only [Pt.U, Pt.locs, Pt.cells, Pt.slots] at X147 l147 y147 z147 st147 hQ147
      subst l147 y147 z147
      obtain ⟨rfl, Nq147, Kq147, g147_0, g147_1, g147_2⟩ := hQ147
      have N147 := Fr.app N141 Nq147
      have CS147 := CHr.keep Kq147 (allS (Safe.exa hZ13.alike A145 (by decide) (by decide)) all0) CR145.1
      have CR147 := CR145.trans CS147
      have hk147 : _ ≤ T147.heap.size := Nat.le_trans hk145 Kq147.1
      have Z147 : n0 ≤ T147.heap.size := Nat.le_trans Z145 Kq147.1
      have K147 : Keep h0 T147.heap [] := Keep.trans K145 Kq147 (allS (Or.inr sz_b145) all0)
      have f148 := ((f142.ext E145).keep Kq147)
      have f149 := ((f143.ext E145).keep Kq147)
      have f150 := ((f144.ext E145).keep Kq147)
      have f151 := ((g141_0.ext E145).keep Kq147)
      obtain ⟨T152, h152, X152, e152, E152, A152, D152, -, st152⟩ := newO X147 hx hZ13 hown13 (wd71 hw) (wd72 hw) (wd73 hw) rfl (g := (mkF m 83 #[.val (.int x0), .val (.int x1), .val (.int x2), .val (.int x3), .val (.int fo), .val (.int fc), .val (.ref b11), .val (.ref b13), .val (.ref b94_0), .val (.ref b141_0), .val (.ref b145), .unset, .unset] [])) rfl (hb hby at_83) (by decide) (by decide)
      obtain ⟨b152, g152⟩ : ∃ z, z = T147.heap.size := ⟨_, rfl⟩
      rw [← g152] at A152 D152 st152
      have ne_b11_b152 : b11 ≠ b152 := Nat.ne_of_lt (Nat.lt_of_lt_of_le f148.lt (Nat.le_of_eq g152.symm))
      have ne_b13_b152 : b13 ≠ b152 := Nat.ne_of_lt (Nat.lt_of_lt_of_le f149.lt (Nat.le_of_eq g152.symm))
      have ne_b94_0_b152 : b94_0 ≠ b152 := Nat.ne_of_lt (Nat.lt_of_lt_of_le f150.lt (Nat.le_of_eq g152.symm))
      have ne_b141_0_b152 : b141_0 ≠ b152 := Nat.ne_of_lt (Nat.lt_of_lt_of_le f151.lt (Nat.le_of_eq g152.symm))
      have ne_b145_b152 : b145 ≠ b152 := Nat.ne_of_lt (Nat.lt_of_lt_of_le g147_2.lt (Nat.le_of_eq g152.symm))
      have ge_b152 : n0 ≤ b152 := Nat.le_trans Z147 (Nat.le_of_eq g152.symm)
      have sz_b152 : h0.size ≤ b152 := Nat.le_trans K147.1 (Nat.le_of_eq g152.symm)
      have CS152 := CHr.ext E152 CR147.1
      have CR152 := CR147.trans CS152
      have hk152 : _ ≤ h152.size := Nat.le_trans hk147 E152.1
      have Z152 : n0 ≤ h152.size := Nat.le_trans Z147 E152.1
      have K152 : Keep h0 h152 [] := (K147.ext E152)
      have F152_code : Fld Z h152 b152 cn4 "code" "Ljava/lang/String;" .null := D152 (Or.inr (wd85 hw)) (ty := (.object "java/lang/String")) (by decide)
      have F152_status : Fld Z h152 b152 cn4 "status" "I" (.int (0 : Int32)) := D152 (Or.inr (wd87 hw)) (ty := .int) (by decide)
      have F152_catalogueMessage : Fld Z h152 b152 cn4 "catalogueMessage" "Ljava/util/Optional;" .null := D152 (Or.inr (wd89 hw)) (ty := (.object "java/util/Optional")) (by decide)
      have F152_ownMessage : Fld Z h152 b152 cn4 "ownMessage" "Ljava/util/Optional;" .null := D152 (Or.inr (wd91 hw)) (ty := (.object "java/util/Optional")) (by decide)
      have F152_trace : Fld Z h152 b152 cn4 "trace" "Ljava/util/Optional;" .null := D152 (Or.inr (wd93 hw)) (ty := (.object "java/util/Optional")) (by decide)
      have F152_moreInfo : Fld Z h152 b152 cn4 "moreInfo" "Ljava/util/Optional;" .null := D152 (Or.inr (wd95 hw)) (ty := (.object "java/util/Optional")) (by decide)
      have F152_target : Fld Z h152 b152 cn4 "target" "Ljava/util/Optional;" .null := D152 (Or.inr (wd97 hw)) (ty := (.object "java/util/Optional")) (by decide)
      have F152_details : Fld Z h152 b152 cn4 "details" "Ljava/util/List;" .null := D152 (Or.inr (wd99 hw)) (ty := (.object "java/util/List")) (by decide)
      have f153 := (f148.ext E152)
      have f154 := (f149.ext E152)
      have f155 := (f150.ext E152)
      have f156 := (f151.ext E152)
      have f157 := (g147_2.ext E152)
      obtain ⟨a158, T158, h158, kk158, t158, kb158, X158, e158, E158, hS158, hk158, hZ158, hown158, gE158, gC158, gV158, gK158, la158, lt158, CS158, LL158, sne158, st158⟩ := ldcCH (s := s) (vm0 := T13.vm) (EL := own_EL) X152 hx hZ13 hown13 (wd74 hw) wS e152 hS13 hk152 hEL (by decide) CR152.1 (vs := [(.int (99 : Int32))]) (z := (1 : Int32)) ⟨by decide +kernel, by first | rfl | decide +kernel⟩ (by decide) (by decide) (g := (mkF m 87 #[.val (.int x0), .val (.int x1), .val (.int x2), .val (.int x3), .val (.int fo), .val (.int fc), .val (.ref b11), .val (.ref b13), .val (.ref b94_0), .val (.ref b141_0), .val (.ref b145), .unset, .unset] [(.ref b152), (.ref b152)])) rfl (hb hby at_87) (n := 4) (by decide +kernel) (by decide) (by decide) (by decide)
      have CR158 := CR152.trans CS158
      have Z158 : n0 ≤ h158.size := Nat.le_trans Z152 E158.1
      have K158 : Keep h0 h158 [] := (K152.ext E158)
      have f159 := (f155.ext E158)
      have nn_b94_0_158 := sne158 b94_0 (Safe.exa hZ158.alike f159 (by decide) (by decide))
      have f160 := (f156.ext E158)
      have nn_b141_0_158 := sne158 b141_0 (Safe.exa hZ158.alike f160 (by decide) (by decide))
      have f161 := (f157.ext E158)
      have nn_b145_158 := sne158 b145 (Safe.exa hZ158.alike f161 (by decide) (by decide))
      have f162 := (A152.ext E158)
      have nn_b152_158 := sne158 b152 (Safe.exa hZ158.alike f162 (by decide) (by decide))
      have f163 := (((f146.keep Kq147 (allS ge_b145 all0)).ext E152).ext E158)
      obtain ⟨_, _, ⟨T164, L164, kc164, ks164⟩, -, X164, ⟨Lc164, hQ164, l164, y164, z164⟩, st164⟩ := Jvm.LawKit.callS X158 hx (y := mn13) hown158 (mvT hZ158 (wd26 hw)) (mvT hZ158 (wd27 hw)) (mvT hZ158 (wd28 hw)) (mvT hZ158 (wd29 hw)) (by decide) (backOf (W := 6) (rmA6 l Z a0 hw [] wE h158 n0 Z158 S_E f163) hZ158 (wd29 hw) (wd28 hw) (by decide) (by decide)) (g := (mkF m 94 #[.val (.int x0), .val (.int x1), .val (.int x2), .val (.int x3), .val (.int fo), .val (.int fc), .val (.ref b11), .val (.ref b13), .val (.ref b94_0), .val (.ref b141_0), .val (.ref b145), .unset, .unset] [(.ref b94_0), (.ref b141_0), (.int x3), (.ref a158), (.ref b152), (.ref b152)])) rfl (by rw [hml]; rfl) (argsL := []) (rest := [(.ref b94_0), (.ref b141_0), (.int x3), (.ref a158), (.ref b152), (.ref b152)]) (lenOf pd___Ljava_util_Optional_ rfl) rfl (by show 2 * 0 + _ ≤ _; exact Nat.le_of_eq rfl) (hb hby at_94) (fun _ _ => ⟨rfl, e158, (by decide : 18 + 0 ≤ _), (by decide : 61 + 0 ≤ _)⟩)
      dsimp only [Pt.U, Pt.locs, Pt.cells, Pt.slots] at X164 l164 y164 z164 st164 hQ164
      subst l164 y164 z164
      obtain ⟨rfl, Nq164, eq164⟩ := hQ164
      have N164 := Fr.app N147 Nq164
      obtain ⟨_, _, ⟨T165, L165, kc165, ks165⟩, -, X165, ⟨Lc165, hQ165, l165, y165, z165⟩, st165⟩ := Jvm.LawKit.callS X164 hx (y := mn13) hown158 (mvT hZ158 (wd26 hw)) (mvT hZ158 (wd27 hw)) (mvT hZ158 (wd28 hw)) (mvT hZ158 (wd29 hw)) (by decide) (backOf (W := 7) (rmA6 l Z a0 hw [] wE h158 n0 Z158 S_E f163) hZ158 (wd29 hw) (wd28 hw) (by decide) (by decide)) (g := (mkF m 97 #[.val (.int x0), .val (.int x1), .val (.int x2), .val (.int x3), .val (.int fo), .val (.int fc), .val (.ref b11), .val (.ref b13), .val (.ref b94_0), .val (.ref b141_0), .val (.ref b145), .unset, .unset] [(.ref wE), (.ref b94_0), (.ref b141_0), (.int x3), (.ref a158), (.ref b152), (.ref b152)])) rfl (by rw [hml]; rfl) (argsL := []) (rest := [(.ref wE), (.ref b94_0), (.ref b141_0), (.int x3), (.ref a158), (.ref b152), (.ref b152)]) (lenOf pd___Ljava_util_Optional_ rfl) rfl (by show 2 * 0 + _ ≤ _; exact Nat.le_of_eq rfl) (hb hby at_97) (fun _ _ => ⟨rfl, eq164, (by decide : 18 + 0 ≤ _), (by decide : 61 + 0 ≤ _)⟩)
      dsimp only [Pt.U, Pt.locs, Pt.cells, Pt.slots] at X165 l165 y165 z165 st165 hQ165
      subst l165 y165 z165
      obtain ⟨rfl, Nq165, eq165⟩ := hQ165
      have N165 := Fr.app N164 Nq165
      obtain ⟨_, _, ⟨T166, L166, kc166, ks166⟩, -, X166, ⟨Lc166, hQ166, l166, y166, z166⟩, st166⟩ := Jvm.LawKit.callS X165 hx (y := mn13) hown158 (mvT hZ158 (wd26 hw)) (mvT hZ158 (wd27 hw)) (mvT hZ158 (wd28 hw)) (mvT hZ158 (wd29 hw)) (by decide) (backOf (W := 8) (rmA6 l Z a0 hw [] wE h158 n0 Z158 S_E f163) hZ158 (wd29 hw) (wd28 hw) (by decide) (by decide)) (g := (mkF m 100 #[.val (.int x0), .val (.int x1), .val (.int x2), .val (.int x3), .val (.int fo), .val (.int fc), .val (.ref b11), .val (.ref b13), .val (.ref b94_0), .val (.ref b141_0), .val (.ref b145), .unset, .unset] [(.ref wE), (.ref wE), (.ref b94_0), (.ref b141_0), (.int x3), (.ref a158), (.ref b152), (.ref b152)])) rfl (by rw [hml]; rfl) (argsL := []) (rest := [(.ref wE), (.ref wE), (.ref b94_0), (.ref b141_0), (.int x3), (.ref a158), (.ref b152), (.ref b152)]) (lenOf pd___Ljava_util_Optional_ rfl) rfl (by show 2 * 0 + _ ≤ _; exact Nat.le_of_eq rfl) (hb hby at_100) (fun _ _ => ⟨rfl, eq165, (by decide : 18 + 0 ≤ _), (by decide : 61 + 0 ≤ _)⟩)
      dsimp only [Pt.U, Pt.locs, Pt.cells, Pt.slots] at X166 l166 y166 z166 st166 hQ166
      subst l166 y166 z166
      obtain ⟨rfl, Nq166, eq166⟩ := hQ166
      have N166 := Fr.app N165 Nq166
      have f167 := (F152_code.ext E158)
      have f168 := (F152_status.ext E158)
      have f169 := (F152_catalogueMessage.ext E158)
      have f170 := (F152_ownMessage.ext E158)
      have f171 := (F152_trace.ext E158)
      have f172 := (F152_moreInfo.ext E158)
      have f173 := (F152_target.ext E158)
      have f174 := (F152_details.ext E158)
      obtain ⟨_, _, ⟨T175, L175, kc175, ks175⟩, -, X175, ⟨Lc175, hQ175, l175, y175, z175⟩, st175⟩ := X166.specialBack hx (y := mn0) rfl hown158 (mvT hZ158 (wd75 hw)) (mvT hZ158 (wd76 hw)) (mvT hZ158 (wd77 hw)) (by decide) (backOf (W := 1) (rmA55 l Z a0 hw [] b152 a158 x3 b141_0 b94_0 wE b145 h158 n0 Z158 f162 f167 ge_b152 f168 f169 f170 f171 f172 f173 f174) hZ158 (wd77 hw) (wd73 hw) (by decide) (by decide)) (g := (mkF m 105 #[.val (.int x0), .val (.int x1), .val (.int x2), .val (.int x3), .val (.int fo), .val (.int fc), .val (.ref b11), .val (.ref b13), .val (.ref b94_0), .val (.ref b141_0), .val (.ref b145), .unset, .unset] [(.ref b145), (.ref wE), (.ref wE), (.ref wE), (.ref b94_0), (.ref b141_0), (.int x3), (.ref a158), (.ref b152), (.ref b152)])) rfl (by rw [hml]; rfl) (Steps.refl _) (a := b152) (argsL := [(.ref a158), (.int x3), (.ref b141_0), (.ref b94_0), (.ref wE), (.ref wE), (.ref wE), (.ref b145)]) (rest := [(.ref b152)]) (lenOf pd__Ljava_lang_String_ILjava_util_Optional_Ljava_util_Optional_Ljava_util_Optional_Ljava_util_Optional_Ljava_util_Optional_Ljava_util_List__V rfl) rfl (by show 2 * 0 + _ ≤ _; exact Nat.le_of_eq rfl) (hb hby at_105) (fun _ _ => ⟨rfl, eq166, (by decide : 18 + 0 ≤ _), (by decide : 61 + 0 ≤ _)⟩)
      dsimp only [Pt.U, Pt.locs, Pt.cells, Pt.slots] at X175 l175 y175 z175 st175 hQ175
      subst l175 y175 z175
      obtain ⟨rfl, Nq175, Kq175, g175_0, g175_1, g175_2, g175_3, g175_4, g175_5, g175_6, g175_7, g175_8⟩ := hQ175
      have N175 := Fr.app N166 Nq175
      have CS175 := CHr.keep Kq175 (allS (Safe.exa hZ158.alike f162 (by decide) (by decide)) all0) CR158.1
      have CR175 := CR158.trans CS175
      have hk175 : _ ≤ T175.heap.size := Nat.le_trans hk158 Kq175.1
      have Z175 : n0 ≤ T175.heap.size := Nat.le_trans Z158 Kq175.1
      have K175 : Keep h0 T175.heap [] := Keep.trans K158 Kq175 (allS (Or.inr sz_b152) all0)
      have f176 := ((((((g94_1.keep Kq141 nin0).ext E145).keep Kq147 (ninS ne_b94_0_b145 nin0)).ext E152).ext E158).keep Kq175 (ninS ne_b94_0_b152 nin0))
      have f177 := (f159.keep Kq175)
      obtain ⟨cq178, kq178, q178a, q178b, q178c⟩ := isOf hZ158 rfl g175_0
      obtain ⟨_, _, ⟨T178, L178, kc178, ks178⟩, -, X178, ⟨Lc178, hQ178, l178, y178, z178⟩, st178⟩ := X175.virtualBack hx (y := mn2) (z := mn2) hown158 (mvT hZ158 (wd100 hw)) (mvT hZ158 (wd101 hw)) (notFace_of_selects (args := #[]) (mvT hZ158 (wd103 hw))) (mvT hZ158 (wd103 hw)) (mvT hZ158 (wd102 hw)) (by decide) (backOf (W := 0) (rmMsP l Z a0 hw [] b152 b94_0 b11 T175.heap n0 Z175 g175_0 g175_4 f177 f176) hZ158 (wd104 hw) (wd73 hw) (by decide) (by decide)) q178a q178c (g := (mkF m 112 #[.val (.int x0), .val (.int x1), .val (.int x2), .val (.int x3), .val (.int fo), .val (.int fc), .val (.ref b11), .val (.ref b13), .val (.ref b94_0), .val (.ref b141_0), .val (.ref b145), .val (.ref b152), .unset] [(.ref b152)])) rfl (by rw [hml]; rfl) (Steps.refl _) (argsL := []) (rest := []) (lenOf pd___Ljava_util_Optional_ rfl) rfl (by show 2 * 0 + _ ≤ _; exact Nat.le_of_eq rfl) (hb hby at_112) (fun _ _ => ⟨rfl, rfl, (by decide : 18 + 1 ≤ _), (by decide : 61 + 1 ≤ _)⟩)
      dsimp only [Pt.U, Pt.locs, Pt.cells, Pt.slots] at X178 l178 y178 z178 st178 hQ178
      subst l178 y178 z178
      obtain ⟨rfl, Nq178, Kq178⟩ := hQ178
      have N178 := Fr.app N175 Nq178
      have CS178 := CHr.keep Kq178 all0 CR175.1
      have CR178 := CR175.trans CS178
      have hk178 : _ ≤ T178.heap.size := Nat.le_trans hk175 Kq178.1
      have Z178 : n0 ≤ T178.heap.size := Nat.le_trans Z175 Kq178.1
      have K178 : Keep h0 T178.heap [] := Keep.trans K175 Kq178 all0
      have f179 := (f176.keep Kq178 nin0)
      have f181 := (f177.keep Kq178)
      obtain ⟨cq180, kq180, q180a, q180b, q180c⟩ := isOf hZ158 rfl f181
      obtain ⟨_, _, ⟨T180, L180, kc180, ks180⟩, -, X180, ⟨Lc180, hQ180, l180, y180, z180⟩, st180⟩ := X178.virtualBack hx (y := mn15) (z := mn15) hown158 (mvT hZ158 (wd125 hw)) (mvT hZ158 (wd115 hw)) (notFace_of_selects (args := #[]) (mvT hZ158 (wd117 hw))) (mvT hZ158 (wd117 hw)) (mvT hZ158 (wd116 hw)) (by decide) (backOf (W := 0) (rmA2 l Z a0 hw [] b94_0 b11 T178.heap n0 Z178 f179) hZ158 (wd118 hw) (wd28 hw) (by decide) (by decide)) q180a q180c (g := (mkF m 131 #[.val (.int x0), .val (.int x1), .val (.int x2), .val (.int x3), .val (.int fo), .val (.int fc), .val (.ref b11), .val (.ref b13), .val (.ref b94_0), .val (.ref b141_0), .val (.ref b145), .val (.ref b152), .val (.ref b94_0)] [(.ref b94_0)])) rfl (by rw [hml]; rfl) (Steps.refl _) (argsL := []) (rest := []) (lenOf pd___Z rfl) rfl (by show 2 * 0 + _ ≤ _; exact Nat.le_of_eq rfl) (hb hby at_131) (fun _ _ => ⟨rfl, rfl, (by decide : 19 + 0 ≤ _), (by decide : 62 + 0 ≤ _)⟩)
      dsimp only [Pt.U, Pt.locs, Pt.cells, Pt.slots] at X180 l180 y180 z180 st180 hQ180
      subst l180 y180 z180
      obtain ⟨rfl, Nq180, eq180⟩ := hQ180
      have N180 := Fr.app N178 Nq180
      obtain ⟨cq182, kq182, q182a, q182b, q182c⟩ := isOf hZ158 eq180 f181
      obtain ⟨_, _, ⟨T182, L182, kc182, ks182⟩, -, X182, ⟨Lc182, hQ182, l182, y182, z182⟩, st182⟩ := X180.virtualBack hx (y := mn14) (z := mn14) hown158 (mvT hZ158 (wd126 hw)) (mvT hZ158 (wd127 hw)) (notFace_of_selects (args := #[]) (mvT hZ158 (wd129 hw))) (mvT hZ158 (wd129 hw)) (mvT hZ158 (wd128 hw)) (by decide) (backOf (W := 0) (rmA29 l Z a0 hw [] b94_0 b11 T178.heap n0 Z178 f179) hZ158 (wd130 hw) (wd28 hw) (by decide) (by decide)) q182a q182c (g := (mkF m 139 #[.val (.int x0), .val (.int x1), .val (.int x2), .val (.int x3), .val (.int fo), .val (.int fc), .val (.ref b11), .val (.ref b13), .val (.ref b94_0), .val (.ref b141_0), .val (.ref b145), .val (.ref b152), .val (.ref b94_0)] [(.ref b94_0)])) rfl (by rw [hml]; rfl) (Steps.refl _) (argsL := []) (rest := []) (lenOf pd___Ljava_lang_Object_ rfl) rfl (by show 2 * 0 + _ ≤ _; exact Nat.le_of_eq rfl) (hb hby at_139) (fun _ _ => ⟨rfl, eq180, (by decide : 19 + 0 ≤ _), (by decide : 62 + 0 ≤ _)⟩)
      dsimp only [Pt.U, Pt.locs, Pt.cells, Pt.slots] at X182 l182 y182 z182 st182 hQ182
      subst l182 y182 z182
      obtain ⟨rfl, Nq182, eq182⟩ := hQ182
      have N182 := Fr.app N180 Nq182
      have f183 := (((f153.ext E158).keep Kq175).keep Kq178)
      obtain ⟨T184, X184, e184, st184⟩ := castY X182 hx hZ158 hown158 (wd4 hw) eq182 (Ins.self f183) (g := (mkF m 142 #[.val (.int x0), .val (.int x1), .val (.int x2), .val (.int x3), .val (.int fo), .val (.int fc), .val (.ref b11), .val (.ref b13), .val (.ref b94_0), .val (.ref b141_0), .val (.ref b145), .val (.ref b152), .val (.ref b94_0)] [(.ref b11)])) rfl rfl (hb hby at_142)
      obtain ⟨cq185, kq185, q185a, q185b, q185c⟩ := isOf hZ158 e184 f183
      obtain ⟨_, _, ⟨T185, L185, kc185, ks185⟩, -, X185, ⟨Lc185, hQ185, l185, y185, z185⟩, st185⟩ := X184.virtualBack hx (y := mn7) (z := mn7) hown158 (mvT hZ158 (wd131 hw)) (mvT hZ158 (wd132 hw)) (notFace_of_selects (args := #[]) (mvT hZ158 (wd134 hw))) (mvT hZ158 (wd134 hw)) (mvT hZ158 (wd133 hw)) (by decide) (backOf (W := 0) (rmA30 l Z a0 hw [] b11 T178.heap n0 Z178 ) hZ158 (wd135 hw) (wd6 hw) (by decide) (by decide)) q185a q185c (g := (mkF m 147 #[.val (.int x0), .val (.int x1), .val (.int x2), .val (.int x3), .val (.int fo), .val (.int fc), .val (.ref b11), .val (.ref b13), .val (.ref b94_0), .val (.ref b141_0), .val (.ref b145), .val (.ref b152), .val (.ref b94_0)] [(.ref b11), (.ref b11)])) rfl (by rw [hml]; rfl) (Steps.refl _) (argsL := [(.ref b11)]) (rest := []) (lenOf pd__Ljava_lang_Object__Z rfl) rfl (by show 2 * 0 + _ ≤ _; exact Nat.le_of_eq rfl) (hb hby at_147) (fun _ _ => ⟨rfl, e184, (by decide : 19 + 0 ≤ _), (by decide : 62 + 0 ≤ _)⟩)
      dsimp only [Pt.U, Pt.locs, Pt.cells, Pt.slots] at X185 l185 y185 z185 st185 hQ185
      subst l185 y185 z185
      obtain ⟨rfl, Nq185, eq185⟩ := hQ185
      have N185 := Fr.app N182 Nq185
      obtain ⟨lfs, lhr, lhrun, lhended, lhE⟩ := X185.leaveW hS158 (by rw [eq185]; exact hk178) (v := some (.int (1 : Int32))) (fun h => by rw [Bd.returns] at h; cases h)
      refine ⟨_, _, k95 _ ?_, lhrun, lhended, _, _, rfl, ?_, ?_, lhE.1, lhE.2.1, lhE.2.2.1, lhE.2.2.2.mono (by decide) (by decide)⟩
      · skip
        show Steps p.tables e below (T94.setTop (mkF m 58 #[.val (.int x0), .val (.int x1), .val (.int x2), .val (.int x3), .val (.int fo), .val (.int fc), .val (.ref b11), .val (.ref b13), .val (.ref b94_0), .unset, .unset, .unset, .unset] [(.int fc)])) _
        refine XS.ifNo X94.here hx rfl (hb hby at_58) rfl ((if0 _ _).trans (feq hc96).1) ?_
        show Steps p.tables e below (T94.setTop (mkF m 61 #[.val (.int x0), .val (.int x1), .val (.int x2), .val (.int x3), .val (.int fo), .val (.int fc), .val (.ref b11), .val (.ref b13), .val (.ref b94_0), .unset, .unset, .unset, .unset] [])) _
        refine XS.aload X94.here hx rfl (hb hby at_61) rfl rfl ?_
        show Steps p.tables e below (T94.setTop (mkF m 63 #[.val (.int x0), .val (.int x1), .val (.int x2), .val (.int x3), .val (.int fo), .val (.int fc), .val (.ref b11), .val (.ref b13), .val (.ref b94_0), .unset, .unset, .unset, .unset] [(.ref b13)])) _
        refine st141 _ ?_
        show Steps p.tables e below (T141.setTop (mkF m 66 #[.val (.int x0), .val (.int x1), .val (.int x2), .val (.int x3), .val (.int fo), .val (.int fc), .val (.ref b11), .val (.ref b13), .val (.ref b94_0), .unset, .unset, .unset, .unset] [(.ref b141_0)])) _
        refine XS.goto X141.here hx rfl (pc0 := 66) (pc' := 72) rfl (hb hby at_66) (by decide) (by decide) ?_
        show Steps p.tables e below (T141.setTop (mkF m 72 #[.val (.int x0), .val (.int x1), .val (.int x2), .val (.int x3), .val (.int fo), .val (.int fc), .val (.ref b11), .val (.ref b13), .val (.ref b94_0), .unset, .unset, .unset, .unset] [(.ref b141_0)])) _
        refine XS.astore X141.here hx rfl (hb hby at_72) rfl rfl (l' := #[.val (.int x0), .val (.int x1), .val (.int x2), .val (.int x3), .val (.int fo), .val (.int fc), .val (.ref b11), .val (.ref b13), .val (.ref b94_0), .val (.ref b141_0), .unset, .unset, .unset]) rfl ?_
        show Steps p.tables e below (T141.setTop (mkF m 74 #[.val (.int x0), .val (.int x1), .val (.int x2), .val (.int x3), .val (.int fo), .val (.int fc), .val (.ref b11), .val (.ref b13), .val (.ref b94_0), .val (.ref b141_0), .unset, .unset, .unset] [])) _
        refine st145 _ ?_
        show Steps p.tables e below (T145.setTop (mkF m 77 #[.val (.int x0), .val (.int x1), .val (.int x2), .val (.int x3), .val (.int fo), .val (.int fc), .val (.ref b11), .val (.ref b13), .val (.ref b94_0), .val (.ref b141_0), .unset, .unset, .unset] [(.ref b145)])) _
        refine XS.dup X145.here hx rfl (hb hby at_77) rfl rfl ?_
        show Steps p.tables e below (T145.setTop (mkF m 78 #[.val (.int x0), .val (.int x1), .val (.int x2), .val (.int x3), .val (.int fo), .val (.int fc), .val (.ref b11), .val (.ref b13), .val (.ref b94_0), .val (.ref b141_0), .unset, .unset, .unset] [(.ref b145), (.ref b145)])) _
        refine st147.trans ?_
        show Steps p.tables e below (T147.setTop (mkF m 81 #[.val (.int x0), .val (.int x1), .val (.int x2), .val (.int x3), .val (.int fo), .val (.int fc), .val (.ref b11), .val (.ref b13), .val (.ref b94_0), .val (.ref b141_0), .unset, .unset, .unset] [(.ref b145)])) _
        refine XS.astore X147.here hx rfl (hb hby at_81) rfl rfl (l' := #[.val (.int x0), .val (.int x1), .val (.int x2), .val (.int x3), .val (.int fo), .val (.int fc), .val (.ref b11), .val (.ref b13), .val (.ref b94_0), .val (.ref b141_0), .val (.ref b145), .unset, .unset]) rfl ?_
        show Steps p.tables e below (T147.setTop (mkF m 83 #[.val (.int x0), .val (.int x1), .val (.int x2), .val (.int x3), .val (.int fo), .val (.int fc), .val (.ref b11), .val (.ref b13), .val (.ref b94_0), .val (.ref b141_0), .val (.ref b145), .unset, .unset] [])) _
        refine st152 _ ?_
        show Steps p.tables e below (T152.setTop (mkF m 86 #[.val (.int x0), .val (.int x1), .val (.int x2), .val (.int x3), .val (.int fo), .val (.int fc), .val (.ref b11), .val (.ref b13), .val (.ref b94_0), .val (.ref b141_0), .val (.ref b145), .unset, .unset] [(.ref b152)])) _
        refine XS.dup X152.here hx rfl (hb hby at_86) rfl rfl ?_
        show Steps p.tables e below (T152.setTop (mkF m 87 #[.val (.int x0), .val (.int x1), .val (.int x2), .val (.int x3), .val (.int fo), .val (.int fc), .val (.ref b11), .val (.ref b13), .val (.ref b94_0), .val (.ref b141_0), .val (.ref b145), .unset, .unset] [(.ref b152), (.ref b152)])) _
        refine st158 _ ?_
        show Steps p.tables e below (T158.setTop (mkF m 89 #[.val (.int x0), .val (.int x1), .val (.int x2), .val (.int x3), .val (.int fo), .val (.int fc), .val (.ref b11), .val (.ref b13), .val (.ref b94_0), .val (.ref b141_0), .val (.ref b145), .unset, .unset] [(.ref a158), (.ref b152), (.ref b152)])) _
        refine XS.iloadN X158.here hx rfl (hb hby at_89) rfl ?_
        show Steps p.tables e below (T158.setTop (mkF m 90 #[.val (.int x0), .val (.int x1), .val (.int x2), .val (.int x3), .val (.int fo), .val (.int fc), .val (.ref b11), .val (.ref b13), .val (.ref b94_0), .val (.ref b141_0), .val (.ref b145), .unset, .unset] [(.int x3), (.ref a158), (.ref b152), (.ref b152)])) _
        refine XS.aload X158.here hx rfl (hb hby at_90) rfl rfl ?_
        show Steps p.tables e below (T158.setTop (mkF m 92 #[.val (.int x0), .val (.int x1), .val (.int x2), .val (.int x3), .val (.int fo), .val (.int fc), .val (.ref b11), .val (.ref b13), .val (.ref b94_0), .val (.ref b141_0), .val (.ref b145), .unset, .unset] [(.ref b141_0), (.int x3), (.ref a158), (.ref b152), (.ref b152)])) _
        refine XS.aload X158.here hx rfl (hb hby at_92) rfl rfl ?_
        show Steps p.tables e below (T158.setTop (mkF m 94 #[.val (.int x0), .val (.int x1), .val (.int x2), .val (.int x3), .val (.int fo), .val (.int fc), .val (.ref b11), .val (.ref b13), .val (.ref b94_0), .val (.ref b141_0), .val (.ref b145), .unset, .unset] [(.ref b94_0), (.ref b141_0), (.int x3), (.ref a158), (.ref b152), (.ref b152)])) _
        refine st164 _ ?_
        show Steps p.tables e below (T164.setTop (mkF m 97 #[.val (.int x0), .val (.int x1), .val (.int x2), .val (.int x3), .val (.int fo), .val (.int fc), .val (.ref b11), .val (.ref b13), .val (.ref b94_0), .val (.ref b141_0), .val (.ref b145), .unset, .unset] [(.ref wE), (.ref b94_0), (.ref b141_0), (.int x3), (.ref a158), (.ref b152), (.ref b152)])) _
        refine st165 _ ?_
        show Steps p.tables e below (T165.setTop (mkF m 100 #[.val (.int x0), .val (.int x1), .val (.int x2), .val (.int x3), .val (.int fo), .val (.int fc), .val (.ref b11), .val (.ref b13), .val (.ref b94_0), .val (.ref b141_0), .val (.ref b145), .unset, .unset] [(.ref wE), (.ref wE), (.ref b94_0), (.ref b141_0), (.int x3), (.ref a158), (.ref b152), (.ref b152)])) _
        refine st166 _ ?_
        show Steps p.tables e below (T166.setTop (mkF m 103 #[.val (.int x0), .val (.int x1), .val (.int x2), .val (.int x3), .val (.int fo), .val (.int fc), .val (.ref b11), .val (.ref b13), .val (.ref b94_0), .val (.ref b141_0), .val (.ref b145), .unset, .unset] [(.ref wE), (.ref wE), (.ref wE), (.ref b94_0), (.ref b141_0), (.int x3), (.ref a158), (.ref b152), (.ref b152)])) _
        refine XS.aload X166.here hx rfl (hb hby at_103) rfl rfl ?_
        show Steps p.tables e below (T166.setTop (mkF m 105 #[.val (.int x0), .val (.int x1), .val (.int x2), .val (.int x3), .val (.int fo), .val (.int fc), .val (.ref b11), .val (.ref b13), .val (.ref b94_0), .val (.ref b141_0), .val (.ref b145), .unset, .unset] [(.ref b145), (.ref wE), (.ref wE), (.ref wE), (.ref b94_0), (.ref b141_0), (.int x3), (.ref a158), (.ref b152), (.ref b152)])) _
        refine st175.trans ?_
        show Steps p.tables e below (T175.setTop (mkF m 108 #[.val (.int x0), .val (.int x1), .val (.int x2), .val (.int x3), .val (.int fo), .val (.int fc), .val (.ref b11), .val (.ref b13), .val (.ref b94_0), .val (.ref b141_0), .val (.ref b145), .unset, .unset] [(.ref b152)])) _
        refine XS.astore X175.here hx rfl (hb hby at_108) rfl rfl (l' := #[.val (.int x0), .val (.int x1), .val (.int x2), .val (.int x3), .val (.int fo), .val (.int fc), .val (.ref b11), .val (.ref b13), .val (.ref b94_0), .val (.ref b141_0), .val (.ref b145), .val (.ref b152), .unset]) rfl ?_
        show Steps p.tables e below (T175.setTop (mkF m 110 #[.val (.int x0), .val (.int x1), .val (.int x2), .val (.int x3), .val (.int fo), .val (.int fc), .val (.ref b11), .val (.ref b13), .val (.ref b94_0), .val (.ref b141_0), .val (.ref b145), .val (.ref b152), .unset] [])) _
        refine XS.aload X175.here hx rfl (hb hby at_110) rfl rfl ?_
        show Steps p.tables e below (T175.setTop (mkF m 112 #[.val (.int x0), .val (.int x1), .val (.int x2), .val (.int x3), .val (.int fo), .val (.int fc), .val (.ref b11), .val (.ref b13), .val (.ref b94_0), .val (.ref b141_0), .val (.ref b145), .val (.ref b152), .unset] [(.ref b152)])) _
        refine st178.trans ?_
        show Steps p.tables e below (T178.setTop (mkF m 115 #[.val (.int x0), .val (.int x1), .val (.int x2), .val (.int x3), .val (.int fo), .val (.int fc), .val (.ref b11), .val (.ref b13), .val (.ref b94_0), .val (.ref b141_0), .val (.ref b145), .val (.ref b152), .unset] [(.ref b94_0)])) _
        refine XS.astore X178.here hx rfl (hb hby at_115) rfl rfl (l' := #[.val (.int x0), .val (.int x1), .val (.int x2), .val (.int x3), .val (.int fo), .val (.int fc), .val (.ref b11), .val (.ref b13), .val (.ref b94_0), .val (.ref b141_0), .val (.ref b145), .val (.ref b152), .val (.ref b94_0)]) rfl ?_
        show Steps p.tables e below (T178.setTop (mkF m 117 #[.val (.int x0), .val (.int x1), .val (.int x2), .val (.int x3), .val (.int fo), .val (.int fc), .val (.ref b11), .val (.ref b13), .val (.ref b94_0), .val (.ref b141_0), .val (.ref b145), .val (.ref b152), .val (.ref b94_0)] [])) _
        refine XS.aload X178.here hx rfl (hb hby at_117) rfl rfl ?_
        show Steps p.tables e below (T178.setTop (mkF m 119 #[.val (.int x0), .val (.int x1), .val (.int x2), .val (.int x3), .val (.int fo), .val (.int fc), .val (.ref b11), .val (.ref b13), .val (.ref b94_0), .val (.ref b141_0), .val (.ref b145), .val (.ref b152), .val (.ref b94_0)] [(.ref b94_0)])) _
        refine XS.ifnonnullYes X178.here hx rfl (pc0 := 119) (pc' := 124) rfl (hb hby at_119) rfl (by decide) (by decide) ?_
        show Steps p.tables e below (T178.setTop (mkF m 124 #[.val (.int x0), .val (.int x1), .val (.int x2), .val (.int x3), .val (.int fo), .val (.int fc), .val (.ref b11), .val (.ref b13), .val (.ref b94_0), .val (.ref b141_0), .val (.ref b145), .val (.ref b152), .val (.ref b94_0)] [])) _
        refine XS.iload X178.here hx rfl (hb hby at_124) rfl ?_
        show Steps p.tables e below (T178.setTop (mkF m 126 #[.val (.int x0), .val (.int x1), .val (.int x2), .val (.int x3), .val (.int fo), .val (.int fc), .val (.ref b11), .val (.ref b13), .val (.ref b94_0), .val (.ref b141_0), .val (.ref b145), .val (.ref b152), .val (.ref b94_0)] [(.int fo)])) _
        refine XS.ifNo X178.here hx rfl (hb hby at_126) rfl ((if0 _ _).trans (feq hc15).1) ?_
        show Steps p.tables e below (T178.setTop (mkF m 129 #[.val (.int x0), .val (.int x1), .val (.int x2), .val (.int x3), .val (.int fo), .val (.int fc), .val (.ref b11), .val (.ref b13), .val (.ref b94_0), .val (.ref b141_0), .val (.ref b145), .val (.ref b152), .val (.ref b94_0)] [])) _
        refine XS.aload X178.here hx rfl (hb hby at_129) rfl rfl ?_
        show Steps p.tables e below (T178.setTop (mkF m 131 #[.val (.int x0), .val (.int x1), .val (.int x2), .val (.int x3), .val (.int fo), .val (.int fc), .val (.ref b11), .val (.ref b13), .val (.ref b94_0), .val (.ref b141_0), .val (.ref b145), .val (.ref b152), .val (.ref b94_0)] [(.ref b94_0)])) _
        refine st180.trans ?_
        show Steps p.tables e below (T180.setTop (mkF m 134 #[.val (.int x0), .val (.int x1), .val (.int x2), .val (.int x3), .val (.int fo), .val (.int fc), .val (.ref b11), .val (.ref b13), .val (.ref b94_0), .val (.ref b141_0), .val (.ref b145), .val (.ref b152), .val (.ref b94_0)] [(.int (1 : Int32))])) _
        refine XS.ifNo X180.here hx rfl (hb hby at_134) rfl ((if0 _ _).trans (feq (by decide : ¬ ((1 : Int32) = (0 : Int32)))).1) ?_
        show Steps p.tables e below (T180.setTop (mkF m 137 #[.val (.int x0), .val (.int x1), .val (.int x2), .val (.int x3), .val (.int fo), .val (.int fc), .val (.ref b11), .val (.ref b13), .val (.ref b94_0), .val (.ref b141_0), .val (.ref b145), .val (.ref b152), .val (.ref b94_0)] [])) _
        refine XS.aload X180.here hx rfl (hb hby at_137) rfl rfl ?_
        show Steps p.tables e below (T180.setTop (mkF m 139 #[.val (.int x0), .val (.int x1), .val (.int x2), .val (.int x3), .val (.int fo), .val (.int fc), .val (.ref b11), .val (.ref b13), .val (.ref b94_0), .val (.ref b141_0), .val (.ref b145), .val (.ref b152), .val (.ref b94_0)] [(.ref b94_0)])) _
        refine st182.trans ?_
        show Steps p.tables e below (T182.setTop (mkF m 142 #[.val (.int x0), .val (.int x1), .val (.int x2), .val (.int x3), .val (.int fo), .val (.int fc), .val (.ref b11), .val (.ref b13), .val (.ref b94_0), .val (.ref b141_0), .val (.ref b145), .val (.ref b152), .val (.ref b94_0)] [(.ref b11)])) _
        refine st184 _ ?_
        show Steps p.tables e below (T184.setTop (mkF m 145 #[.val (.int x0), .val (.int x1), .val (.int x2), .val (.int x3), .val (.int fo), .val (.int fc), .val (.ref b11), .val (.ref b13), .val (.ref b94_0), .val (.ref b141_0), .val (.ref b145), .val (.ref b152), .val (.ref b94_0)] [(.ref b11)])) _
        refine XS.aload X184.here hx rfl (hb hby at_145) rfl rfl ?_
        show Steps p.tables e below (T184.setTop (mkF m 147 #[.val (.int x0), .val (.int x1), .val (.int x2), .val (.int x3), .val (.int fo), .val (.int fc), .val (.ref b11), .val (.ref b13), .val (.ref b94_0), .val (.ref b141_0), .val (.ref b145), .val (.ref b152), .val (.ref b94_0)] [(.ref b11), (.ref b11)])) _
        refine st185.trans ?_
        show Steps p.tables e below (T185.setTop (mkF m 150 #[.val (.int x0), .val (.int x1), .val (.int x2), .val (.int x3), .val (.int fo), .val (.int fc), .val (.ref b11), .val (.ref b13), .val (.ref b94_0), .val (.ref b141_0), .val (.ref b145), .val (.ref b152), .val (.ref b94_0)] [(.int (1 : Int32))])) _
        refine XS.ifNo X185.here hx rfl (hb hby at_150) rfl ((if0 _ _).trans (feq (by decide : ¬ ((1 : Int32) = (0 : Int32)))).1) ?_
        show Steps p.tables e below (T185.setTop (mkF m 153 #[.val (.int x0), .val (.int x1), .val (.int x2), .val (.int x3), .val (.int fo), .val (.int fc), .val (.ref b11), .val (.ref b13), .val (.ref b94_0), .val (.ref b141_0), .val (.ref b145), .val (.ref b152), .val (.ref b94_0)] [])) _
        refine XS.iconst X185.here hx rfl (hb hby at_153) ?_
        show Steps p.tables e below (T185.setTop (mkF m 154 #[.val (.int x0), .val (.int x1), .val (.int x2), .val (.int x3), .val (.int fo), .val (.int fc), .val (.ref b11), .val (.ref b13), .val (.ref b94_0), .val (.ref b141_0), .val (.ref b145), .val (.ref b152), .val (.ref b94_0)] [(.int (1 : Int32))])) _
        refine XS.goto X185.here hx rfl (pc0 := 154) (pc' := 158) rfl (hb hby at_154) (by decide) (by decide) ?_
        show Steps p.tables e below (T185.setTop (mkF m 158 #[.val (.int x0), .val (.int x1), .val (.int x2), .val (.int x3), .val (.int fo), .val (.int fc), .val (.ref b11), .val (.ref b13), .val (.ref b94_0), .val (.ref b141_0), .val (.ref b145), .val (.ref b152), .val (.ref b94_0)] [(.int (1 : Int32))])) _
        exact retN X185 hx (t := .boolean) Bd.returns (by simp) (hb hby at_158) lhr
      · skip
        show Q0 Z x0 x1 x2 x3 G1 wE wD h0 n0 _ T185.heap _
        rw [eq185]
        exact ⟨rfl, N185⟩
      · skip
        show CHr Z own_EL s.vm s.heap T185.vm T185.heap
        rw [hh]
        rw [eq185]
        exact CR178.trans (CHv.at X185 hZ158 hEL CR178.1)
set_option maxRecDepth 65536 in
set_option maxHeartbeats 40000000 in
theorem comes_1 {Post : Tables → Env → Array Value → State → Outcome → State → Prop} (hpost : ∀ tb e args s v u, (limb_1_1.after args s (.returned v) u = true ∧ limb_1_2.after args s (.returned v) u = true ∧ True) → FramedW s (.returned v) u (Jvm.fieldLocs frame_1_writes args s ++ Jvm.arrayLocs frame_1_arrays args s ++ Jvm.staticLocs frame_1_statics s) 40 2240 → Post tb e args s (.returned v) u) :
    ArmFor flags0 classFile x code maxLocals ret World_1 tables_1 room_1 Calls_1 rest_1 Pre_1 Post := by
  intro l hfl _ _ p e ha hc hk s m args below hf hA hF happ hP
  obtain ⟨hcalls, hrest, hpre⟩ := hP
  obtain ⟨-, -, -, hnamed, -, -, -, hat⟩ := (Spec.applies_iff hf).mp happ
  obtain ⟨hg, hn⟩ := and_e (Cond.before_iff.mp (show (Jvm.Cond.and given_1 narrow_1).before args s = true from hpre))
  obtain ⟨g1a, g1b⟩ := and_e hg
  obtain ⟨g2a, g2b⟩ := and_e g1b
  obtain ⟨g3a, g3b⟩ := and_e g2b
  obtain ⟨g4a, g4b⟩ := and_e g3b
  obtain ⟨w0, w1, w2, w3, rfl⟩ : ∃ w0 w1 w2 w3 : Value, args = #[w0, w1, w2, w3] := by
    have hs : args.size = 4 := by simpa [Cond.value, given_1] using g1a
    obtain ⟨L⟩ := args
    match L, hs with
    | [w0, w1, w2, w3], _ => exact ⟨w0, w1, w2, w3, rfl⟩
  have hw := fun d (hd : d ∈ tables_1) => atoms_spec (ws := Jvm.Cond.code x code maxLocals ret :: tables_1) hat d (List.mem_cons_of_mem _ hd)
  have hfit : Fit s := fun {y c} hc i hi => by
    obtain ⟨ha, rfl⟩ := Array.getElem?_eq_some_iff.mp hc
    have q := List.all_eq_true.mp ((Array.all_eq_true_iff_forall_mem.mp hF) _ (Array.getElem_mem ha)) i (List.mem_range.mpr hi)
    simpa [Array.getElem?_eq_getElem hi] using q
  obtain ⟨hsets, hown0⟩ := atoms_of _ (rest_1_c_eq ▸ (show rest_1_c.before _ s = true from hrest))
  have hr0 := Cond.before_iff.mp hown0
  obtain ⟨i0, ei0⟩ := is_v g2a
  obtain rfl : w0 = (.int i0) := Option.some.inj ei0
  obtain ⟨i1, ei1⟩ := is_v g3a
  obtain rfl : w1 = (.int i1) := Option.some.inj ei1
  obtain ⟨i2, ei2⟩ := is_v g4a
  obtain rfl : w2 = (.int i2) := Option.some.inj ei2
  obtain ⟨i3, ei3⟩ := is_v g4b
  obtain rfl : w3 = (.int i3) := Option.some.inj ei3
  obtain ⟨G1, eG1⟩ := is_v (Cond.before_iff.mp (hsets _ (List.mem_of_getElem? (i := 14) rfl)))
  have O2 := Sta.start eG1 (Or.inl (hsets _ (List.mem_of_getElem? (i := 13) rfl)))
  have P5 : ¬ (G1 = (0 : Int32)) := gotF (Cond.eq_ints eG1 (Term.int_eval (0))) (not_v (Cond.before_iff.mp (hsets _ (List.mem_of_getElem? (i := 15) rfl))))
  have hCH : CHv s own_EL s.vm s.heap := CHv.start (own_EW _ s hw) (fun p hp => hcalls.1 p hp) (hsets _ (List.mem_of_getElem? (i := 15) rfl)) (wd19 hw) (wd5 hw)
  obtain ⟨wE, eE⟩ := exa_v (Cond.before_iff.mp (hsets _ (List.mem_of_getElem? (i := 2) rfl)))
  have S_E := Sta.start eE (Or.inr ⟨(wd28 hw), (hsets _ (List.mem_of_getElem? (i := 0) rfl))⟩)
  have E_w := Exa.start eE (Cond.before_iff.mp (hsets _ (List.mem_of_getElem? (i := 2) rfl)))
  have F_w := own_fldNull eE (Cond.before_iff.mp (hsets _ (List.mem_of_getElem? (i := 3) rfl)))
  obtain ⟨wD, eD⟩ := arr_v (Cond.before_iff.mp (hsets _ (List.mem_of_getElem? (i := 10) rfl)))
  have S_D := Sta.start eD (Or.inr ⟨(wd49 hw), (hsets _ (List.mem_of_getElem? (i := 6) rfl))⟩)
  obtain ⟨n, o, h1, h2, h3, _, L, rfl, ⟨rfl, N⟩, -, hq⟩ := rm0 l s _ hw tables_1 i0 i1 i2 i3 G1 wE wD s.heap s.heap.size (Nat.le_refl _) O2 P5 (Old.start s) S_E E_w F_w S_D p e ha hc hk s m _ below hf ((Spec.applies_iff_loose hf).mp happ).1 ⟨rfl, State.Warmed39.refl s, rfl, hCH, fun x hx => by cases hx⟩ trivial
  refine ⟨n, _, h1, h2, h3, hpost _ _ _ _ _ _ ⟨Cond.after_iff.mpr rfl, Cond.after_iff.mpr (eq_i res_at (Term.int_eval (1)) rfl), trivial⟩ ⟨hq.1, hq.2.1, hq.2.2.1, (hq.2.2.2.sift fun y hy => Or.inr (N y hy)).mono (by decide) (by decide)⟩⟩
theorem main_1_1 : Claimed_1_1 := comes_1 fun _ _ _ _ _ _ h hF => ⟨h.1, hF⟩
theorem main_1_2 : Claimed_1_2 := comes_1 fun _ _ _ _ _ _ h hF => ⟨h.2.1, hF⟩
end Jvm.Pilot.@@N@@
namespace Jvm.Pilot.@@N@@
open Jvm Jvm.ClassFile Sem Op Lib Jvm.Free Jvm.Stand Jvm.Pilot.@@N@@.Jvm.D
/-! MADE BY PROGRAM (witnessworld.py) out of the Statement's table words and the real class files: 34 classes; the members and pool entries that the words name. The judged class is class 1, her method 2. -/
namespace start1
open Jvm.ClassFile
def u (s : String) : CpInfo := .utf8 (stringToUtf16 s)
/-- a pool by its gaps: so many unusable entries, then the entry; so many at the end -/
def gap : Nat → List CpInfo → List CpInfo
  | 0, r => r
  | n + 1, r => .unusable :: gap n r
def poolList (es : List (Nat × CpInfo)) (last : Nat) : List CpInfo := es.foldr (fun e r => gap e.1 (e.2 :: r)) (gap last [])
def pool (es : List (Nat × CpInfo)) (last : Nat) : Array CpInfo := ⟨poolList es last⟩
def fileOf (pool : Array CpInfo) (this : Nat) (attrs : Array Attribute := #[]) (ms : Array MethodInfo := #[]) (fl : Nat := 33) (sup : Nat := 0) (ifs : Array Nat := #[]) (fds : Array FieldInfo := #[]) : ClassFile where
  minorVersion := 0
  majorVersion := 65
  constantPool := pool
  accessFlags := fl
  thisClass := this
  superClass := sup
  interfaces := ifs
  fields := fds
  methods := ms
  attributes := attrs
def plain (name : String) (sup : Option ClassId) : Class where
  name := name
  kind := .ordinary
  loader := none
  accessFlags := 33
  super := sup
  interfaces := #[]
  cf := none
  fields := #[]
  methods := #[]
  instanceTypes := #[]
  staticTypes := #[]
  resolved := #[]
  callSites := []
  init := .initialized
  statics := none
  mirror := none

def pool0 : Array CpInfo := pool [(5, u "<init>"), (0, u "()V"), (1, .class_ 10), (1, u "java/lang/Object")] 113

def k0c0 : Code := { maxStack := 0, maxLocals := 1, code := object_method_1_code, exceptionTable := #[], attributes := #[] }
def k0m0 : Method := { name := "<init>", desc := "()V", sig := { parameters := [], returnType := none }, accessFlags := 1, code := some k0c0 }
/-- java/lang/Object -/
def k0 : Class := { plain "java/lang/Object" none with
  accessFlags := 33
  interfaces := #[]
  cf := some (fileOf pool0 8 #[] #[{ accessFlags := 1, nameIndex := 5, descriptorIndex := 6, attributes := #[] }] 33 0 #[] #[])
  fields := #[]
  methods := #[k0m0]
  instanceTypes := #[]
  staticTypes := #[]
  resolved := Array.replicate 124 none
  statics := none }

def pool1 : Array CpInfo := pool [(2, .class_ 4), (0, .nameAndType 5 6), (0, u "java/lang/Object"), (0, u "<init>"), (0, u "()V"), (0, .class_ 8), (0, u "java/lang/String"), (0, .methodref 7 10), (0, .nameAndType 5 11), (0, u "([C)V"), (0, .methodref 13 14), (0, .class_ 15), (0, .nameAndType 16 17), (0, u "com/example/typed_api_errors/typedapierrors/error/OccurrenceMessagePinLaw"), (0, u "str"), (0, u "(I)Ljava/lang/String;"), (0, .methodref 19 20), (0, .class_ 21), (0, .nameAndType 22 23), (0, u "java/util/Optional"), (0, u "of"), (0, u "(Ljava/lang/Object;)Ljava/util/Optional;"), (0, .methodref 19 25), (0, .nameAndType 26 27), (0, u "empty"), (0, u "()Ljava/util/Optional;"), (0, .class_ 29), (0, u "java/util/ArrayList"), (0, .methodref 28 3), (0, .class_ 32), (0, u "com/example/typed_api_errors/typedapierrors/error/Occurrence"), (0, .string 34), (0, u "c"), (0, .methodref 31 36), (0, .nameAndType 5 37), (0, u "(Ljava/lang/String;ILjava/util/Optional;Ljava/util/Optional;Ljava/util/Optional;Ljava/util/Optional;Ljava/util/Optional;Ljava/util/List;)V"), (0, .methodref 31 39), (0, .nameAndType 40 27), (0, u "message"), (0, .methodref 19 42), (0, .nameAndType 43 44), (0, u "isPresent"), (0, u "()Z"), (0, .methodref 19 46), (0, .nameAndType 47 48), (0, u "get"), (0, u "()Ljava/lang/Object;"), (0, .methodref 7 50), (0, .nameAndType 51 52), (0, u "equals"), (0, u "(Ljava/lang/Object;)Z"), (3, u "law"), (0, u "(IIII)Z")] 4

def k1m0 : Method := { name := "<init>", desc := "()V", sig := { parameters := [], returnType := none }, accessFlags := 2, code := none }
def k1c1 : Code := { maxStack := 6, maxLocals := 5, code := method_2_code, exceptionTable := #[], attributes := #[] }
def k1m1 : Method := { name := "str", desc := "(I)Ljava/lang/String;", sig := { parameters := [.int], returnType := some (.object "java/lang/String") }, accessFlags := 10, code := some k1c1 }
def k1c2 : Code := { maxStack := 10, maxLocals := 13, code := code, exceptionTable := #[], attributes := #[] }
def k1m2 : Method := { name := "law", desc := "(IIII)Z", sig := { parameters := [.int, .int, .int, .int], returnType := some .boolean }, accessFlags := 9, code := some k1c2 }
/-- com/example/typed_api_errors/typedapierrors/error/OccurrenceMessagePinLaw -/
def k1 : Class := { plain "com/example/typed_api_errors/typedapierrors/error/OccurrenceMessagePinLaw" (some 0) with
  accessFlags := 49
  interfaces := #[]
  cf := some (fileOf pool1 13 #[] #[{ accessFlags := 2, nameIndex := 5, descriptorIndex := 6, attributes := #[] }, { accessFlags := 10, nameIndex := 16, descriptorIndex := 17, attributes := #[] }, { accessFlags := 9, nameIndex := 56, descriptorIndex := 57, attributes := #[] }] 49 2 #[] #[])
  fields := #[]
  methods := #[k1m0, k1m1, k1m2]
  instanceTypes := #[]
  staticTypes := #[]
  resolved := Array.replicate 62 none
  statics := none }

def pool2 : Array CpInfo := pool [(1, .class_ 2), (0, u "java/io/Serializable"), (0, .class_ 4), (0, u "java/lang/Object")] 2

/-- java/io/Serializable -/
def k2 : Class := { plain "java/io/Serializable" (some 0) with
  accessFlags := 1537
  interfaces := #[]
  cf := some (fileOf pool2 1 #[] #[] 1537 3 #[] #[])
  fields := #[]
  methods := #[]
  instanceTypes := #[]
  staticTypes := #[]
  resolved := Array.replicate 7 none
  statics := none }

def pool3 : Array CpInfo := pool [(1, .class_ 2), (0, u "java/lang/Comparable"), (0, .class_ 4), (0, u "java/lang/Object")] 7

/-- java/lang/Comparable -/
def k3 : Class := { plain "java/lang/Comparable" (some 0) with
  accessFlags := 1537
  interfaces := #[]
  cf := some (fileOf pool3 1 #[] #[] 1537 3 #[] #[])
  fields := #[]
  methods := #[]
  instanceTypes := #[]
  staticTypes := #[]
  resolved := Array.replicate 12 none
  statics := none }

def pool4 : Array CpInfo := pool [(2, .class_ 4), (1, u "java/lang/CharSequence"), (42, .class_ 48), (0, u "java/lang/CharSequence$1CodePointIterator"), (10, .class_ 60), (0, u "java/lang/CharSequence$1CharIterator"), (5, .class_ 67), (0, u "java/lang/Object")] 63

/-- java/lang/CharSequence -/
def k4 : Class := { plain "java/lang/CharSequence" (some 0) with
  accessFlags := 1537
  interfaces := #[]
  cf := some (fileOf pool4 2 #[.nestMembers #[47, 59]] #[] 1537 66 #[] #[])
  fields := #[]
  methods := #[]
  instanceTypes := #[]
  staticTypes := #[]
  resolved := Array.replicate 131 none
  statics := none }

def pool5 : Array CpInfo := pool [(1, .class_ 2), (0, u "java/lang/constant/Constable"), (0, .class_ 4), (0, u "java/lang/Object")] 6

/-- java/lang/constant/Constable -/
def k5 : Class := { plain "java/lang/constant/Constable" (some 0) with
  accessFlags := 1537
  interfaces := #[]
  cf := some (fileOf pool5 1 #[] #[] 1537 3 #[] #[])
  fields := #[]
  methods := #[]
  instanceTypes := #[]
  staticTypes := #[]
  resolved := Array.replicate 11 none
  statics := none }

def pool6 : Array CpInfo := pool [(1, .class_ 2), (0, u "java/lang/constant/ConstantDesc"), (0, .class_ 4), (0, u "java/lang/Object")] 32

/-- java/lang/constant/ConstantDesc -/
def k6 : Class := { plain "java/lang/constant/ConstantDesc" (some 0) with
  accessFlags := 1537
  interfaces := #[]
  cf := some (fileOf pool6 1 #[] #[] 1537 3 #[] #[])
  fields := #[]
  methods := #[]
  instanceTypes := #[]
  staticTypes := #[]
  resolved := Array.replicate 37 none
  statics := none }

def pool7 : Array CpInfo := pool [(1, .methodref 2 3), (0, .class_ 4), (0, .nameAndType 5 6), (0, u "java/lang/Object"), (0, u "<init>"), (0, u "()V"), (0, .string 8), (0, u ""), (0, .fieldref 10 11), (0, .class_ 12), (0, .nameAndType 13 14), (0, u "java/lang/String"), (0, u "value"), (0, u "[B"), (0, .fieldref 10 16), (0, .nameAndType 17 18), (0, u "coder"), (0, u "B"), (2, u "hash"), (0, u "I"), (2, u "hashIsZero"), (0, u "Z"), (0, .methodref 10 28), (0, .nameAndType 5 29), (0, u "([CIILjava/lang/Void;)V"), (8, .fieldref 10 39), (0, .nameAndType 40 26), (0, u "COMPACT_STRINGS"), (1, .class_ 44), (1, u "java/lang/StringUTF16"), (0, u "compress"), (1, .methodref 42 48), (0, .nameAndType 49 50), (0, u "coderFromArrayLen"), (0, u "([BI)B"), (126, .methodref 42 178), (0, .nameAndType 45 179), (0, u "([CII)[B"), (363, u "equals"), (29, u "(Ljava/lang/Object;)Z"), (1, .class_ 576), (0, u "java/lang/CharSequence"), (22, u "CASE_INSENSITIVE_ORDER"), (0, u "Ljava/util/Comparator;"), (409, u "([C)V"), (90, u "serialPersistentFields"), (0, u "[Ljava/io/ObjectStreamField;"), (0, .class_ 1104), (0, u "java/lang/String$CaseInsensitiveComparator"), (1, .class_ 1107), (0, u "java/io/Serializable"), (0, .class_ 1109), (0, u "java/lang/Comparable"), (0, .class_ 1111), (0, u "java/lang/constant/Constable"), (0, .class_ 1113), (0, u "java/lang/constant/ConstantDesc"), (2, u "serialVersionUID"), (0, u "J"), (3, u "REPL"), (0, u "C"), (2, u "LATIN1"), (1, u "UTF16")] 323

def k7m0 : Method := { name := "<init>", desc := "()V", sig := { parameters := [], returnType := none }, accessFlags := 1, code := none }
def k7c1 : Code := { maxStack := 5, maxLocals := 2, code := jdk_42_method_3_code, exceptionTable := #[], attributes := #[] }
def k7m1 : Method := { name := "<init>", desc := "([C)V", sig := { parameters := [(.array .char)], returnType := none }, accessFlags := 1, code := some k7c1 }
def k7c2 : Code := { maxStack := 2, maxLocals := 3, code := jdk_42_method_66_code, exceptionTable := #[], attributes := #[] }
def k7m2 : Method := { name := "equals", desc := "(Ljava/lang/Object;)Z", sig := { parameters := [(.object "java/lang/Object")], returnType := some .boolean }, accessFlags := 1, code := some k7c2 }
def k7c3 : Code := { maxStack := 4, maxLocals := 6, code := jdk_42_method_149_code, exceptionTable := #[], attributes := #[] }
def k7m3 : Method := { name := "<init>", desc := "([CIILjava/lang/Void;)V", sig := { parameters := [(.array .char), .int, .int, (.object "java/lang/Void")], returnType := none }, accessFlags := 2, code := some k7c3 }
/-- java/lang/String -/
def k7 : Class := { plain "java/lang/String" (some 0) with
  accessFlags := 49
  interfaces := #[2, 3, 4, 5, 6]
  cf := some (fileOf pool7 10 #[.nestMembers #[1103]] #[{ accessFlags := 1, nameIndex := 5, descriptorIndex := 6, attributes := #[] }, { accessFlags := 1, nameIndex := 5, descriptorIndex := 1010, attributes := #[] }, { accessFlags := 1, nameIndex := 543, descriptorIndex := 573, attributes := #[] }, { accessFlags := 2, nameIndex := 5, descriptorIndex := 29, attributes := #[] }] 49 2 #[1106, 1108, 575, 1110, 1112] #[{ accessFlags := 18, nameIndex := 13, descriptorIndex := 14, attributes := #[] }, { accessFlags := 18, nameIndex := 17, descriptorIndex := 18, attributes := #[] }, { accessFlags := 2, nameIndex := 21, descriptorIndex := 22, attributes := #[] }, { accessFlags := 2, nameIndex := 25, descriptorIndex := 26, attributes := #[] }, { accessFlags := 26, nameIndex := 1116, descriptorIndex := 1117, attributes := #[] }, { accessFlags := 24, nameIndex := 40, descriptorIndex := 26, attributes := #[] }, { accessFlags := 26, nameIndex := 1101, descriptorIndex := 1102, attributes := #[] }, { accessFlags := 26, nameIndex := 1121, descriptorIndex := 1122, attributes := #[] }, { accessFlags := 25, nameIndex := 599, descriptorIndex := 600, attributes := #[] }, { accessFlags := 24, nameIndex := 1125, descriptorIndex := 18, attributes := #[] }, { accessFlags := 24, nameIndex := 1127, descriptorIndex := 18, attributes := #[] }])
  fields := #[{ name := "value", type := (.array .byte), accessFlags := 18, slot := 0, constantValue := 0 }, { name := "coder", type := .byte, accessFlags := 18, slot := 1, constantValue := 0 }, { name := "hash", type := .int, accessFlags := 2, slot := 2, constantValue := 0 }, { name := "hashIsZero", type := .boolean, accessFlags := 2, slot := 3, constantValue := 0 }, { name := "serialVersionUID", type := .long, accessFlags := 26, slot := 0, constantValue := 0 }, { name := "COMPACT_STRINGS", type := .boolean, accessFlags := 24, slot := 1, constantValue := 0 }, { name := "serialPersistentFields", type := (.array (.object "java/io/ObjectStreamField")), accessFlags := 26, slot := 2, constantValue := 0 }, { name := "REPL", type := .char, accessFlags := 26, slot := 3, constantValue := 0 }, { name := "CASE_INSENSITIVE_ORDER", type := (.object "java/util/Comparator"), accessFlags := 25, slot := 4, constantValue := 0 }, { name := "LATIN1", type := .byte, accessFlags := 24, slot := 5, constantValue := 0 }, { name := "UTF16", type := .byte, accessFlags := 24, slot := 6, constantValue := 0 }]
  methods := #[k7m0, k7m1, k7m2, k7m3]
  instanceTypes := #[(.array .byte), .byte, .int, .boolean]
  staticTypes := #[.long, .boolean, (.array (.object "java/io/ObjectStreamField")), .char, (.object "java/util/Comparator"), .byte, .byte]
  resolved := Array.replicate 1451 none
  statics := some 0 }

def pool8 : Array CpInfo := pool [(1, .fieldref 2 3), (0, .class_ 4), (0, .nameAndType 5 6), (0, u "java/util/Optional"), (0, u "EMPTY"), (0, u "Ljava/util/Optional;"), (0, .methodref 8 9), (0, .class_ 10), (0, .nameAndType 11 12), (0, u "java/lang/Object"), (0, u "<init>"), (0, u "()V"), (0, .fieldref 2 14), (0, .nameAndType 15 16), (0, u "value"), (0, u "Ljava/lang/Object;"), (0, .methodref 18 19), (0, .class_ 20), (0, .nameAndType 21 22), (0, u "java/util/Objects"), (0, u "requireNonNull"), (0, u "(Ljava/lang/Object;)Ljava/lang/Object;"), (0, .methodref 2 24), (0, .nameAndType 11 25), (0, u "(Ljava/lang/Object;)V"), (20, u "()Z"), (8, u "empty"), (0, u "()Ljava/util/Optional;"), (8, u "(Ljava/lang/Object;)Ljava/util/Optional;"), (0, .methodref 2 67), (0, .nameAndType 68 46), (0, u "isPresent"), (0, .interfaceMethodref 70 71), (0, .class_ 72), (0, .nameAndType 73 74), (0, u "java/util/function/Supplier"), (0, u "get"), (0, u "()Ljava/lang/Object;"), (7, u "of"), (74, u "or"), (0, u "(Ljava/util/function/Supplier;)Ljava/util/Optional;")] 28

def k8c0 : Code := { maxStack := 1, maxLocals := 1, code := jdk_32_method_1_code, exceptionTable := #[], attributes := #[] }
def k8m0 : Method := { name := "empty", desc := "()Ljava/util/Optional;", sig := { parameters := [], returnType := some (.object "java/util/Optional") }, accessFlags := 9, code := some k8c0 }
def k8c1 : Code := { maxStack := 2, maxLocals := 2, code := jdk_32_method_2_code, exceptionTable := #[], attributes := #[] }
def k8m1 : Method := { name := "<init>", desc := "(Ljava/lang/Object;)V", sig := { parameters := [(.object "java/lang/Object")], returnType := none }, accessFlags := 2, code := some k8c1 }
def k8c2 : Code := { maxStack := 3, maxLocals := 1, code := jdk_32_method_3_code, exceptionTable := #[], attributes := #[] }
def k8m2 : Method := { name := "of", desc := "(Ljava/lang/Object;)Ljava/util/Optional;", sig := { parameters := [(.object "java/lang/Object")], returnType := some (.object "java/util/Optional") }, accessFlags := 9, code := some k8c2 }
def k8c3 : Code := { maxStack := 3, maxLocals := 1, code := jdk_32_method_5_code, exceptionTable := #[], attributes := #[] }
def k8m3 : Method := { name := "get", desc := "()Ljava/lang/Object;", sig := { parameters := [], returnType := some (.object "java/lang/Object") }, accessFlags := 1, code := some k8c3 }
def k8c4 : Code := { maxStack := 1, maxLocals := 1, code := jdk_32_method_6_code, exceptionTable := #[], attributes := #[] }
def k8m4 : Method := { name := "isPresent", desc := "()Z", sig := { parameters := [], returnType := some .boolean }, accessFlags := 1, code := some k8c4 }
def k8c5 : Code := { maxStack := 1, maxLocals := 3, code := jdk_32_method_13_code, exceptionTable := #[], attributes := #[] }
def k8m5 : Method := { name := "or", desc := "(Ljava/util/function/Supplier;)Ljava/util/Optional;", sig := { parameters := [(.object "java/util/function/Supplier")], returnType := some (.object "java/util/Optional") }, accessFlags := 1, code := some k8c5 }
/-- java/util/Optional -/
def k8 : Class := { plain "java/util/Optional" (some 0) with
  accessFlags := 49
  interfaces := #[]
  cf := some (fileOf pool8 2 #[] #[{ accessFlags := 9, nameIndex := 55, descriptorIndex := 56, attributes := #[] }, { accessFlags := 2, nameIndex := 11, descriptorIndex := 25, attributes := #[] }, { accessFlags := 9, nameIndex := 82, descriptorIndex := 65, attributes := #[] }, { accessFlags := 1, nameIndex := 73, descriptorIndex := 74, attributes := #[] }, { accessFlags := 1, nameIndex := 68, descriptorIndex := 46, attributes := #[] }, { accessFlags := 1, nameIndex := 157, descriptorIndex := 158, attributes := #[] }] 49 8 #[] #[{ accessFlags := 26, nameIndex := 5, descriptorIndex := 6, attributes := #[] }, { accessFlags := 18, nameIndex := 15, descriptorIndex := 16, attributes := #[] }])
  fields := #[{ name := "EMPTY", type := (.object "java/util/Optional"), accessFlags := 26, slot := 0, constantValue := 0 }, { name := "value", type := (.object "java/lang/Object"), accessFlags := 18, slot := 0, constantValue := 0 }]
  methods := #[k8m0, k8m1, k8m2, k8m3, k8m4, k8m5]
  instanceTypes := #[(.object "java/lang/Object")]
  staticTypes := #[(.object "java/util/Optional")]
  resolved := Array.replicate 187 none
  statics := some 1 }

def pool9 : Array CpInfo := pool [(2, .class_ 4), (1, u "java/lang/Object"), (0, u "<init>"), (0, u "()V"), (35, .class_ 44), (1, u "java/util/Objects"), (0, u "requireNonNull"), (0, u "(Ljava/lang/Object;)Ljava/lang/Object;")] 137

def k9m0 : Method := { name := "<init>", desc := "()V", sig := { parameters := [], returnType := none }, accessFlags := 2, code := none }
def k9c1 : Code := { maxStack := 2, maxLocals := 1, code := jdk_31_method_10_code, exceptionTable := #[], attributes := #[] }
def k9m1 : Method := { name := "requireNonNull", desc := "(Ljava/lang/Object;)Ljava/lang/Object;", sig := { parameters := [(.object "java/lang/Object")], returnType := some (.object "java/lang/Object") }, accessFlags := 9, code := some k9c1 }
/-- java/util/Objects -/
def k9 : Class := { plain "java/util/Objects" (some 0) with
  accessFlags := 49
  interfaces := #[]
  cf := some (fileOf pool9 42 #[] #[{ accessFlags := 2, nameIndex := 5, descriptorIndex := 6, attributes := #[] }, { accessFlags := 9, nameIndex := 45, descriptorIndex := 46, attributes := #[] }] 49 2 #[] #[])
  fields := #[]
  methods := #[k9m0, k9m1]
  instanceTypes := #[]
  staticTypes := #[]
  resolved := Array.replicate 184 none
  statics := none }

def pool10 : Array CpInfo := pool [(8, .class_ 10), (1, u "java/lang/Iterable"), (24, .class_ 36), (0, u "java/lang/Object")] 25

/-- java/lang/Iterable -/
def k10 : Class := { plain "java/lang/Iterable" (some 0) with
  accessFlags := 1537
  interfaces := #[]
  cf := some (fileOf pool10 8 #[] #[] 1537 35 #[] #[])
  fields := #[]
  methods := #[]
  instanceTypes := #[]
  staticTypes := #[]
  resolved := Array.replicate 62 none
  statics := none }

def pool11 : Array CpInfo := pool [(10, .class_ 12), (1, u "java/util/Collection"), (47, .class_ 61), (0, u "java/lang/Object"), (0, .class_ 63), (0, u "java/lang/Iterable")] 51

/-- java/util/Collection -/
def k11 : Class := { plain "java/util/Collection" (some 0) with
  accessFlags := 1537
  interfaces := #[10]
  cf := some (fileOf pool11 10 #[] #[] 1537 60 #[62] #[])
  fields := #[]
  methods := #[]
  instanceTypes := #[]
  staticTypes := #[]
  resolved := Array.replicate 115 none
  statics := none }

def pool12 : Array CpInfo := pool [(1, .methodref 2 3), (0, .class_ 4), (0, .nameAndType 5 6), (0, u "java/lang/Object"), (0, u "<init>"), (0, u "()V"), (1, .class_ 10), (1, u "java/util/AbstractCollection"), (66, .class_ 78), (0, u "java/util/Collection")] 81

def k12c0 : Code := { maxStack := 1, maxLocals := 1, code := jdk_22_method_1_code, exceptionTable := #[], attributes := #[] }
def k12m0 : Method := { name := "<init>", desc := "()V", sig := { parameters := [], returnType := none }, accessFlags := 4, code := some k12c0 }
/-- java/util/AbstractCollection -/
def k12 : Class := { plain "java/util/AbstractCollection" (some 0) with
  accessFlags := 1057
  interfaces := #[11]
  cf := some (fileOf pool12 8 #[] #[{ accessFlags := 4, nameIndex := 5, descriptorIndex := 6, attributes := #[] }] 1057 2 #[77] #[])
  fields := #[]
  methods := #[k12m0]
  instanceTypes := #[]
  staticTypes := #[]
  resolved := Array.replicate 160 none
  statics := none }

def pool13 : Array CpInfo := pool [(8, .class_ 10), (1, u "java/util/SequencedCollection"), (15, .class_ 27), (0, u "java/lang/Object"), (0, .class_ 29), (0, u "java/util/Collection")] 27

/-- java/util/SequencedCollection -/
def k13 : Class := { plain "java/util/SequencedCollection" (some 0) with
  accessFlags := 1537
  interfaces := #[11]
  cf := some (fileOf pool13 8 #[] #[] 1537 26 #[28] #[])
  fields := #[]
  methods := #[]
  instanceTypes := #[]
  staticTypes := #[]
  resolved := Array.replicate 57 none
  statics := none }

def pool14 : Array CpInfo := pool [(8, .class_ 10), (1, u "java/util/List"), (92, .class_ 104), (0, u "java/lang/Object"), (15, .class_ 121), (0, u "java/util/SequencedCollection")] 129

/-- java/util/List -/
def k14 : Class := { plain "java/util/List" (some 0) with
  accessFlags := 1537
  interfaces := #[13]
  cf := some (fileOf pool14 8 #[] #[] 1537 103 #[120] #[])
  fields := #[]
  methods := #[]
  instanceTypes := #[]
  staticTypes := #[]
  resolved := Array.replicate 251 none
  statics := none }

def pool15 : Array CpInfo := pool [(1, .methodref 2 3), (0, .class_ 4), (0, .nameAndType 5 6), (0, u "java/util/AbstractCollection"), (0, u "<init>"), (0, u "()V"), (0, .fieldref 8 9), (0, .class_ 10), (0, .nameAndType 11 12), (0, u "java/util/AbstractList"), (0, u "modCount"), (0, u "I"), (64, .class_ 78), (0, u "java/util/AbstractList$Itr"), (3, .class_ 83), (0, u "java/util/AbstractList$ListItr"), (9, .class_ 94), (0, u "java/util/AbstractList$RandomAccessSubList"), (3, .class_ 99), (0, u "java/util/AbstractList$SubList"), (33, .class_ 134), (0, u "java/util/List"), (73, .class_ 209), (0, u "java/util/AbstractList$SubList$1"), (0, .class_ 211), (0, u "java/util/AbstractList$RandomAccessSpliterator")] 6

def k15c0 : Code := { maxStack := 2, maxLocals := 1, code := jdk_39_method_1_code, exceptionTable := #[], attributes := #[] }
def k15m0 : Method := { name := "<init>", desc := "()V", sig := { parameters := [], returnType := none }, accessFlags := 4, code := some k15c0 }
/-- java/util/AbstractList -/
def k15 : Class := { plain "java/util/AbstractList" (some 12) with
  accessFlags := 1057
  interfaces := #[14]
  cf := some (fileOf pool15 8 #[.nestMembers #[93, 98, 208, 210, 82, 77]] #[{ accessFlags := 4, nameIndex := 5, descriptorIndex := 6, attributes := #[] }] 1057 2 #[133] #[{ accessFlags := 132, nameIndex := 11, descriptorIndex := 12, attributes := #[] }])
  fields := #[{ name := "modCount", type := .int, accessFlags := 132, slot := 0, constantValue := 0 }]
  methods := #[k15m0]
  instanceTypes := #[.int]
  staticTypes := #[]
  resolved := Array.replicate 218 none
  statics := none }

def pool16 : Array CpInfo := pool [(1, .class_ 2), (0, u "java/util/RandomAccess"), (0, .class_ 4), (0, u "java/lang/Object")] 2

/-- java/util/RandomAccess -/
def k16 : Class := { plain "java/util/RandomAccess" (some 0) with
  accessFlags := 1537
  interfaces := #[]
  cf := some (fileOf pool16 1 #[] #[] 1537 3 #[] #[])
  fields := #[]
  methods := #[]
  instanceTypes := #[]
  staticTypes := #[]
  resolved := Array.replicate 7 none
  statics := none }

def pool17 : Array CpInfo := pool [(1, .class_ 2), (0, u "java/lang/Cloneable"), (0, .class_ 4), (0, u "java/lang/Object")] 2

/-- java/lang/Cloneable -/
def k17 : Class := { plain "java/lang/Cloneable" (some 0) with
  accessFlags := 1537
  interfaces := #[]
  cf := some (fileOf pool17 1 #[] #[] 1537 3 #[] #[])
  fields := #[]
  methods := #[]
  instanceTypes := #[]
  staticTypes := #[]
  resolved := Array.replicate 7 none
  statics := none }

def pool18 : Array CpInfo := pool [(1, .methodref 2 3), (0, .class_ 4), (0, .nameAndType 5 6), (0, u "java/util/AbstractList"), (0, u "<init>"), (0, u "()V"), (2, .fieldref 10 11), (0, .class_ 12), (0, .nameAndType 13 14), (0, u "java/util/ArrayList"), (0, u "elementData"), (0, u "[Ljava/lang/Object;"), (2, u "EMPTY_ELEMENTDATA"), (21, .fieldref 10 40), (0, .nameAndType 41 14), (0, u "DEFAULTCAPACITY_EMPTY_ELEMENTDATA"), (8, u "size"), (0, u "I"), (96, .class_ 149), (0, u "java/util/List"), (112, .class_ 263), (0, u "java/util/ArrayList$ListItr"), (3, .class_ 268), (0, u "java/util/ArrayList$Itr"), (7, .class_ 277), (0, u "java/util/ArrayList$SubList"), (12, .class_ 291), (0, u "java/util/ArrayList$ArrayListSpliterator"), (37, .class_ 330), (0, u "java/util/RandomAccess"), (0, .class_ 332), (0, u "java/lang/Cloneable"), (0, .class_ 334), (0, u "java/io/Serializable"), (0, u "serialVersionUID"), (0, u "J"), (3, u "DEFAULT_CAPACITY"), (159, .class_ 501), (0, u "java/util/ArrayList$SubList$2"), (0, .class_ 503), (0, u "java/util/ArrayList$SubList$1")] 5

def k18c0 : Code := { maxStack := 2, maxLocals := 1, code := jdk_38_method_2_code, exceptionTable := #[], attributes := #[] }
def k18m0 : Method := { name := "<init>", desc := "()V", sig := { parameters := [], returnType := none }, accessFlags := 1, code := some k18c0 }
/-- java/util/ArrayList -/
def k18 : Class := { plain "java/util/ArrayList" (some 15) with
  accessFlags := 33
  interfaces := #[14, 16, 17, 2]
  cf := some (fileOf pool18 10 #[.nestMembers #[290, 276, 500, 502, 262, 267]] #[{ accessFlags := 1, nameIndex := 5, descriptorIndex := 6, attributes := #[] }] 33 2 #[148, 329, 331, 333] #[{ accessFlags := 26, nameIndex := 335, descriptorIndex := 336, attributes := #[] }, { accessFlags := 26, nameIndex := 340, descriptorIndex := 51, attributes := #[] }, { accessFlags := 26, nameIndex := 17, descriptorIndex := 14, attributes := #[] }, { accessFlags := 26, nameIndex := 41, descriptorIndex := 14, attributes := #[] }, { accessFlags := 128, nameIndex := 13, descriptorIndex := 14, attributes := #[] }, { accessFlags := 2, nameIndex := 50, descriptorIndex := 51, attributes := #[] }])
  fields := #[{ name := "serialVersionUID", type := .long, accessFlags := 26, slot := 0, constantValue := 0 }, { name := "DEFAULT_CAPACITY", type := .int, accessFlags := 26, slot := 1, constantValue := 0 }, { name := "EMPTY_ELEMENTDATA", type := (.array (.object "java/lang/Object")), accessFlags := 26, slot := 2, constantValue := 0 }, { name := "DEFAULTCAPACITY_EMPTY_ELEMENTDATA", type := (.array (.object "java/lang/Object")), accessFlags := 26, slot := 3, constantValue := 0 }, { name := "elementData", type := (.array (.object "java/lang/Object")), accessFlags := 128, slot := 1, constantValue := 0 }, { name := "size", type := .int, accessFlags := 2, slot := 2, constantValue := 0 }]
  methods := #[k18m0]
  instanceTypes := #[.int, (.array (.object "java/lang/Object")), .int]
  staticTypes := #[.long, .int, (.array (.object "java/lang/Object")), (.array (.object "java/lang/Object"))]
  resolved := Array.replicate 509 none
  statics := some 2 }

def pool19 : Array CpInfo := pool [(1, .methodref 2 3), (0, .class_ 4), (0, .nameAndType 5 6), (0, u "java/lang/Object"), (0, u "<init>"), (0, u "()V"), (0, .class_ 8), (0, u "java/lang/Record")] 13

def k19c0 : Code := { maxStack := 1, maxLocals := 1, code := jdk_30_method_1_code, exceptionTable := #[], attributes := #[] }
def k19m0 : Method := { name := "<init>", desc := "()V", sig := { parameters := [], returnType := none }, accessFlags := 4, code := some k19c0 }
/-- java/lang/Record -/
def k19 : Class := { plain "java/lang/Record" (some 0) with
  accessFlags := 1057
  interfaces := #[]
  cf := some (fileOf pool19 7 #[] #[{ accessFlags := 4, nameIndex := 5, descriptorIndex := 6, attributes := #[] }] 1057 2 #[] #[])
  fields := #[]
  methods := #[k19m0]
  instanceTypes := #[]
  staticTypes := #[]
  resolved := Array.replicate 22 none
  statics := none }

def pool20 : Array CpInfo := pool [(1, .methodref 2 3), (0, .class_ 4), (0, .nameAndType 5 6), (0, u "java/lang/Record"), (0, u "<init>"), (0, u "()V"), (0, .fieldref 8 9), (0, .class_ 10), (0, .nameAndType 11 12), (0, u "com/example/typed_api_errors/typedapierrors/error/Occurrence"), (0, u "code"), (0, u "Ljava/lang/String;"), (0, .fieldref 8 14), (0, .nameAndType 15 16), (0, u "status"), (0, u "I"), (0, .fieldref 8 18), (0, .nameAndType 19 20), (0, u "catalogueMessage"), (0, u "Ljava/util/Optional;"), (0, .fieldref 8 22), (0, .nameAndType 23 20), (0, u "ownMessage"), (0, .fieldref 8 25), (0, .nameAndType 26 20), (0, u "trace"), (0, .fieldref 8 28), (0, .nameAndType 29 20), (0, u "moreInfo"), (0, .fieldref 8 31), (0, .nameAndType 32 20), (0, u "target"), (0, .fieldref 8 34), (0, .nameAndType 35 36), (0, u "details"), (0, u "Ljava/util/List;"), (0, .invokeDynamic 0 38), (0, .nameAndType 39 40), (0, u "get"), (0, u "(Lcom/example/typed_api_errors/typedapierrors/error/Occurrence;)Ljava/util/function/Supplier;"), (0, .methodref 42 43), (0, .class_ 44), (0, .nameAndType 45 46), (0, u "java/util/Optional"), (0, u "or"), (0, u "(Ljava/util/function/Supplier;)Ljava/util/Optional;"), (14, u "message"), (27, u "(Ljava/lang/String;ILjava/util/Optional;Ljava/util/Optional;Ljava/util/Optional;Ljava/util/Optional;Ljava/util/Optional;Ljava/util/List;)V"), (4, u "()Ljava/util/Optional;"), (10, u "lambda$message$0"), (4, .methodType 111), (0, u "()Ljava/lang/Object;"), (0, .methodHandle 5 113), (0, .methodref 8 114), (0, .nameAndType 105 94), (0, .methodType 94), (10, .methodHandle 6 127), (0, .methodref 128 129), (0, .class_ 130), (0, .nameAndType 131 132), (0, u "java/lang/invoke/LambdaMetafactory"), (0, u "metafactory"), (0, u "(Ljava/lang/invoke/MethodHandles$Lookup;Ljava/lang/String;Ljava/lang/invoke/MethodType;Ljava/lang/invoke/MethodType;Ljava/lang/invoke/MethodHandle;Ljava/lang/invoke/MethodType;)Ljava/lang/invoke/CallSite;")] 16

def k20c0 : Code := { maxStack := 2, maxLocals := 9, code := prog_9_method_1_code, exceptionTable := #[], attributes := #[] }
def k20m0 : Method := { name := "<init>", desc := "(Ljava/lang/String;ILjava/util/Optional;Ljava/util/Optional;Ljava/util/Optional;Ljava/util/Optional;Ljava/util/Optional;Ljava/util/List;)V", sig := { parameters := [(.object "java/lang/String"), .int, (.object "java/util/Optional"), (.object "java/util/Optional"), (.object "java/util/Optional"), (.object "java/util/Optional"), (.object "java/util/Optional"), (.object "java/util/List")], returnType := none }, accessFlags := 0, code := some k20c0 }
def k20c1 : Code := { maxStack := 2, maxLocals := 1, code := prog_9_method_2_code, exceptionTable := #[], attributes := #[] }
def k20m1 : Method := { name := "message", desc := "()Ljava/util/Optional;", sig := { parameters := [], returnType := some (.object "java/util/Optional") }, accessFlags := 0, code := some k20c1 }
def k20c2 : Code := { maxStack := 1, maxLocals := 1, code := prog_9_method_15_code, exceptionTable := #[], attributes := #[] }
def k20m2 : Method := { name := "lambda$message$0", desc := "()Ljava/util/Optional;", sig := { parameters := [], returnType := some (.object "java/util/Optional") }, accessFlags := 4098, code := some k20c2 }
/-- com/example/typed_api_errors/typedapierrors/error/Occurrence -/
def k20 : Class := { plain "com/example/typed_api_errors/typedapierrors/error/Occurrence" (some 19) with
  accessFlags := 48
  interfaces := #[]
  cf := some (fileOf pool20 8 #[.bootstrapMethods #[⟨126, #[110, 112, 115]⟩, ⟨0, #[]⟩]] #[{ accessFlags := 0, nameIndex := 5, descriptorIndex := 89, attributes := #[] }, { accessFlags := 0, nameIndex := 61, descriptorIndex := 94, attributes := #[] }, { accessFlags := 4098, nameIndex := 105, descriptorIndex := 94, attributes := #[] }] 48 2 #[] #[{ accessFlags := 18, nameIndex := 11, descriptorIndex := 12, attributes := #[] }, { accessFlags := 18, nameIndex := 15, descriptorIndex := 16, attributes := #[] }, { accessFlags := 18, nameIndex := 19, descriptorIndex := 20, attributes := #[] }, { accessFlags := 18, nameIndex := 23, descriptorIndex := 20, attributes := #[] }, { accessFlags := 18, nameIndex := 26, descriptorIndex := 20, attributes := #[] }, { accessFlags := 18, nameIndex := 29, descriptorIndex := 20, attributes := #[] }, { accessFlags := 18, nameIndex := 32, descriptorIndex := 20, attributes := #[] }, { accessFlags := 18, nameIndex := 35, descriptorIndex := 36, attributes := #[] }])
  fields := #[{ name := "code", type := (.object "java/lang/String"), accessFlags := 18, slot := 0, constantValue := 0 }, { name := "status", type := .int, accessFlags := 18, slot := 1, constantValue := 0 }, { name := "catalogueMessage", type := (.object "java/util/Optional"), accessFlags := 18, slot := 2, constantValue := 0 }, { name := "ownMessage", type := (.object "java/util/Optional"), accessFlags := 18, slot := 3, constantValue := 0 }, { name := "trace", type := (.object "java/util/Optional"), accessFlags := 18, slot := 4, constantValue := 0 }, { name := "moreInfo", type := (.object "java/util/Optional"), accessFlags := 18, slot := 5, constantValue := 0 }, { name := "target", type := (.object "java/util/Optional"), accessFlags := 18, slot := 6, constantValue := 0 }, { name := "details", type := (.object "java/util/List"), accessFlags := 18, slot := 7, constantValue := 0 }]
  methods := #[k20m0, k20m1, k20m2]
  instanceTypes := #[(.object "java/lang/String"), .int, (.object "java/util/Optional"), (.object "java/util/Optional"), (.object "java/util/Optional"), (.object "java/util/Optional"), (.object "java/util/Optional"), (.object "java/util/List")]
  staticTypes := #[]
  resolved := Array.replicate 149 none
  callSites := [(1, 5, .makes 33)]
  statics := none }

def pool21 : Array CpInfo := pool [(1, .class_ 2), (0, u "java/util/function/Supplier"), (0, .class_ 4), (0, u "java/lang/Object"), (0, u "get"), (0, u "()Ljava/lang/Object;")] 7

def k21m0 : Method := { name := "get", desc := "()Ljava/lang/Object;", sig := { parameters := [], returnType := some (.object "java/lang/Object") }, accessFlags := 1025, code := none }
/-- java/util/function/Supplier -/
def k21 : Class := { plain "java/util/function/Supplier" (some 0) with
  accessFlags := 1537
  interfaces := #[]
  cf := some (fileOf pool21 1 #[] #[{ accessFlags := 1025, nameIndex := 5, descriptorIndex := 6, attributes := #[] }] 1537 3 #[] #[])
  fields := #[]
  methods := #[k21m0]
  instanceTypes := #[]
  staticTypes := #[]
  resolved := Array.replicate 14 none
  statics := none }

def pool22 : Array CpInfo := pool [(6, .class_ 8), (1, u "java/lang/Object"), (0, u "<init>"), (0, u "()V"), (1, .class_ 14), (1, u "java/lang/StringUTF16"), (31, u "$assertionsDisabled"), (0, u "Z"), (13, u "HI_BYTE_SHIFT"), (0, u "I"), (2, u "LO_BYTE_SHIFT"), (49, .methodref 12 116), (0, .nameAndType 117 118), (0, u "compress"), (0, u "([CI[BII)I"), (3, u "([CII)[B"), (138, u "coderFromArrayLen"), (0, u "([BI)B"), (106, .class_ 371), (1, u "java/lang/StringUTF16$LinesSpliterator"), (58, u "MAX_LENGTH"), (196, .class_ 628), (0, u "java/lang/StringUTF16$CodePointsSpliterator"), (0, .class_ 630), (0, u "java/lang/StringUTF16$CharsSpliterator")] 4

def k22m0 : Method := { name := "<init>", desc := "()V", sig := { parameters := [], returnType := none }, accessFlags := 0, code := none }
def k22c1 : Code := { maxStack := 2, maxLocals := 2, code := jdk_52_method_15_code, exceptionTable := #[], attributes := #[] }
def k22m1 : Method := { name := "coderFromArrayLen", desc := "([BI)B", sig := { parameters := [(.array .byte), .int], returnType := some .byte }, accessFlags := 8, code := some k22c1 }
def k22c2 : Code := { maxStack := 5, maxLocals := 6, code := jdk_52_method_16_code, exceptionTable := #[], attributes := #[] }
def k22m2 : Method := { name := "compress", desc := "([CII)[B", sig := { parameters := [(.array .char), .int, .int], returnType := some (.array .byte) }, accessFlags := 9, code := some k22c2 }
def k22c3 : Code := { maxStack := 3, maxLocals := 7, code := jdk_52_method_21_code, exceptionTable := #[], attributes := #[] }
def k22m3 : Method := { name := "compress", desc := "([CI[BII)I", sig := { parameters := [(.array .char), .int, (.array .byte), .int, .int], returnType := some .int }, accessFlags := 9, code := some k22c3 }
/-- java/lang/StringUTF16 -/
def k22 : Class := { plain "java/lang/StringUTF16" (some 0) with
  accessFlags := 48
  interfaces := #[]
  cf := some (fileOf pool22 12 #[.nestMembers #[627, 629, 369]] #[{ accessFlags := 0, nameIndex := 9, descriptorIndex := 10, attributes := #[] }, { accessFlags := 8, nameIndex := 261, descriptorIndex := 262, attributes := #[] }, { accessFlags := 9, nameIndex := 117, descriptorIndex := 122, attributes := #[] }, { accessFlags := 9, nameIndex := 117, descriptorIndex := 118, attributes := #[] }] 48 6 #[] #[{ accessFlags := 26, nameIndex := 61, descriptorIndex := 62, attributes := #[] }, { accessFlags := 26, nameIndex := 65, descriptorIndex := 62, attributes := #[] }, { accessFlags := 24, nameIndex := 430, descriptorIndex := 62, attributes := #[] }, { accessFlags := 4120, nameIndex := 46, descriptorIndex := 47, attributes := #[] }])
  fields := #[{ name := "HI_BYTE_SHIFT", type := .int, accessFlags := 26, slot := 0, constantValue := 0 }, { name := "LO_BYTE_SHIFT", type := .int, accessFlags := 26, slot := 1, constantValue := 0 }, { name := "MAX_LENGTH", type := .int, accessFlags := 24, slot := 2, constantValue := 0 }, { name := "$assertionsDisabled", type := .boolean, accessFlags := 4120, slot := 3, constantValue := 0 }]
  methods := #[k22m0, k22m1, k22m2, k22m3]
  instanceTypes := #[]
  staticTypes := #[.int, .int, .int, .boolean]
  resolved := Array.replicate 635 none
  statics := none }

def pool23 : Array CpInfo := pool [(4, .class_ 6), (1, u "java/lang/Object"), (0, u "<init>"), (0, u "()V"), (5, .class_ 16), (1, u "java/lang/StringLatin1"), (104, u "$assertionsDisabled"), (0, u "Z"), (98, .class_ 223), (1, u "java/lang/StringLatin1$LinesSpliterator"), (166, .class_ 391), (0, u "java/lang/StringLatin1$CharsSpliterator")] 3

def k23m0 : Method := { name := "<init>", desc := "()V", sig := { parameters := [], returnType := none }, accessFlags := 0, code := none }
/-- java/lang/StringLatin1 -/
def k23 : Class := { plain "java/lang/StringLatin1" (some 0) with
  accessFlags := 48
  interfaces := #[]
  cf := some (fileOf pool23 14 #[.nestMembers #[390, 221]] #[{ accessFlags := 0, nameIndex := 7, descriptorIndex := 8, attributes := #[] }] 48 4 #[] #[{ accessFlags := 4120, nameIndex := 121, descriptorIndex := 122, attributes := #[] }])
  fields := #[{ name := "$assertionsDisabled", type := .boolean, accessFlags := 4120, slot := 0, constantValue := 0 }]
  methods := #[k23m0]
  instanceTypes := #[]
  staticTypes := #[.boolean]
  resolved := Array.replicate 395 none
  statics := none }

def pool24 : Array CpInfo := pool [(2, .class_ 4), (1, u "java/lang/Object"), (0, u "<init>"), (0, u "()V"), (17, .class_ 26), (1, u "jdk/internal/util/Preconditions"), (28, .class_ 56), (0, u "jdk/internal/util/Preconditions$4"), (57, .class_ 115), (0, u "jdk/internal/util/Preconditions$1"), (7, u "SIOOBE_FORMATTER"), (0, u "Ljava/util/function/BiFunction;"), (0, .class_ 126), (0, u "jdk/internal/util/Preconditions$2"), (3, u "AIOOBE_FORMATTER"), (0, .class_ 132), (0, u "jdk/internal/util/Preconditions$3"), (3, u "IOOBE_FORMATTER")] 57

def k24m0 : Method := { name := "<init>", desc := "()V", sig := { parameters := [], returnType := none }, accessFlags := 1, code := none }
/-- jdk/internal/util/Preconditions -/
def k24 : Class := { plain "jdk/internal/util/Preconditions" (some 0) with
  accessFlags := 33
  interfaces := #[]
  cf := some (fileOf pool24 24 #[.nestMembers #[55, 131, 125, 114]] #[{ accessFlags := 1, nameIndex := 5, descriptorIndex := 6, attributes := #[] }] 33 2 #[] #[{ accessFlags := 25, nameIndex := 123, descriptorIndex := 124, attributes := #[] }, { accessFlags := 25, nameIndex := 130, descriptorIndex := 124, attributes := #[] }, { accessFlags := 25, nameIndex := 136, descriptorIndex := 124, attributes := #[] }])
  fields := #[{ name := "SIOOBE_FORMATTER", type := (.object "java/util/function/BiFunction"), accessFlags := 25, slot := 0, constantValue := 0 }, { name := "AIOOBE_FORMATTER", type := (.object "java/util/function/BiFunction"), accessFlags := 25, slot := 1, constantValue := 0 }, { name := "IOOBE_FORMATTER", type := (.object "java/util/function/BiFunction"), accessFlags := 25, slot := 2, constantValue := 0 }]
  methods := #[k24m0]
  instanceTypes := #[]
  staticTypes := #[(.object "java/util/function/BiFunction"), (.object "java/util/function/BiFunction"), (.object "java/util/function/BiFunction")]
  resolved := Array.replicate 194 none
  statics := some 3 }

def pool25 : Array CpInfo := pool [(9, u "<init>"), (6, .class_ 18), (1, u "java/lang/Object"), (0, u "()V"), (1, .class_ 23), (1, u "jdk/internal/util/ArraysSupport"), (0, u "LOG2_ARRAY_LONG_INDEX_SCALE"), (0, u "I"), (2, u "U"), (0, u "Ljdk/internal/misc/Unsafe;"), (8, u "BIG_ENDIAN"), (0, u "Z"), (8, u "LOG2_BYTE_BIT_SIZE"), (4, u "LOG2_ARRAY_INT_INDEX_SCALE"), (54, u "JLA"), (0, u "Ljdk/internal/access/JavaLangAccess;"), (11, u "LOG2_ARRAY_BOOLEAN_INDEX_SCALE"), (9, u "LOG2_ARRAY_BYTE_INDEX_SCALE"), (5, u "LOG2_ARRAY_CHAR_INDEX_SCALE"), (5, u "LOG2_ARRAY_SHORT_INDEX_SCALE"), (18, u "LOG2_ARRAY_FLOAT_INDEX_SCALE"), (24, u "LOG2_ARRAY_DOUBLE_INDEX_SCALE"), (89, u "T_BOOLEAN"), (2, u "T_CHAR"), (1, u "T_FLOAT"), (1, u "T_DOUBLE"), (1, u "T_BYTE"), (1, u "T_SHORT"), (1, u "T_INT"), (1, u "T_LONG"), (1, u "SOFT_MAX_ARRAY_LENGTH")] 83

def k25m0 : Method := { name := "<init>", desc := "()V", sig := { parameters := [], returnType := none }, accessFlags := 2, code := none }
/-- jdk/internal/util/ArraysSupport -/
def k25 : Class := { plain "jdk/internal/util/ArraysSupport" (some 0) with
  accessFlags := 33
  interfaces := #[]
  cf := some (fileOf pool25 21 #[] #[{ accessFlags := 2, nameIndex := 9, descriptorIndex := 19, attributes := #[] }] 33 16 #[] #[{ accessFlags := 24, nameIndex := 28, descriptorIndex := 29, attributes := #[] }, { accessFlags := 26, nameIndex := 38, descriptorIndex := 39, attributes := #[] }, { accessFlags := 25, nameIndex := 121, descriptorIndex := 25, attributes := #[] }, { accessFlags := 25, nameIndex := 131, descriptorIndex := 25, attributes := #[] }, { accessFlags := 25, nameIndex := 137, descriptorIndex := 25, attributes := #[] }, { accessFlags := 25, nameIndex := 143, descriptorIndex := 25, attributes := #[] }, { accessFlags := 25, nameIndex := 53, descriptorIndex := 25, attributes := #[] }, { accessFlags := 25, nameIndex := 24, descriptorIndex := 25, attributes := #[] }, { accessFlags := 25, nameIndex := 162, descriptorIndex := 25, attributes := #[] }, { accessFlags := 25, nameIndex := 187, descriptorIndex := 25, attributes := #[] }, { accessFlags := 26, nameIndex := 48, descriptorIndex := 25, attributes := #[] }, { accessFlags := 25, nameIndex := 277, descriptorIndex := 25, attributes := #[] }, { accessFlags := 25, nameIndex := 280, descriptorIndex := 25, attributes := #[] }, { accessFlags := 25, nameIndex := 282, descriptorIndex := 25, attributes := #[] }, { accessFlags := 25, nameIndex := 284, descriptorIndex := 25, attributes := #[] }, { accessFlags := 25, nameIndex := 286, descriptorIndex := 25, attributes := #[] }, { accessFlags := 25, nameIndex := 288, descriptorIndex := 25, attributes := #[] }, { accessFlags := 25, nameIndex := 290, descriptorIndex := 25, attributes := #[] }, { accessFlags := 25, nameIndex := 292, descriptorIndex := 25, attributes := #[] }, { accessFlags := 26, nameIndex := 108, descriptorIndex := 109, attributes := #[] }, { accessFlags := 25, nameIndex := 294, descriptorIndex := 25, attributes := #[] }])
  fields := #[{ name := "U", type := (.object "jdk/internal/misc/Unsafe"), accessFlags := 24, slot := 0, constantValue := 0 }, { name := "BIG_ENDIAN", type := .boolean, accessFlags := 26, slot := 1, constantValue := 0 }, { name := "LOG2_ARRAY_BOOLEAN_INDEX_SCALE", type := .int, accessFlags := 25, slot := 2, constantValue := 0 }, { name := "LOG2_ARRAY_BYTE_INDEX_SCALE", type := .int, accessFlags := 25, slot := 3, constantValue := 0 }, { name := "LOG2_ARRAY_CHAR_INDEX_SCALE", type := .int, accessFlags := 25, slot := 4, constantValue := 0 }, { name := "LOG2_ARRAY_SHORT_INDEX_SCALE", type := .int, accessFlags := 25, slot := 5, constantValue := 0 }, { name := "LOG2_ARRAY_INT_INDEX_SCALE", type := .int, accessFlags := 25, slot := 6, constantValue := 0 }, { name := "LOG2_ARRAY_LONG_INDEX_SCALE", type := .int, accessFlags := 25, slot := 7, constantValue := 0 }, { name := "LOG2_ARRAY_FLOAT_INDEX_SCALE", type := .int, accessFlags := 25, slot := 8, constantValue := 0 }, { name := "LOG2_ARRAY_DOUBLE_INDEX_SCALE", type := .int, accessFlags := 25, slot := 9, constantValue := 0 }, { name := "LOG2_BYTE_BIT_SIZE", type := .int, accessFlags := 26, slot := 10, constantValue := 0 }, { name := "T_BOOLEAN", type := .int, accessFlags := 25, slot := 11, constantValue := 0 }, { name := "T_CHAR", type := .int, accessFlags := 25, slot := 12, constantValue := 0 }, { name := "T_FLOAT", type := .int, accessFlags := 25, slot := 13, constantValue := 0 }, { name := "T_DOUBLE", type := .int, accessFlags := 25, slot := 14, constantValue := 0 }, { name := "T_BYTE", type := .int, accessFlags := 25, slot := 15, constantValue := 0 }, { name := "T_SHORT", type := .int, accessFlags := 25, slot := 16, constantValue := 0 }, { name := "T_INT", type := .int, accessFlags := 25, slot := 17, constantValue := 0 }, { name := "T_LONG", type := .int, accessFlags := 25, slot := 18, constantValue := 0 }, { name := "JLA", type := (.object "jdk/internal/access/JavaLangAccess"), accessFlags := 26, slot := 19, constantValue := 0 }, { name := "SOFT_MAX_ARRAY_LENGTH", type := .int, accessFlags := 25, slot := 20, constantValue := 0 }]
  methods := #[k25m0]
  instanceTypes := #[]
  staticTypes := #[(.object "jdk/internal/misc/Unsafe"), .boolean, .int, .int, .int, .int, .int, .int, .int, .int, .int, .int, .int, .int, .int, .int, .int, .int, .int, (.object "jdk/internal/access/JavaLangAccess"), .int]
  resolved := Array.replicate 378 none
  statics := none }

/-- the primitive byte -/
def k26 : Class := { plain "byte" none with kind := .primitive 'B', accessFlags := 0x411 }
/-- [B -/
def k27 : Class := { plain "[B" (some 0) with kind := .array 26 .byte, interfaces := #[17, 2], accessFlags := 1041 }

/-- the primitive char -/
def k28 : Class := { plain "char" none with kind := .primitive 'C', accessFlags := 0x411 }
/-- [C -/
def k29 : Class := { plain "[C" (some 0) with kind := .array 28 .char, interfaces := #[17, 2], accessFlags := 1041 }

/-- the primitive int -/
def k30 : Class := { plain "int" none with kind := .primitive 'I', accessFlags := 0x411 }
/-- [I -/
def k31 : Class := { plain "[I" (some 0) with kind := .array 30 .int, interfaces := #[17, 2], accessFlags := 1041 }

/-- [Ljava/lang/Object; -/
def k32 : Class := { plain "[Ljava/lang/Object;" (some 0) with kind := .array 0 (.object "java/lang/Object"), interfaces := #[17, 2], accessFlags := 1041 }

def classes0 : Array Class := #[k0, k1, k2, k3, k4, k5, k6, k7, k8, k9, k10, k11, k12, k13, k14, k15, k16, k17, k18, k19, k20, k21, k22, k23, k24, k25, k26, k27, k28, k29, k30, k31, k32]
/-- the class that the rule has made for the site at 5 of com/example/typed_api_errors/typedapierrors/error/Occurrence.message -/
def k33 : Class := Jvm.LamKit.madeRec { classes := classes0 } "com/example/typed_api_errors/typedapierrors/error/Occurrence" (Jvm.Lambda.Shape.mk "java/util/function/Supplier" "get" (Jvm.ClassFile.MethodDescriptor.mk ([] : List Jvm.ClassFile.FieldType) (Option.some (Jvm.ClassFile.FieldType.object "java/lang/Object"))) ([(Jvm.ClassFile.FieldType.object "com/example/typed_api_errors/typedapierrors/error/Occurrence")] : List Jvm.ClassFile.FieldType) (5 : Nat) "com/example/typed_api_errors/typedapierrors/error/Occurrence" "lambda$message$0" (Jvm.ClassFile.MethodDescriptor.mk ([] : List Jvm.ClassFile.FieldType) (Option.some (Jvm.ClassFile.FieldType.object "java/util/Optional"))) false (Jvm.ClassFile.MethodDescriptor.mk ([] : List Jvm.ClassFile.FieldType) (Option.some (Jvm.ClassFile.FieldType.object "java/util/Optional")))) 33

def heap : Heap := #[{ cls := 7, slots := #[.long 0, .int 1, .null, .int 0, .null, .int 0, .int 0], vm := .statics 7 },
  { cls := 8, slots := #[.ref 6], vm := .statics 8 },
  { cls := 18, slots := #[.long 0, .int 0, .ref 4, .ref 5], vm := .statics 18 },
  { cls := 24, slots := #[.null, .null, .null], vm := .statics 24 },
  { cls := 32, slots := #[], vm := .none },
  { cls := 32, slots := #[], vm := .none },
  { cls := 8, slots := #[.null], vm := .none }]
def classes : Array Class := #[k0, k1, k2, k3, k4, k5, k6, k7, k8, k9, k10, k11, k12, k13, k14, k15, k16, k17, k18, k19, k20, k21, k22, k23, k24, k25, k26, k27, k28, k29, k30, k31, k32, k33]
def interned : List (Array UInt16 × Addr) := []
def slotsUsed : Nat := 16
def theMethod : MethodId := ⟨1, 2⟩
def args0 : Array Value := #[.int 5, .int 7, .int 9, .int 5]
def aboutOver (below : List Frame) : State where
  vm := { classes := classes, interned := interned.toArray }
  heap := heap
  slotsUsed := slotsUsed
  threads := #[{ frames := .invoking theMethod args0 :: below }]
def below0 : List Frame := [.native { method := ⟨0, 0⟩, args := #[] }]
def about1 : State := aboutOver below0
def p0 : Program := .bare "" "" ""
def e0 : Env := launch0.env 0 0 0
theorem w_frames : about1.frames = Frame.invoking theMethod args0 :: below0 := rfl
set_option maxRecDepth 65536 in
theorem w_args : argsFit about1.vm theMethod args0 = true := by decide +kernel
set_option maxRecDepth 65536 in
theorem w_heap : heapFits about1 = true := by decide +kernel
set_option maxRecDepth 65536 in
theorem w_runnable : about1.curStatus? = some .runnable := by decide +kernel
set_option maxRecDepth 65536 in
theorem w_alone : about1.alone = true := by decide +kernel
set_option maxRecDepth 65536 in
theorem w_named : about1.methodNamed? x = some theMethod := by decide +kernel
set_option maxRecDepth 65536 in
theorem w_hears : about1.hears theMethod below0 = true := by decide +kernel
set_option maxRecDepth 65536 in
theorem w_ripe : about1.ripe theMethod args0 below0 = true := by decide +kernel
theorem w_running : about1.status = .running := rfl
set_option maxRecDepth 65536 in
theorem w_room : about1.hasRoom e0.platform room_1 = true :=
  launch0.hasRoom_least _ room_1 (by decide +kernel) (by decide +kernel) (by decide +kernel) (by decide +kernel) (by decide +kernel) (by decide +kernel)
theorem allAtoms_all (ts : List Jvm.Cond) (a : Array Jvm.Value) (st : Jvm.State) : (allAtoms ts).before a st = ts.all (fun c => c.before a st) := by
  induction ts with
  | nil => rfl
  | cons c t ih =>
    show (Jvm.Cond.and c (allAtoms t)).before a st = _
    rw [Jvm.Cond.before_and, ih, List.all_cons]
def words1 : List Jvm.Cond := Jvm.Cond.code x code maxLocals ret :: tables_1
/-- a 'code' word, met by the world's own term for the bytes: nothing is compared byte by byte -/
theorem code_word {y : MethodName} {bytes : ByteArray} {mx : Nat} {rt : Option FieldType} {a : Array Value} {s : State} {m : MethodId} {meth : Method} {c : Code} (h1 : s.methodNamed? y = some m) (h2 : s.vm.method? m = some meth) (h3 : meth.code = some c) (h4 : c.code = bytes)
    (h5 : (c.maxLocals == mx && c.exceptionTable.isEmpty && decide (c.maxStack ≤ mostOperands) && decide (meth.sig.returnType = rt) && !meth.locks && decide (parseMethodDescriptor y.desc = some meth.sig)) = true) : (Jvm.Cond.code y bytes mx rt).before a s = true := by
  simp only [Bool.and_eq_true, beq_iff_eq, Bool.not_eq_true', decide_eq_true_eq] at h5
  obtain ⟨⟨⟨⟨⟨g1, g2⟩, g3⟩, g4⟩, g5⟩, g6⟩ := h5
  simp [Cond.before, Cond.holds, Cond.value, h1, h2, h3, h4, g1, g2, g3, g4, g5, g6]
def isCode : Jvm.Cond → Bool
  | .code _ _ _ _ => true
  | _ => false
theorem all_split {L : List Jvm.Cond} {P : Jvm.Cond → Bool} (h1 : L.all (fun c => isCode c || P c) = true) (h2 : ∀ c ∈ L.filter isCode, P c = true) : L.all P = true := by
  refine List.all_eq_true.mpr fun c hc => ?_
  have h := List.all_eq_true.mp h1 c hc
  rcases Bool.eq_false_or_eq_true (isCode c) with hi | hi
  · exact h2 c (List.mem_filter.mpr ⟨hc, hi⟩)
  · simpa [hi] using h
set_option maxRecDepth 65536 in
theorem w_c0 : (Jvm.Cond.code x code maxLocals ret).before args0 about1 = true := code_word (m := ⟨1, 2⟩) (meth := k1m2) (c := k1c2) (by decide +kernel) rfl rfl rfl (by decide +kernel)
set_option maxRecDepth 65536 in
theorem w_c1 : (Jvm.Cond.code ({ cls := "com/example/typed_api_errors/typedapierrors/error/OccurrenceMessagePinLaw", name := "str", desc := "(I)Ljava/lang/String;" } : Jvm.MethodName) method_2_code (5 : Nat) (Option.some (Jvm.ClassFile.FieldType.object "java/lang/String"))).before args0 about1 = true := code_word (m := ⟨1, 1⟩) (meth := k1m1) (c := k1c1) (by decide +kernel) rfl rfl rfl (by decide +kernel)
set_option maxRecDepth 65536 in
theorem w_c2 : (Jvm.Cond.code ({ cls := "java/lang/String", name := "<init>", desc := "([C)V" } : Jvm.MethodName) jdk_42_method_3_code (2 : Nat) (Option.none : Option Jvm.ClassFile.FieldType)).before args0 about1 = true := code_word (m := ⟨7, 1⟩) (meth := k7m1) (c := k7c1) (by decide +kernel) rfl rfl rfl (by decide +kernel)
set_option maxRecDepth 65536 in
theorem w_c3 : (Jvm.Cond.code ({ cls := "java/lang/String", name := "<init>", desc := "([CIILjava/lang/Void;)V" } : Jvm.MethodName) jdk_42_method_149_code (6 : Nat) (Option.none : Option Jvm.ClassFile.FieldType)).before args0 about1 = true := code_word (m := ⟨7, 3⟩) (meth := k7m3) (c := k7c3) (by decide +kernel) rfl rfl rfl (by decide +kernel)
set_option maxRecDepth 65536 in
theorem w_c4 : (Jvm.Cond.code ({ cls := "java/lang/Object", name := "<init>", desc := "()V" } : Jvm.MethodName) object_method_1_code (1 : Nat) (Option.none : Option Jvm.ClassFile.FieldType)).before args0 about1 = true := code_word (m := ⟨0, 0⟩) (meth := k0m0) (c := k0c0) (by decide +kernel) rfl rfl rfl (by decide +kernel)
set_option maxRecDepth 65536 in
theorem w_c5 : (Jvm.Cond.code ({ cls := "java/util/Optional", name := "empty", desc := "()Ljava/util/Optional;" } : Jvm.MethodName) jdk_32_method_1_code (1 : Nat) (Option.some (Jvm.ClassFile.FieldType.object "java/util/Optional"))).before args0 about1 = true := code_word (m := ⟨8, 0⟩) (meth := k8m0) (c := k8c0) (by decide +kernel) rfl rfl rfl (by decide +kernel)
set_option maxRecDepth 65536 in
theorem w_c6 : (Jvm.Cond.code ({ cls := "java/util/Optional", name := "of", desc := "(Ljava/lang/Object;)Ljava/util/Optional;" } : Jvm.MethodName) jdk_32_method_3_code (1 : Nat) (Option.some (Jvm.ClassFile.FieldType.object "java/util/Optional"))).before args0 about1 = true := code_word (m := ⟨8, 2⟩) (meth := k8m2) (c := k8c2) (by decide +kernel) rfl rfl rfl (by decide +kernel)
set_option maxRecDepth 65536 in
theorem w_c7 : (Jvm.Cond.code ({ cls := "java/util/Objects", name := "requireNonNull", desc := "(Ljava/lang/Object;)Ljava/lang/Object;" } : Jvm.MethodName) jdk_31_method_10_code (1 : Nat) (Option.some (Jvm.ClassFile.FieldType.object "java/lang/Object"))).before args0 about1 = true := code_word (m := ⟨9, 1⟩) (meth := k9m1) (c := k9c1) (by decide +kernel) rfl rfl rfl (by decide +kernel)
set_option maxRecDepth 65536 in
theorem w_c8 : (Jvm.Cond.code ({ cls := "java/util/Optional", name := "<init>", desc := "(Ljava/lang/Object;)V" } : Jvm.MethodName) jdk_32_method_2_code (2 : Nat) (Option.none : Option Jvm.ClassFile.FieldType)).before args0 about1 = true := code_word (m := ⟨8, 1⟩) (meth := k8m1) (c := k8c1) (by decide +kernel) rfl rfl rfl (by decide +kernel)
set_option maxRecDepth 65536 in
theorem w_c9 : (Jvm.Cond.code ({ cls := "java/util/ArrayList", name := "<init>", desc := "()V" } : Jvm.MethodName) jdk_38_method_2_code (1 : Nat) (Option.none : Option Jvm.ClassFile.FieldType)).before args0 about1 = true := code_word (m := ⟨18, 0⟩) (meth := k18m0) (c := k18c0) (by decide +kernel) rfl rfl rfl (by decide +kernel)
set_option maxRecDepth 65536 in
theorem w_c10 : (Jvm.Cond.code ({ cls := "java/util/AbstractList", name := "<init>", desc := "()V" } : Jvm.MethodName) jdk_39_method_1_code (1 : Nat) (Option.none : Option Jvm.ClassFile.FieldType)).before args0 about1 = true := code_word (m := ⟨15, 0⟩) (meth := k15m0) (c := k15c0) (by decide +kernel) rfl rfl rfl (by decide +kernel)
set_option maxRecDepth 65536 in
theorem w_c11 : (Jvm.Cond.code ({ cls := "java/util/AbstractCollection", name := "<init>", desc := "()V" } : Jvm.MethodName) jdk_22_method_1_code (1 : Nat) (Option.none : Option Jvm.ClassFile.FieldType)).before args0 about1 = true := code_word (m := ⟨12, 0⟩) (meth := k12m0) (c := k12c0) (by decide +kernel) rfl rfl rfl (by decide +kernel)
set_option maxRecDepth 65536 in
theorem w_c12 : (Jvm.Cond.code ({ cls := "com/example/typed_api_errors/typedapierrors/error/Occurrence", name := "<init>", desc := "(Ljava/lang/String;ILjava/util/Optional;Ljava/util/Optional;Ljava/util/Optional;Ljava/util/Optional;Ljava/util/Optional;Ljava/util/List;)V" } : Jvm.MethodName) prog_9_method_1_code (9 : Nat) (Option.none : Option Jvm.ClassFile.FieldType)).before args0 about1 = true := code_word (m := ⟨20, 0⟩) (meth := k20m0) (c := k20c0) (by decide +kernel) rfl rfl rfl (by decide +kernel)
set_option maxRecDepth 65536 in
theorem w_c13 : (Jvm.Cond.code ({ cls := "java/lang/Record", name := "<init>", desc := "()V" } : Jvm.MethodName) jdk_30_method_1_code (1 : Nat) (Option.none : Option Jvm.ClassFile.FieldType)).before args0 about1 = true := code_word (m := ⟨19, 0⟩) (meth := k19m0) (c := k19c0) (by decide +kernel) rfl rfl rfl (by decide +kernel)
set_option maxRecDepth 65536 in
theorem w_c14 : (Jvm.Cond.code ({ cls := "com/example/typed_api_errors/typedapierrors/error/Occurrence", name := "message", desc := "()Ljava/util/Optional;" } : Jvm.MethodName) prog_9_method_2_code (1 : Nat) (Option.some (Jvm.ClassFile.FieldType.object "java/util/Optional"))).before args0 about1 = true := code_word (m := ⟨20, 1⟩) (meth := k20m1) (c := k20c1) (by decide +kernel) rfl rfl rfl (by decide +kernel)
set_option maxRecDepth 65536 in
theorem w_c15 : (Jvm.Cond.code ({ cls := "java/util/Optional", name := "or", desc := "(Ljava/util/function/Supplier;)Ljava/util/Optional;" } : Jvm.MethodName) jdk_32_method_13_code (3 : Nat) (Option.some (Jvm.ClassFile.FieldType.object "java/util/Optional"))).before args0 about1 = true := code_word (m := ⟨8, 5⟩) (meth := k8m5) (c := k8c5) (by decide +kernel) rfl rfl rfl (by decide +kernel)
set_option maxRecDepth 65536 in
theorem w_c16 : (Jvm.Cond.code ({ cls := "java/util/Optional", name := "isPresent", desc := "()Z" } : Jvm.MethodName) jdk_32_method_6_code (1 : Nat) (Option.some Jvm.ClassFile.FieldType.boolean)).before args0 about1 = true := code_word (m := ⟨8, 4⟩) (meth := k8m4) (c := k8c4) (by decide +kernel) rfl rfl rfl (by decide +kernel)
set_option maxRecDepth 65536 in
theorem w_c17 : (Jvm.Cond.code ({ cls := "com/example/typed_api_errors/typedapierrors/error/Occurrence", name := "lambda$message$0", desc := "()Ljava/util/Optional;" } : Jvm.MethodName) prog_9_method_15_code (1 : Nat) (Option.some (Jvm.ClassFile.FieldType.object "java/util/Optional"))).before args0 about1 = true := code_word (m := ⟨20, 2⟩) (meth := k20m2) (c := k20c2) (by decide +kernel) rfl rfl rfl (by decide +kernel)
set_option maxRecDepth 65536 in
theorem w_c18 : (Jvm.Cond.code ({ cls := "java/util/Optional", name := "get", desc := "()Ljava/lang/Object;" } : Jvm.MethodName) jdk_32_method_5_code (1 : Nat) (Option.some (Jvm.ClassFile.FieldType.object "java/lang/Object"))).before args0 about1 = true := code_word (m := ⟨8, 3⟩) (meth := k8m3) (c := k8c3) (by decide +kernel) rfl rfl rfl (by decide +kernel)
set_option maxRecDepth 65536 in
theorem w_c19 : (Jvm.Cond.code ({ cls := "java/lang/String", name := "equals", desc := "(Ljava/lang/Object;)Z" } : Jvm.MethodName) jdk_42_method_66_code (3 : Nat) (Option.some Jvm.ClassFile.FieldType.boolean)).before args0 about1 = true := code_word (m := ⟨7, 2⟩) (meth := k7m2) (c := k7c2) (by decide +kernel) rfl rfl rfl (by decide +kernel)
set_option maxRecDepth 65536 in
theorem w_c20 : (Jvm.Cond.code ({ cls := "java/lang/StringUTF16", name := "compress", desc := "([CII)[B" } : Jvm.MethodName) jdk_52_method_16_code (6 : Nat) (Option.some (Jvm.ClassFile.FieldType.array Jvm.ClassFile.FieldType.byte))).before args0 about1 = true := code_word (m := ⟨22, 2⟩) (meth := k22m2) (c := k22c2) (by decide +kernel) rfl rfl rfl (by decide +kernel)
set_option maxRecDepth 65536 in
theorem w_c21 : (Jvm.Cond.code ({ cls := "java/lang/StringUTF16", name := "compress", desc := "([CI[BII)I" } : Jvm.MethodName) jdk_52_method_21_code (7 : Nat) (Option.some Jvm.ClassFile.FieldType.int)).before args0 about1 = true := code_word (m := ⟨22, 3⟩) (meth := k22m3) (c := k22c3) (by decide +kernel) rfl rfl rfl (by decide +kernel)
set_option maxRecDepth 65536 in
theorem w_c22 : (Jvm.Cond.code ({ cls := "java/lang/StringUTF16", name := "coderFromArrayLen", desc := "([BI)B" } : Jvm.MethodName) jdk_52_method_15_code (2 : Nat) (Option.some Jvm.ClassFile.FieldType.byte)).before args0 about1 = true := code_word (m := ⟨22, 1⟩) (meth := k22m1) (c := k22c1) (by decide +kernel) rfl rfl rfl (by decide +kernel)
def codes1 : List Jvm.Cond := [Jvm.Cond.code x code maxLocals ret, Jvm.Cond.code ({ cls := "com/example/typed_api_errors/typedapierrors/error/OccurrenceMessagePinLaw", name := "str", desc := "(I)Ljava/lang/String;" } : Jvm.MethodName) method_2_code (5 : Nat) (Option.some (Jvm.ClassFile.FieldType.object "java/lang/String")), Jvm.Cond.code ({ cls := "java/lang/String", name := "<init>", desc := "([C)V" } : Jvm.MethodName) jdk_42_method_3_code (2 : Nat) (Option.none : Option Jvm.ClassFile.FieldType), Jvm.Cond.code ({ cls := "java/lang/String", name := "<init>", desc := "([CIILjava/lang/Void;)V" } : Jvm.MethodName) jdk_42_method_149_code (6 : Nat) (Option.none : Option Jvm.ClassFile.FieldType), Jvm.Cond.code ({ cls := "java/lang/Object", name := "<init>", desc := "()V" } : Jvm.MethodName) object_method_1_code (1 : Nat) (Option.none : Option Jvm.ClassFile.FieldType), Jvm.Cond.code ({ cls := "java/util/Optional", name := "empty", desc := "()Ljava/util/Optional;" } : Jvm.MethodName) jdk_32_method_1_code (1 : Nat) (Option.some (Jvm.ClassFile.FieldType.object "java/util/Optional")), Jvm.Cond.code ({ cls := "java/util/Optional", name := "of", desc := "(Ljava/lang/Object;)Ljava/util/Optional;" } : Jvm.MethodName) jdk_32_method_3_code (1 : Nat) (Option.some (Jvm.ClassFile.FieldType.object "java/util/Optional")), Jvm.Cond.code ({ cls := "java/util/Objects", name := "requireNonNull", desc := "(Ljava/lang/Object;)Ljava/lang/Object;" } : Jvm.MethodName) jdk_31_method_10_code (1 : Nat) (Option.some (Jvm.ClassFile.FieldType.object "java/lang/Object")), Jvm.Cond.code ({ cls := "java/util/Optional", name := "<init>", desc := "(Ljava/lang/Object;)V" } : Jvm.MethodName) jdk_32_method_2_code (2 : Nat) (Option.none : Option Jvm.ClassFile.FieldType), Jvm.Cond.code ({ cls := "java/util/ArrayList", name := "<init>", desc := "()V" } : Jvm.MethodName) jdk_38_method_2_code (1 : Nat) (Option.none : Option Jvm.ClassFile.FieldType), Jvm.Cond.code ({ cls := "java/util/AbstractList", name := "<init>", desc := "()V" } : Jvm.MethodName) jdk_39_method_1_code (1 : Nat) (Option.none : Option Jvm.ClassFile.FieldType), Jvm.Cond.code ({ cls := "java/util/AbstractCollection", name := "<init>", desc := "()V" } : Jvm.MethodName) jdk_22_method_1_code (1 : Nat) (Option.none : Option Jvm.ClassFile.FieldType), Jvm.Cond.code ({ cls := "com/example/typed_api_errors/typedapierrors/error/Occurrence", name := "<init>", desc := "(Ljava/lang/String;ILjava/util/Optional;Ljava/util/Optional;Ljava/util/Optional;Ljava/util/Optional;Ljava/util/Optional;Ljava/util/List;)V" } : Jvm.MethodName) prog_9_method_1_code (9 : Nat) (Option.none : Option Jvm.ClassFile.FieldType), Jvm.Cond.code ({ cls := "java/lang/Record", name := "<init>", desc := "()V" } : Jvm.MethodName) jdk_30_method_1_code (1 : Nat) (Option.none : Option Jvm.ClassFile.FieldType), Jvm.Cond.code ({ cls := "com/example/typed_api_errors/typedapierrors/error/Occurrence", name := "message", desc := "()Ljava/util/Optional;" } : Jvm.MethodName) prog_9_method_2_code (1 : Nat) (Option.some (Jvm.ClassFile.FieldType.object "java/util/Optional")), Jvm.Cond.code ({ cls := "java/util/Optional", name := "or", desc := "(Ljava/util/function/Supplier;)Ljava/util/Optional;" } : Jvm.MethodName) jdk_32_method_13_code (3 : Nat) (Option.some (Jvm.ClassFile.FieldType.object "java/util/Optional")), Jvm.Cond.code ({ cls := "java/util/Optional", name := "isPresent", desc := "()Z" } : Jvm.MethodName) jdk_32_method_6_code (1 : Nat) (Option.some Jvm.ClassFile.FieldType.boolean), Jvm.Cond.code ({ cls := "com/example/typed_api_errors/typedapierrors/error/Occurrence", name := "lambda$message$0", desc := "()Ljava/util/Optional;" } : Jvm.MethodName) prog_9_method_15_code (1 : Nat) (Option.some (Jvm.ClassFile.FieldType.object "java/util/Optional")), Jvm.Cond.code ({ cls := "java/util/Optional", name := "get", desc := "()Ljava/lang/Object;" } : Jvm.MethodName) jdk_32_method_5_code (1 : Nat) (Option.some (Jvm.ClassFile.FieldType.object "java/lang/Object")), Jvm.Cond.code ({ cls := "java/lang/String", name := "equals", desc := "(Ljava/lang/Object;)Z" } : Jvm.MethodName) jdk_42_method_66_code (3 : Nat) (Option.some Jvm.ClassFile.FieldType.boolean), Jvm.Cond.code ({ cls := "java/lang/StringUTF16", name := "compress", desc := "([CII)[B" } : Jvm.MethodName) jdk_52_method_16_code (6 : Nat) (Option.some (Jvm.ClassFile.FieldType.array Jvm.ClassFile.FieldType.byte)), Jvm.Cond.code ({ cls := "java/lang/StringUTF16", name := "compress", desc := "([CI[BII)I" } : Jvm.MethodName) jdk_52_method_21_code (7 : Nat) (Option.some Jvm.ClassFile.FieldType.int), Jvm.Cond.code ({ cls := "java/lang/StringUTF16", name := "coderFromArrayLen", desc := "([BI)B" } : Jvm.MethodName) jdk_52_method_15_code (2 : Nat) (Option.some Jvm.ClassFile.FieldType.byte)]
set_option maxRecDepth 65536 in
theorem codes_eq : words1.filter isCode = codes1 := rfl
theorem w_codes : ∀ c ∈ words1.filter isCode, c.before args0 about1 = true := by
  rw [codes_eq]
  intro c hc
  simp only [codes1, List.mem_cons, List.not_mem_nil, or_false] at hc
  rcases hc with rfl | rfl | rfl | rfl | rfl | rfl | rfl | rfl | rfl | rfl | rfl | rfl | rfl | rfl | rfl | rfl | rfl | rfl | rfl | rfl | rfl | rfl | rfl
  · exact w_c0
  · exact w_c1
  · exact w_c2
  · exact w_c3
  · exact w_c4
  · exact w_c5
  · exact w_c6
  · exact w_c7
  · exact w_c8
  · exact w_c9
  · exact w_c10
  · exact w_c11
  · exact w_c12
  · exact w_c13
  · exact w_c14
  · exact w_c15
  · exact w_c16
  · exact w_c17
  · exact w_c18
  · exact w_c19
  · exact w_c20
  · exact w_c21
  · exact w_c22
set_option maxRecDepth 65536 in
theorem w_t1 : (words1.take 24).all (fun c => isCode c || c.before args0 about1) = true := by decide +kernel
set_option maxRecDepth 65536 in
theorem w_t2 : ((words1.drop 24).take 24).all (fun c => isCode c || c.before args0 about1) = true := by decide +kernel
set_option maxRecDepth 65536 in
theorem w_t3 : (((words1.drop 24).drop 24).take 24).all (fun c => isCode c || c.before args0 about1) = true := by decide +kernel
set_option maxRecDepth 65536 in
theorem w_t4 : ((((words1.drop 24).drop 24).drop 24).take 24).all (fun c => isCode c || c.before args0 about1) = true := by decide +kernel
set_option maxRecDepth 65536 in
theorem w_t5 : (((((words1.drop 24).drop 24).drop 24).drop 24).take 24).all (fun c => isCode c || c.before args0 about1) = true := by decide +kernel
set_option maxRecDepth 65536 in
theorem w_t6 : ((((((words1.drop 24).drop 24).drop 24).drop 24).drop 24).take 24).all (fun c => isCode c || c.before args0 about1) = true := by decide +kernel
set_option maxRecDepth 65536 in
theorem w_t7 : ((((((words1.drop 24).drop 24).drop 24).drop 24).drop 24).drop 24).all (fun c => isCode c || c.before args0 about1) = true := by decide +kernel
theorem w_tables : (allAtoms (Jvm.Cond.code x code maxLocals ret :: tables_1)).before args0 about1 = true := by
  rw [allAtoms_all]
  show words1.all (fun c => c.before args0 about1) = true
  refine all_split ?_ w_codes
  rw [← List.take_append_drop 24 words1, List.all_append, w_t1, ← List.take_append_drop 24 (words1.drop 24), List.all_append, w_t2, ← List.take_append_drop 24 ((words1.drop 24).drop 24), List.all_append, w_t3, ← List.take_append_drop 24 (((words1.drop 24).drop 24).drop 24), List.all_append, w_t4, ← List.take_append_drop 24 ((((words1.drop 24).drop 24).drop 24).drop 24), List.all_append, w_t5, ← List.take_append_drop 24 (((((words1.drop 24).drop 24).drop 24).drop 24).drop 24), List.all_append, w_t6, w_t7]
  rfl
set_option maxRecDepth 65536 in
theorem w_rest : rest_1_c.before args0 about1 = true := by decide +kernel
set_option maxRecDepth 65536 in
theorem w_case : (Jvm.Cond.and given_1 narrow_1).before args0 about1 = true := by decide +kernel
set_option maxRecDepth 65536 in
theorem w_consts : constsHeld consts_1 about1 := Jvm.Lit.constsHeldB_iff.mp (by decide +kernel)
theorem w_applies : (headSpec (Jvm.Cond.code x code maxLocals ret :: tables_1) room_1).applies x e0.platform about1 = true :=
  (Spec.applies_iff w_frames).mpr ⟨w_running, w_runnable, w_alone, w_named, w_hears, w_ripe, w_room, w_tables⟩
theorem atStart : AtStart classFile x code maxLocals ret World_1 tables_1 room_1 Calls_1 rest_1 Pre_1 launch0 p0 e0 about1 theMethod args0 below0 :=
  ⟨lists_1, trivial, launch0.admits_env _ _ _, launch0.least_env, fairChoices_fair.cas, fairChoices_fair.clock, w_frames, w_args, w_heap, w_applies, ⟨w_consts, trivial⟩, w_rest, w_case⟩
end start1
theorem witness_1 : WitnessClaimed_1 := ⟨start1.p0, start1.e0, start1.about1, start1.theMethod, start1.args0, start1.below0, start1.atStart⟩
end Jvm.Pilot.@@N@@
