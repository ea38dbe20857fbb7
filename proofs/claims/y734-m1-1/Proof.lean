import JvmDerived
import JvmDerived.Pilot.@@N@@Statement
import JvmDerived.Pilot.@@N@@Code
set_option linter.unusedVariables false
set_option linter.unusedSimpArgs false
namespace Jvm.RoadKit
open Sem ClassFile Op Lib Jvm.Stand Jvm.Free Jvm.LawKit
section OwnKit
variable {p : Program} {l : Launch} {e : Env} {R : Room} {s : State} {m : MethodId} {args : Array Value} {below : List Frame} {meth : Method} {c : Code} {T : State} {locs : List Loc} {cells slots : Nat} {rc rs : Nat} {Q : Option Value → Heap → List Loc → Prop} {S S' : State}
/-- from S on the invocation ends, it returns, and Q holds of what it returns, of the heap and of the places written -/
def OEnds (p : Program) (e : Env) (below : List Frame) (s : State) (rc rs : Nat) (Q : Option Value → Heap → List Loc → Prop) (S : State) : Prop :=
  ∃ s₂ o, Steps p.tables e below S s₂ ∧ s₂.status = .running ∧ Ended s₂ below o ∧ ∃ v L, o = .returned v ∧ Q v s₂.heap L ∧ FrameEnd s o s₂ L rc rs
theorem OEnds.via (h : ∀ t, Steps p.tables e below S' t → Steps p.tables e below S t) (k : OEnds p e below s rc rs Q S') : OEnds p e below s rc rs Q S := by
  obtain ⟨t, o, h1, r⟩ := k
  exact ⟨t, o, h _ h1, r⟩
theorem OEnds.retN (X : Stand p l e R s m args below meth c T locs cells slots) (hx : p.tables.exec = Jvm.exec) (hlk : meth.locks = false) {pc : Nat} {Ls : Array Slot} {z : Int32} {t : FieldType} {rest : List Value} (hret : meth.sig.returnType = some t) (ht : t = .boolean ∨ t = .byte ∨ t = .char ∨ t = .short)
    (hd : decode c.code pc = .ok (.ireturn, 1)) (q : Q (some (.int (nar t z))) T.heap locs) (hc : cells ≤ rc) (hs : slots ≤ rs) : OEnds p e below s rc rs Q (T.setTop (mkF m pc Ls (.int z :: rest))) := by
  obtain ⟨fs, hr, hrun, hended, hW, hsame⟩ := X.leave (v := some (.int (nar t z))) (fun h => by rw [hret] at h; cases h) hlk
  exact ⟨_, _, Jvm.RoadKit.retN X hx hret ht hd hr, hrun, hended, _, _, rfl, q, ⟨_, rfl⟩, hW, hsame.mono hc hs⟩
theorem OEnds.retI (X : Stand p l e R s m args below meth c T locs cells slots) (hx : p.tables.exec = Jvm.exec) (hlk : meth.locks = false) {pc : Nat} {Ls : Array Slot} {z : Int32} {rest : List Value} (hret : meth.sig.returnType = some .int)
    (hd : decode c.code pc = .ok (.ireturn, 1)) (q : Q (some (.int z)) T.heap locs) (hc : cells ≤ rc) (hs : slots ≤ rs) : OEnds p e below s rc rs Q (T.setTop (mkF m pc Ls (.int z :: rest))) := by
  obtain ⟨fs, hr, hrun, hended, hW, hsame⟩ := X.leave (v := some (.int z)) (fun h => by rw [hret] at h; cases h) hlk
  exact ⟨_, _, retOut X hx hret rfl (Or.inl ⟨rfl, Or.inl rfl, z, rfl⟩) hd hr, hrun, hended, _, _, rfl, q, ⟨_, rfl⟩, hW, hsame.mono hc hs⟩
theorem OEnds.retJ (X : Stand p l e R s m args below meth c T locs cells slots) (hx : p.tables.exec = Jvm.exec) (hlk : meth.locks = false) {pc : Nat} {Ls : Array Slot} {z : Int64} {rest : List Value} (hret : meth.sig.returnType = some .long)
    (hd : decode c.code pc = .ok (.lreturn, 1)) (q : Q (some (.long z)) T.heap locs) (hc : cells ≤ rc) (hs : slots ≤ rs) : OEnds p e below s rc rs Q (T.setTop (mkF m pc Ls (.long z :: rest))) := by
  obtain ⟨fs, hr, hrun, hended, hW, hsame⟩ := X.leave (v := some (.long z)) (fun h => by rw [hret] at h; cases h) hlk
  exact ⟨_, _, retOut X hx hret rfl (Or.inr (Or.inl ⟨rfl, rfl, z, rfl⟩)) hd hr, hrun, hended, _, _, rfl, q, ⟨_, rfl⟩, hW, hsame.mono hc hs⟩
theorem OEnds.retR (X : Stand p l e R s m args below meth c T locs cells slots) (hx : p.tables.exec = Jvm.exec) (hlk : meth.locks = false) {pc : Nat} {Ls : Array Slot} {w : Value} {t : FieldType} {rest : List Value} (hret : meth.sig.returnType = some t) (ht : t.isReference = true) (hw : w.isRef = true)
    (hd : decode c.code pc = .ok (.areturn, 1)) (q : Q (some w) T.heap locs) (hc : cells ≤ rc) (hs : slots ≤ rs) : OEnds p e below s rc rs Q (T.setTop (mkF m pc Ls (w :: rest))) := by
  obtain ⟨fs, hr, hrun, hended, hW, hsame⟩ := X.leave (v := some w) (fun h => by rw [hret] at h; cases h) hlk
  have hn : narrow t w = w := by rcases ref_cases hw with rfl | ⟨a, rfl⟩ <;> cases t <;> rfl
  exact ⟨_, _, retOut X hx hret hn (Or.inr (Or.inr (Or.inr (Or.inr ⟨rfl, ht, hw⟩)))) hd hr, hrun, hended, _, _, rfl, q, ⟨_, rfl⟩, hW, hsame.mono hc hs⟩
theorem OEnds.retV (X : Stand p l e R s m args below meth c T locs cells slots) (hx : p.tables.exec = Jvm.exec) (hlk : meth.locks = false) {pc : Nat} {Ls : Array Slot} (hret : meth.sig.returnType = none)
    (hd : decode c.code pc = .ok (.return_, 1)) (q : Q none T.heap locs) (hc : cells ≤ rc) (hs : slots ≤ rs) : OEnds p e below s rc rs Q (T.setTop (mkF m pc Ls [])) := by
  obtain ⟨fs, hr, hrun, hended, hW, hsame⟩ := X.leave (v := none) (fun _ => rfl) hlk
  exact ⟨_, _, X.returnOut hx hret hd hr, hrun, hended, _, _, rfl, q, ⟨_, rfl⟩, hW, hsame.mono hc hs⟩
/-- the call answers r, writes nothing that was there, makes nothing -/
def QA (r : Option Value) (h0 : Heap) (n0 : Nat) : Option Value → Heap → List Loc → Prop := fun v h L => v = r ∧ Fr n0 L ∧ h = h0
/-- the law's own answer -/
def QL (n0 : Nat) : Option Value → Heap → List Loc → Prop := fun v _ L => v = some (.int 1) ∧ Fr n0 L
theorem own_lc0 (x : Int64) : lcmpW x x = 0 := by rw [lcW]; exact (lc_eq _ _).mpr rfl
theorem own_lcpos {x y : Int64} (h : y < x) : 0 < lcmpW x y := by rw [lcW]; exact (lc_gt _ _).mpr h
theorem own_lcnpos {x y : Int64} (h : ¬ y < x) : ¬ 0 < lcmpW x y := by rw [lcW]; exact fun q => h ((lc_gt _ _).mp q)
theorem own_narrow {t : String} {w : Value} (h : w.isRef = true) : narrow (.object t) w = w := by rcases ref_cases h with rfl | ⟨_, rfl⟩ <;> rfl
theorem own_fits {t : String} {w : Value} (h : w.isRef = true) : fits (.object t) w = true := by rcases ref_cases h with rfl | ⟨_, rfl⟩ <;> rfl
end OwnKit
section OwnWords
variable {args : Array Value} {s : State} {t u : Term} {a : Addr} {cl : Cell} {ty : FieldType} {j k : Int32}
theorem own_eqint (h : (Jvm.Cond.eq t (.int k)).value args s none s [] = some true) : t.eval args s none [] s = some (.int k) := by
  obtain ⟨x, y, e1, e2, -, k2⟩ := cmp_v (Or.inl h)
  obtain rfl : Value.int k = y := Option.some.inj ((Term.int_eval k).symm.trans e2)
  obtain ⟨z, rfl⟩ : ∃ z, x = .int z := k2
  have q := gotT (Cond.eq_ints e1 (Term.int_eval k)) h
  rw [e1, q]
theorem own_len (h : (Jvm.Cond.eq (.length t) (.int k)).value args s none s [] = some true) (ev : t.eval args s none [] s = some (.ref a)) (A : Arr s s.heap a cl ty) : cl.slots.size < 2 ^ 31 ∧ cl.slots.size.toInt32 = k := by
  have e1 := own_eqint h
  have e2 : s.arrayAt? a = some cl := A.fin (Vm.Alike.refl _)
  have e3 : cl.slots.size < 2 ^ 31 := by
    refine Classical.byContradiction fun q => ?_
    simp [Term.eval, ev, e2, q] at e1
  have e4 := len_f ev e2 e3
  rw [e1] at e4
  exact ⟨e3, (Value.int.inj (Option.some.inj e4)).symm⟩
theorem own_elem (h : (Jvm.Cond.eq (.elem t (.int j)) (.int k)).value args s none s [] = some true) (ev : t.eval args s none [] s = some (.ref a)) (A : Arr s s.heap a cl ty) : cl.slots[j.toNatClampNeg]? = some (.int k) :=
  (elem_in (own_eqint h) ev (Term.int_eval j) A.1).2
theorem own_eqref (h : (Jvm.Cond.eq t u).value args s none s [] = some true) (eu : u.eval args s none [] s = some (.ref a)) : t.eval args s none [] s = some (.ref a) := by
  obtain ⟨x, y, e1, e2, -, k2⟩ := cmp_v (Or.inl h)
  obtain rfl : Value.ref a = y := Option.some.inj (eu.symm.trans e2)
  have hx : x.isRef = true := k2.2
  have q := gotT (eq_R e1 eu hx rfl) h
  rw [e1, q]
theorem own_elemR (h : (Jvm.Cond.eq (.elem t (.int j)) u).value args s none s [] = some true) {b : Addr} (eu : u.eval args s none [] s = some (.ref b)) (ev : t.eval args s none [] s = some (.ref a)) (A : Arr s s.heap a cl ty) : cl.slots[j.toNatClampNeg]? = some (.ref b) :=
  (elem_in (own_eqref h eu) ev (Term.int_eval j) A.1).2
end OwnWords
end Jvm.RoadKit
/- laws to paste: Road.backV, Road.eqW, Road.codOf (cut by pick.py; bodies as the Statement names them) -/
namespace Jvm.Pilot.@@N@@
namespace StrChars
open Jvm Sem ClassFile Op Lib Jvm.Stand Jvm.Free.XT Jvm.Free.ALB Jvm.Free.JM Jvm.Free
open Jvm.Lib.Cold (StaticIs)
/-- a char array whose places are chars -/
def Ch (a : Addr) (A : Cell) (U : State) : Prop := Arr .char a A U ∧ Typed .char A
theorem Ch.mv {a : Addr} {A : Cell} {U U' : State} (h : Ch a A U) (hal : U.vm.Alike U'.vm) (hh : U'.heap = U.heap) : Ch a A U' := ⟨h.1.mv hal hh, h.2⟩
theorem Ch.keep {a : Addr} {A : Cell} {U U' : State} (h : Ch a A U) (hal : U.vm.Alike U'.vm) (hk : U'.heap[a]? = some A) : Ch a A U' := ⟨h.1.keep hal hk, h.2⟩
/-- what place i of a char[]'s cell holds -/
def cv (A : Cell) (i : Nat) : Int32 := match A.slots[i]? with | some (.int x) => x | _ => 0
theorem Ch.get {a : Addr} {A : Cell} {U : State} (h : Ch a A U) {i : Nat} (hi : i < A.slots.size) : A.slots[i]? = some (.int (cv A i)) := by
  have e := Array.getElem?_eq_getElem hi
  have f := h.2 i _ e
  unfold cv; rw [e]
  generalize A.slots[i] = v at f
  cases v <;> simp [fits] at f ⊢
/-- the byte that i2b leaves of a char -/
def lo8 (x : Int32) : Int32 := x.toInt8.toInt32
theorem fits_lo8 (y : Int32) : fits .byte (.int (lo8 y)) = true := by
  have h1 := y.toInt8.le_toInt
  have h2 := y.toInt8.toInt_lt
  simp only [lo8, fits, Bool.and_eq_true, decide_eq_true_eq, Int32.le_iff_toInt_le, Int8.toInt_toInt32, show (-128 : Int32).toInt = -128 from by decide, show (127 : Int32).toInt = 127 from by decide]
  omega
/-- A' is A but that each place j of lo .. hi - 1 holds f j -/
def Laid (A A' : Cell) (lo hi : Nat) (f : Nat → Value) : Prop := A'.cls = A.cls ∧ A'.vm = A.vm ∧ A'.slots.size = A.slots.size ∧ ∀ i, A'.slots[i]? = if lo ≤ i ∧ i < hi then some (f i) else A.slots[i]?
theorem Laid.zero (A : Cell) (lo : Nat) (f : Nat → Value) : Laid A A lo (lo + 0) f := ⟨rfl, rfl, rfl, fun i => by rw [if_neg (by omega)]⟩
theorem Laid.step {A Ak : Cell} {lo k : Nat} {f : Nat → Value} {v : Value} (h : Laid A Ak lo k f) (hlo : lo ≤ k) (hk : k < Ak.slots.size) (hv : v = f k) : Laid A (Ak.setSlot k v) lo (k + 1) f := by
  refine ⟨h.1, h.2.1, by simpa [Cell.setSlot] using h.2.2.1, fun i => ?_⟩
  by_cases e : k = i
  · subst e; rw [Cell.slots_setSlot_self v hk, if_pos (by omega), hv]
  · rw [Cell.slots_setSlot_ne v e, h.2.2.2 i]
    by_cases q : lo ≤ i ∧ i < k
    · rw [if_pos q, if_pos (by omega)]
    · rw [if_neg q, if_neg (by omega)]
def U16 : String := "java/lang/StringUTF16"
namespace Cmp5
def yN : MethodName := ⟨"java/lang/StringUTF16", "compress", "([CI[BII)I"⟩
abbrev yB : ByteArray := jdk_52_method_21_code
theorem d0 : decode yB 0 = .ok (.iconst 0, 1) := by decide +kernel
theorem d1 : decode yB 1 = .ok (.istore 5, 2) := by decide +kernel
theorem d3 : decode yB 3 = .ok (.iload 5, 2) := by decide +kernel
theorem d5 : decode yB 5 = .ok (.iload 4, 2) := by decide +kernel
theorem d7 : decode yB 7 = .ok (.if_icmp (.ge) 37, 3) := by decide +kernel
theorem d10 : decode yB 10 = .ok (.aload_n 0, 1) := by decide +kernel
theorem d11 : decode yB 11 = .ok (.iload_n 1, 1) := by decide +kernel
theorem d12 : decode yB 12 = .ok (.caload, 1) := by decide +kernel
theorem d13 : decode yB 13 = .ok (.istore 6, 2) := by decide +kernel
theorem d15 : decode yB 15 = .ok (.iload 6, 2) := by decide +kernel
theorem d17 : decode yB 17 = .ok (.sipush 255, 3) := by decide +kernel
theorem d20 : decode yB 20 = .ok (.if_icmp (.le) 6, 3) := by decide +kernel
theorem d26 : decode yB 26 = .ok (.aload_n 2, 1) := by decide +kernel
theorem d27 : decode yB 27 = .ok (.iload_n 3, 1) := by decide +kernel
theorem d28 : decode yB 28 = .ok (.iload 6, 2) := by decide +kernel
theorem d30 : decode yB 30 = .ok (.i2b, 1) := by decide +kernel
theorem d31 : decode yB 31 = .ok (.bastore, 1) := by decide +kernel
theorem d32 : decode yB 32 = .ok (.iinc 1 1, 3) := by decide +kernel
theorem d35 : decode yB 35 = .ok (.iinc 3 1, 3) := by decide +kernel
theorem d38 : decode yB 38 = .ok (.iinc 5 1, 3) := by decide +kernel
theorem d41 : decode yB 41 = .ok (.goto (-38), 3) := by decide +kernel
theorem d44 : decode yB 44 = .ok (.iload 4, 2) := by decide +kernel
theorem d46 : decode yB 46 = .ok (.ireturn, 1) := by decide +kernel
def site : List Cond := []
def tab : Cond := tabOf yN yB 7 (some .int) site
def P (b : Addr) (A : Cell) (d : Addr) (B : Cell) (o q len : Nat) (args : Array Value) (s : State) : Prop := args = #[.ref b, .int (Int32.ofNat o), .ref d, .int (Int32.ofNat q), .int (Int32.ofNat len)] ∧ Ch b A s ∧ Arr .byte d B s ∧ b ≠ d ∧ o + len ≤ A.slots.size ∧ q + len ≤ B.slots.size ∧ ∀ i, i < len → ¬ 255 < cv A (o + i)
def E (b : Addr) (A : Cell) (d : Addr) (B : Cell) (o q len : Nat) (r : Option Value) (s u : State) : Prop := r = some (.int (Int32.ofNat len)) ∧ ∃ B', Put d B' s u ∧ Laid B B' q (q + len) (fun j => Value.int (lo8 (cv A (o + (j - q)))))
/-- no char of the range above 255: len; the places written hold each char's low byte -/
theorem law (l : Launch) (b : Addr) (A : Cell) (d : Addr) (B : Cell) (o q len : Nat) : Law l yN 5 5 0 0 yB 7 (some .int) site (P b A d B o q len) (E b A d B o q len) (copyLocs d q len) 0 0 := by
  refine Law.of_walk (plainFor_of_name (by decide +kernel)) (by decide +kernel) (by decide +kernel) (by decide) (fun _ _ h => by rw [h.1]; rfl) (fun _ U U' hal hh h => ⟨h.1, h.2.1.mv hal hh, h.2.2.1.mv hal hh, h.2.2.2⟩) (fun r U U' V V' h1 hal h2 h => ⟨h.1, h.2.elim fun B' q => ⟨B', q.1.mv h1 h2, q.2⟩⟩) ?_
  intro p e s m args below meth c s₁ X0 hexec hbytes hml hret hlk hnm hown hh0 W hP
  obtain ⟨rfl, hA, hB, hne, l1, l2, hp⟩ := hP
  have c1 : Steps p.tables e below (s₁.setTop (entryFrame m #[.ref b, .int (Int32.ofNat o), .ref d, .int (Int32.ofNat q), .int (Int32.ofNat len)] 7)) (s₁.setTop (mkF m 0 #[.val (.ref b), .val (.int (Int32.ofNat o)), .val (.ref d), .val (.int (Int32.ofNat q)), .val (.int (Int32.ofNat len)), .unset, .unset] [])) := entry rfl
  have hA0 := hA.1.mv X0.warmed.alike hh0
  have hB0 := hB.mv X0.warmed.alike hh0
  have a31 := hA.1.2.2.2
  have c2 : Steps p.tables e below (s₁.setTop (entryFrame m #[.ref b, .int (Int32.ofNat o), .ref d, .int (Int32.ofNat q), .int (Int32.ofNat len)] 7)) (s₁.setTop (mkF m 3 #[.val (.ref b), .val (.int (Int32.ofNat o)), .val (.ref d), .val (.int (Int32.ofNat q)), .val (.int (Int32.ofNat len)), .val (.int 0), .unset] [])) := c1.trans (by
    refine iconstV X0.here hexec rfl 0 (hb hbytes d0) (by decide) ?_
    refine XS.istore X0.here hexec rfl (hb hbytes d1) rfl rfl ?_
    exact Steps.refl _)
  have loop : ∀ (r i : Nat), i + r = len → ∀ (z : Slot), (z = .unset ∨ ∃ w, z = .val w ∧ w.category = 1) → ∀ (Tl : State) (Bk : Cell), Stand p l e { frames := 0, locals := 0, cells := 0, slots := 0 } s m #[.ref b, .int (Int32.ofNat o), .ref d, .int (Int32.ofNat q), .int (Int32.ofNat len)] below meth c Tl ([] ++ copyLocs d q i) 0 0 → Put d Bk s₁ Tl → Laid B Bk q (q + i) (fun j => Value.int (lo8 (cv A (o + (j - q))))) →
      Steps p.tables e below (s₁.setTop (entryFrame m #[.ref b, .int (Int32.ofNat o), .ref d, .int (Int32.ofNat q), .int (Int32.ofNat len)] 7)) (Tl.setTop (mkF m 3 #[.val (.ref b), .val (.int (Int32.ofNat (o + i))), .val (.ref d), .val (.int (Int32.ofNat (q + i))), .val (.int (Int32.ofNat len)), .val (.int (Int32.ofNat i)), z] [])) → ∃ (T' : State) (B' : Cell) (z' : Slot), Stand p l e { frames := 0, locals := 0, cells := 0, slots := 0 } s m #[.ref b, .int (Int32.ofNat o), .ref d, .int (Int32.ofNat q), .int (Int32.ofNat len)] below meth c T' ([] ++ copyLocs d q len) 0 0 ∧ Put d B' s₁ T' ∧ Laid B B' q (q + len) (fun j => Value.int (lo8 (cv A (o + (j - q))))) ∧
      Steps p.tables e below (s₁.setTop (entryFrame m #[.ref b, .int (Int32.ofNat o), .ref d, .int (Int32.ofNat q), .int (Int32.ofNat len)] 7)) (T'.setTop (mkF m 3 #[.val (.ref b), .val (.int (Int32.ofNat (o + len))), .val (.ref d), .val (.int (Int32.ofNat (q + len))), .val (.int (Int32.ofNat len)), .val (.int (Int32.ofNat len)), z'] [])) := by
    intro r
    induction r with
    | zero =>
      intro i hi z hz Tl Bk Xl pl fl cl
      have hil : i = len := by omega
      rw [hil] at Xl fl cl
      exact ⟨Tl, Bk, z, Xl, pl, fl, cl⟩
    | succ r ih =>
      intro i hi z hz Tl Bk Xl pl fl cl
      have all := X0.warmed.alike.symm.trans Xl.warmed.alike
      have hAl := hA0.keep all (pl.other hne hA0.1)
      have hBk := hB0.like all pl.1 fl.1 fl.2.1 fl.2.2.1
      have hlt : q + i < Bk.slots.size := by rw [fl.2.2.1]; omega
      have c3 : Steps p.tables e below (s₁.setTop (entryFrame m #[.ref b, .int (Int32.ofNat o), .ref d, .int (Int32.ofNat q), .int (Int32.ofNat len)] 7)) (Tl.setTop (mkF m 12 #[.val (.ref b), .val (.int (Int32.ofNat (o + i))), .val (.ref d), .val (.int (Int32.ofNat (q + i))), .val (.int (Int32.ofNat len)), .val (.int (Int32.ofNat i)), z] [.int (Int32.ofNat (o + i)), .ref b])) := cl.trans (by
        refine XS.iload Xl.here hexec rfl (hb hbytes d3) rfl ?_
        refine XS.iload Xl.here hexec rfl (hb hbytes d5) rfl ?_
        refine XS.icmpNo Xl.here hexec rfl (hb hbytes d7) rfl (ii_ge_f (lt32 (by omega) (by omega))) ?_
        refine XS.aloadN Xl.here hexec rfl (hb hbytes d10) rfl rfl ?_
        refine XS.iloadN Xl.here hexec rfl (hb hbytes d11) rfl ?_
        exact Steps.refl _)
      have c4 : Steps p.tables e below (s₁.setTop (entryFrame m #[.ref b, .int (Int32.ofNat o), .ref d, .int (Int32.ofNat q), .int (Int32.ofNat len)] 7)) (Tl.setTop (mkF m 13 #[.val (.ref b), .val (.int (Int32.ofNat (o + i))), .val (.ref d), .val (.int (Int32.ofNat (q + i))), .val (.int (Int32.ofNat len)), .val (.int (Int32.ofNat i)), z] [.int (cv A (o + i))])) := c3.trans (by
        refine Xl.aget hexec hAl rfl (hA.get (i := o + i) (by omega)) rfl rfl (hb hbytes d12) ?_
        exact Steps.refl _)
      have c5 : Steps p.tables e below (s₁.setTop (entryFrame m #[.ref b, .int (Int32.ofNat o), .ref d, .int (Int32.ofNat q), .int (Int32.ofNat len)] 7)) (Tl.setTop (mkF m 15 #[.val (.ref b), .val (.int (Int32.ofNat (o + i))), .val (.ref d), .val (.int (Int32.ofNat (q + i))), .val (.int (Int32.ofNat len)), .val (.int (Int32.ofNat i)), .val (.int (cv A (o + i)))] [])) := c4.trans (by
        refine XS.istoreS Xl.here hexec rfl (hb hbytes d13) rfl rfl hz ?_
        exact Steps.refl _)
      have c6 : Steps p.tables e below (s₁.setTop (entryFrame m #[.ref b, .int (Int32.ofNat o), .ref d, .int (Int32.ofNat q), .int (Int32.ofNat len)] 7)) (Tl.setTop (mkF m 31 #[.val (.ref b), .val (.int (Int32.ofNat (o + i))), .val (.ref d), .val (.int (Int32.ofNat (q + i))), .val (.int (Int32.ofNat len)), .val (.int (Int32.ofNat i)), .val (.int (cv A (o + i)))] [.int (lo8 (cv A (o + i))), .int (Int32.ofNat (q + i)), .ref d])) := c5.trans (by
        refine XS.iload Xl.here hexec rfl (hb hbytes d15) rfl ?_
        refine sipushV Xl.here hexec rfl 255 (hb hbytes d17) (by decide) ?_
        refine XS.icmpYes Xl.here hexec rfl (pc0 := 20) rfl (hb hbytes d20) rfl (ii_le_t (hp i (by omega))) (by decide) rfl ?_
        refine XS.aloadN Xl.here hexec rfl (hb hbytes d26) rfl rfl ?_
        refine XS.iloadN Xl.here hexec rfl (hb hbytes d27) rfl ?_
        refine XS.iload Xl.here hexec rfl (hb hbytes d28) rfl ?_
        refine i2b Xl.here hexec rfl (hb hbytes d30) rfl ?_
        exact Steps.refl _)
      obtain ⟨T7, X7, p7, st7⟩ := Xl.aput hexec hBk rfl hlt rfl (fits_lo8 (cv A (o + i))) (g := (mkF m 31 #[.val (.ref b), .val (.int (Int32.ofNat (o + i))), .val (.ref d), .val (.int (Int32.ofNat (q + i))), .val (.int (Int32.ofNat len)), .val (.int (Int32.ofNat i)), .val (.int (cv A (o + i)))] [.int (lo8 (cv A (o + i))), .int (Int32.ofNat (q + i)), .ref d])) rfl (rest := []) rfl (hb hbytes d31)
      have c8 : Steps p.tables e below (s₁.setTop (entryFrame m #[.ref b, .int (Int32.ofNat o), .ref d, .int (Int32.ofNat q), .int (Int32.ofNat len)] 7)) (T7.setTop (mkF m 32 #[.val (.ref b), .val (.int (Int32.ofNat (o + i))), .val (.ref d), .val (.int (Int32.ofNat (q + i))), .val (.int (Int32.ofNat len)), .val (.int (Int32.ofNat i)), .val (.int (cv A (o + i)))] [])) := c6.trans (st7 _ (Steps.refl _))
      have c9 : Steps p.tables e below (s₁.setTop (entryFrame m #[.ref b, .int (Int32.ofNat o), .ref d, .int (Int32.ofNat q), .int (Int32.ofNat len)] 7)) (T7.setTop (mkF m 3 #[.val (.ref b), .val (.int (Int32.ofNat (o + i) + 1)), .val (.ref d), .val (.int (Int32.ofNat (q + i) + 1)), .val (.int (Int32.ofNat len)), .val (.int (Int32.ofNat i + 1)), .val (.int (cv A (o + i)))] [])) := c8.trans (by
        refine iincV X7.here hexec rfl 1 (hb hbytes d32) (by decide) rfl rfl ?_
        refine iincV X7.here hexec rfl 1 (hb hbytes d35) (by decide) rfl rfl ?_
        refine iincV X7.here hexec rfl 1 (hb hbytes d38) (by decide) rfl rfl ?_
        refine XS.goto X7.here hexec rfl (pc0 := 41) rfl (hb hbytes d41) (by decide) rfl ?_
        exact Steps.refl _)
      have c10 : Steps p.tables e below (s₁.setTop (entryFrame m #[.ref b, .int (Int32.ofNat o), .ref d, .int (Int32.ofNat q), .int (Int32.ofNat len)] 7)) (T7.setTop (mkF m 3 #[.val (.ref b), .val (.int (Int32.ofNat (o + (i + 1)))), .val (.ref d), .val (.int (Int32.ofNat (q + (i + 1)))), .val (.int (Int32.ofNat len)), .val (.int (Int32.ofNat (i + 1))), .val (.int (cv A (o + i)))] [])) := by
        have := c9
        rw [succ32, succ32, succ32] at this
        exact this
      exact ih (i + 1) (by omega) _ (Or.inr ⟨_, rfl, rfl⟩) T7 _ (by rw [copyLocs_step, ← List.append_assoc]; exact X7) (pl.trans p7) (fl.step (by omega) hlt (by simp)) c10
  obtain ⟨T9, B9, z9, X9, p9, f9, g9⟩ := loop len 0 (by omega) .unset (Or.inl rfl) s₁ B (by simpa [copyLocs] using X0) ⟨hB0.1, fun _ _ => rfl, rfl⟩ (Laid.zero _ _ _) c2
  have c11 : Steps p.tables e below (s₁.setTop (entryFrame m #[.ref b, .int (Int32.ofNat o), .ref d, .int (Int32.ofNat q), .int (Int32.ofNat len)] 7)) (T9.setTop (mkF m 46 #[.val (.ref b), .val (.int (Int32.ofNat (o + len))), .val (.ref d), .val (.int (Int32.ofNat (q + len))), .val (.int (Int32.ofNat len)), .val (.int (Int32.ofNat len)), z9] [.int (Int32.ofNat len)])) := g9.trans (by
    refine XS.iload X9.here hexec rfl (hb hbytes d3) rfl ?_
    refine XS.iload X9.here hexec rfl (hb hbytes d5) rfl ?_
    refine XS.icmpYes X9.here hexec rfl (pc0 := 7) rfl (hb hbytes d7) rfl (ii_ge_t (nlt32 (by omega) (Nat.le_refl _))) (by decide) rfl ?_
    refine XS.iload X9.here hexec rfl (hb hbytes d44) rfl ?_
    exact Steps.refl _)
  exact ⟨T9, some (.int (Int32.ofNat len)), _, _, _, X9, by simp, rfl, rfl, (fun h => by cases h), ⟨rfl, B9, p9.from hh0, f9⟩, fun fs hl => c11.trans (X9.ireturnOut hexec hret rfl (Or.inl rfl) (hb hbytes d46) hl)⟩
end Cmp5
namespace Cmp3
def yN : MethodName := ⟨"java/lang/StringUTF16", "compress", "([CII)[B"⟩
abbrev yB : ByteArray := jdk_52_method_16_code
theorem d0 : decode yB 0 = .ok (.iload_n 2, 1) := by decide +kernel
theorem d1 : decode yB 1 = .ok (.newarray .byte, 2) := by decide +kernel
theorem d3 : decode yB 3 = .ok (.astore_n 3, 1) := by decide +kernel
theorem d4 : decode yB 4 = .ok (.aload_n 0, 1) := by decide +kernel
theorem d5 : decode yB 5 = .ok (.iload_n 1, 1) := by decide +kernel
theorem d6 : decode yB 6 = .ok (.aload_n 3, 1) := by decide +kernel
theorem d7 : decode yB 7 = .ok (.iconst 0, 1) := by decide +kernel
theorem d8 : decode yB 8 = .ok (.iload_n 2, 1) := by decide +kernel
theorem d9 : decode yB 9 = .ok (.invokestatic 115, 3) := by decide +kernel
theorem d12 : decode yB 12 = .ok (.istore 4, 2) := by decide +kernel
theorem d14 : decode yB 14 = .ok (.iload 4, 2) := by decide +kernel
theorem d16 : decode yB 16 = .ok (.iload_n 2, 1) := by decide +kernel
theorem d17 : decode yB 17 = .ok (.if_icmp (.eq) 40, 3) := by decide +kernel
theorem d57 : decode yB 57 = .ok (.aload_n 3, 1) := by decide +kernel
theorem d58 : decode yB 58 = .ok (.areturn, 1) := by decide +kernel
def site : List Cond := [.arrayClass .byte, Cmp5.tab] ++ staticW U16 115 Cmp5.yN
def tab : Cond := tabOf yN yB 6 (some (.array .byte)) site
def P (b : Addr) (A : Cell) (o len : Nat) (args : Array Value) (s : State) : Prop := args = #[.ref b, .int (Int32.ofNat o), .int (Int32.ofNat len)] ∧ Ch b A s ∧ o + len ≤ A.slots.size ∧ len ≤ 536870912 ∧ ∀ i, i < len → ¬ 255 < cv A (o + i)
def E (b : Addr) (A : Cell) (o len : Nat) (r : Option Value) (s u : State) : Prop := NewArr .byte "[B" len (fun j => .int (lo8 (cv A (o + j)))) r s u ∧ u.heap.size = s.heap.size + 1
/-- no char of the range above 255: a new byte[] of their low bytes -/
theorem law (l : Launch) (b : Addr) (A : Cell) (o len : Nat) : Law l yN 3 3 1 18 yB 6 (some (.array .byte)) site (P b A o len) (E b A o len) [] 1 len := by
  refine Law.of_walk (plainFor_of_name (by decide +kernel)) (by decide +kernel) (by decide +kernel) (by decide) (fun _ _ h => by rw [h.1]; rfl) (fun _ U U' hal hh h => ⟨h.1, h.2.1.mv hal hh, h.2.2⟩) (fun r U U' V V' h1 hal h2 h => ⟨NewArr.mv r U U' V V' h1 hal h2 h.1, by rw [h1, h2]; exact h.2⟩) ?_
  intro p e s m args below meth c s₁ X0 hexec hbytes hml hret hlk hnm hown hh0 W hP
  obtain ⟨rfl, hA, l1, l2, hp⟩ := hP
  have a31 := hA.1.2.2.2
  have c1 : Steps p.tables e below (s₁.setTop (entryFrame m #[.ref b, .int (Int32.ofNat o), .int (Int32.ofNat len)] 6)) (s₁.setTop (mkF m 0 #[.val (.ref b), .val (.int (Int32.ofNat o)), .val (.int (Int32.ofNat len)), .unset, .unset, .unset] [])) := entry rfl
  have c2 : Steps p.tables e below (s₁.setTop (entryFrame m #[.ref b, .int (Int32.ofNat o), .int (Int32.ofNat len)] 6)) (s₁.setTop (mkF m 1 #[.val (.ref b), .val (.int (Int32.ofNat o)), .val (.int (Int32.ofNat len)), .unset, .unset, .unset] [.int (Int32.ofNat len)])) := c1.trans (by
    refine XS.iloadN X0.here hexec rfl (hb hbytes d0) rfl ?_
    exact Steps.refl _)
  obtain ⟨T3, B3, X3, ba3, bs3, bv3, bh3, bf3, st3⟩ := X0.anew hexec (atype := .byte) (wk W (.arrayClass .byte)) rfl (by show len * 1 ≤ _; omega) (by omega) (g := (mkF m 1 #[.val (.ref b), .val (.int (Int32.ofNat o)), .val (.int (Int32.ofNat len)), .unset, .unset, .unset] [.int (Int32.ofNat len)])) rfl (hb hbytes d1) (rest := []) rfl (Nat.le_refl _) (by show 0 + len ≤ len; omega)
  rw [hh0] at ba3 st3
  have kp3 : XT.Kept s T3 := (XT.Kept.of_eq hh0).push bh3
  have hA3 := hA.keep X3.warmed.alike (kp3 _ _ hA.1.1)
  have hne : b ≠ s.heap.size := hA.1.ne
  have c4 : Steps p.tables e below (s₁.setTop (entryFrame m #[.ref b, .int (Int32.ofNat o), .int (Int32.ofNat len)] 6)) (T3.setTop (mkF m 3 #[.val (.ref b), .val (.int (Int32.ofNat o)), .val (.int (Int32.ofNat len)), .unset, .unset, .unset] [.ref s.heap.size])) := c2.trans (st3 _ (Steps.refl _))
  have c5 : Steps p.tables e below (s₁.setTop (entryFrame m #[.ref b, .int (Int32.ofNat o), .int (Int32.ofNat len)] 6)) (T3.setTop (mkF m 9 #[.val (.ref b), .val (.int (Int32.ofNat o)), .val (.int (Int32.ofNat len)), .val (.ref s.heap.size), .unset, .unset] [.int (Int32.ofNat len), .int 0, .ref s.heap.size, .int (Int32.ofNat o), .ref b])) := c4.trans (by
    refine XS.astoreN X3.here hexec rfl (hb hbytes d3) rfl rfl rfl ?_
    refine XS.aloadN X3.here hexec rfl (hb hbytes d4) rfl rfl ?_
    refine XS.iloadN X3.here hexec rfl (hb hbytes d5) rfl ?_
    refine XS.aloadN X3.here hexec rfl (hb hbytes d6) rfl rfl ?_
    refine iconstV X3.here hexec rfl 0 (hb hbytes d7) (by decide) ?_
    refine XS.iloadN X3.here hexec rfl (hb hbytes d8) rfl ?_
    exact Steps.refl _)
  obtain ⟨v6, T6, X6, E6, g6⟩ := X3.callS hexec (Cmp5.law l b A s.heap.size B3 o 0 len) hown (wks W (staticW U16 115 Cmp5.yN)) (wk W Cmp5.tab) (W := 0) (Nat.le_of_ble_eq_true rfl) (Nat.le_of_ble_eq_true rfl) (Nat.le_refl _) (by show 0 + len + 0 ≤ len; omega) (g := (mkF m 9 #[.val (.ref b), .val (.int (Int32.ofNat o)), .val (.int (Int32.ofNat len)), .val (.ref s.heap.size), .unset, .unset] [.int (Int32.ofNat len), .int (Int32.ofNat 0), .ref s.heap.size, .int (Int32.ofNat o), .ref b])) rfl (by rw [hml]; rfl) c5 (argsL := [.ref b, .int (Int32.ofNat o), .ref s.heap.size, .int (Int32.ofNat 0), .int (Int32.ofNat len)]) (rest := []) rfl rfl (by show 2 * 0 + 0 ≤ _; decide) (hb hbytes d9) (⟨rfl, hA3, ba3, hne, l1, by rw [bs3]; simp, hp⟩)
  obtain ⟨rfl, B6, p6, f6⟩ := E6
  have c7 : Steps p.tables e below (s₁.setTop (entryFrame m #[.ref b, .int (Int32.ofNat o), .int (Int32.ofNat len)] 6)) (T6.setTop (mkF m 12 #[.val (.ref b), .val (.int (Int32.ofNat o)), .val (.int (Int32.ofNat len)), .val (.ref s.heap.size), .unset, .unset] [.int (Int32.ofNat len)])) := g6
  have c8 : Steps p.tables e below (s₁.setTop (entryFrame m #[.ref b, .int (Int32.ofNat o), .int (Int32.ofNat len)] 6)) (T6.setTop (mkF m 58 #[.val (.ref b), .val (.int (Int32.ofNat o)), .val (.int (Int32.ofNat len)), .val (.ref s.heap.size), .val (.int (Int32.ofNat len)), .unset] [.ref s.heap.size])) := c7.trans (by
    refine XS.istore X6.here hexec rfl (hb hbytes d12) rfl rfl ?_
    refine XS.iload X6.here hexec rfl (hb hbytes d14) rfl ?_
    refine XS.iloadN X6.here hexec rfl (hb hbytes d16) rfl ?_
    refine XS.icmpYes X6.here hexec rfl (pc0 := 17) rfl (hb hbytes d17) rfl (ii_eq_t rfl) (by decide) rfl ?_
    refine XS.aloadN X6.here hexec rfl (hb hbytes d57) rfl rfl ?_
    exact Steps.refl _)
  have X8 := X6.wide (L' := []) (cells' := 1) (slots' := len) (fun x hx hlt => by
    simp only [List.nil_append, copyLocs, List.mem_map, List.mem_range] at hx
    obtain ⟨i, -, rfl⟩ := hx
    exact absurd hlt (Nat.lt_irrefl _)) (Nat.le_refl _) (by omega)
  exact ⟨T6, some (.ref s.heap.size), _, _, _, X8, rfl, rfl, rfl, (fun h => by cases h), ⟨⟨rfl, B6, ba3.like (X3.warmed.alike.symm.trans X6.warmed.alike) p6.1 f6.1 f6.2.1 f6.2.2.1, f6.2.1.trans bv3, by rw [X6.warmed.alike.findClass, f6.1]; exact bf3, by rw [f6.2.2.1, bs3]; simp, fun j hj => by rw [f6.2.2.2 j, if_pos (by omega)]; rfl, kp3.put p6 (Nat.le_refl _)⟩, by rw [p6.2.2, bh3, hh0]; simp⟩, fun fs hl => c8.trans (X8.areturnOut hexec rfl hret rfl (hb hbytes d58) hl)⟩
end Cmp3
namespace CodL
def yN : MethodName := ⟨"java/lang/StringUTF16", "coderFromArrayLen", "([BI)B"⟩
abbrev yB : ByteArray := jdk_52_method_15_code
theorem d0 : decode yB 0 = .ok (.iload_n 1, 1) := by decide +kernel
theorem d1 : decode yB 1 = .ok (.aload_n 0, 1) := by decide +kernel
theorem d2 : decode yB 2 = .ok (.arraylength, 1) := by decide +kernel
theorem d3 : decode yB 3 = .ok (.isub, 1) := by decide +kernel
theorem d4 : decode yB 4 = .ok (.bipush 31, 2) := by decide +kernel
theorem d6 : decode yB 6 = .ok (.iushr, 1) := by decide +kernel
theorem d7 : decode yB 7 = .ok (.i2b, 1) := by decide +kernel
theorem d8 : decode yB 8 = .ok (.ireturn, 1) := by decide +kernel
def site : List Cond := []
def tab : Cond := tabOf yN yB 2 (some .byte) site
def P (d : Addr) (B : Cell) (args : Array Value) (s : State) : Prop := args = #[.ref d, .int (Int32.ofNat B.slots.size)] ∧ Arr .byte d B s
def E (r : Option Value) (s u : State) : Prop := XT.PureE (some (.int 0)) r s u
/-- an array as long as the number of chars: LATIN1 -/
theorem law (l : Launch) (d : Addr) (B : Cell) : Law l yN 2 2 0 0 yB 2 (some .byte) site (P d B) E [] 0 0 := by
  refine Law.of_walk (plainFor_of_name (by decide +kernel)) (by decide +kernel) (by decide +kernel) (by decide) (fun _ _ h => by rw [h.1]; rfl) (fun _ U U' hal hh h => ⟨h.1, h.2.mv hal hh⟩) (fun r U U' V V' h1 hal h2 h => XT.PureE.mv r U U' V V' h1 hal h2 h) ?_
  intro p e s m args below meth c s₁ X0 hexec hbytes hml hret hlk hnm hown hh0 W hP
  obtain ⟨rfl, hB⟩ := hP
  have hB0 := hB.mv X0.warmed.alike hh0
  have c1 : Steps p.tables e below (s₁.setTop (entryFrame m #[.ref d, .int (Int32.ofNat B.slots.size)] 2)) (s₁.setTop (mkF m 0 #[.val (.ref d), .val (.int (Int32.ofNat B.slots.size))] [])) := entry rfl
  have c2 : Steps p.tables e below (s₁.setTop (entryFrame m #[.ref d, .int (Int32.ofNat B.slots.size)] 2)) (s₁.setTop (mkF m 2 #[.val (.ref d), .val (.int (Int32.ofNat B.slots.size))] [.ref d, .int (Int32.ofNat B.slots.size)])) := c1.trans (by
    refine XS.iloadN X0.here hexec rfl (hb hbytes d0) rfl ?_
    refine XS.aloadN X0.here hexec rfl (hb hbytes d1) rfl rfl ?_
    exact Steps.refl _)
  have c3 : Steps p.tables e below (s₁.setTop (entryFrame m #[.ref d, .int (Int32.ofNat B.slots.size)] 2)) (s₁.setTop (mkF m 8 #[.val (.ref d), .val (.int (Int32.ofNat B.slots.size))] [.int (lo8 (ushr (Int32.ofNat B.slots.size - Int32.ofNat B.slots.size) 31))])) := c2.trans (by
    refine X0.alen hexec hB0 rfl rfl (hb hbytes d2) ?_
    refine XS.isub X0.here hexec rfl (hb hbytes d3) rfl ?_
    refine bipushV X0.here hexec rfl 31 (hb hbytes d4) (by decide) ?_
    refine iushr X0.here hexec rfl (hb hbytes d6) rfl ?_
    refine i2b X0.here hexec rfl (hb hbytes d7) rfl ?_
    exact Steps.refl _)
  have e0 : lo8 (ushr (Int32.ofNat B.slots.size - Int32.ofNat B.slots.size) 31) = 0 := by rw [Int32.sub_self]; decide
  rw [e0] at c3
  exact ⟨s₁, some (.int 0), _, _, _, X0, rfl, rfl, rfl, (fun h => by cases h), ⟨rfl, hh0⟩, fun fs hl => c3.trans (X0.ireturnOut hexec hret rfl (Or.inr (Or.inr (Or.inl rfl))) (hb hbytes d8) hl)⟩
end CodL
/-- the String at a is Latin-1 over a new byte[] (the heap's one new cell): the low bytes of the len chars of A from o on; every cell but a is kept -/
def Got (a : Addr) (D : Cell) (fV fC : Field) (A : Cell) (o len : Nat) (r : Option Value) (s u : State) : Prop := r = none ∧ ∃ D' V : Cell, Blank "java/lang/String" a D' u ∧ Same D D' [fV.slot, fC.slot] ∧ D'.slots[fV.slot]? = some (.ref s.heap.size) ∧ D'.slots[fC.slot]? = some (.int 0) ∧ Arr .byte s.heap.size V u ∧ V.vm = .none ∧ u.vm.findClass "[B" = some V.cls ∧ V.slots.size = len ∧ (∀ j, j < len → V.slots[j]? = some (.int (lo8 (cv A (o + j))))) ∧ (∀ (y : Addr) (c : Cell), y ≠ a → s.heap[y]? = some c → u.heap[y]? = some c) ∧ u.heap.size = s.heap.size + 1
theorem Got.mv {a : Addr} {D A : Cell} {fV fC : Field} {o len : Nat} : ∀ r (U U' V V' : State), U'.heap = U.heap → V.vm.Alike V'.vm → V'.heap = V.heap → Got a D fV fC A o len r U V → Got a D fV fC A o len r U' V' :=
  fun r U U' V V' h1 hal h2 ⟨e0, D', X, a1, a2, a3, a4, a5, a6, a7, a8, a9, a10, a11⟩ => ⟨e0, D', X, a1.mv hal h2, a2, by rw [h1]; exact a3, a4, by rw [h1]; exact a5.mv hal h2, a6, by rw [hal.findClass]; exact a7, a8, a9, by rw [h1, h2]; exact a10, by rw [h1, h2]; exact a11⟩
namespace New4
def yN : MethodName := ⟨"java/lang/String", "<init>", "([CIILjava/lang/Void;)V"⟩
abbrev yB : ByteArray := jdk_42_method_149_code
theorem d0 : decode yB 0 = .ok (.aload_n 0, 1) := by decide +kernel
theorem d1 : decode yB 1 = .ok (.invokespecial 1, 3) := by decide +kernel
theorem d4 : decode yB 4 = .ok (.iload_n 3, 1) := by decide +kernel
theorem d5 : decode yB 5 = .ok (.ifCond (.ne) 22, 3) := by decide +kernel
theorem d27 : decode yB 27 = .ok (.getstatic 38, 3) := by decide +kernel
theorem d30 : decode yB 30 = .ok (.ifCond (.eq) 28, 3) := by decide +kernel
theorem d33 : decode yB 33 = .ok (.aload_n 1, 1) := by decide +kernel
theorem d34 : decode yB 34 = .ok (.iload_n 2, 1) := by decide +kernel
theorem d35 : decode yB 35 = .ok (.iload_n 3, 1) := by decide +kernel
theorem d36 : decode yB 36 = .ok (.invokestatic 177, 3) := by decide +kernel
theorem d39 : decode yB 39 = .ok (.astore 5, 2) := by decide +kernel
theorem d41 : decode yB 41 = .ok (.aload_n 0, 1) := by decide +kernel
theorem d42 : decode yB 42 = .ok (.aload 5, 2) := by decide +kernel
theorem d44 : decode yB 44 = .ok (.iload_n 3, 1) := by decide +kernel
theorem d45 : decode yB 45 = .ok (.invokestatic 47, 3) := by decide +kernel
theorem d48 : decode yB 48 = .ok (.putfield 15, 3) := by decide +kernel
theorem d51 : decode yB 51 = .ok (.aload_n 0, 1) := by decide +kernel
theorem d52 : decode yB 52 = .ok (.aload 5, 2) := by decide +kernel
theorem d54 : decode yB 54 = .ok (.putfield 9, 3) := by decide +kernel
theorem d57 : decode yB 57 = .ok (.return_, 1) := by decide +kernel
def site : List Cond := [.fieldLink "java/lang/String" 38 "java/lang/String" "COMPACT_STRINGS" "Z", Cmp3.tab, CodL.tab, .laysFinal "java/lang/String" "java/lang/String" "value" "[B", .fieldLink "java/lang/String" 9 "java/lang/String" "value" "[B", .laysFinal "java/lang/String" "java/lang/String" "coder" "B", .fieldLink "java/lang/String" 15 "java/lang/String" "coder" "B"] ++ objW "java/lang/String" 1 ++ staticW "java/lang/String" 177 Cmp3.yN ++ staticW "java/lang/String" 47 CodL.yN
def tab : Cond := tabOf yN yB 6 none site
def P (a : Addr) (D : Cell) (fV fC : Field) (b : Addr) (A : Cell) (z : Int32) (o len : Nat) (args : Array Value) (s : State) : Prop := args = #[.ref a, .ref b, .int (Int32.ofNat o), .int (Int32.ofNat len), .null] ∧ Blank "java/lang/String" a D s ∧ Found "java/lang/String" "value" "[B" fV s ∧ Found "java/lang/String" "coder" "B" fC s ∧ Ch b A s ∧ StaticIs s "java/lang/String" "COMPACT_STRINGS" "Z" (.int z) ∧ ¬ z = 0 ∧ 0 < len ∧ o + len ≤ A.slots.size ∧ len ≤ 536870912 ∧ ∀ i, i < len → ¬ 255 < cv A (o + i)
def E (a : Addr) (D : Cell) (fV fC : Field) (A : Cell) (o len : Nat) (r : Option Value) (s u : State) : Prop := Got a D fV fC A o len r s u
/-- len > 0, no char of the range above 255: a Latin-1 String of their low bytes -/
theorem law (l : Launch) (a : Addr) (D : Cell) (fV fC : Field) (b : Addr) (A : Cell) (z : Int32) (o len : Nat) : Law l yN 5 4 2 35 yB 6 none site (P a D fV fC b A z o len) (E a D fV fC A o len) [⟨a, fC.slot⟩, ⟨a, fV.slot⟩] 1 len := by
  refine Law.of_walk (plainFor_of_name (by decide +kernel)) (by decide +kernel) (by decide +kernel) (by decide) (fun _ _ h => by rw [h.1]; rfl) (fun _ U U' hal hh h => ⟨h.1, h.2.1.mv hal hh, h.2.2.1.al hal, h.2.2.2.1.al hal, h.2.2.2.2.1.mv hal hh, h.2.2.2.2.2.1.there hal hh, h.2.2.2.2.2.2⟩) (fun r U U' V V' h1 hal h2 h => Got.mv r U U' V V' h1 hal h2 h) ?_
  intro p e s m args below meth c s₁ X0 hexec hbytes hml hret hlk hnm hown hh0 W hP
  obtain ⟨rfl, hB, f1, f2, hA, s1, hz, l0, l1, l2, hp⟩ := hP
  have a31 := hA.1.2.2.2
  have c1 : Steps p.tables e below (s₁.setTop (entryFrame m #[.ref a, .ref b, .int (Int32.ofNat o), .int (Int32.ofNat len), .null] 6)) (s₁.setTop (mkF m 0 #[.val (.ref a), .val (.ref b), .val (.int (Int32.ofNat o)), .val (.int (Int32.ofNat len)), .val .null, .unset] [])) := entry rfl
  have c2 : Steps p.tables e below (s₁.setTop (entryFrame m #[.ref a, .ref b, .int (Int32.ofNat o), .int (Int32.ofNat len), .null] 6)) (s₁.setTop (mkF m 1 #[.val (.ref a), .val (.ref b), .val (.int (Int32.ofNat o)), .val (.int (Int32.ofNat len)), .val .null, .unset] [.ref a])) := c1.trans (by
    refine XS.aloadN X0.here hexec rfl (hb hbytes d0) rfl rfl ?_
    exact Steps.refl _)
  obtain ⟨T3, X3, q3, st3⟩ := X0.oinit hexec hown (wks W (objW "java/lang/String" 1)) (g := (mkF m 1 #[.val (.ref a), .val (.ref b), .val (.int (Int32.ofNat o)), .val (.int (Int32.ofNat len)), .val .null, .unset] [.ref a])) rfl (by rw [hml]; rfl) (rest := []) rfl (hb hbytes d1) (W := 0) (by show 2 * 0 + 0 ≤ _; decide) (Nat.le_of_ble_eq_true rfl) (Nat.le_of_ble_eq_true rfl)
  have hh3 := q3.trans hh0
  have c4 : Steps p.tables e below (s₁.setTop (entryFrame m #[.ref a, .ref b, .int (Int32.ofNat o), .int (Int32.ofNat len), .null] 6)) (T3.setTop (mkF m 27 #[.val (.ref a), .val (.ref b), .val (.int (Int32.ofNat o)), .val (.int (Int32.ofNat len)), .val .null, .unset] [])) := (c2.trans (st3 _ (Steps.refl _))).trans (by
    refine XS.iloadN X3.here hexec rfl (hb hbytes d4) rfl ?_
    refine XS.ifYes X3.here hexec rfl (pc0 := 5) rfl (hb hbytes d5) rfl (i0_ne_t (nz32 (by omega) l0)) (by decide) rfl ?_
    exact Steps.refl _)
  obtain ⟨T5, X5, q5, st5⟩ := X3.sget hexec hown (wk W (.fieldLink "java/lang/String" 38 "java/lang/String" "COMPACT_STRINGS" "Z")) s1 (fun _ _ h => by rw [hh3]; exact h) (g := (mkF m 27 #[.val (.ref a), .val (.ref b), .val (.int (Int32.ofNat o)), .val (.int (Int32.ofNat len)), .val .null, .unset] [])) rfl (hb hbytes d27)
  have hh5 := q5.trans hh3
  have c6 : Steps p.tables e below (s₁.setTop (entryFrame m #[.ref a, .ref b, .int (Int32.ofNat o), .int (Int32.ofNat len), .null] 6)) (T5.setTop (mkF m 30 #[.val (.ref a), .val (.ref b), .val (.int (Int32.ofNat o)), .val (.int (Int32.ofNat len)), .val .null, .unset] [.int z])) := c4.trans (st5 _ (Steps.refl _))
  have c7 : Steps p.tables e below (s₁.setTop (entryFrame m #[.ref a, .ref b, .int (Int32.ofNat o), .int (Int32.ofNat len), .null] 6)) (T5.setTop (mkF m 36 #[.val (.ref a), .val (.ref b), .val (.int (Int32.ofNat o)), .val (.int (Int32.ofNat len)), .val .null, .unset] [.int (Int32.ofNat len), .int (Int32.ofNat o), .ref b])) := c6.trans (by
    refine XS.ifNo X5.here hexec rfl (hb hbytes d30) rfl (i0_eq_f hz) ?_
    refine XS.aloadN X5.here hexec rfl (hb hbytes d33) rfl rfl ?_
    refine XS.iloadN X5.here hexec rfl (hb hbytes d34) rfl ?_
    refine XS.iloadN X5.here hexec rfl (hb hbytes d35) rfl ?_
    exact Steps.refl _)
  obtain ⟨v8, T8, X8, E8, g8⟩ := X5.callS hexec (Cmp3.law l b A o len) hown (wks W (staticW "java/lang/String" 177 Cmp3.yN)) (wk W Cmp3.tab) (W := 0) (Nat.le_of_ble_eq_true rfl) (Nat.le_of_ble_eq_true rfl) (Nat.le_refl _) (by show 0 + len ≤ len; omega) (g := (mkF m 36 #[.val (.ref a), .val (.ref b), .val (.int (Int32.ofNat o)), .val (.int (Int32.ofNat len)), .val .null, .unset] [.int (Int32.ofNat len), .int (Int32.ofNat o), .ref b])) rfl (by rw [hml]; rfl) c7 (argsL := [.ref b, .int (Int32.ofNat o), .int (Int32.ofNat len)]) (rest := []) rfl rfl (by show 2 * 0 + 0 ≤ _; decide) (hb hbytes d36) (⟨rfl, hA.mv X5.warmed.alike hh5, l1, l2, hp⟩)
  obtain ⟨e8, z8⟩ := E8
  obtain ⟨rfl, N, n1, n2, n3, n4, n5, n6⟩ := NewArr.mv _ T5 s _ _ hh5.symm (Vm.Alike.refl _) rfl e8
  rw [hh5] at z8
  have hB1 := hB.keep X8.warmed.alike (n6 _ _ hB.1)
  have hne : s.heap.size ≠ a := (Nat.ne_of_lt (Array.getElem?_eq_some_iff.mp hB.1).1).symm
  have c9 : Steps p.tables e below (s₁.setTop (entryFrame m #[.ref a, .ref b, .int (Int32.ofNat o), .int (Int32.ofNat len), .null] 6)) (T8.setTop (mkF m 39 #[.val (.ref a), .val (.ref b), .val (.int (Int32.ofNat o)), .val (.int (Int32.ofNat len)), .val .null, .unset] [.ref s.heap.size])) := g8
  have c10 : Steps p.tables e below (s₁.setTop (entryFrame m #[.ref a, .ref b, .int (Int32.ofNat o), .int (Int32.ofNat len), .null] 6)) (T8.setTop (mkF m 45 #[.val (.ref a), .val (.ref b), .val (.int (Int32.ofNat o)), .val (.int (Int32.ofNat len)), .val .null, .val (.ref s.heap.size)] [.int (Int32.ofNat N.slots.size), .ref s.heap.size, .ref a])) := by
    have hc : Steps p.tables e below (s₁.setTop (entryFrame m #[.ref a, .ref b, .int (Int32.ofNat o), .int (Int32.ofNat len), .null] 6)) (T8.setTop (mkF m 45 #[.val (.ref a), .val (.ref b), .val (.int (Int32.ofNat o)), .val (.int (Int32.ofNat len)), .val .null, .val (.ref s.heap.size)] [.int (Int32.ofNat len), .ref s.heap.size, .ref a])) := c9.trans (by
      refine XS.astore X8.here hexec rfl (hb hbytes d39) rfl rfl rfl ?_
      refine XS.aloadN X8.here hexec rfl (hb hbytes d41) rfl rfl ?_
      refine XS.aload X8.here hexec rfl (hb hbytes d42) rfl rfl ?_
      refine XS.iloadN X8.here hexec rfl (hb hbytes d44) rfl ?_
      exact Steps.refl _)
    rw [n4]; exact hc
  obtain ⟨v11, T11, X11, E11, g11⟩ := X8.callS hexec (CodL.law l s.heap.size N) hown (wks W (staticW "java/lang/String" 47 CodL.yN)) (wk W CodL.tab) (W := 1) (Nat.le_of_ble_eq_true rfl) (Nat.le_of_ble_eq_true rfl) (Nat.le_refl _) (by show 0 + len + 0 ≤ len; omega) (g := (mkF m 45 #[.val (.ref a), .val (.ref b), .val (.int (Int32.ofNat o)), .val (.int (Int32.ofNat len)), .val .null, .val (.ref s.heap.size)] [.int (Int32.ofNat N.slots.size), .ref s.heap.size, .ref a])) rfl (by rw [hml]; rfl) c10 (argsL := [.ref s.heap.size, .int (Int32.ofNat N.slots.size)]) (rest := [.ref a]) rfl rfl (by show 2 * 0 + (1 + 0) ≤ _; decide) (hb hbytes d45) (⟨rfl, n1⟩)
  obtain ⟨rfl, q11⟩ := E11
  have hB11 := hB1.mv (X8.warmed.alike.symm.trans X11.warmed.alike) q11
  have c12 : Steps p.tables e below (s₁.setTop (entryFrame m #[.ref a, .ref b, .int (Int32.ofNat o), .int (Int32.ofNat len), .null] 6)) (T11.setTop (mkF m 48 #[.val (.ref a), .val (.ref b), .val (.int (Int32.ofNat o)), .val (.int (Int32.ofNat len)), .val .null, .val (.ref s.heap.size)] [.int 0, .ref a])) := g11
  obtain ⟨T13, X13, p13, bl13, sl13, st13⟩ := X11.finit hexec hown (wk W (.fieldLink "java/lang/String" 15 "java/lang/String" "coder" "B")) (Or.inr ⟨_, (wk W (.laysFinal "java/lang/String" "java/lang/String" "coder" "B"))⟩) (Or.inl ⟨rfl, hnm⟩) f2 (Or.inl rfl) hB11 (t := .byte) (by decide +kernel) rfl (g := (mkF m 48 #[.val (.ref a), .val (.ref b), .val (.int (Int32.ofNat o)), .val (.int (Int32.ofNat len)), .val .null, .val (.ref s.heap.size)] [.int 0, .ref a])) rfl (rest := []) rfl (hb hbytes d48)
  have c14 : Steps p.tables e below (s₁.setTop (entryFrame m #[.ref a, .ref b, .int (Int32.ofNat o), .int (Int32.ofNat len), .null] 6)) (T13.setTop (mkF m 54 #[.val (.ref a), .val (.ref b), .val (.int (Int32.ofNat o)), .val (.int (Int32.ofNat len)), .val .null, .val (.ref s.heap.size)] [.ref s.heap.size, .ref a])) := (c12.trans (st13 _ (Steps.refl _))).trans (by
    refine XS.aloadN X13.here hexec rfl (hb hbytes d51) rfl rfl ?_
    refine XS.aload X13.here hexec rfl (hb hbytes d52) rfl rfl ?_
    exact Steps.refl _)
  obtain ⟨T15, X15, p15, bl15, sl15, st15⟩ := X13.finit hexec hown (wk W (.fieldLink "java/lang/String" 9 "java/lang/String" "value" "[B")) (Or.inr ⟨_, (wk W (.laysFinal "java/lang/String" "java/lang/String" "value" "[B"))⟩) (Or.inl ⟨rfl, hnm⟩) f1 (Or.inl rfl) bl13 (t := (.array .byte)) (by decide +kernel) rfl (g := (mkF m 54 #[.val (.ref a), .val (.ref b), .val (.int (Int32.ofNat o)), .val (.int (Int32.ofNat len)), .val .null, .val (.ref s.heap.size)] [.ref s.heap.size, .ref a])) rfl (rest := []) rfl (hb hbytes d54)
  have c16 : Steps p.tables e below (s₁.setTop (entryFrame m #[.ref a, .ref b, .int (Int32.ofNat o), .int (Int32.ofNat len), .null] 6)) (T15.setTop (mkF m 57 #[.val (.ref a), .val (.ref b), .val (.int (Int32.ofNat o)), .val (.int (Int32.ofNat len)), .val .null, .val (.ref s.heap.size)] [])) := c14.trans (st15 _ (Steps.refl _))
  have ap := apart (Or.inr ⟨_, (wk W (.laysFinal "java/lang/String" "java/lang/String" "value" "[B"))⟩) (Or.inr ⟨_, (wk W (.laysFinal "java/lang/String" "java/lang/String" "coder" "B"))⟩) f1 f2 (t₁ := .array .byte) (t₂ := .byte) (by decide +kernel) (by decide +kernel) (by decide)
  have al := X8.warmed.alike.symm.trans X15.warmed.alike
  have n7 : T11.heap[s.heap.size]? = some N := by rw [q11]; exact n1.1
  exact ⟨T15, none, _, _, _, X15, by simp, rfl, by omega, (fun _ => rfl), ⟨rfl, _, N, bl15, ((Same.refl D _).set _ (by simp)).set _ (by simp), sl15, (Cell.slots_setSlot_ne _ ap).trans sl13, n1.keep al (p15.other hne (p13.other hne n7)), n2, by rw [al.findClass]; exact n3, n4, n5, fun y c h1 h2 => p15.other h1 (p13.other h1 (by rw [q11]; exact n6 y c h2)), by rw [p15.2.2, p13.2.2, q11]; exact z8⟩, fun fs hl => c16.trans (X15.returnOut hexec hret (hb hbytes d57) hl)⟩
end New4
namespace New1
def yN : MethodName := ⟨"java/lang/String", "<init>", "([C)V"⟩
abbrev yB : ByteArray := jdk_42_method_3_code
theorem d0 : decode yB 0 = .ok (.aload_n 0, 1) := by decide +kernel
theorem d1 : decode yB 1 = .ok (.aload_n 1, 1) := by decide +kernel
theorem d2 : decode yB 2 = .ok (.iconst 0, 1) := by decide +kernel
theorem d3 : decode yB 3 = .ok (.aload_n 1, 1) := by decide +kernel
theorem d4 : decode yB 4 = .ok (.arraylength, 1) := by decide +kernel
theorem d5 : decode yB 5 = .ok (.aconst_null, 1) := by decide +kernel
theorem d6 : decode yB 6 = .ok (.invokespecial 27, 3) := by decide +kernel
theorem d9 : decode yB 9 = .ok (.return_, 1) := by decide +kernel
def site : List Cond := [New4.tab] ++ initW "java/lang/String" 27 New4.yN
def tab : Cond := tabOf yN yB 2 none site
def P (a : Addr) (D : Cell) (fV fC : Field) (b : Addr) (A : Cell) (z : Int32) (args : Array Value) (s : State) : Prop := args = #[.ref a, .ref b] ∧ Blank "java/lang/String" a D s ∧ Found "java/lang/String" "value" "[B" fV s ∧ Found "java/lang/String" "coder" "B" fC s ∧ Ch b A s ∧ StaticIs s "java/lang/String" "COMPACT_STRINGS" "Z" (.int z) ∧ ¬ z = 0 ∧ 0 < A.slots.size ∧ A.slots.size ≤ 536870912 ∧ ∀ i, i < A.slots.size → ¬ 255 < cv A i
def E (a : Addr) (D : Cell) (fV fC : Field) (A : Cell) (r : Option Value) (s u : State) : Prop := Got a D fV fC A 0 A.slots.size r s u
/-- new String(chars), not empty, no char above 255: a Latin-1 String of their low bytes -/
theorem law (l : Launch) (a : Addr) (D : Cell) (fV fC : Field) (b : Addr) (A : Cell) (z : Int32) : Law l yN 2 1 3 52 yB 2 none site (P a D fV fC b A z) (E a D fV fC A) [⟨a, fC.slot⟩, ⟨a, fV.slot⟩] 1 A.slots.size := by
  refine Law.of_walk (plainFor_of_name (by decide +kernel)) (by decide +kernel) (by decide +kernel) (by decide) (fun _ _ h => by rw [h.1]; rfl) (fun _ U U' hal hh h => ⟨h.1, h.2.1.mv hal hh, h.2.2.1.al hal, h.2.2.2.1.al hal, h.2.2.2.2.1.mv hal hh, h.2.2.2.2.2.1.there hal hh, h.2.2.2.2.2.2⟩) (fun r U U' V V' h1 hal h2 h => Got.mv r U U' V V' h1 hal h2 h) ?_
  intro p e s m args below meth c s₁ X0 hexec hbytes hml hret hlk hnm hown hh0 W hP
  obtain ⟨rfl, hB, f1, f2, hA, s1, hz, l0, l2, hp⟩ := hP
  have c1 : Steps p.tables e below (s₁.setTop (entryFrame m #[.ref a, .ref b] 2)) (s₁.setTop (mkF m 0 #[.val (.ref a), .val (.ref b)] [])) := entry rfl
  have c2 : Steps p.tables e below (s₁.setTop (entryFrame m #[.ref a, .ref b] 2)) (s₁.setTop (mkF m 6 #[.val (.ref a), .val (.ref b)] [.null, .int (Int32.ofNat A.slots.size), .int 0, .ref b, .ref a])) := c1.trans (by
    refine XS.aloadN X0.here hexec rfl (hb hbytes d0) rfl rfl ?_
    refine XS.aloadN X0.here hexec rfl (hb hbytes d1) rfl rfl ?_
    refine iconstV X0.here hexec rfl 0 (hb hbytes d2) (by decide) ?_
    refine XS.aloadN X0.here hexec rfl (hb hbytes d3) rfl rfl ?_
    refine X0.alen hexec (hA.1.mv X0.warmed.alike hh0) rfl rfl (hb hbytes d4) ?_
    refine XS.aconstNull X0.here hexec rfl (hb hbytes d5) ?_
    exact Steps.refl _)
  obtain ⟨v3, T3, X3, E3, g3⟩ := X0.callN hexec (New4.law l a D fV fC b A z 0 A.slots.size) rfl hown (wks W (initW "java/lang/String" 27 New4.yN)) (W New4.tab (by simp only [site, List.mem_cons, List.mem_append, true_or, or_true])) (W := 0) (Nat.le_of_ble_eq_true rfl) (Nat.le_of_ble_eq_true rfl) (Nat.le_refl _) (by show 0 + A.slots.size ≤ A.slots.size; omega) (g := (mkF m 6 #[.val (.ref a), .val (.ref b)] [.null, .int (Int32.ofNat A.slots.size), .int (Int32.ofNat 0), .ref b, .ref a])) rfl (by rw [hml]; rfl) c2 (argsL := [.ref b, .int (Int32.ofNat 0), .int (Int32.ofNat A.slots.size), .null]) (rest := []) rfl rfl (by show 2 * 0 + 0 ≤ _; decide) (hb hbytes d6) (⟨rfl, hB.mv X0.warmed.alike hh0, f1.al X0.warmed.alike, f2.al X0.warmed.alike, hA.mv X0.warmed.alike hh0, s1.there X0.warmed.alike hh0, hz, l0, by omega, l2, fun i hi => by rw [Nat.zero_add]; exact hp i hi⟩)
  have e0 := Got.mv _ s₁ s _ _ hh0.symm (Vm.Alike.refl _) rfl E3
  obtain rfl := e0.1
  have c4 : Steps p.tables e below (s₁.setTop (entryFrame m #[.ref a, .ref b] 2)) (T3.setTop (mkF m 9 #[.val (.ref a), .val (.ref b)] [])) := g3
  exact ⟨T3, none, _, _, _, X3, by simp, rfl, by omega, (fun _ => rfl), e0, fun fs hl => c4.trans (X3.returnOut hexec hret (hb hbytes d9) hl)⟩
theorem pays {l : Launch} {R : Room} {p : Program} {e : Env} {below : List Frame} {s : State} {sargs : Array Value} {len W : Nat} (a : Addr) (D : Cell) (fV fC : Field) (b : Addr) (A : Cell) (z : Int32) (htab : tab.before sargs s = true) (hfr : 4 ≤ R.frames) (hlo : W + 65 ≤ R.locals) :
    Back l R p e below s sargs yN len W (fun A₁ a₁ => A₁.cells + 1 ≤ R.cells ∧ A₁.slots + A.slots.size ≤ R.slots ∧ P a D fV fC b A z a₁ A₁.U) (fun A₁ _ v₁ B₁ => E a D fV fC A v₁ A₁.U B₁.U ∧ B₁.locs = A₁.locs ++ [⟨a, fC.slot⟩, ⟨a, fV.slot⟩] ∧ B₁.cells = A₁.cells + 1 ∧ B₁.slots = A₁.slots + A.slots.size) :=
  (law l a D fV fC b A z).pays htab hfr (by omega)
end New1
/-- the byte, read back as charAt reads it, is the char -/
theorem lo8_mask {x : Int32} (h0 : ¬ x < 0) (h1 : ¬ 255 < x) : lo8 x &&& 255 = x := by
  have t : ∀ k : Fin 256, lo8 (Int32.ofNat k.val) &&& 255 = Int32.ofNat k.val := by decide +kernel
  rw [Int32.lt_iff_toInt_lt] at h0 h1
  have e0 : (0 : Int32).toInt = 0 := rfl
  have e1 : (255 : Int32).toInt = 255 := rfl
  obtain ⟨k, hk⟩ : ∃ k : Nat, x.toInt = k := ⟨x.toInt.toNat, by omega⟩
  have hx : x = Int32.ofNat k := Int32.toInt_inj.mp (by rw [hk, Int32.toInt_ofNat_small (by omega)])
  rw [hx]
  exact t ⟨k, by omega⟩
end StrChars
namespace StrChars.Road
open Jvm Sem ClassFile Op Lib Jvm.Stand Jvm.Free Jvm.Free.XT
open Jvm.Lib.Cold (StaticIs)
abbrev ST : String := "java/lang/String"
/-- every table word that New1's law asks, flat -/
abbrev words : List Jvm.Cond := [.code New1.yN New1.yB 2 none, .initialized ST, .methodLink ST 27 New4.yN, .instanceMethod New4.yN,
  .code New4.yN New4.yB 6 none, .fieldLink ST 38 ST "COMPACT_STRINGS" "Z", .laysFinal ST ST "value" "[B", .fieldLink ST 9 ST "value" "[B", .laysFinal ST ST "coder" "B", .fieldLink ST 15 ST "coder" "B",
  .methodLink ST 1 Lib.objectInit, .instanceMethod Lib.objectInit, .code Lib.objectInit ⟨#[0xb1]⟩ 1 none, .methodLink ST 177 Cmp3.yN, .static Cmp3.yN, .methodLink ST 47 CodL.yN, .static CodL.yN,
  .code Cmp3.yN Cmp3.yB 6 (some (.array .byte)), .initialized U16, .arrayClass .byte, .methodLink U16 115 Cmp5.yN, .static Cmp5.yN, .code Cmp5.yN Cmp5.yB 7 (some .int), .code CodL.yN CodL.yB 2 (some .byte)]
theorem tab_of {a : Array Value} {s : State} (h : ∀ w ∈ words, w.before a s = true) : New1.tab.before a s = true := by
  have h5 : Cmp5.tab.before a s = true := unparts (wk h (.code Cmp5.yN Cmp5.yB 7 (some .int))) (wks h (.initialized Cmp5.yN.cls :: Cmp5.site))
  have hc : CodL.tab.before a s = true := unparts (wk h (.code CodL.yN CodL.yB 2 (some .byte))) (wks h (.initialized CodL.yN.cls :: CodL.site))
  have q5 : ∀ w ∈ Cmp5.tab :: words, w.before a s = true := fun w hw => (List.mem_cons.mp hw).elim (fun e => e ▸ h5) (h w)
  have h3 : Cmp3.tab.before a s = true := unparts (wk q5 (.code Cmp3.yN Cmp3.yB 6 (some (.array .byte)))) (wks q5 (.initialized Cmp3.yN.cls :: Cmp3.site))
  have q3 : ∀ w ∈ Cmp3.tab :: CodL.tab :: words, w.before a s = true := fun w hw => (List.mem_cons.mp hw).elim (fun e => e ▸ h3) fun hw => (List.mem_cons.mp hw).elim (fun e => e ▸ hc) (h w)
  have h4 : New4.tab.before a s = true := unparts (wk q3 (.code New4.yN New4.yB 6 none)) (wks q3 (.initialized New4.yN.cls :: New4.site))
  have q4 : ∀ w ∈ New4.tab :: words, w.before a s = true := fun w hw => (List.mem_cons.mp hw).elim (fun e => e ▸ h4) (h w)
  exact unparts (wk q4 (.code New1.yN New1.yB 2 none)) (wks q4 (.initialized New1.yN.cls :: New1.site))
/-- the words ride from the start Z to the walk's own state -/
theorem moved {Z s : State} {a0 args : Array Value} (hZ : Z.Warmed39 s.vm) (hw : ∀ d ∈ words, d.before a0 Z = true) : ∀ d ∈ words, d.before args s = true := fun d hd => by
  have q := hw d hd
  have t : ∀ d ∈ words, d = .arrayClass .byte ∨ (d.onTables && d.keepsFace) = true := by decide +kernel
  rcases t d hd with rfl | t
  · exact RoadKit.mvA hZ q
  · exact RoadKit.mv hZ q t
/-- WHAT COMES BACK, over the tables of the start Z: h the heap at the call, h' behind it -/
def Q (Z : State) (x : Addr) (A : Cell) (h : Heap) (v : Option Value) (h' : Heap) (L : List Loc) : Prop := v = none ∧ (∀ y ∈ L, y.base = x) ∧ RoadKit.Keep h h' [x] ∧ h'.size = h.size + 1 ∧ RoadKit.Exa Z h' x ST ∧ RoadKit.Fld Z h' x ST "value" "[B" (.ref h.size) ∧ RoadKit.Fld Z h' x ST "coder" "B" (.int 0) ∧
  (∃ V : Cell, RoadKit.Arr Z h' h.size V .byte ∧ V.vm = .none ∧ Z.vm.findClass "[B" = some V.cls ∧ V.slots.size = A.slots.size ∧ ∀ j, j < A.slots.size → V.slots[j]? = some (.int (lo8 (cv A j)))) ∧
  ∀ (O n d : String) (w : Value), RoadKit.Fld Z h x O n d w → RoadKit.slotOf Z O n d ≠ RoadKit.slotOf Z ST "value" "[B" → RoadKit.slotOf Z O n d ≠ RoadKit.slotOf Z ST "coder" "B" → RoadKit.Fld Z h' x O n d w
/-- **new String(chars) AT A CALL, IN THE ROAD'S FORM**: for specialBack behind newO: x the fresh String, b the char[] with the cell A -/
theorem back {p : Program} {l : Launch} {e : Env} {R : Room} {s : State} {args : Array Value} {below : List Frame} {len W : Nat} {Z : State} {a0 : Array Value} {h : Heap} (hZ : Z.Warmed39 s.vm) (hw : ∀ d ∈ words, d.before a0 Z = true) {kI : Nat} (wi : (Jvm.Cond.instantiable ST kI).before a0 Z = true)
    {x b : Addr} {A : Cell} {z : Int32} {v0 c0 : Value} (E : RoadKit.Exa Z h x ST) (V : RoadKit.Fld Z h x ST "value" "[B" v0) (C : RoadKit.Fld Z h x ST "coder" "B" c0) (K : RoadKit.Arr Z h b A .char) (hty : Typed .char A) (S : RoadKit.Sta Z h ST "COMPACT_STRINGS" "Z" (.int z)) (hz : ¬ z = 0)
    (l0 : 0 < A.slots.size) (l2 : A.slots.size ≤ 536870912) (hp : ∀ i, i < A.slots.size → ¬ 255 < cv A i) (hfr : 4 ≤ R.frames) (hlo : W + 65 ≤ R.locals) :
    Back l R p e below s args New1.yN len W (fun P a => a = #[.ref x, .ref b] ∧ P.U.heap = h ∧ P.cells + 1 ≤ R.cells ∧ P.slots + A.slots.size ≤ R.slots)
      (fun P _ v B => ∃ L, Q Z x A h v B.U.heap L ∧ B.locs = P.locs ++ L ∧ B.cells = P.cells + 1 ∧ B.slots = P.slots + A.slots.size) := by
  intro m meth c P g ig mk a X hg hsize hdg hW hn hp'
  obtain ⟨rfl, rfl, r1, r2⟩ := hp'
  have al : Z.vm.Alike P.U.vm := hZ.alike.trans X.warmed.alike
  obtain ⟨D, cfV, kV, iV, fV, hD, gV, stV, knV, obV, asV, slV⟩ := id V
  obtain ⟨D', cfC, kC, iC, fC, hD', gC, stC, -, -, asC, slC⟩ := id C
  cases hD.symm.trans hD'
  obtain ⟨D2, kD, e1, e2, e3, e4, e5⟩ := id E
  cases hD.symm.trans e1
  obtain ⟨c2, k2, i1, i2, i3, -⟩ := Cond.instantiable_spec wi
  cases e2.symm.trans i1
  cases e3.symm.trans i2
  obtain ⟨kU, u1, u2⟩ := al.2.2 _ _ e3
  have hB : Blank ST x D P.U := ⟨hD, ⟨knV, fun q hq => by rw [hq] at obV; cases obV⟩, by rw [al.findClass]; exact e2, kU, u1, by rw [u2]; exact i3, by rw [u2]; exact e5 i3⟩
  have F1 : Found ST "value" "[B" fV P.U := ⟨SBG.found_only al ⟨cfV, kV, iV, gV⟩, stV⟩
  have F2 : Found ST "coder" "B" fC P.U := ⟨SBG.found_only al ⟨cfC, kC, iC, gC⟩, stC⟩
  have hA : Ch b A P.U := ⟨⟨K.1, State.isArrayOf_alike al K.2.1, K.2.2, by omega⟩, hty⟩
  have hS : StaticIs P.U ST "COMPACT_STRINGS" "Z" (.int z) := by
    obtain ⟨cfS, iS, kS, fS, st, cS, t1, t2, t3, t4, t5, t6, t7⟩ := S
    exact StaticIs.there (s := { Z with heap := P.U.heap }) ⟨cfS, iS, kS, fS, st, cS, t1, t2, t3, t4, t5, (fun q => by rw [q] at t6; cases t6), t7⟩ al rfl
  obtain ⟨v, B, X', ⟨⟨hv, E', V', q1, q2, q3, q4, q5, q6, q7, q8, q9, q10, q11⟩, hl, hc, hs⟩, st⟩ := New1.pays x D fV fC b A z (tab_of (moved hZ hw)) hfr hlo m meth c P g ig mk _ X hg hsize hdg hW hn ⟨r1, r2, rfl, hB, F1, F2, hA, hS, hz, l0, l2, hp⟩
  have al' : Z.vm.Alike B.U.vm := hZ.alike.trans X'.warmed.alike
  have hsz : E'.slots.size = D.slots.size := by
    obtain ⟨-, -, -, kB, w1, w2, w3⟩ := q1
    obtain ⟨kB', y1, y2⟩ := al'.2.2 _ _ e3
    rw [q2.2.1] at w1
    cases w1.symm.trans y1
    rw [w3, e5 i3, y2]
  refine ⟨v, B, X', ⟨_, ⟨hv, ?_, ⟨by omega, fun y cy hy hn' => q10 y cy (by simpa using hn') hy, fun y cy hy => ?_⟩, q11, ⟨E', _, q1.1, by rw [q2.2.1]; exact e2, by rw [q2.2.1]; exact e3, by rw [q2.1]; exact obV, fun _ => by rw [hsz]; exact e5 i3⟩,
    ⟨E', cfV, kV, iV, fV, q1.1, gV, stV, by rw [q2.1]; exact knV, by rw [q2.1]; exact obV, by rw [q2.2.1]; exact asV, q3⟩, ⟨E', cfC, kC, iC, fC, q1.1, gC, stC, by rw [q2.1]; exact knV, by rw [q2.1]; exact obV, by rw [q2.2.1]; exact asC, q4⟩,
    ⟨V', ⟨q5.1, State.isArrayOf_alike al'.symm q5.2.1, q5.2.2.1⟩, q6, by rw [← al'.findClass]; exact q7, q8, fun j hj => by have := q9 j hj; rwa [Nat.zero_add] at this⟩, fun O n d w F n1 n2 => ?_⟩, hl, hc, hs⟩, st⟩
  · intro y hy
    simp only [List.mem_cons, List.not_mem_nil, or_false] at hy
    rcases hy with rfl | rfl <;> rfl
  · by_cases q : y = x
    · subst q
      cases hD.symm.trans hy
      exact ⟨E', q1.1, q2.2.1, q2.1, hsz⟩
    · exact ⟨cy, q10 y cy q hy, rfl, rfl, rfl⟩
  · obtain ⟨D3, cf, k, i, f, g1, g2, g3, g4, g5, g6, g7⟩ := F
    cases hD.symm.trans g1
    simp only [RoadKit.slotOf, g2, gV, gC, Option.map_some, Option.getD_some] at n1 n2
    exact ⟨E', cf, k, i, f, q1.1, g2, g3, by rw [q2.1]; exact g4, by rw [q2.1]; exact g5, by rw [q2.2.1]; exact g6, by rw [q2.2.2 f.slot (by simp [n1, n2])]; exact g7⟩
end StrChars.Road
namespace StrChars.Road
open Jvm Sem ClassFile Op Lib Jvm.Stand Jvm.Free Jvm.Free.XT
/-- WHAT COMES BACK, the byte[] as a list of values -/
def QA (Z : State) (x : Addr) (zn : Int32) (cs : List Int32) (h : Heap) (v : Option Value) (h' : Heap) (L : List Loc) : Prop := v = none ∧ (∀ y ∈ L, y.base = x) ∧ RoadKit.Keep h h' [x] ∧ h'.size = h.size + 1 ∧ RoadKit.Exa Z h' x ST ∧ RoadKit.Fld Z h' x ST "value" "[B" (.ref h.size) ∧ RoadKit.Fld Z h' x ST "coder" "B" (.int 0) ∧
  (∃ kb, Z.vm.findClass "[B" = some kb ∧ RoadKit.Arv Z h' h.size kb .byte zn (cs.map fun c => .int (lo8 c)) (.int 0)) ∧
  ∀ (O n d : String) (w : Value), RoadKit.Fld Z h x O n d w → RoadKit.slotOf Z O n d ≠ RoadKit.slotOf Z ST "value" "[B" → RoadKit.slotOf Z O n d ≠ RoadKit.slotOf Z ST "coder" "B" → RoadKit.Fld Z h' x O n d w
/-- **new String(chars) AT A CALL, THE ARRAYS AS LISTS**: the char[] at b holds cs, not empty, no char above 255 -/
theorem backArv {p : Program} {l : Launch} {e : Env} {R : Room} {s : State} {args : Array Value} {below : List Frame} {len W : Nat} {Z : State} {a0 : Array Value} {h : Heap} (hZ : Z.Warmed39 s.vm) (hw : ∀ d ∈ words, d.before a0 Z = true) {kI : Nat} (wi : (Jvm.Cond.instantiable ST kI).before a0 Z = true)
    {x b : Addr} {k : ClassId} {zn z : Int32} {cs : List Int32} {dv v0 c0 : Value} (E : RoadKit.Exa Z h x ST) (V : RoadKit.Fld Z h x ST "value" "[B" v0) (C : RoadKit.Fld Z h x ST "coder" "B" c0) (K : RoadKit.Arv Z h b k .char zn (cs.map Value.int) dv) (S : RoadKit.Sta Z h ST "COMPACT_STRINGS" "Z" (.int z)) (hz : ¬ z = 0)
    (hlen : zn.toNatClampNeg = cs.length) (h0 : 0 < cs.length) (hbig : cs.length ≤ 536870912) (hall : ∀ c ∈ cs, ¬ 255 < c) (hfr : 4 ≤ R.frames) (hlo : W + 65 ≤ R.locals) :
    Back l R p e below s args New1.yN len W (fun P a => a = #[.ref x, .ref b] ∧ P.U.heap = h ∧ P.cells + 1 ≤ R.cells ∧ P.slots + cs.length ≤ R.slots)
      (fun P _ v B => ∃ L, QA Z x zn cs h v B.U.heap L ∧ B.locs = P.locs ++ L ∧ B.cells = P.cells + 1 ∧ B.slots = P.slots + cs.length) := by
  obtain ⟨A, K1, K2, K3, K4, K5, K6⟩ := K
  have e : A.slots.size = cs.length := K3.trans hlen
  have hat : ∀ (i : Nat) (hi : i < cs.length), A.slots[i]? = some (.int cs[i]) := fun i hi => by rw [K5 i (by omega)]; simp [List.getD_eq_getElem?_getD, hi]
  have hcv : ∀ (i : Nat) (hi : i < cs.length), cv A i = cs[i] := fun i hi => by unfold cv; rw [hat i hi]
  have hty : Typed .char A := fun i v hv => by
    have hi : i < A.slots.size := (Array.getElem?_eq_some_iff.mp hv).1
    have q := K5 i hi
    rw [hv] at q
    rw [Option.some.inj q]
    exact K6 i hi
  refine Back.mono (back hZ hw wi E V C K1 hty S hz (by omega) (by omega) (fun i hi => by rw [hcv i (by omega)]; exact hall _ (List.getElem_mem _)) hfr hlo) (fun P a hp => ⟨hp.1, hp.2.1, hp.2.2.1, by rw [e]; exact hp.2.2.2⟩) (fun P a v B hp hq => ?_)
  obtain ⟨L, ⟨q1, q2, q3, q4, q5, q6, q7, ⟨V', v1, v2, v3, v4, v5⟩, q9⟩, hl, hc, hs⟩ := hq
  refine ⟨L, ⟨q1, q2, q3, q4, q5, q6, q7, ⟨V'.cls, v3, V', v1, rfl, by rw [v4, e, hlen], K4, fun i hi => ?_, fun i hi => ?_⟩, q9⟩, hl, hc, by rw [hs, e]⟩
  · have hi' : i < cs.length := by omega
    rw [v5 i (by omega), hcv i hi']; simp [List.getD_eq_getElem?_getD, hi']
  · have hi' : i < cs.length := by omega
    simp only [List.getD_eq_getElem?_getD, List.getElem?_map, List.getElem?_eq_getElem hi', Option.map_some, Option.getD_some]
    exact fits_lo8 _
end StrChars.Road
namespace StrChars.Road
open Jvm Sem ClassFile Op Lib Jvm.Stand Jvm.Free Jvm.Free.XT
/-- WHAT COMES BACK, in the writer's own shape -/
def QV (Z : State) (x : Addr) (N : Int32) (bs : List Int32) (h : Heap) (n0 : Nat) (v : Option Value) (h' : Heap) (L : List Loc) : Prop := v = none ∧ RoadKit.Fr n0 L ∧ RoadKit.Keep h h' [x] ∧ RoadKit.Exa Z h' x ST ∧ RoadKit.Fld Z h' x ST "coder" "B" (.int 0) ∧
  ∃ (t : Addr) (kb : ClassId), n0 ≤ t ∧ h.size ≤ t ∧ ¬ t = x ∧ RoadKit.Fld Z h' x ST "value" "[B" (.ref t) ∧ RoadKit.Arv Z h' t kb .byte N (bs.map Value.int) (.int 0)
/-- **new String(chars) AT A CALL, FOR THE WRITER**: a char[] of n known ints, each 0 to 255 -/
theorem backV {p : Program} {l : Launch} {e : Env} {R : Room} {s : State} {args : Array Value} {below : List Frame} {len W : Nat} {Z : State} {a0 : Array Value} {h : Heap} (hZ : Z.Warmed39 s.vm) (hw : ∀ d ∈ words, d.before a0 Z = true) {kI : Nat} (wi : (Jvm.Cond.instantiable ST kI).before a0 Z = true)
    {x b : Addr} {kC : ClassId} {cs bs : List Int32} {d v0 c0 : Value} {z N : Int32} {n n0 : Nat} (hx0 : n0 ≤ x) (hh0 : n0 ≤ h.size) (E : RoadKit.Exa Z h x ST) (V : RoadKit.Fld Z h x ST "value" "[B" v0) (C : RoadKit.Fld Z h x ST "coder" "B" c0) (K : RoadKit.Arv Z h b kC .char N (cs.map Value.int) d) (S : RoadKit.Sta Z h ST "COMPACT_STRINGS" "Z" (.int z)) (hz : ¬ z = 0)
    (hn : cs.length = n) (hN : N = Int32.ofNat n) (l0 : 0 < n) (l2 : n ≤ 4000) (hp : ∀ c ∈ cs, ¬ c < 0 ∧ ¬ (255 : Int32) < c) (hb : bs = cs.map (fun c => c.toInt8.toInt32)) (hfr : 4 ≤ R.frames) (hlo : W + 65 ≤ R.locals) :
    Back l R p e below s args (⟨"java/lang/String", "<init>", "([C)V"⟩ : MethodName) len W (fun P a => a = #[.ref x, .ref b] ∧ P.U.heap = h ∧ P.cells + 1 ≤ R.cells ∧ P.slots + n ≤ R.slots)
      (fun P _ v B => ∃ L, QV Z x N bs h n0 v B.U.heap L ∧ B.locs = P.locs ++ L ∧ B.cells = P.cells + 1 ∧ B.slots = P.slots + n) := by
  subst hn hN hb
  refine Back.mono (backArv hZ hw wi E V C K S hz (n32 (by omega)) l0 (by omega) (fun c hc => (hp c hc).2) hfr hlo) (fun P a hp => hp) (fun P a v B hp hq => ?_)
  obtain ⟨L, ⟨q1, q2, q3, q4, q5, q6, q7, ⟨kb, v1, v2⟩, q9⟩, hl, hc, hs⟩ := hq
  exact ⟨L, ⟨q1, fun y hy => by rw [q2 y hy]; exact hx0, q3, q5, q7, h.size, kb, hh0, Nat.le_refl _, Nat.ne_of_gt E.lt, q6, by rw [List.map_map]; exact v2⟩, hl, hc, hs⟩
end StrChars.Road
namespace StrChars
open Jvm Sem ClassFile Op Lib Jvm.Stand Jvm.Free.XT Jvm.Free.ALB Jvm.Free.JM Jvm.Free
open Jvm.Lib.Cold (StaticIs)
def hi8 (x : Int32) : Int32 := lo8 (x >>> ((8 : Int32) &&& 31))
/-- what StringUTF16.getChar makes of two bytes -/
def pairCh (u v : Int32) : Int32 := (((u &&& 255) <<< ((0 : Int32) &&& 31)) ||| ((v &&& 255) <<< ((8 : Int32) &&& 31))).toUInt32.toUInt16.toUInt32.toInt32
theorem lo8_and (x : Int32) : (lo8 x &&& 255).toBitVec.toNat = x.toBitVec.toNat % 256 := by
  have h : (lo8 x).toBitVec = (x.toBitVec.signExtend 8).signExtend 32 := by rw [lo8, Int8.toBitVec_toInt32, Int32.toBitVec_toInt8]
  rw [Int32.toBitVec_and, BitVec.toNat_and, h]
  have e : ((x.toBitVec.signExtend 8).signExtend 32).toNat % 256 = x.toBitVec.toNat % 256 := by
    rw [BitVec.toNat_signExtend]
    have hlt := x.toBitVec.isLt
    simp only [BitVec.toNat_setWidth, BitVec.toNat_signExtend]
    split <;> split <;> omega
  rw [← e]
  exact Nat.and_two_pow_sub_one_eq_mod _ 8
theorem pair_says {c : Int32} (h0 : ¬ c < 0) (h1 : ¬ 65535 < c) : pairCh (lo8 c) (hi8 c) = c := by
  rw [Int32.lt_iff_toInt_lt] at h0 h1
  have e0 : (0 : Int32).toInt = 0 := rfl
  have e1 : (65535 : Int32).toInt = 65535 := rfl
  have hc : c.toInt = c.toBitVec.toNat := by
    have := c.toBitVec.isLt
    have e : c.toInt = c.toBitVec.toInt := rfl
    rw [e] at h0 h1
    rw [e]
    rw [BitVec.toInt_eq_toNat_cond] at h0 h1 ⊢
    split at h0 <;> split <;> omega
  have hn : c.toBitVec.toNat < 65536 := by omega
  have a1 := lo8_and c
  have a2 : (hi8 c &&& 255).toBitVec.toNat = c.toBitVec.toNat / 256 := by
    rw [hi8, lo8_and]
    have e : ((8 : Int32) &&& 31) = 8 := by decide
    rw [e, Int32.toBitVec_shiftRight]
    have e2 : ((8 : Int32).toBitVec.smod 32) = 8#32 := by decide
    rw [e2, BitVec.sshiftRight_eq', BitVec.toNat_sshiftRight_of_msb_false (by rw [BitVec.msb_eq_false_iff_two_mul_lt]; omega)]
    show c.toBitVec.toNat >>> 8 % 256 = _
    rw [Nat.shiftRight_eq_div_pow]
    omega
  unfold pairCh
  apply Int32.toBitVec_inj.mp
  apply BitVec.eq_of_toNat_eq
  have f0 : ((0 : Int32) &&& 31) = 0 := by decide
  have f8 : ((8 : Int32) &&& 31) = 8 := by decide
  rw [f0, f8]
  have g : (((lo8 c &&& 255) <<< (0 : Int32)) ||| ((hi8 c &&& 255) <<< (8 : Int32))).toBitVec.toNat = c.toBitVec.toNat := by
    rw [Int32.toBitVec_or, Int32.toBitVec_shiftLeft, Int32.toBitVec_shiftLeft]
    have s0 : ((0 : Int32).toBitVec.smod 32) = 0#32 := by decide
    have s8 : ((8 : Int32).toBitVec.smod 32) = 8#32 := by decide
    rw [s0, s8, BitVec.toNat_or]
    simp only [BitVec.shiftLeft_eq', BitVec.toNat_shiftLeft, a1, a2]
    show (c.toBitVec.toNat % 256) <<< 0 % 2 ^ 32 ||| (c.toBitVec.toNat / 256) <<< 8 % 2 ^ 32 = _
    rw [Nat.shiftLeft_zero, Nat.mod_eq_of_lt (show c.toBitVec.toNat % 256 < 2 ^ 32 by omega), Nat.mod_eq_of_lt (show (c.toBitVec.toNat / 256) <<< 8 < 2 ^ 32 by rw [Nat.shiftLeft_eq]; omega), Nat.or_comm, ← Nat.shiftLeft_add_eq_or_of_lt (by omega), Nat.shiftLeft_eq]
    omega
  show BitVec.toNat (((((lo8 c &&& 255) <<< (0 : Int32)) ||| ((hi8 c &&& 255) <<< (8 : Int32))).toBitVec.setWidth 16).setWidth 32) = _
  rw [BitVec.toNat_setWidth, BitVec.toNat_setWidth, g]
  omega
end StrChars
namespace StrChars
open Jvm Sem ClassFile Op Lib Jvm.Stand Jvm.Free.XT Jvm.Free.ALB Jvm.Free.JM Jvm.Free
open Jvm.Lib.Cold (StaticIs)
/-- the array's cell V codes the n chars f 0 .. f (n - 1) by the coder cd, as the JDK does: coder 1 just where some char is above 255 -/
def Cod (cd : Int32) (n : Nat) (f : Nat → Int32) (V : Cell) : Prop := (cd = 0 ∧ V.slots.size = n ∧ ∀ j, j < n → V.slots[j]? = some (.int (lo8 (f j))) ∧ ¬ 255 < f j) ∨ (cd = 1 ∧ V.slots.size = 2 * n ∧ (∀ j, j < n → V.slots[2 * j]? = some (.int (lo8 (f j))) ∧ V.slots[2 * j + 1]? = some (.int (hi8 (f j)))) ∧ ∃ j, j < n ∧ 255 < f j)
/-- **x is a String of the n chars f 0 .. f (n - 1)**, Latin-1 or UTF-16; its array at t has the cell V -/
def Txt (x t : Addr) (V : Cell) (cd : Int32) (n : Nat) (f : Nat → Int32) (U : State) : Prop := Exact "java/lang/String" x U ∧ Has x "java/lang/String" "value" "[B" (.ref t) U ∧ Has x "java/lang/String" "coder" "B" (.int cd) U ∧ XT.Arr .byte t V U ∧ Cod cd n f V ∧ ∀ j, j < n → ¬ f j < 0 ∧ ¬ 65535 < f j
theorem Txt.mv {x t : Addr} {V : Cell} {cd : Int32} {n : Nat} {f : Nat → Int32} {U U' : State} (h : Txt x t V cd n f U) (hal : U.vm.Alike U'.vm) (hh : U'.heap = U.heap) : Txt x t V cd n f U' := ⟨h.1.mv hal hh, h.2.1.mv hal hh, h.2.2.1.mv hal hh, h.2.2.2.1.mv hal hh, h.2.2.2.2⟩
end StrChars
namespace StrChars.Road
open Jvm Sem ClassFile Op Lib Jvm.Stand Jvm.Free Jvm.Free.XT
open Jvm.Lib.Cold (StaticIs)
theorem consq {a : Array Value} {s : State} {c : Jvm.Cond} {L : List Jvm.Cond} (h0 : c.before a s = true) (h : ∀ w ∈ L, w.before a s = true) : ∀ w ∈ c :: L, w.before a s = true := fun w hw => (List.mem_cons.mp hw).elim (fun e => e ▸ h0) (h w)
/-- the bytes of the chars cs, low before high -/
def wideBytes : List Int32 → List Value
  | [] => []
  | c :: cs => .int (lo8 c) :: .int (hi8 c) :: wideBytes cs
theorem wide_lo (d : Value) : ∀ (cs : List Int32) (j : Nat), j < cs.length → (wideBytes cs).getD (2 * j) d = .int (lo8 (cs.getD j 0))
  | [], j, h => absurd h (Nat.not_lt_zero j)
  | c :: cs, 0, _ => rfl
  | c :: cs, j + 1, h => by
    have q := wide_lo d cs j (by simpa using h)
    rw [show 2 * (j + 1) = 2 * j + 1 + 1 from by omega]
    simpa [wideBytes] using q
theorem wide_hi (d : Value) : ∀ (cs : List Int32) (j : Nat), j < cs.length → (wideBytes cs).getD (2 * j + 1) d = .int (hi8 (cs.getD j 0))
  | [], j, h => absurd h (Nat.not_lt_zero j)
  | c :: cs, 0, _ => rfl
  | c :: cs, j + 1, h => by
    have q := wide_hi d cs j (by simpa using h)
    rw [show 2 * (j + 1) + 1 = 2 * j + 1 + 1 + 1 from by omega]
    simpa [wideBytes] using q
theorem low_at (d : Value) (cs : List Int32) (j : Nat) (h : j < cs.length) : (cs.map fun c => Value.int (lo8 c)).getD j d = .int (lo8 (cs.getD j 0)) := by
  simp [List.getD_eq_getElem?_getD, h]
/-- an array of N2 bytes vs codes the chars cs by the coder cd -/
def CodA (cs : List Int32) (cd N2 : Int32) (vs : List Value) : Prop := (cd = 0 ∧ N2 = Int32.ofNat cs.length ∧ vs = (cs.map fun c => Value.int (lo8 c)) ∧ ∀ c ∈ cs, ¬ 255 < c) ∨ (cd = 1 ∧ N2 = Int32.ofNat (2 * cs.length) ∧ vs = wideBytes cs ∧ ∃ c ∈ cs, 255 < c)
theorem CodA.cod {cs : List Int32} {cd N2 : Int32} {vs : List Value} {V : Cell} (h : CodA cs cd N2 vs) (hn : 2 * cs.length < 2 ^ 31) (hs : V.slots.size = N2.toNatClampNeg) (hv : RoadKit.Has V vs (.int 0)) : Cod cd cs.length (fun j => cs.getD j 0) V := by
  rcases h with ⟨rfl, rfl, rfl, h⟩ | ⟨rfl, rfl, rfl, c, hc, hw⟩
  · rw [n32 (by omega)] at hs
    exact Or.inl ⟨rfl, hs, fun j hj => ⟨by rw [hv j (by omega), low_at _ _ _ hj], by
      have e : cs.getD j 0 = cs[j] := by simp [List.getD_eq_getElem?_getD, hj]
      show ¬ 255 < cs.getD j 0
      rw [e]; exact h _ (List.getElem_mem _)⟩⟩
  · rw [n32 (by omega)] at hs
    obtain ⟨j, hj, rfl⟩ := List.getElem_of_mem hc
    exact Or.inr ⟨rfl, hs, fun j hj => ⟨by rw [hv _ (by omega), wide_lo _ _ _ hj], by rw [hv _ (by omega), wide_hi _ _ _ hj]⟩, j, hj, by
      have e : cs.getD j 0 = cs[j] := by simp [List.getD_eq_getElem?_getD, hj]
      show 255 < cs.getD j 0
      rw [e]; exact hw⟩
/-- an object of exactly java/lang/String, its two fields found: as the laws ask it -/
theorem strObj {Z U : State} {a0 : Array Value} {kI : Nat} (wi : (Jvm.Cond.instantiable ST kI).before a0 Z = true) (al : Z.vm.Alike U.vm) {x : Addr} {v0 c0 : Value} (E : RoadKit.Exa Z U.heap x ST) (V : RoadKit.Fld Z U.heap x ST "value" "[B" v0) (C : RoadKit.Fld Z U.heap x ST "coder" "B" c0) :
    ∃ (D : Cell) (fV fC : Field), Blank ST x D U ∧ Found ST "value" "[B" fV U ∧ Found ST "coder" "B" fC U ∧ D.slots[fV.slot]? = some v0 ∧ D.slots[fC.slot]? = some c0 ∧ RoadKit.slotOf Z ST "value" "[B" = fV.slot ∧ RoadKit.slotOf Z ST "coder" "B" = fC.slot := by
  obtain ⟨D, cfV, kV, iV, fV, hD, gV, stV, knV, obV, asV, slV⟩ := V
  obtain ⟨D', cfC, kC, iC, fC, hD', gC, stC, -, -, asC, slC⟩ := C
  cases hD.symm.trans hD'
  obtain ⟨D2, kD, e1, e2, e3, e4, e5⟩ := E
  cases hD.symm.trans e1
  obtain ⟨c2, k2, i1, i2, i3, -⟩ := Cond.instantiable_spec wi
  cases e2.symm.trans i1
  cases e3.symm.trans i2
  obtain ⟨kU, u1, u2⟩ := al.2.2 _ _ e3
  exact ⟨D, fV, fC, ⟨hD, ⟨knV, fun q hq => by rw [hq] at obV; cases obV⟩, by rw [al.findClass]; exact e2, kU, u1, by rw [u2]; exact i3, by rw [u2]; exact e5 i3⟩, ⟨SBG.found_only al ⟨cfV, kV, iV, gV⟩, stV⟩, ⟨SBG.found_only al ⟨cfC, kC, iC, gC⟩, stC⟩, slV, slC, by simp [RoadKit.slotOf, gV], by simp [RoadKit.slotOf, gC]⟩
theorem sta_is {Z U : State} (al : Z.vm.Alike U.vm) {C n d : String} {v : Value} (S : RoadKit.Sta Z U.heap C n d v) : StaticIs U C n d v := by
  obtain ⟨cfS, iS, kS, fS, st, cS, t1, t2, t3, t4, t5, t6, t7⟩ := S
  exact StaticIs.there (s := { Z with heap := U.heap }) ⟨cfS, iS, kS, fS, st, cS, t1, t2, t3, t4, t5, (fun q => by rw [q] at t6; cases t6), t7⟩ al rfl
end StrChars.Road
namespace StrChars
open Jvm Sem ClassFile Op Lib Jvm.Stand Jvm.Free.XT Jvm.Free.ALB Jvm.Free.JM Jvm.Free
open Jvm.Lib.Cold (StaticIs)
/-- what place i of a byte[]'s cell holds -/
def yv (A : Cell) (i : Nat) : Int32 := match A.slots[i]? with | some (.int x) => x | _ => 0
theorem yv_get {a : Addr} {A : Cell} {U : State} (h : XT.Arr .byte a A U) (ht : Typed .byte A) {i : Nat} (hi : i < A.slots.size) : A.slots[i]? = some (.int (yv A i)) := by
  have e := Array.getElem?_eq_getElem hi
  have f := ht i _ e
  unfold yv; rw [e]
  generalize A.slots[i] = v at f
  cases v <;> simp [fits] at f ⊢
/-- the two arrays are equal, place for place -/
def EqC (A B : Cell) : Prop := A.slots.size = B.slots.size ∧ ∀ i, i < A.slots.size → yv A i = yv B i
/-- a boolean that says whether p -/
def Says01 (q : Prop) (r : Option Value) (s u : State) : Prop := ∃ v : Int32, r = some (.int v) ∧ u.heap = s.heap ∧ ((v = 1 ∧ q) ∨ (v = 0 ∧ ¬ q))
theorem Says01.mv {q : Prop} : ∀ r (U U' V V' : State), U'.heap = U.heap → V.vm.Alike V'.vm → V'.heap = V.heap → Says01 q r U V → Says01 q r U' V' :=
  fun r U U' V V' h1 _ h2 ⟨v, a, b, c⟩ => ⟨v, a, by rw [h1, h2]; exact b, c⟩
namespace LEq
def yN : MethodName := ⟨"java/lang/StringLatin1", "equals", "([B[B)Z"⟩
abbrev yB : ByteArray := jdk_43_method_13_code
theorem d0 : decode yB 0 = .ok (.aload_n 0, 1) := by decide +kernel
theorem d1 : decode yB 1 = .ok (.arraylength, 1) := by decide +kernel
theorem d2 : decode yB 2 = .ok (.aload_n 1, 1) := by decide +kernel
theorem d3 : decode yB 3 = .ok (.arraylength, 1) := by decide +kernel
theorem d4 : decode yB 4 = .ok (.if_icmp (.ne) 30, 3) := by decide +kernel
theorem d7 : decode yB 7 = .ok (.iconst 0, 1) := by decide +kernel
theorem d8 : decode yB 8 = .ok (.istore_n 2, 1) := by decide +kernel
theorem d9 : decode yB 9 = .ok (.iload_n 2, 1) := by decide +kernel
theorem d10 : decode yB 10 = .ok (.aload_n 0, 1) := by decide +kernel
theorem d11 : decode yB 11 = .ok (.arraylength, 1) := by decide +kernel
theorem d12 : decode yB 12 = .ok (.if_icmp (.ge) 20, 3) := by decide +kernel
theorem d15 : decode yB 15 = .ok (.aload_n 0, 1) := by decide +kernel
theorem d16 : decode yB 16 = .ok (.iload_n 2, 1) := by decide +kernel
theorem d17 : decode yB 17 = .ok (.baload, 1) := by decide +kernel
theorem d18 : decode yB 18 = .ok (.aload_n 1, 1) := by decide +kernel
theorem d19 : decode yB 19 = .ok (.iload_n 2, 1) := by decide +kernel
theorem d20 : decode yB 20 = .ok (.baload, 1) := by decide +kernel
theorem d21 : decode yB 21 = .ok (.if_icmp (.eq) 5, 3) := by decide +kernel
theorem d24 : decode yB 24 = .ok (.iconst 0, 1) := by decide +kernel
theorem d25 : decode yB 25 = .ok (.ireturn, 1) := by decide +kernel
theorem d26 : decode yB 26 = .ok (.iinc 2 1, 3) := by decide +kernel
theorem d29 : decode yB 29 = .ok (.goto (-20), 3) := by decide +kernel
theorem d32 : decode yB 32 = .ok (.iconst 1, 1) := by decide +kernel
theorem d33 : decode yB 33 = .ok (.ireturn, 1) := by decide +kernel
theorem d34 : decode yB 34 = .ok (.iconst 0, 1) := by decide +kernel
theorem d35 : decode yB 35 = .ok (.ireturn, 1) := by decide +kernel
def site : List Cond := []
def tab : Cond := tabOf yN yB 3 (some .boolean) site
def P (a : Addr) (A : Cell) (b : Addr) (B : Cell) (args : Array Value) (s : State) : Prop := args = #[.ref a, .ref b] ∧ XT.Arr .byte a A s ∧ Typed .byte A ∧ XT.Arr .byte b B s ∧ Typed .byte B
/-- whether two byte[] are equal, place for place -/
theorem law (l : Launch) (a : Addr) (A : Cell) (b : Addr) (B : Cell) : Law l yN 2 2 0 0 yB 3 (some .boolean) site (P a A b B) (Says01 (EqC A B)) [] 0 0 := by
  refine Law.of_walk (plainFor_of_name (by decide +kernel)) (by decide +kernel) (by decide +kernel) (by decide) (fun _ _ h => by rw [h.1]; rfl) (fun _ U U' hal hh h => ⟨h.1, h.2.1.mv hal hh, h.2.2.1, h.2.2.2.1.mv hal hh, h.2.2.2.2⟩) (fun r U U' V V' h1 hal h2 h => Says01.mv r U U' V V' h1 hal h2 h) ?_
  intro p e s m args below meth c s₁ X0 hexec hbytes hml hret hlk hnm hown hh0 W hP
  obtain ⟨rfl, hA, tA, hB, tB⟩ := hP
  have a31 := hA.2.2.2
  have b31 := hB.2.2.2
  have hA0 := hA.mv X0.warmed.alike hh0
  have hB0 := hB.mv X0.warmed.alike hh0
  have c1 : Steps p.tables e below (s₁.setTop (entryFrame m #[.ref a, .ref b] 3)) (s₁.setTop (mkF m 0 #[.val (.ref a), .val (.ref b), .unset] [])) := entry rfl
  have c2 : Steps p.tables e below (s₁.setTop (entryFrame m #[.ref a, .ref b] 3)) (s₁.setTop (mkF m 4 #[.val (.ref a), .val (.ref b), .unset] [.int (Int32.ofNat B.slots.size), .int (Int32.ofNat A.slots.size)])) := c1.trans (by
    refine XS.aloadN X0.here hexec rfl (hb hbytes d0) rfl rfl ?_
    refine X0.alen hexec hA0 rfl rfl (hb hbytes d1) ?_
    refine XS.aloadN X0.here hexec rfl (hb hbytes d2) rfl rfl ?_
    refine X0.alen hexec hB0 rfl rfl (hb hbytes d3) ?_
    exact Steps.refl _)
  by_cases hs : A.slots.size = B.slots.size
  · have c3 : Steps p.tables e below (s₁.setTop (entryFrame m #[.ref a, .ref b] 3)) (s₁.setTop (mkF m 9 #[.val (.ref a), .val (.ref b), .val (.int 0)] [])) := c2.trans (by
      refine XS.icmpNo X0.here hexec rfl (hb hbytes d4) rfl (ii_ne_f (by rw [hs])) ?_
      refine iconstV X0.here hexec rfl 0 (hb hbytes d7) (by decide) ?_
      refine XS.istoreN X0.here hexec rfl (hb hbytes d8) rfl rfl ?_
      exact Steps.refl _)
    have loop : ∀ (r i : Nat), i + r = A.slots.size → (∀ j, j < i → yv A j = yv B j) → Steps p.tables e below (s₁.setTop (entryFrame m #[.ref a, .ref b] 3)) (s₁.setTop (mkF m 9 #[.val (.ref a), .val (.ref b), .val (.int (Int32.ofNat i))] [])) → ∃ (pc : Nat) (Ls : Array Slot) (v : Int32), (pc = 25 ∨ pc = 33) ∧ ((v = 1 ∧ EqC A B) ∨ (v = 0 ∧ ¬ EqC A B)) ∧ Steps p.tables e below (s₁.setTop (entryFrame m #[.ref a, .ref b] 3)) (s₁.setTop (mkF m pc Ls [.int v])) := by
      intro r
      induction r with
      | zero =>
        intro i hi he cl
        exact ⟨33, _, 1, Or.inr rfl, Or.inl ⟨rfl, hs, fun j hj => he j (by omega)⟩, cl.trans (by
          refine XS.iloadN X0.here hexec rfl (hb hbytes d9) rfl ?_
          refine XS.aloadN X0.here hexec rfl (hb hbytes d10) rfl rfl ?_
          refine X0.alen hexec hA0 rfl rfl (hb hbytes d11) ?_
          refine XS.icmpYes X0.here hexec rfl (pc0 := 12) rfl (hb hbytes d12) rfl (ii_ge_t (nlt32 (by omega) (by omega))) (by decide) rfl ?_
          refine iconstV X0.here hexec rfl 1 (hb hbytes d32) (by decide) ?_
          exact Steps.refl _)⟩
      | succ r ih =>
        intro i hi he cl
        have c4 : Steps p.tables e below (s₁.setTop (entryFrame m #[.ref a, .ref b] 3)) (s₁.setTop (mkF m 21 #[.val (.ref a), .val (.ref b), .val (.int (Int32.ofNat i))] [.int (yv B i), .int (yv A i)])) := cl.trans (by
          refine XS.iloadN X0.here hexec rfl (hb hbytes d9) rfl ?_
          refine XS.aloadN X0.here hexec rfl (hb hbytes d10) rfl rfl ?_
          refine X0.alen hexec hA0 rfl rfl (hb hbytes d11) ?_
          refine XS.icmpNo X0.here hexec rfl (hb hbytes d12) rfl (ii_ge_f (lt32 (by omega) (by omega))) ?_
          refine XS.aloadN X0.here hexec rfl (hb hbytes d15) rfl rfl ?_
          refine XS.iloadN X0.here hexec rfl (hb hbytes d16) rfl ?_
          refine X0.aget hexec hA0 rfl (yv_get hA tA (i := i) (by omega)) rfl rfl (hb hbytes d17) ?_
          refine XS.aloadN X0.here hexec rfl (hb hbytes d18) rfl rfl ?_
          refine XS.iloadN X0.here hexec rfl (hb hbytes d19) rfl ?_
          refine X0.aget hexec hB0 rfl (yv_get hB tB (i := i) (by omega)) rfl rfl (hb hbytes d20) ?_
          exact Steps.refl _)
        by_cases hv : yv A i = yv B i
        · have c5 : Steps p.tables e below (s₁.setTop (entryFrame m #[.ref a, .ref b] 3)) (s₁.setTop (mkF m 9 #[.val (.ref a), .val (.ref b), .val (.int (Int32.ofNat i + 1))] [])) := c4.trans (by
            refine XS.icmpYes X0.here hexec rfl (pc0 := 21) rfl (hb hbytes d21) rfl (ii_eq_t hv) (by decide) rfl ?_
            refine iincV X0.here hexec rfl 1 (hb hbytes d26) (by decide) rfl rfl ?_
            refine XS.goto X0.here hexec rfl (pc0 := 29) rfl (hb hbytes d29) (by decide) rfl ?_
            exact Steps.refl _)
          rw [succ32] at c5
          exact ih (i + 1) (by omega) (fun j hj => by
            by_cases e : j = i
            · rw [e]; exact hv
            · exact he j (by omega)) c5
        · exact ⟨25, _, 0, Or.inl rfl, Or.inr ⟨rfl, fun q => hv (q.2 i (by omega))⟩, c4.trans (by
            refine XS.icmpNo X0.here hexec rfl (hb hbytes d21) rfl (ii_eq_f hv) ?_
            refine iconstV X0.here hexec rfl 0 (hb hbytes d24) (by decide) ?_
            exact Steps.refl _)⟩
    obtain ⟨pc, Ls, v, hpc, hv, cz⟩ := loop A.slots.size 0 (by omega) (fun j hj => absurd hj (Nat.not_lt_zero j)) c3
    have nv : narrow .boolean (.int v) = .int v := by rcases hv with ⟨rfl, -⟩ | ⟨rfl, -⟩ <;> rfl
    rcases hpc with rfl | rfl
    · exact ⟨s₁, some (.int v), _, _, _, X0, rfl, rfl, rfl, (fun h => by cases h), ⟨v, rfl, hh0, hv⟩, fun fs hl => cz.trans (X0.ireturnOut hexec hret nv (Or.inr (Or.inl rfl)) (hb hbytes d25) hl)⟩
    · exact ⟨s₁, some (.int v), _, _, _, X0, rfl, rfl, rfl, (fun h => by cases h), ⟨v, rfl, hh0, hv⟩, fun fs hl => cz.trans (X0.ireturnOut hexec hret nv (Or.inr (Or.inl rfl)) (hb hbytes d33) hl)⟩
  · have c3 : Steps p.tables e below (s₁.setTop (entryFrame m #[.ref a, .ref b] 3)) (s₁.setTop (mkF m 35 #[.val (.ref a), .val (.ref b), .unset] [.int 0])) := c2.trans (by
      refine XS.icmpYes X0.here hexec rfl (pc0 := 4) rfl (hb hbytes d4) rfl (ii_ne_t (ne32 a31 b31 hs)) (by decide) rfl ?_
      refine iconstV X0.here hexec rfl 0 (hb hbytes d34) (by decide) ?_
      exact Steps.refl _)
    exact ⟨s₁, some (.int 0), _, _, _, X0, rfl, rfl, rfl, (fun h => by cases h), ⟨0, rfl, hh0, Or.inr ⟨rfl, fun q => hs q.1⟩⟩, fun fs hl => c3.trans (X0.ireturnOut hexec hret rfl (Or.inr (Or.inl rfl)) (hb hbytes d35) hl)⟩
end LEq
theorem Cod.ty {cd : Int32} {n : Nat} {f : Nat → Int32} {V : Cell} (h : Cod cd n f V) : Typed .byte V := fun i v hv => by
  have hi : i < V.slots.size := (Array.getElem?_eq_some_iff.mp hv).1
  rcases h with ⟨-, k1, k2⟩ | ⟨-, k1, k2, -⟩
  · rw [(k2 i (by omega)).1] at hv; cases hv; exact fits_lo8 _
  · rcases Nat.mod_two_eq_zero_or_one i with e | e
    · obtain ⟨j, rfl⟩ : ∃ j, i = 2 * j := ⟨i / 2, by omega⟩
      rw [(k2 j (by omega)).1] at hv; cases hv; exact fits_lo8 _
    · obtain ⟨j, rfl⟩ : ∃ j, i = 2 * j + 1 := ⟨i / 2, by omega⟩
      rw [(k2 j (by omega)).2] at hv; cases hv; exact fits_lo8 _
/-- the same text -/
def SameT (n : Nat) (f : Nat → Int32) (k : Nat) (g : Nat → Int32) : Prop := n = k ∧ ∀ j, j < n → f j = g j
theorem lo8_inj {x y : Int32} (h0 : ¬ x < 0) (h1 : ¬ 255 < x) (k0 : ¬ y < 0) (k1 : ¬ 255 < y) (h : lo8 x = lo8 y) : x = y := by
  rw [← lo8_mask h0 h1, ← lo8_mask k0 k1, h]
/-- arrays coded by one coder are equal just where the texts are -/
theorem Cod.eqv {cd : Int32} {n k : Nat} {f g : Nat → Int32} {V V' : Cell} (h : Cod cd n f V) (h' : Cod cd k g V') (hf : ∀ j, j < n → ¬ f j < 0 ∧ ¬ 65535 < f j) (hg : ∀ j, j < k → ¬ g j < 0 ∧ ¬ 65535 < g j) : EqC V V' ↔ SameT n f k g := by
  have yvv : ∀ {W : Cell} {i : Nat} {x : Int32}, W.slots[i]? = some (.int x) → yv W i = x := fun q => by unfold yv; rw [q]
  rcases h with ⟨rfl, k1, k2⟩ | ⟨rfl, k1, k2, -⟩
  · rcases h' with ⟨-, m1, m2⟩ | ⟨e, -⟩
    · constructor
      · rintro ⟨e1, e2⟩
        refine ⟨by omega, fun j hj => ?_⟩
        have q := e2 j (by omega)
        rw [yvv (k2 j hj).1, yvv (m2 j (by omega)).1] at q
        exact lo8_inj (hf j hj).1 (k2 j hj).2 (hg j (by omega)).1 (m2 j (by omega)).2 q
      · rintro ⟨rfl, e2⟩
        refine ⟨by omega, fun j hj => ?_⟩
        rw [yvv (k2 j (by omega)).1, yvv (m2 j (by omega)).1, e2 j (by omega)]
    · exact absurd e (by decide)
  · rcases h' with ⟨e, -⟩ | ⟨-, m1, m2, -⟩
    · exact absurd e (by decide)
    · constructor
      · rintro ⟨e1, e2⟩
        refine ⟨by omega, fun j hj => ?_⟩
        have q1 := e2 (2 * j) (by omega)
        have q2 := e2 (2 * j + 1) (by omega)
        rw [yvv (k2 j hj).1, yvv (m2 j (by omega)).1] at q1
        rw [yvv (k2 j hj).2, yvv (m2 j (by omega)).2] at q2
        rw [← pair_says (hf j hj).1 (hf j hj).2, ← pair_says (hg j (by omega)).1 (hg j (by omega)).2, q1, q2]
      · rintro ⟨rfl, e2⟩
        refine ⟨by omega, fun i hi => ?_⟩
        rcases Nat.mod_two_eq_zero_or_one i with e | e
        · obtain ⟨j, rfl⟩ : ∃ j, i = 2 * j := ⟨i / 2, by omega⟩
          rw [yvv (k2 j (by omega)).1, yvv (m2 j (by omega)).1, e2 j (by omega)]
        · obtain ⟨j, rfl⟩ : ∃ j, i = 2 * j + 1 := ⟨i / 2, by omega⟩
          rw [yvv (k2 j (by omega)).2, yvv (m2 j (by omega)).2, e2 j (by omega)]
/-- two codings differ: so do the texts -/
theorem Cod.dif {cd cd' : Int32} {n k : Nat} {f g : Nat → Int32} {V V' : Cell} (h : Cod cd n f V) (h' : Cod cd' k g V') (hne : ¬ cd = cd') : ¬ SameT n f k g := by
  rintro ⟨rfl, e⟩
  rcases h with ⟨rfl, -, k2⟩ | ⟨rfl, -, -, j, hj, hw⟩
  · rcases h' with ⟨rfl, -⟩ | ⟨-, -, -, j, hj, hw⟩
    · exact hne rfl
    · exact (k2 j hj).2 (by rw [e j hj]; exact hw)
  · rcases h' with ⟨-, -, m2⟩ | ⟨rfl, -⟩
    · exact (m2 j hj).2 (by rw [← e j hj]; exact hw)
    · exact hne rfl
/-- an object of exactly C is an instance of C -/
theorem cinst {p : Program} {l : Launch} {e : Env} {R : Room} {s : State} {m : MethodId} {args : Array Value} {below : List Frame} {meth : Method} {c : Code} {T : State} {locs : List Loc} {cells slots : Nat} (X : Stand p l e R s m args below meth c T locs cells slots) (hexec : p.tables.exec = Jvm.exec) {own C : String} {index : Nat} (hown : s.vm.findClass own = some m.cls) (hlink : (Cond.classLink own index C).before args s = true) {a : Addr} (hE : Exact C a T)
    {g : JFrame} (hg : g.method = m) {rest : List Value} (hstack : g.stack = .ref a :: rest) (hdg : decode c.code g.pc = .ok (.instanceof index, 3)) :
    ∃ T', Stand p l e R s m args below meth c T' locs cells slots ∧ T'.heap = T.heap ∧ ∀ target, Steps p.tables e below (T'.setTop { g with pc := g.pc + 3, stack := .int 1 :: rest }) target → Steps p.tables e below (T.setTop g) target := by
  obtain ⟨cB, h1, D, h2, h3, h4⟩ := hE
  have h1' : s.vm.findClass C = some cB := by rw [← X.warmed.alike.findClass]; exact h1
  obtain ⟨vm', X', st⟩ := X.instanceofYes hexec hown hlink h2 h4 h1' (by rw [h3]; exact Jvm.Free.SB.assignable_self _ _) hg hstack hdg
  exact ⟨_, X', rfl, st⟩
theorem cself {p : Program} {l : Launch} {e : Env} {R : Room} {s : State} {m : MethodId} {args : Array Value} {below : List Frame} {meth : Method} {c : Code} {T : State} {locs : List Loc} {cells slots : Nat} (X : Stand p l e R s m args below meth c T locs cells slots) (hexec : p.tables.exec = Jvm.exec) {own C : String} {index : Nat} (hown : s.vm.findClass own = some m.cls) (hlink : (Cond.classLink own index C).before args s = true) {a : Addr} (hE : Exact C a T)
    {g : JFrame} (hg : g.method = m) {rest : List Value} (hstack : g.stack = .ref a :: rest) (hdg : decode c.code g.pc = .ok (.checkcast index, 3)) :
    ∃ T', Stand p l e R s m args below meth c T' locs cells slots ∧ T'.heap = T.heap ∧ ∀ target, Steps p.tables e below (T'.setTop { g with pc := g.pc + 3, stack := .ref a :: rest }) target → Steps p.tables e below (T.setTop g) target := by
  obtain ⟨cB, h1, D, h2, h3, h4⟩ := hE
  have h1' : s.vm.findClass C = some cB := by rw [← X.warmed.alike.findClass]; exact h1
  obtain ⟨vm', X', st⟩ := X.checkcastYes hexec hown hlink h2 h4 h1' (by rw [h3]; exact Jvm.Free.SB.assignable_self _ _) hg hstack hdg
  exact ⟨_, X', rfl, fun t h => st t (by rw [← hstack] at h; exact h)⟩
namespace SEq
def yN : MethodName := ⟨"java/lang/String", "equals", "(Ljava/lang/Object;)Z"⟩
abbrev yB : ByteArray := jdk_42_method_66_code
theorem d0 : decode yB 0 = .ok (.aload_n 0, 1) := by decide +kernel
theorem d1 : decode yB 1 = .ok (.aload_n 1, 1) := by decide +kernel
theorem d2 : decode yB 2 = .ok (.if_acmp (.ne) 5, 3) := by decide +kernel
theorem d5 : decode yB 5 = .ok (.iconst 1, 1) := by decide +kernel
theorem d6 : decode yB 6 = .ok (.ireturn, 1) := by decide +kernel
theorem d7 : decode yB 7 = .ok (.aload_n 1, 1) := by decide +kernel
theorem d8 : decode yB 8 = .ok (.instanceof 10, 3) := by decide +kernel
theorem d11 : decode yB 11 = .ok (.ifCond (.eq) 43, 3) := by decide +kernel
theorem d14 : decode yB 14 = .ok (.aload_n 1, 1) := by decide +kernel
theorem d15 : decode yB 15 = .ok (.checkcast 10, 3) := by decide +kernel
theorem d18 : decode yB 18 = .ok (.astore_n 2, 1) := by decide +kernel
theorem d19 : decode yB 19 = .ok (.getstatic 38, 3) := by decide +kernel
theorem d22 : decode yB 22 = .ok (.ifCond (.eq) 14, 3) := by decide +kernel
theorem d25 : decode yB 25 = .ok (.aload_n 0, 1) := by decide +kernel
theorem d26 : decode yB 26 = .ok (.getfield 15, 3) := by decide +kernel
theorem d29 : decode yB 29 = .ok (.aload_n 2, 1) := by decide +kernel
theorem d30 : decode yB 30 = .ok (.getfield 15, 3) := by decide +kernel
theorem d33 : decode yB 33 = .ok (.if_icmp (.ne) 21, 3) := by decide +kernel
theorem d36 : decode yB 36 = .ok (.aload_n 0, 1) := by decide +kernel
theorem d37 : decode yB 37 = .ok (.getfield 9, 3) := by decide +kernel
theorem d40 : decode yB 40 = .ok (.aload_n 2, 1) := by decide +kernel
theorem d41 : decode yB 41 = .ok (.getfield 9, 3) := by decide +kernel
theorem d44 : decode yB 44 = .ok (.invokestatic 541, 3) := by decide +kernel
theorem d47 : decode yB 47 = .ok (.ifCond (.eq) 7, 3) := by decide +kernel
theorem d50 : decode yB 50 = .ok (.iconst 1, 1) := by decide +kernel
theorem d51 : decode yB 51 = .ok (.goto 4, 3) := by decide +kernel
theorem d54 : decode yB 54 = .ok (.iconst 0, 1) := by decide +kernel
theorem d55 : decode yB 55 = .ok (.ireturn, 1) := by decide +kernel
def site : List Cond := [.classLink "java/lang/String" 10 "java/lang/String", .fieldLink "java/lang/String" 38 "java/lang/String" "COMPACT_STRINGS" "Z", .fieldLink "java/lang/String" 15 "java/lang/String" "coder" "B", .fieldLink "java/lang/String" 9 "java/lang/String" "value" "[B", LEq.tab] ++ staticW "java/lang/String" 541 LEq.yN
def tab : Cond := tabOf yN yB 3 (some .boolean) site
def P (x t : Addr) (V : Cell) (cd : Int32) (n : Nat) (f : Nat → Int32) (y t' : Addr) (V' : Cell) (cd' : Int32) (k : Nat) (g : Nat → Int32) (z : Int32) (args : Array Value) (s : State) : Prop := args = #[.ref x, .ref y] ∧ Txt x t V cd n f s ∧ Txt y t' V' cd' k g s ∧ StaticIs s "java/lang/String" "COMPACT_STRINGS" "Z" (.int z) ∧ ¬ z = 0
/-- equals(Object) of two Strings: whether the texts are the same -/
theorem law (l : Launch) (x t : Addr) (V : Cell) (cd : Int32) (n : Nat) (f : Nat → Int32) (y t' : Addr) (V' : Cell) (cd' : Int32) (k : Nat) (g : Nat → Int32) (z : Int32) : Law l yN 2 1 1 14 yB 3 (some .boolean) site (P x t V cd n f y t' V' cd' k g z) (Says01 (SameT n f k g)) [] 0 0 := by
  refine Law.of_walk (plainFor_of_name (by decide +kernel)) (by decide +kernel) (by decide +kernel) (by decide) (fun _ _ h => by rw [h.1]; rfl) (fun _ U U' hal hh h => ⟨h.1, h.2.1.mv hal hh, h.2.2.1.mv hal hh, h.2.2.2.1.there hal hh, h.2.2.2.2⟩) (fun r U U' V V' h1 hal h2 h => Says01.mv r U U' V V' h1 hal h2 h) ?_
  intro p e s m args below meth c s₁ X0 hexec hbytes hml hret hlk hnm hown hh0 W hP
  obtain ⟨rfl, hx, hy, s1, hz⟩ := hP
  have c1 : Steps p.tables e below (s₁.setTop (entryFrame m #[.ref x, .ref y] 3)) (s₁.setTop (mkF m 2 #[.val (.ref x), .val (.ref y), .unset] [.ref y, .ref x])) := Steps.trans (entry rfl) (by
    show Steps p.tables e below (s₁.setTop (mkF m 0 #[.val (.ref x), .val (.ref y), .unset] [])) _
    refine XS.aloadN X0.here hexec rfl (hb hbytes d0) rfl rfl ?_
    refine XS.aloadN X0.here hexec rfl (hb hbytes d1) rfl rfl ?_
    exact Steps.refl _)
  by_cases hxy : x = y
  · have c2 : Steps p.tables e below (s₁.setTop (entryFrame m #[.ref x, .ref y] 3)) (s₁.setTop (mkF m 6 #[.val (.ref x), .val (.ref y), .unset] [.int 1])) := c1.trans (by
      refine acmpNo X0.here hexec rfl (hb hbytes d2) rfl rfl rfl (by simp [acmp, hxy]) ?_
      refine iconstV X0.here hexec rfl 1 (hb hbytes d5) (by decide) ?_
      exact Steps.refl _)
    subst hxy
    have ec : cd = cd' := by
      obtain ⟨D, fd, a1, a2, a3⟩ := hx.2.2.1
      obtain ⟨D', fd', b1, b2, b3⟩ := hy.2.2.1
      cases a1.symm.trans b1
      obtain ⟨q1, q2, q3, q4⟩ := a2.1
      obtain ⟨r1, r2, r3, r4⟩ := b2.1
      cases q4.symm.trans r4
      cases a3.symm.trans b3; rfl
    have et : t = t' := by
      obtain ⟨D, fd, a1, a2, a3⟩ := hx.2.1
      obtain ⟨D', fd', b1, b2, b3⟩ := hy.2.1
      cases a1.symm.trans b1
      obtain ⟨q1, q2, q3, q4⟩ := a2.1
      obtain ⟨r1, r2, r3, r4⟩ := b2.1
      cases q4.symm.trans r4
      cases a3.symm.trans b3; rfl
    subst ec et
    have ev : V = V' := by cases hx.2.2.2.1.1.symm.trans hy.2.2.2.1.1; rfl
    subst ev
    have hs : SameT n f k g := (Cod.eqv hx.2.2.2.2.1 hy.2.2.2.2.1 hx.2.2.2.2.2 hy.2.2.2.2.2).mp ⟨rfl, fun _ _ => rfl⟩
    exact ⟨s₁, some (.int 1), _, _, _, X0, rfl, rfl, rfl, (fun h => by cases h), ⟨1, rfl, hh0, Or.inl ⟨rfl, hs⟩⟩, fun fs hl => c2.trans (X0.ireturnOut hexec hret rfl (Or.inr (Or.inl rfl)) (hb hbytes d6) hl)⟩
  · have c2 : Steps p.tables e below (s₁.setTop (entryFrame m #[.ref x, .ref y] 3)) (s₁.setTop (mkF m 8 #[.val (.ref x), .val (.ref y), .unset] [.ref y])) := c1.trans (by
      refine acmpYes X0.here hexec rfl (pc0 := 2) rfl (hb hbytes d2) rfl rfl rfl (by simp [acmp, hxy]) (by decide) rfl ?_
      refine XS.aloadN X0.here hexec rfl (hb hbytes d7) rfl rfl ?_
      exact Steps.refl _)
    obtain ⟨T3, X3, q3, st3⟩ := cinst X0 hexec hown (wk W (.classLink "java/lang/String" 10 "java/lang/String")) (hy.mv X0.warmed.alike hh0).1 (g := (mkF m 8 #[.val (.ref x), .val (.ref y), .unset] [.ref y])) rfl (rest := []) rfl (hb hbytes d8)
    have hh3 := q3.trans hh0
    have c4 : Steps p.tables e below (s₁.setTop (entryFrame m #[.ref x, .ref y] 3)) (T3.setTop (mkF m 15 #[.val (.ref x), .val (.ref y), .unset] [.ref y])) := (c2.trans (st3 _ (Steps.refl _))).trans (by
      refine XS.ifNo X3.here hexec rfl (hb hbytes d11) rfl (i0_eq_f (by decide)) ?_
      refine XS.aloadN X3.here hexec rfl (hb hbytes d14) rfl rfl ?_
      exact Steps.refl _)
    obtain ⟨T5, X5, q5, st5⟩ := cself X3 hexec hown (wk W (.classLink "java/lang/String" 10 "java/lang/String")) (hy.mv X3.warmed.alike hh3).1 (g := (mkF m 15 #[.val (.ref x), .val (.ref y), .unset] [.ref y])) rfl (rest := []) rfl (hb hbytes d15)
    have hh5 := q5.trans hh3
    have c6 : Steps p.tables e below (s₁.setTop (entryFrame m #[.ref x, .ref y] 3)) (T5.setTop (mkF m 19 #[.val (.ref x), .val (.ref y), .val (.ref y)] [])) := (c4.trans (st5 _ (Steps.refl _))).trans (by
      refine XS.astoreN X5.here hexec rfl (hb hbytes d18) rfl rfl rfl ?_
      exact Steps.refl _)
    obtain ⟨T7, X7, q7, st7⟩ := X5.sget hexec hown (wk W (.fieldLink "java/lang/String" 38 "java/lang/String" "COMPACT_STRINGS" "Z")) s1 (fun _ _ h => by rw [hh5]; exact h) (g := (mkF m 19 #[.val (.ref x), .val (.ref y), .val (.ref y)] [])) rfl (hb hbytes d19)
    have hh7 := q7.trans hh5
    have c8 : Steps p.tables e below (s₁.setTop (entryFrame m #[.ref x, .ref y] 3)) (T7.setTop (mkF m 26 #[.val (.ref x), .val (.ref y), .val (.ref y)] [.ref x])) := (c6.trans (st7 _ (Steps.refl _))).trans (by
      refine XS.ifNo X7.here hexec rfl (hb hbytes d22) rfl (i0_eq_f hz) ?_
      refine XS.aloadN X7.here hexec rfl (hb hbytes d25) rfl rfl ?_
      exact Steps.refl _)
    obtain ⟨T9, X9, q9, st9⟩ := X7.hget hexec hown (wk W (.fieldLink "java/lang/String" 15 "java/lang/String" "coder" "B")) (hx.mv X7.warmed.alike hh7).2.2.1 (g := (mkF m 26 #[.val (.ref x), .val (.ref y), .val (.ref y)] [.ref x])) rfl (rest := []) rfl (hb hbytes d26)
    have hh9 := q9.trans hh7
    have c10 : Steps p.tables e below (s₁.setTop (entryFrame m #[.ref x, .ref y] 3)) (T9.setTop (mkF m 30 #[.val (.ref x), .val (.ref y), .val (.ref y)] [.ref y, .int cd])) := (c8.trans (st9 _ (Steps.refl _))).trans (by
      refine XS.aloadN X9.here hexec rfl (hb hbytes d29) rfl rfl ?_
      exact Steps.refl _)
    obtain ⟨T11, X11, q11, st11⟩ := X9.hget hexec hown (wk W (.fieldLink "java/lang/String" 15 "java/lang/String" "coder" "B")) (hy.mv X9.warmed.alike hh9).2.2.1 (g := (mkF m 30 #[.val (.ref x), .val (.ref y), .val (.ref y)] [.ref y, .int cd])) rfl (rest := [.int cd]) rfl (hb hbytes d30)
    have hh11 := q11.trans hh9
    have c12 : Steps p.tables e below (s₁.setTop (entryFrame m #[.ref x, .ref y] 3)) (T11.setTop (mkF m 33 #[.val (.ref x), .val (.ref y), .val (.ref y)] [.int cd', .int cd])) := c10.trans (st11 _ (Steps.refl _))
    by_cases hcd : cd = cd'
    · subst hcd
      have c13 : Steps p.tables e below (s₁.setTop (entryFrame m #[.ref x, .ref y] 3)) (T11.setTop (mkF m 37 #[.val (.ref x), .val (.ref y), .val (.ref y)] [.ref x])) := c12.trans (by
        refine XS.icmpNo X11.here hexec rfl (hb hbytes d33) rfl (ii_ne_f rfl) ?_
        refine XS.aloadN X11.here hexec rfl (hb hbytes d36) rfl rfl ?_
        exact Steps.refl _)
      obtain ⟨T14, X14, q14, st14⟩ := X11.hget hexec hown (wk W (.fieldLink "java/lang/String" 9 "java/lang/String" "value" "[B")) (hx.mv X11.warmed.alike hh11).2.1 (g := (mkF m 37 #[.val (.ref x), .val (.ref y), .val (.ref y)] [.ref x])) rfl (rest := []) rfl (hb hbytes d37)
      have hh14 := q14.trans hh11
      have c15 : Steps p.tables e below (s₁.setTop (entryFrame m #[.ref x, .ref y] 3)) (T14.setTop (mkF m 41 #[.val (.ref x), .val (.ref y), .val (.ref y)] [.ref y, .ref t])) := (c13.trans (st14 _ (Steps.refl _))).trans (by
        refine XS.aloadN X14.here hexec rfl (hb hbytes d40) rfl rfl ?_
        exact Steps.refl _)
      obtain ⟨T16, X16, q16, st16⟩ := X14.hget hexec hown (wk W (.fieldLink "java/lang/String" 9 "java/lang/String" "value" "[B")) (hy.mv X14.warmed.alike hh14).2.1 (g := (mkF m 41 #[.val (.ref x), .val (.ref y), .val (.ref y)] [.ref y, .ref t])) rfl (rest := [.ref t]) rfl (hb hbytes d41)
      have hh16 := q16.trans hh14
      have c17 : Steps p.tables e below (s₁.setTop (entryFrame m #[.ref x, .ref y] 3)) (T16.setTop (mkF m 44 #[.val (.ref x), .val (.ref y), .val (.ref y)] [.ref t', .ref t])) := c15.trans (st16 _ (Steps.refl _))
      obtain ⟨v18, T18, X18, E18, g18⟩ := X16.callS hexec (LEq.law l t V t' V') hown (wks W (staticW "java/lang/String" 541 LEq.yN)) (wk W LEq.tab) (W := 0) (Nat.le_of_ble_eq_true rfl) (Nat.le_of_ble_eq_true rfl) (Nat.le_refl _) (Nat.le_refl _) (g := (mkF m 44 #[.val (.ref x), .val (.ref y), .val (.ref y)] [.ref t', .ref t])) rfl (by rw [hml]; rfl) c17 (argsL := [.ref t, .ref t']) (rest := []) rfl rfl (by show 2 * 0 + 0 ≤ _; decide) (hb hbytes d44) (⟨rfl, hx.2.2.2.1.mv X16.warmed.alike hh16, hx.2.2.2.2.1.ty, hy.2.2.2.1.mv X16.warmed.alike hh16, hy.2.2.2.2.1.ty⟩)
      obtain ⟨v, rfl, q18, hv⟩ := E18
      have iff := Cod.eqv hx.2.2.2.2.1 hy.2.2.2.2.1 hx.2.2.2.2.2 hy.2.2.2.2.2
      rcases hv with ⟨rfl, he⟩ | ⟨rfl, he⟩
      · have c19 : Steps p.tables e below (s₁.setTop (entryFrame m #[.ref x, .ref y] 3)) (T18.setTop (mkF m 55 #[.val (.ref x), .val (.ref y), .val (.ref y)] [.int 1])) := Steps.trans g18 (by
          refine XS.ifNo X18.here hexec rfl (hb hbytes d47) rfl (i0_eq_f (by decide)) ?_
          refine iconstV X18.here hexec rfl 1 (hb hbytes d50) (by decide) ?_
          refine XS.goto X18.here hexec rfl (pc0 := 51) rfl (hb hbytes d51) (by decide) rfl ?_
          exact Steps.refl _)
        exact ⟨T18, some (.int 1), _, _, _, X18, rfl, rfl, rfl, (fun h => by cases h), ⟨1, rfl, q18.trans hh16, Or.inl ⟨rfl, iff.mp he⟩⟩, fun fs hl => c19.trans (X18.ireturnOut hexec hret rfl (Or.inr (Or.inl rfl)) (hb hbytes d55) hl)⟩
      · have c19 : Steps p.tables e below (s₁.setTop (entryFrame m #[.ref x, .ref y] 3)) (T18.setTop (mkF m 55 #[.val (.ref x), .val (.ref y), .val (.ref y)] [.int 0])) := Steps.trans g18 (by
          refine XS.ifYes X18.here hexec rfl (pc0 := 47) rfl (hb hbytes d47) rfl (i0_eq_t rfl) (by decide) rfl ?_
          refine iconstV X18.here hexec rfl 0 (hb hbytes d54) (by decide) ?_
          exact Steps.refl _)
        exact ⟨T18, some (.int 0), _, _, _, X18, rfl, rfl, rfl, (fun h => by cases h), ⟨0, rfl, q18.trans hh16, Or.inr ⟨rfl, fun q => he (iff.mpr q)⟩⟩, fun fs hl => c19.trans (X18.ireturnOut hexec hret rfl (Or.inr (Or.inl rfl)) (hb hbytes d55) hl)⟩
    · have c13 : Steps p.tables e below (s₁.setTop (entryFrame m #[.ref x, .ref y] 3)) (T11.setTop (mkF m 55 #[.val (.ref x), .val (.ref y), .val (.ref y)] [.int 0])) := c12.trans (by
        refine XS.icmpYes X11.here hexec rfl (pc0 := 33) rfl (hb hbytes d33) rfl (ii_ne_t hcd) (by decide) rfl ?_
        refine iconstV X11.here hexec rfl 0 (hb hbytes d54) (by decide) ?_
        exact Steps.refl _)
      exact ⟨T11, some (.int 0), _, _, _, X11, rfl, rfl, rfl, (fun h => by cases h), ⟨0, rfl, hh11, Or.inr ⟨rfl, Cod.dif hx.2.2.2.2.1 hy.2.2.2.2.1 hcd⟩⟩, fun fs hl => c13.trans (X11.ireturnOut hexec hret rfl (Or.inr (Or.inl rfl)) (hb hbytes d55) hl)⟩
theorem pays {l : Launch} {R : Room} {p : Program} {e : Env} {below : List Frame} {s : State} {sargs : Array Value} {len W : Nat} (x t : Addr) (V : Cell) (cd : Int32) (n : Nat) (f : Nat → Int32) (y t' : Addr) (V' : Cell) (cd' : Int32) (k : Nat) (g : Nat → Int32) (z : Int32) (htab : tab.before sargs s = true) (hfr : 2 ≤ R.frames) (hlo : W + 28 ≤ R.locals) :
    Back l R p e below s sargs yN len W (fun A₁ a₁ => A₁.cells + 0 ≤ R.cells ∧ A₁.slots + 0 ≤ R.slots ∧ P x t V cd n f y t' V' cd' k g z a₁ A₁.U) (fun A₁ _ v₁ B₁ => Says01 (SameT n f k g) v₁ A₁.U B₁.U ∧ B₁.locs = A₁.locs ++ [] ∧ B₁.cells = A₁.cells + 0 ∧ B₁.slots = A₁.slots + 0) :=
  (law l x t V cd n f y t' V' cd' k g z).pays htab hfr (by omega)
end SEq
end StrChars
namespace StrChars.Road
open Jvm Sem ClassFile Op Lib Jvm.Stand Jvm.Free Jvm.Free.XT
open Jvm.Lib.Cold (StaticIs)
/-- the words of String.equals(Object) -/
abbrev wordsEq : List Jvm.Cond := [.code SEq.yN SEq.yB 3 (some .boolean), .initialized ST, .classLink ST 10 ST, .fieldLink ST 38 ST "COMPACT_STRINGS" "Z", .fieldLink ST 15 ST "coder" "B", .fieldLink ST 9 ST "value" "[B", .methodLink ST 541 LEq.yN, .static LEq.yN, .code LEq.yN LEq.yB 3 (some .boolean), .initialized "java/lang/StringLatin1"]
theorem tabEq_of {a : Array Value} {s : State} (h : ∀ w ∈ wordsEq, w.before a s = true) : SEq.tab.before a s = true := by
  have hl : LEq.tab.before a s = true := unparts (wk h (.code LEq.yN LEq.yB 3 (some .boolean))) (wks h (.initialized LEq.yN.cls :: LEq.site))
  have q := consq hl h
  exact unparts (wk q (.code SEq.yN SEq.yB 3 (some .boolean))) (wks q (.initialized SEq.yN.cls :: SEq.site))
theorem movedEq {Z s : State} {a0 args : Array Value} (hZ : Z.Warmed39 s.vm) (hw : ∀ d ∈ wordsEq, d.before a0 Z = true) : ∀ d ∈ wordsEq, d.before args s = true := fun d hd => by
  have t : ∀ d ∈ wordsEq, (d.onTables && d.keepsFace) = true := by decide +kernel
  exact RoadKit.mv hZ (hw d hd) (t d hd)
/-- the road's facts of a String, as the laws ask it -/
theorem txt_of {Z U : State} {a0 : Array Value} {kI : Nat} (wi : (Jvm.Cond.instantiable ST kI).before a0 Z = true) (al : Z.vm.Alike U.vm) {x t : Addr} {kb : ClassId} {cs : List Int32} {cd N2 : Int32} {vs : List Value} (E : RoadKit.Exa Z U.heap x ST) (V : RoadKit.Fld Z U.heap x ST "value" "[B" (.ref t)) (C : RoadKit.Fld Z U.heap x ST "coder" "B" (.int cd)) (K : RoadKit.Arv Z U.heap t kb .byte N2 vs (.int 0)) (hc : CodA cs cd N2 vs) (hb : ∀ c ∈ cs, ¬ c < 0 ∧ ¬ (65535 : Int32) < c) (l2 : cs.length ≤ 4000) :
    ∃ A, Txt x t A cd cs.length (fun j => cs.getD j 0) U := by
  obtain ⟨A, K1, K2, K3, K4, K5, K6⟩ := K
  have hcod := hc.cod (by omega) K3 K5
  obtain ⟨D, fV, fC, hB, F1, F2, g1, g2, -, -⟩ := strObj wi al E V C
  exact ⟨A, ⟨_, hB.2.2.1, D, hB.1, rfl, by cases q : D.vm <;> first | rfl | exact absurd q (hB.2.1.2 _)⟩, Has.of hB F1 g1, Has.of hB F2 g2, ⟨K1.1, State.isArrayOf_alike al K1.2.1, K1.2.2, by rcases hcod with ⟨-, q, -⟩ | ⟨-, q, -⟩ <;> omega⟩, hcod, fun j hj => by
    have e : cs.getD j 0 = cs[j] := by simp [List.getD_eq_getElem?_getD, hj]
    show ¬ cs.getD j 0 < 0 ∧ ¬ 65535 < cs.getD j 0
    rw [e]; exact hb _ (List.getElem_mem _)⟩
theorem same_list (cs ds : List Int32) : SameT cs.length (fun j => cs.getD j 0) ds.length (fun j => ds.getD j 0) ↔ cs = ds := by
  constructor
  · rintro ⟨e, q⟩
    refine List.ext_getElem e fun j h1 h2 => ?_
    have := q j h1
    simpa [List.getD_eq_getElem?_getD, h1, h2] using this
  · rintro rfl
    exact ⟨rfl, fun _ _ => rfl⟩
/-- **equals(Object) OF TWO SUCH STRINGS**: 1 just where the chars are the same -/
theorem eqW {p : Program} {l : Launch} {e : Env} {R : Room} {s : State} {args : Array Value} {below : List Frame} {len W : Nat} {Z : State} {a0 : Array Value} {h : Heap} (hZ : Z.Warmed39 s.vm) (hw : ∀ d ∈ wordsEq, d.before a0 Z = true) {kI : Nat} (wi : (Jvm.Cond.instantiable ST kI).before a0 Z = true)
    {x t : Addr} {kb : ClassId} {cs : List Int32} {cd N2 : Int32} {vs : List Value} (E : RoadKit.Exa Z h x ST) (V : RoadKit.Fld Z h x ST "value" "[B" (.ref t)) (C : RoadKit.Fld Z h x ST "coder" "B" (.int cd)) (K : RoadKit.Arv Z h t kb .byte N2 vs (.int 0)) (hc : CodA cs cd N2 vs) (hb : ∀ c ∈ cs, ¬ c < 0 ∧ ¬ (65535 : Int32) < c) (l2 : cs.length ≤ 4000)
    {y t' : Addr} {kb' : ClassId} {ds : List Int32} {cd' N2' : Int32} {vs' : List Value} (E' : RoadKit.Exa Z h y ST) (V' : RoadKit.Fld Z h y ST "value" "[B" (.ref t')) (C' : RoadKit.Fld Z h y ST "coder" "B" (.int cd')) (K' : RoadKit.Arv Z h t' kb' .byte N2' vs' (.int 0)) (hc' : CodA ds cd' N2' vs') (hb' : ∀ c ∈ ds, ¬ c < 0 ∧ ¬ (65535 : Int32) < c) (l2' : ds.length ≤ 4000)
    {z : Int32} (S : RoadKit.Sta Z h ST "COMPACT_STRINGS" "Z" (.int z)) (hz : ¬ z = 0) (hfr : 2 ≤ R.frames) (hlo : W + 28 ≤ R.locals) :
    Back l R p e below s args (⟨"java/lang/String", "equals", "(Ljava/lang/Object;)Z"⟩ : MethodName) len W (fun P a => a = #[.ref x, .ref y] ∧ P.U.heap = h ∧ P.cells + 0 ≤ R.cells ∧ P.slots + 0 ≤ R.slots)
      (fun P _ v B => ∃ L, (((v = some (.int 1) ∧ cs = ds) ∨ (v = some (.int 0) ∧ ¬ cs = ds)) ∧ L = [] ∧ B.U.heap = h) ∧ B.locs = P.locs ++ L ∧ B.cells = P.cells + 0 ∧ B.slots = P.slots + 0) := by
  intro m meth c P g ig mk a X hg hsize hdg hW hn hp'
  obtain ⟨rfl, rfl, r1, r2⟩ := hp'
  have al : Z.vm.Alike P.U.vm := hZ.alike.trans X.warmed.alike
  obtain ⟨A, hx⟩ := txt_of wi al E V C K hc hb l2
  obtain ⟨A', hy⟩ := txt_of wi al E' V' C' K' hc' hb' l2'
  obtain ⟨v, B, X', ⟨⟨w, hv, hh, hq⟩, hl, hk, hs⟩, st⟩ := SEq.pays x t A cd cs.length (fun j => cs.getD j 0) y t' A' cd' ds.length (fun j => ds.getD j 0) z (tabEq_of (movedEq hZ hw)) hfr hlo m meth c P g ig mk _ X hg hsize hdg hW hn ⟨r1, r2, rfl, hx, hy, sta_is al S, hz⟩
  refine ⟨v, B, X', ⟨[], ⟨?_, rfl, hh⟩, hl, hk, hs⟩, st⟩
  rcases hq with ⟨rfl, q⟩ | ⟨rfl, q⟩
  · exact Or.inl ⟨hv, (same_list cs ds).mp q⟩
  · exact Or.inr ⟨hv, fun e => q ((same_list cs ds).mpr e)⟩
end StrChars.Road
namespace StrChars.Road
open Jvm Sem ClassFile Op Lib Jvm.Stand Jvm.Free Jvm.Free.XT
open Jvm.Lib.Cold (StaticIs)
/-- what backV says of its String, as the contracts of this text ask it: cs's low bytes, coder 0 -/
theorem codOf {cs : List Int32} {n : Nat} (hn : cs.length = n) (hb : ∀ c ∈ cs, ¬ 255 < c) : CodA cs 0 (Int32.ofNat n) ((cs.map lo8).map Value.int) := Or.inl ⟨rfl, by rw [hn], by simp [List.map_map, Function.comp_def], hb⟩
end StrChars.Road
end Jvm.Pilot.@@N@@
@@BLOCK:NumsL.lean.txt@@
namespace Jvm.Pilot.@@N@@
open Jvm Jvm.ClassFile Sem Op Lib Jvm.Free Jvm.Stand Jvm.LawKit Jvm.RoadKit Bundle Jvm.Pilot.@@N@@.Jvm.D
theorem own_up (cs : List Int32) (h : ∀ c ∈ cs, ¬ c < 0 ∧ ¬ (255 : Int32) < c) : ∀ c ∈ cs, ¬ c < 0 ∧ ¬ (65535 : Int32) < c := fun c hc => ⟨(h c hc).1, fun q => (h c hc).2 (by rw [Int32.lt_iff_toInt_lt] at q ⊢; have e1 : (65535 : Int32).toInt = 65535 := rfl; have e2 : (255 : Int32).toInt = 255 := rfl; omega)⟩
theorem own_all0 {P : Int32 → Prop} : ∀ c ∈ ([] : List Int32), P c := fun _ h => nomatch h
theorem own_allS {P : Int32 → Prop} {a : Int32} {L : List Int32} (h : P a) (r : ∀ c ∈ L, P c) : ∀ c ∈ a :: L, P c := fun c hc => (List.mem_cons.mp hc).elim (fun e => e ▸ h) (r c)
theorem d8_0 : decode prog_1_method_1_code 0 = .ok (.getstatic 13, 3) := by decide +kernel
theorem d8_3 : decode prog_1_method_1_code 3 = .ok (.invokevirtual 17, 3) := by decide +kernel
theorem d8_6 : decode prog_1_method_1_code 6 = .ok (.checkcast 18, 3) := by decide +kernel
theorem d8_9 : decode prog_1_method_1_code 9 = .ok (.areturn, 1) := by decide +kernel
theorem pn_com_example_amber_gate_ambergate_Algorithm : plainName "com/example/amber_gate/ambergate/Algorithm" = true := by first | (simp [plainName, overriddenIn]; done) | decide +kernel
def Q_rmV (Z : State) (a_EXACT : Addr) (a_SLIDING : Addr) (a_FIXED : Addr) (va : Addr) (kA : ClassId) (h0 : Heap) (n0 : Nat) (v : Option Value) (h : Heap) (L : List Loc) : Prop := ∃ b, v = some (.ref b) ∧ Fr n0 L ∧ Keep h0 h [] ∧ Arv Z h b kA (.object "com/example/amber_gate/ambergate/Algorithm") (3 : Int32) [(.ref a_EXACT), (.ref a_SLIDING), (.ref a_FIXED)] .null
theorem pd_2829Ljava2flang2fObject3b : parseMethodDescriptor "()Ljava/lang/Object;" = some ⟨[], some (.object "java/lang/Object")⟩ := by decide +kernel
set_option maxRecDepth 65536 in
set_option maxHeartbeats 40000000 in
theorem rmV (l : Launch) (Z : State) (a0 : Array Value) (hw : ∀ d ∈ tables_1, d.before a0 Z = true) (ws : List Jvm.Cond) (a_EXACT : Addr) (a_SLIDING : Addr) (a_FIXED : Addr) (va : Addr) (kA : ClassId) (h0 : Heap) (n0 : Nat) (O0 : Old Z n0 h0) (S_V : Sta Z Z.heap "com/example/amber_gate/ambergate/Algorithm" "$VALUES" "[Lcom/example/amber_gate/ambergate/Algorithm;" (.ref va)) (AV : Arv Z Z.heap va kA (.object "com/example/amber_gate/ambergate/Algorithm") (3 : Int32) [(.ref a_EXACT), (.ref a_SLIDING), (.ref a_FIXED)] .null) (EV : Exa Z Z.heap va "[Lcom/example/amber_gate/ambergate/Algorithm;") :
    MetFree l (⟨"com/example/amber_gate/ambergate/Algorithm", "values", "()[Lcom/example/amber_gate/ambergate/Algorithm;"⟩ : MethodName) (head1 (Jvm.Cond.code (⟨"com/example/amber_gate/ambergate/Algorithm", "values", "()[Lcom/example/amber_gate/ambergate/Algorithm;"⟩ : MethodName) prog_1_method_1_code 0 (some (.array (.object "com/example/amber_gate/ambergate/Algorithm"))) :: ws) ({ frames := 1, cells := 1, slots := 3, locals := 14 } : Room)) (fun ar' U => ar' = #[] ∧ Z.Warmed39 U.vm ∧ U.heap = h0) (fun _ _ _ _ _ => True) (fun _ U o U' => ∃ v L, o = .returned v ∧ (Q_rmV Z a_EXACT a_SLIDING a_FIXED va kA h0 n0) v U'.heap L ∧ FrameEnd U o U' L ({ frames := 1, cells := 1, slots := 3, locals := 14 } : Room).cells ({ frames := 1, cells := 1, slots := 3, locals := 14 } : Room).slots) := by
  refine MetFree.of_bodySF (plainFor_of_name pn_com_example_amber_gate_ambergate_Algorithm) hisR ?_
  intro p e s m args below meth c s₁ Bd hml0 hP hK
  obtain ⟨rfl, hZ, hh⟩ := hP
  have hx := Bd.exec
  have hby := Bd.bytes
  have hlk := BodyLoose.notSynchronized Bd
  have hml : c.maxLocals = 0 := hml0
  have hown : s.vm.findClass "com/example/amber_gate/ambergate/Algorithm" = some m.cls := findClass_of_methodNamed Bd.named
  have hnm := (name_of_methodNamed Bd.named Bd.method).1
  have X0 : Stand p l e ({ frames := 1, cells := 1, slots := 3, locals := 14 } : Room) s m #[] below meth c s₁ [] 0 0 := Stand.of_body Bd
  have e0 : s₁.heap = h0 := by rw [← hh, Bd.state]; rfl
  have N0 := Fr.nil n0
  have Z0 : n0 ≤ h0.size := O0.1 ▸ O0.2.1
  show OEnds p e below s ({ frames := 1, cells := 1, slots := 3, locals := 14 } : Room).cells ({ frames := 1, cells := 1, slots := 3, locals := 14 } : Room).slots (Q_rmV Z a_EXACT a_SLIDING a_FIXED va kA h0 n0) (s₁.setTop (entryFrame m #[] 0))
  refine OEnds.via (fun _ k => castTop (show entryFrame m #[] 0 = (mkF m 0 #[] []) by first | (simp [entryFrame, mkF, argsToLocals, Value.category, maxLocals]; done) | rfl) k) ?_
  obtain ⟨T1, X1, e1, st1⟩ := getS2 X0 hx hZ hown (host := "") (Or.inl (hw _ (List.mem_of_getElem? (i := 40) rfl))) Via.refl e0 (Sta.ext O0.2 S_V) (g := (mkF m 0 #[] [])) rfl (hb hby d8_0)
  refine OEnds.via (fun _ k => st1 _ k) ?_
  show OEnds p e below s _ _ _ (T1.setTop (mkF m 3 #[] [(.ref va)]))
  obtain ⟨T2, h2, X2, e2, E2, A2, F2, st2⟩ := cloneH X1 hx hZ hown (hw _ (List.mem_of_getElem? (i := 42) rfl)) (hw _ (List.mem_of_getElem? (i := 43) rfl)) (hw _ (List.mem_of_getElem? (i := 47) rfl)) (hw _ (List.mem_of_getElem? (i := 45) rfl)) (hw _ (List.mem_of_getElem? (i := 46) rfl)) (hw _ (List.mem_of_getElem? (i := 48) rfl)) e1 (AV.arh.ext O0.2) (EV.ext O0.2) (g := (mkF m 3 #[] [(.ref va)])) rfl (by rw [hml]; rfl) rfl (hb hby d8_3) (by decide) (W := 0) (cap := 3) (Nat.le_refl 0) (by decide) (by decide) (by decide) (by decide)
  refine OEnds.via (fun _ k => st2 _ k) ?_
  show OEnds p e below s _ _ _ (T2.setTop (mkF m 6 #[] [(.ref h0.size)]))
  obtain ⟨T3, X3, e3, st3⟩ := castY X2 hx hZ hown (hw _ (List.mem_of_getElem? (i := 52) rfl)) e2 (Ins.self F2) (g := (mkF m 6 #[] [(.ref h0.size)])) rfl rfl (hb hby d8_6)
  refine OEnds.via (fun _ k => st3 _ k) ?_
  show OEnds p e below s _ _ _ (T3.setTop (mkF m 9 #[] [(.ref h0.size)]))
  refine OEnds.retR X3 hx hlk Bd.returns rfl rfl (hb hby d8_9) ?_ (by decide) (by decide)
  rw [e3]
  exact ⟨_, rfl, N0, (Keep.refl h0 []).ext E2, A2⟩
theorem d7_0 : decode prog_1_method_6_code 0 = .ok (.invokestatic 40, 3) := by decide +kernel
theorem d7_3 : decode prog_1_method_6_code 3 = .ok (.astore_n 1, 1) := by decide +kernel
theorem d7_4 : decode prog_1_method_6_code 4 = .ok (.aload_n 1, 1) := by decide +kernel
theorem d7_5 : decode prog_1_method_6_code 5 = .ok (.arraylength, 1) := by decide +kernel
theorem d7_6 : decode prog_1_method_6_code 6 = .ok (.istore_n 2, 1) := by decide +kernel
theorem d7_7 : decode prog_1_method_6_code 7 = .ok (.iconst 0, 1) := by decide +kernel
theorem d7_8 : decode prog_1_method_6_code 8 = .ok (.istore_n 3, 1) := by decide +kernel
theorem d7_9 : decode prog_1_method_6_code 9 = .ok (.iload_n 3, 1) := by decide +kernel
theorem d7_10 : decode prog_1_method_6_code 10 = .ok (.iload_n 2, 1) := by decide +kernel
theorem d7_11 : decode prog_1_method_6_code 11 = .ok (.if_icmp .ge 29, 3) := by decide +kernel
theorem d7_14 : decode prog_1_method_6_code 14 = .ok (.aload_n 1, 1) := by decide +kernel
theorem d7_15 : decode prog_1_method_6_code 15 = .ok (.iload_n 3, 1) := by decide +kernel
theorem d7_16 : decode prog_1_method_6_code 16 = .ok (.aaload, 1) := by decide +kernel
theorem d7_17 : decode prog_1_method_6_code 17 = .ok (.astore 4, 2) := by decide +kernel
theorem d7_19 : decode prog_1_method_6_code 19 = .ok (.aload 4, 2) := by decide +kernel
theorem d7_21 : decode prog_1_method_6_code 21 = .ok (.getfield 32, 3) := by decide +kernel
theorem d7_24 : decode prog_1_method_6_code 24 = .ok (.aload_n 0, 1) := by decide +kernel
theorem d7_25 : decode prog_1_method_6_code 25 = .ok (.invokevirtual 44, 3) := by decide +kernel
theorem d7_28 : decode prog_1_method_6_code 28 = .ok (.ifCond .eq 6, 3) := by decide +kernel
theorem d7_31 : decode prog_1_method_6_code 31 = .ok (.aload 4, 2) := by decide +kernel
theorem d7_33 : decode prog_1_method_6_code 33 = .ok (.areturn, 1) := by decide +kernel
theorem d7_34 : decode prog_1_method_6_code 34 = .ok (.iinc 3 1, 3) := by decide +kernel
theorem d7_37 : decode prog_1_method_6_code 37 = .ok (.goto (-28), 3) := by decide +kernel
theorem d7_40 : decode prog_1_method_6_code 40 = .ok (.new 50, 3) := by decide +kernel
theorem d7_43 : decode prog_1_method_6_code 43 = .ok (.dup, 1) := by decide +kernel
theorem d7_44 : decode prog_1_method_6_code 44 = .ok (.aload_n 0, 1) := by decide +kernel
theorem d7_45 : decode prog_1_method_6_code 45 = .ok (.ldc 52, 2) := by decide +kernel
theorem d7_47 : decode prog_1_method_6_code 47 = .ok (.invokestatic 54, 3) := by decide +kernel
theorem d7_50 : decode prog_1_method_6_code 50 = .ok (.invokestatic 58, 3) := by decide +kernel
theorem d7_53 : decode prog_1_method_6_code 53 = .ok (.invokedynamic 62, 5) := by decide +kernel
theorem d7_58 : decode prog_1_method_6_code 58 = .ok (.invokespecial 66, 3) := by decide +kernel
theorem d7_61 : decode prog_1_method_6_code 61 = .ok (.athrow, 1) := by decide +kernel
def Q_rmN0 (Z : State) (x : Addr) (tx : Addr) (kx : ClassId) (a_EXACT : Addr) (a_SLIDING : Addr) (a_FIXED : Addr) (t_EXACT : Addr) (t_SLIDING : Addr) (t_FIXED : Addr) (tv_EXACT : Addr) (tv_SLIDING : Addr) (tv_FIXED : Addr) (kt_EXACT : ClassId) (kt_SLIDING : ClassId) (kt_FIXED : ClassId) (va : Addr) (kA : ClassId) (G1 : Int32) (h0 : Heap) (n0 : Nat) (v : Option Value) (h : Heap) (L : List Loc) : Prop := v = some (.ref a_EXACT) ∧ Fr n0 L ∧ Keep h0 h []
theorem pd_28295bLcom2fexample2famber_gate2fambergate2fAlgorithm3b : parseMethodDescriptor "()[Lcom/example/amber_gate/ambergate/Algorithm;" = some ⟨[], some (.array (.object "com/example/amber_gate/ambergate/Algorithm"))⟩ := by decide +kernel
theorem pd_28Ljava2flang2fObject3b29Z : parseMethodDescriptor "(Ljava/lang/Object;)Z" = some ⟨[(.object "java/lang/Object")], some .boolean⟩ := by decide +kernel
set_option maxRecDepth 65536 in
set_option maxHeartbeats 40000000 in
theorem rmN0 (l : Launch) (Z : State) (a0 : Array Value) (hw : ∀ d ∈ tables_1, d.before a0 Z = true) (ws : List Jvm.Cond) (x : Addr) (tx : Addr) (kx : ClassId) (a_EXACT : Addr) (a_SLIDING : Addr) (a_FIXED : Addr) (t_EXACT : Addr) (t_SLIDING : Addr) (t_FIXED : Addr) (tv_EXACT : Addr) (tv_SLIDING : Addr) (tv_FIXED : Addr) (kt_EXACT : ClassId) (kt_SLIDING : ClassId) (kt_FIXED : ClassId) (va : Addr) (kA : ClassId) (G1 : Int32) (h0 : Heap) (n0 : Nat) (O0 : Old Z n0 h0) (Ex : Exa Z h0 x "java/lang/String") (Vx : Fld Z h0 x "java/lang/String" "value" "[B" (.ref tx)) (Cx : Fld Z h0 x "java/lang/String" "coder" "B" (.int (0 : Int32))) (Kx : Arv Z h0 tx kx .byte (5 : Int32) ((([(101 : Int32), (120 : Int32), (97 : Int32), (99 : Int32), (116 : Int32)] : List Int32).map (fun c => c.toInt8.toInt32)).map Value.int) (.int (0 : Int32))) (S_CS : Sta Z Z.heap "java/lang/String" "COMPACT_STRINGS" "Z" (.int G1)) (nz_CS : ¬ (G1 = (0 : Int32))) (S_V : Sta Z Z.heap "com/example/amber_gate/ambergate/Algorithm" "$VALUES" "[Lcom/example/amber_gate/ambergate/Algorithm;" (.ref va)) (AV : Arv Z Z.heap va kA (.object "com/example/amber_gate/ambergate/Algorithm") (3 : Int32) [(.ref a_EXACT), (.ref a_SLIDING), (.ref a_FIXED)] .null) (EV : Exa Z Z.heap va "[Lcom/example/amber_gate/ambergate/Algorithm;") (Et_EXACT : Exa Z Z.heap t_EXACT "java/lang/String") (Vt_EXACT : Fld Z Z.heap t_EXACT "java/lang/String" "value" "[B" (.ref tv_EXACT)) (Ct_EXACT : Fld Z Z.heap t_EXACT "java/lang/String" "coder" "B" (.int (0 : Int32))) (Kt_EXACT : Arv Z Z.heap tv_EXACT kt_EXACT .byte (5 : Int32) [(.int (101 : Int32)), (.int (120 : Int32)), (.int (97 : Int32)), (.int (99 : Int32)), (.int (116 : Int32))] (.int (0 : Int32))) (Ft_EXACT : Fld Z Z.heap a_EXACT "com/example/amber_gate/ambergate/Algorithm" "text" "Ljava/lang/String;" (.ref t_EXACT)) (Et_SLIDING : Exa Z Z.heap t_SLIDING "java/lang/String") (Vt_SLIDING : Fld Z Z.heap t_SLIDING "java/lang/String" "value" "[B" (.ref tv_SLIDING)) (Ct_SLIDING : Fld Z Z.heap t_SLIDING "java/lang/String" "coder" "B" (.int (0 : Int32))) (Kt_SLIDING : Arv Z Z.heap tv_SLIDING kt_SLIDING .byte (7 : Int32) [(.int (115 : Int32)), (.int (108 : Int32)), (.int (105 : Int32)), (.int (100 : Int32)), (.int (105 : Int32)), (.int (110 : Int32)), (.int (103 : Int32))] (.int (0 : Int32))) (Ft_SLIDING : Fld Z Z.heap a_SLIDING "com/example/amber_gate/ambergate/Algorithm" "text" "Ljava/lang/String;" (.ref t_SLIDING)) (Et_FIXED : Exa Z Z.heap t_FIXED "java/lang/String") (Vt_FIXED : Fld Z Z.heap t_FIXED "java/lang/String" "value" "[B" (.ref tv_FIXED)) (Ct_FIXED : Fld Z Z.heap t_FIXED "java/lang/String" "coder" "B" (.int (0 : Int32))) (Kt_FIXED : Arv Z Z.heap tv_FIXED kt_FIXED .byte (5 : Int32) [(.int (102 : Int32)), (.int (105 : Int32)), (.int (120 : Int32)), (.int (101 : Int32)), (.int (100 : Int32))] (.int (0 : Int32))) (Ft_FIXED : Fld Z Z.heap a_FIXED "com/example/amber_gate/ambergate/Algorithm" "text" "Ljava/lang/String;" (.ref t_FIXED)) :
    MetFree l (⟨"com/example/amber_gate/ambergate/Algorithm", "named", "(Ljava/lang/String;)Lcom/example/amber_gate/ambergate/Algorithm;"⟩ : MethodName) (head1 (Jvm.Cond.code (⟨"com/example/amber_gate/ambergate/Algorithm", "named", "(Ljava/lang/String;)Lcom/example/amber_gate/ambergate/Algorithm;"⟩ : MethodName) prog_1_method_6_code 5 (some (.object "com/example/amber_gate/ambergate/Algorithm")) :: ws) ({ frames := 3, cells := 1, slots := 3, locals := 60 } : Room)) (fun ar' U => ar' = #[(.ref x)] ∧ Z.Warmed39 U.vm ∧ U.heap = h0) (fun _ _ _ _ _ => True) (fun _ U o U' => ∃ v L, o = .returned v ∧ (Q_rmN0 Z x tx kx a_EXACT a_SLIDING a_FIXED t_EXACT t_SLIDING t_FIXED tv_EXACT tv_SLIDING tv_FIXED kt_EXACT kt_SLIDING kt_FIXED va kA G1 h0 n0) v U'.heap L ∧ FrameEnd U o U' L ({ frames := 3, cells := 1, slots := 3, locals := 60 } : Room).cells ({ frames := 3, cells := 1, slots := 3, locals := 60 } : Room).slots) := by
  refine MetFree.of_bodySF (plainFor_of_name pn_com_example_amber_gate_ambergate_Algorithm) hisR ?_
  intro p e s m args below meth c s₁ Bd hml0 hP hK
  obtain ⟨rfl, hZ, hh⟩ := hP
  have hx := Bd.exec
  have hby := Bd.bytes
  have hlk := BodyLoose.notSynchronized Bd
  have hml : c.maxLocals = 5 := hml0
  have hown : s.vm.findClass "com/example/amber_gate/ambergate/Algorithm" = some m.cls := findClass_of_methodNamed Bd.named
  have hnm := (name_of_methodNamed Bd.named Bd.method).1
  have X0 : Stand p l e ({ frames := 3, cells := 1, slots := 3, locals := 60 } : Room) s m #[(.ref x)] below meth c s₁ [] 0 0 := Stand.of_body Bd
  have e0 : s₁.heap = h0 := by rw [← hh, Bd.state]; rfl
  have N0 := Fr.nil n0
  have Z0 : n0 ≤ h0.size := O0.1 ▸ O0.2.1
  show OEnds p e below s ({ frames := 3, cells := 1, slots := 3, locals := 60 } : Room).cells ({ frames := 3, cells := 1, slots := 3, locals := 60 } : Room).slots (Q_rmN0 Z x tx kx a_EXACT a_SLIDING a_FIXED t_EXACT t_SLIDING t_FIXED tv_EXACT tv_SLIDING tv_FIXED kt_EXACT kt_SLIDING kt_FIXED va kA G1 h0 n0) (s₁.setTop (entryFrame m #[(.ref x)] 5))
  refine OEnds.via (fun _ k => castTop (show entryFrame m #[(.ref x)] 5 = (mkF m 0 #[.val (.ref x), .unset, .unset, .unset, .unset] []) by first | (simp [entryFrame, mkF, argsToLocals, Value.category, maxLocals]; done) | rfl) k) ?_
  have heq : ∀ d ∈ StrChars.Road.wordsEq, d.before a0 Z = true := fun d hd => hw d ((by decide +kernel : ∀ d ∈ StrChars.Road.wordsEq, d ∈ tables_1) d hd)
  have Od := O0
  have Kp := Keep.refl h0 []
  have hp_t_EXACT : ∀ c ∈ ([(101 : Int32), (120 : Int32), (97 : Int32), (99 : Int32), (116 : Int32)] : List Int32), ¬ c < 0 ∧ ¬ (255 : Int32) < c := by decide
  have hcd_t_EXACT : StrChars.Road.CodA [(101 : Int32), (120 : Int32), (97 : Int32), (99 : Int32), (116 : Int32)] 0 (5 : Int32) [(.int (101 : Int32)), (.int (120 : Int32)), (.int (97 : Int32)), (.int (99 : Int32)), (.int (116 : Int32))] := StrChars.Road.codOf (n := 5) rfl (fun c hc => (hp_t_EXACT c hc).2)
  have hbd_t_EXACT := own_up _ hp_t_EXACT
  have hp_t_SLIDING : ∀ c ∈ ([(115 : Int32), (108 : Int32), (105 : Int32), (100 : Int32), (105 : Int32), (110 : Int32), (103 : Int32)] : List Int32), ¬ c < 0 ∧ ¬ (255 : Int32) < c := by decide
  have hcd_t_SLIDING : StrChars.Road.CodA [(115 : Int32), (108 : Int32), (105 : Int32), (100 : Int32), (105 : Int32), (110 : Int32), (103 : Int32)] 0 (7 : Int32) [(.int (115 : Int32)), (.int (108 : Int32)), (.int (105 : Int32)), (.int (100 : Int32)), (.int (105 : Int32)), (.int (110 : Int32)), (.int (103 : Int32))] := StrChars.Road.codOf (n := 7) rfl (fun c hc => (hp_t_SLIDING c hc).2)
  have hbd_t_SLIDING := own_up _ hp_t_SLIDING
  have hp_t_FIXED : ∀ c ∈ ([(102 : Int32), (105 : Int32), (120 : Int32), (101 : Int32), (100 : Int32)] : List Int32), ¬ c < 0 ∧ ¬ (255 : Int32) < c := by decide
  have hcd_t_FIXED : StrChars.Road.CodA [(102 : Int32), (105 : Int32), (120 : Int32), (101 : Int32), (100 : Int32)] 0 (5 : Int32) [(.int (102 : Int32)), (.int (105 : Int32)), (.int (120 : Int32)), (.int (101 : Int32)), (.int (100 : Int32))] := StrChars.Road.codOf (n := 5) rfl (fun c hc => (hp_t_FIXED c hc).2)
  have hbd_t_FIXED := own_up _ hp_t_FIXED
  have hp_x : ∀ c ∈ ([(101 : Int32), (120 : Int32), (97 : Int32), (99 : Int32), (116 : Int32)] : List Int32), ¬ c < 0 ∧ ¬ (255 : Int32) < c := by decide
  have hcd_x : StrChars.Road.CodA [(101 : Int32), (120 : Int32), (97 : Int32), (99 : Int32), (116 : Int32)] 0 (5 : Int32) ((([(101 : Int32), (120 : Int32), (97 : Int32), (99 : Int32), (116 : Int32)] : List Int32).map (fun c => c.toInt8.toInt32)).map Value.int) := StrChars.Road.codOf (n := 5) rfl (fun c hc => (hp_x c hc).2)
  have hbd_x := own_up _ hp_x
  show OEnds p e below s _ _ _ (s₁.setTop (mkF m 0 #[.val (.ref x), .unset, .unset, .unset, .unset] []))
  obtain ⟨_, _, ⟨T1, L1, k1, n1⟩, -, X1, ⟨Lc1, hQ1, l1, y1, z1⟩, st1⟩ := Jvm.LawKit.callS X0 hx (y := (⟨"com/example/amber_gate/ambergate/Algorithm", "values", "()[Lcom/example/amber_gate/ambergate/Algorithm;"⟩ : MethodName)) hown (mvT hZ (hw _ (List.mem_of_getElem? (i := 37) rfl))) (mvT hZ (hw _ (List.mem_of_getElem? (i := 38) rfl))) (mvT hZ (hw _ (List.mem_of_getElem? (i := 3) rfl))) (mvT hZ (hw _ (List.mem_of_getElem? (i := 39) rfl))) (by decide) (backOf (W := 0) (rmV l Z a0 hw [] a_EXACT a_SLIDING a_FIXED va kA h0 n0 Od S_V AV EV) hZ (hw _ (List.mem_of_getElem? (i := 39) rfl)) (hw _ (List.mem_of_getElem? (i := 3) rfl)) (by decide) (by decide)) (g := (mkF m 0 #[.val (.ref x), .unset, .unset, .unset, .unset] [])) rfl (by rw [hml]; rfl) (argsL := []) (rest := []) (lenOf pd_28295bLcom2fexample2famber_gate2fambergate2fAlgorithm3b rfl) rfl (by show 2 * 0 + _ ≤ _; exact Nat.le_of_eq rfl) (hb hby d7_0) (fun _ _ => ⟨rfl, e0, Nat.le_of_ble_eq_true rfl, Nat.le_of_ble_eq_true rfl⟩)
  dsimp only [Pt.U, Pt.locs, Pt.cells, Pt.slots] at X1 l1 y1 z1 st1 hQ1
  subst l1 y1 z1
  obtain ⟨ar, rfl, N1q, K1, A1⟩ := hQ1
  have N1 := Fr.app N0 N1q
  replace Od := Od.keep K1 all0
  replace Kp := Kp.trans K1 all0
  replace Ex := Ex.keep K1
  replace Vx := Vx.keep K1 nin0
  replace Cx := Cx.keep K1 nin0
  replace Kx := Kx.keep K1 nin0
  obtain ⟨cl, Ar, qA, Sa, MA, HA, GA⟩ := A1
  refine OEnds.via (fun _ k => st1 _ k) ?_
  show OEnds p e below s _ _ _ (T1.setTop (mkF m 3 #[.val (.ref x), .unset, .unset, .unset, .unset] [(.ref ar)]))
  refine OEnds.via (fun _ k => XS.astoreN X1.here hx rfl (hb hby d7_3) rfl rfl (l' := #[.val (.ref x), .val (.ref ar), .unset, .unset, .unset]) rfl k) ?_
  show OEnds p e below s _ _ _ (T1.setTop (mkF m 4 #[.val (.ref x), .val (.ref ar), .unset, .unset, .unset] []))
  refine OEnds.via (fun _ k => XS.aloadN X1.here hx rfl (hb hby d7_4) rfl rfl k) ?_
  show OEnds p e below s _ _ _ (T1.setTop (mkF m 5 #[.val (.ref x), .val (.ref ar), .unset, .unset, .unset] [(.ref ar)]))
  refine OEnds.via (fun _ k => X1.arraylength hx Ar.1 (State.isArrayOf_alike hZ.alike Ar.2.1) (g := (mkF m 5 #[.val (.ref x), .val (.ref ar), .unset, .unset, .unset] [(.ref ar)])) rfl rfl (hb hby d7_5) _ k) ?_
  rw [len_of Sa MA]
  show OEnds p e below s _ _ _ (T1.setTop (mkF m 6 #[.val (.ref x), .val (.ref ar), .unset, .unset, .unset] [(.int (3 : Int32))]))
  refine OEnds.via (fun _ k => XS.istoreN X1.here hx rfl (hb hby d7_6) rfl (l' := #[.val (.ref x), .val (.ref ar), .val (.int (3 : Int32)), .unset, .unset]) rfl k) ?_
  show OEnds p e below s _ _ _ (T1.setTop (mkF m 7 #[.val (.ref x), .val (.ref ar), .val (.int (3 : Int32)), .unset, .unset] []))
  refine OEnds.via (fun _ k => XS.iconst X1.here hx rfl (hb hby d7_7) k) ?_
  show OEnds p e below s _ _ _ (T1.setTop (mkF m 8 #[.val (.ref x), .val (.ref ar), .val (.int (3 : Int32)), .unset, .unset] [(.int (0 : Int32))]))
  refine OEnds.via (fun _ k => XS.istoreN X1.here hx rfl (hb hby d7_8) rfl (l' := #[.val (.ref x), .val (.ref ar), .val (.int (3 : Int32)), .val (.int (0 : Int32)), .unset]) rfl k) ?_
  show OEnds p e below s _ _ _ (T1.setTop (mkF m 9 #[.val (.ref x), .val (.ref ar), .val (.int (3 : Int32)), .val (.int (0 : Int32)), .unset] []))
  refine OEnds.via (fun _ k => XS.iloadN X1.here hx rfl (hb hby d7_9) rfl k) ?_
  show OEnds p e below s _ _ _ (T1.setTop (mkF m 10 #[.val (.ref x), .val (.ref ar), .val (.int (3 : Int32)), .val (.int (0 : Int32)), .unset] [(.int (0 : Int32))]))
  refine OEnds.via (fun _ k => XS.iloadN X1.here hx rfl (hb hby d7_10) rfl k) ?_
  show OEnds p e below s _ _ _ (T1.setTop (mkF m 11 #[.val (.ref x), .val (.ref ar), .val (.int (3 : Int32)), .val (.int (0 : Int32)), .unset] [(.int (3 : Int32)), (.int (0 : Int32))]))
  refine OEnds.via (fun _ k => XS.icmpNo X1.here hx rfl (hb hby d7_11) rfl (tlt (by decide : (0 : Int32) < (3 : Int32))).2.1 k) ?_
  show OEnds p e below s _ _ _ (T1.setTop (mkF m 14 #[.val (.ref x), .val (.ref ar), .val (.int (3 : Int32)), .val (.int (0 : Int32)), .unset] []))
  refine OEnds.via (fun _ k => XS.aloadN X1.here hx rfl (hb hby d7_14) rfl rfl k) ?_
  show OEnds p e below s _ _ _ (T1.setTop (mkF m 15 #[.val (.ref x), .val (.ref ar), .val (.int (3 : Int32)), .val (.int (0 : Int32)), .unset] [(.ref ar)]))
  refine OEnds.via (fun _ k => XS.iloadN X1.here hx rfl (hb hby d7_15) rfl k) ?_
  show OEnds p e below s _ _ _ (T1.setTop (mkF m 16 #[.val (.ref x), .val (.ref ar), .val (.int (3 : Int32)), .val (.int (0 : Int32)), .unset] [(.int (0 : Int32)), (.ref ar)]))
  refine OEnds.via (fun _ k => X1.aaload hx (j := (0 : Int32)) (v := (.ref a_EXACT)) Ar.1 (State.isArrayOf_alike hZ.alike Ar.2.1) rfl Ar.2.2 (inb_of Sa ⟨by decide, by decide⟩) (HA 0 (by rw [Sa]; decide)) (g := (mkF m 16 #[.val (.ref x), .val (.ref ar), .val (.int (3 : Int32)), .val (.int (0 : Int32)), .unset] [(.int (0 : Int32)), (.ref ar)])) rfl rfl (hb hby d7_16) _ k) ?_
  show OEnds p e below s _ _ _ (T1.setTop (mkF m 17 #[.val (.ref x), .val (.ref ar), .val (.int (3 : Int32)), .val (.int (0 : Int32)), .unset] [(.ref a_EXACT)]))
  refine OEnds.via (fun _ k => XS.astore X1.here hx rfl (hb hby d7_17) rfl rfl (l' := #[.val (.ref x), .val (.ref ar), .val (.int (3 : Int32)), .val (.int (0 : Int32)), .val (.ref a_EXACT)]) rfl k) ?_
  show OEnds p e below s _ _ _ (T1.setTop (mkF m 19 #[.val (.ref x), .val (.ref ar), .val (.int (3 : Int32)), .val (.int (0 : Int32)), .val (.ref a_EXACT)] []))
  refine OEnds.via (fun _ k => XS.aload X1.here hx rfl (hb hby d7_19) rfl rfl k) ?_
  show OEnds p e below s _ _ _ (T1.setTop (mkF m 21 #[.val (.ref x), .val (.ref ar), .val (.int (3 : Int32)), .val (.int (0 : Int32)), .val (.ref a_EXACT)] [(.ref a_EXACT)]))
  obtain ⟨T2, X2, e2, st2⟩ := getF X1 hx hZ hown (host := "") (Or.inl (hw _ (List.mem_of_getElem? (i := 54) rfl))) Via.refl rfl (Fld.ext Od.2 Ft_EXACT) (g := (mkF m 21 #[.val (.ref x), .val (.ref ar), .val (.int (3 : Int32)), .val (.int (0 : Int32)), .val (.ref a_EXACT)] [(.ref a_EXACT)])) rfl rfl (hb hby d7_21)
  refine OEnds.via (fun _ k => st2 _ k) ?_
  show OEnds p e below s _ _ _ (T2.setTop (mkF m 24 #[.val (.ref x), .val (.ref ar), .val (.int (3 : Int32)), .val (.int (0 : Int32)), .val (.ref a_EXACT)] [(.ref t_EXACT)]))
  refine OEnds.via (fun _ k => XS.aloadN X2.here hx rfl (hb hby d7_24) rfl rfl k) ?_
  show OEnds p e below s _ _ _ (T2.setTop (mkF m 25 #[.val (.ref x), .val (.ref ar), .val (.int (3 : Int32)), .val (.int (0 : Int32)), .val (.ref a_EXACT)] [(.ref x), (.ref t_EXACT)]))
  obtain ⟨cq3, kq3, q3a, q3b, q3c⟩ := isOf hZ e2 (Exa.ext Od.2 Et_EXACT)
  obtain ⟨_, _, ⟨T3, L3, k3, n3⟩, -, X3, ⟨Lc3, hQ3, l3, y3, z3⟩, st3⟩ := X2.virtualBack hx (y := (⟨"java/lang/String", "equals", "(Ljava/lang/Object;)Z"⟩ : MethodName)) (z := (⟨"java/lang/String", "equals", "(Ljava/lang/Object;)Z"⟩ : MethodName)) hown (mvT hZ (hw _ (List.mem_of_getElem? (i := 56) rfl))) (mvT hZ (hw _ (List.mem_of_getElem? (i := 57) rfl))) (notFace_of_selects (args := #[]) (mvT hZ (hw _ (List.mem_of_getElem? (i := 59) rfl)))) (mvT hZ (hw _ (List.mem_of_getElem? (i := 59) rfl))) (mvT hZ (hw _ (List.mem_of_getElem? (i := 58) rfl))) (by decide) (StrChars.Road.eqW (W := 0) hZ heq (kI := 4) (hw _ (List.mem_of_getElem? (i := 6) rfl)) (Exa.ext Od.2 Et_EXACT) (Fld.ext Od.2 Vt_EXACT) (Fld.ext Od.2 Ct_EXACT) (Kt_EXACT.ext Od.2) hcd_t_EXACT hbd_t_EXACT (by decide) Ex Vx Cx Kx hcd_x hbd_x (by decide) (Sta.ext Od.2 S_CS) nz_CS (by decide) (by decide)) q3a q3c (g := (mkF m 25 #[.val (.ref x), .val (.ref ar), .val (.int (3 : Int32)), .val (.int (0 : Int32)), .val (.ref a_EXACT)] [(.ref x), (.ref t_EXACT)])) rfl (by rw [hml]; rfl) (Steps.refl _) (argsL := [(.ref x)]) (rest := []) (lenOf pd_28Ljava2flang2fObject3b29Z rfl) rfl (by show 2 * 0 + _ ≤ _; exact Nat.le_of_eq rfl) (hb hby d7_25) (fun _ _ => ⟨rfl, e2, Nat.le_of_ble_eq_true rfl, Nat.le_of_ble_eq_true rfl⟩)
  dsimp only [Pt.U, Pt.locs, Pt.cells, Pt.slots] at X3 l3 y3 z3 st3 hQ3
  subst l3 y3 z3
  obtain ⟨hcase3, rfl, e3⟩ := hQ3
  have N3 := Fr.app N1 (Fr.nil n0)
  have hv3 : _ = some (Value.int 1) := hcase3.elim (fun q => q.1) (fun q => absurd rfl q.2)
  subst hv3
  refine OEnds.via (fun _ k => st3.trans k) ?_
  show OEnds p e below s _ _ _ (T3.setTop (mkF m 28 #[.val (.ref x), .val (.ref ar), .val (.int (3 : Int32)), .val (.int (0 : Int32)), .val (.ref a_EXACT)] [(.int (1 : Int32))]))
  refine OEnds.via (fun _ k => XS.ifNo X3.here hx rfl (hb hby d7_28) rfl ((if0 _ _).trans (feq (by decide : ¬ ((1 : Int32) = (0 : Int32)))).1) k) ?_
  show OEnds p e below s _ _ _ (T3.setTop (mkF m 31 #[.val (.ref x), .val (.ref ar), .val (.int (3 : Int32)), .val (.int (0 : Int32)), .val (.ref a_EXACT)] []))
  refine OEnds.via (fun _ k => XS.aload X3.here hx rfl (hb hby d7_31) rfl rfl k) ?_
  show OEnds p e below s _ _ _ (T3.setTop (mkF m 33 #[.val (.ref x), .val (.ref ar), .val (.int (3 : Int32)), .val (.int (0 : Int32)), .val (.ref a_EXACT)] [(.ref a_EXACT)]))
  refine OEnds.retR X3 hx hlk Bd.returns rfl rfl (hb hby d7_33) ?_ (by decide) (by decide)
  exact ⟨rfl, N3, by rw [e3]; exact Kp⟩
def Q_rmN1 (Z : State) (x : Addr) (tx : Addr) (kx : ClassId) (a_EXACT : Addr) (a_SLIDING : Addr) (a_FIXED : Addr) (t_EXACT : Addr) (t_SLIDING : Addr) (t_FIXED : Addr) (tv_EXACT : Addr) (tv_SLIDING : Addr) (tv_FIXED : Addr) (kt_EXACT : ClassId) (kt_SLIDING : ClassId) (kt_FIXED : ClassId) (va : Addr) (kA : ClassId) (G1 : Int32) (h0 : Heap) (n0 : Nat) (v : Option Value) (h : Heap) (L : List Loc) : Prop := v = some (.ref a_SLIDING) ∧ Fr n0 L ∧ Keep h0 h []
set_option maxRecDepth 65536 in
set_option maxHeartbeats 40000000 in
theorem rmN1 (l : Launch) (Z : State) (a0 : Array Value) (hw : ∀ d ∈ tables_1, d.before a0 Z = true) (ws : List Jvm.Cond) (x : Addr) (tx : Addr) (kx : ClassId) (a_EXACT : Addr) (a_SLIDING : Addr) (a_FIXED : Addr) (t_EXACT : Addr) (t_SLIDING : Addr) (t_FIXED : Addr) (tv_EXACT : Addr) (tv_SLIDING : Addr) (tv_FIXED : Addr) (kt_EXACT : ClassId) (kt_SLIDING : ClassId) (kt_FIXED : ClassId) (va : Addr) (kA : ClassId) (G1 : Int32) (h0 : Heap) (n0 : Nat) (O0 : Old Z n0 h0) (Ex : Exa Z h0 x "java/lang/String") (Vx : Fld Z h0 x "java/lang/String" "value" "[B" (.ref tx)) (Cx : Fld Z h0 x "java/lang/String" "coder" "B" (.int (0 : Int32))) (Kx : Arv Z h0 tx kx .byte (7 : Int32) ((([(115 : Int32), (108 : Int32), (105 : Int32), (100 : Int32), (105 : Int32), (110 : Int32), (103 : Int32)] : List Int32).map (fun c => c.toInt8.toInt32)).map Value.int) (.int (0 : Int32))) (S_CS : Sta Z Z.heap "java/lang/String" "COMPACT_STRINGS" "Z" (.int G1)) (nz_CS : ¬ (G1 = (0 : Int32))) (S_V : Sta Z Z.heap "com/example/amber_gate/ambergate/Algorithm" "$VALUES" "[Lcom/example/amber_gate/ambergate/Algorithm;" (.ref va)) (AV : Arv Z Z.heap va kA (.object "com/example/amber_gate/ambergate/Algorithm") (3 : Int32) [(.ref a_EXACT), (.ref a_SLIDING), (.ref a_FIXED)] .null) (EV : Exa Z Z.heap va "[Lcom/example/amber_gate/ambergate/Algorithm;") (Et_EXACT : Exa Z Z.heap t_EXACT "java/lang/String") (Vt_EXACT : Fld Z Z.heap t_EXACT "java/lang/String" "value" "[B" (.ref tv_EXACT)) (Ct_EXACT : Fld Z Z.heap t_EXACT "java/lang/String" "coder" "B" (.int (0 : Int32))) (Kt_EXACT : Arv Z Z.heap tv_EXACT kt_EXACT .byte (5 : Int32) [(.int (101 : Int32)), (.int (120 : Int32)), (.int (97 : Int32)), (.int (99 : Int32)), (.int (116 : Int32))] (.int (0 : Int32))) (Ft_EXACT : Fld Z Z.heap a_EXACT "com/example/amber_gate/ambergate/Algorithm" "text" "Ljava/lang/String;" (.ref t_EXACT)) (Et_SLIDING : Exa Z Z.heap t_SLIDING "java/lang/String") (Vt_SLIDING : Fld Z Z.heap t_SLIDING "java/lang/String" "value" "[B" (.ref tv_SLIDING)) (Ct_SLIDING : Fld Z Z.heap t_SLIDING "java/lang/String" "coder" "B" (.int (0 : Int32))) (Kt_SLIDING : Arv Z Z.heap tv_SLIDING kt_SLIDING .byte (7 : Int32) [(.int (115 : Int32)), (.int (108 : Int32)), (.int (105 : Int32)), (.int (100 : Int32)), (.int (105 : Int32)), (.int (110 : Int32)), (.int (103 : Int32))] (.int (0 : Int32))) (Ft_SLIDING : Fld Z Z.heap a_SLIDING "com/example/amber_gate/ambergate/Algorithm" "text" "Ljava/lang/String;" (.ref t_SLIDING)) (Et_FIXED : Exa Z Z.heap t_FIXED "java/lang/String") (Vt_FIXED : Fld Z Z.heap t_FIXED "java/lang/String" "value" "[B" (.ref tv_FIXED)) (Ct_FIXED : Fld Z Z.heap t_FIXED "java/lang/String" "coder" "B" (.int (0 : Int32))) (Kt_FIXED : Arv Z Z.heap tv_FIXED kt_FIXED .byte (5 : Int32) [(.int (102 : Int32)), (.int (105 : Int32)), (.int (120 : Int32)), (.int (101 : Int32)), (.int (100 : Int32))] (.int (0 : Int32))) (Ft_FIXED : Fld Z Z.heap a_FIXED "com/example/amber_gate/ambergate/Algorithm" "text" "Ljava/lang/String;" (.ref t_FIXED)) :
    MetFree l (⟨"com/example/amber_gate/ambergate/Algorithm", "named", "(Ljava/lang/String;)Lcom/example/amber_gate/ambergate/Algorithm;"⟩ : MethodName) (head1 (Jvm.Cond.code (⟨"com/example/amber_gate/ambergate/Algorithm", "named", "(Ljava/lang/String;)Lcom/example/amber_gate/ambergate/Algorithm;"⟩ : MethodName) prog_1_method_6_code 5 (some (.object "com/example/amber_gate/ambergate/Algorithm")) :: ws) ({ frames := 3, cells := 1, slots := 3, locals := 60 } : Room)) (fun ar' U => ar' = #[(.ref x)] ∧ Z.Warmed39 U.vm ∧ U.heap = h0) (fun _ _ _ _ _ => True) (fun _ U o U' => ∃ v L, o = .returned v ∧ (Q_rmN1 Z x tx kx a_EXACT a_SLIDING a_FIXED t_EXACT t_SLIDING t_FIXED tv_EXACT tv_SLIDING tv_FIXED kt_EXACT kt_SLIDING kt_FIXED va kA G1 h0 n0) v U'.heap L ∧ FrameEnd U o U' L ({ frames := 3, cells := 1, slots := 3, locals := 60 } : Room).cells ({ frames := 3, cells := 1, slots := 3, locals := 60 } : Room).slots) := by
  refine MetFree.of_bodySF (plainFor_of_name pn_com_example_amber_gate_ambergate_Algorithm) hisR ?_
  intro p e s m args below meth c s₁ Bd hml0 hP hK
  obtain ⟨rfl, hZ, hh⟩ := hP
  have hx := Bd.exec
  have hby := Bd.bytes
  have hlk := BodyLoose.notSynchronized Bd
  have hml : c.maxLocals = 5 := hml0
  have hown : s.vm.findClass "com/example/amber_gate/ambergate/Algorithm" = some m.cls := findClass_of_methodNamed Bd.named
  have hnm := (name_of_methodNamed Bd.named Bd.method).1
  have X0 : Stand p l e ({ frames := 3, cells := 1, slots := 3, locals := 60 } : Room) s m #[(.ref x)] below meth c s₁ [] 0 0 := Stand.of_body Bd
  have e0 : s₁.heap = h0 := by rw [← hh, Bd.state]; rfl
  have N0 := Fr.nil n0
  have Z0 : n0 ≤ h0.size := O0.1 ▸ O0.2.1
  show OEnds p e below s ({ frames := 3, cells := 1, slots := 3, locals := 60 } : Room).cells ({ frames := 3, cells := 1, slots := 3, locals := 60 } : Room).slots (Q_rmN1 Z x tx kx a_EXACT a_SLIDING a_FIXED t_EXACT t_SLIDING t_FIXED tv_EXACT tv_SLIDING tv_FIXED kt_EXACT kt_SLIDING kt_FIXED va kA G1 h0 n0) (s₁.setTop (entryFrame m #[(.ref x)] 5))
  refine OEnds.via (fun _ k => castTop (show entryFrame m #[(.ref x)] 5 = (mkF m 0 #[.val (.ref x), .unset, .unset, .unset, .unset] []) by first | (simp [entryFrame, mkF, argsToLocals, Value.category, maxLocals]; done) | rfl) k) ?_
  have heq : ∀ d ∈ StrChars.Road.wordsEq, d.before a0 Z = true := fun d hd => hw d ((by decide +kernel : ∀ d ∈ StrChars.Road.wordsEq, d ∈ tables_1) d hd)
  have Od := O0
  have Kp := Keep.refl h0 []
  have hp_t_EXACT : ∀ c ∈ ([(101 : Int32), (120 : Int32), (97 : Int32), (99 : Int32), (116 : Int32)] : List Int32), ¬ c < 0 ∧ ¬ (255 : Int32) < c := by decide
  have hcd_t_EXACT : StrChars.Road.CodA [(101 : Int32), (120 : Int32), (97 : Int32), (99 : Int32), (116 : Int32)] 0 (5 : Int32) [(.int (101 : Int32)), (.int (120 : Int32)), (.int (97 : Int32)), (.int (99 : Int32)), (.int (116 : Int32))] := StrChars.Road.codOf (n := 5) rfl (fun c hc => (hp_t_EXACT c hc).2)
  have hbd_t_EXACT := own_up _ hp_t_EXACT
  have hp_t_SLIDING : ∀ c ∈ ([(115 : Int32), (108 : Int32), (105 : Int32), (100 : Int32), (105 : Int32), (110 : Int32), (103 : Int32)] : List Int32), ¬ c < 0 ∧ ¬ (255 : Int32) < c := by decide
  have hcd_t_SLIDING : StrChars.Road.CodA [(115 : Int32), (108 : Int32), (105 : Int32), (100 : Int32), (105 : Int32), (110 : Int32), (103 : Int32)] 0 (7 : Int32) [(.int (115 : Int32)), (.int (108 : Int32)), (.int (105 : Int32)), (.int (100 : Int32)), (.int (105 : Int32)), (.int (110 : Int32)), (.int (103 : Int32))] := StrChars.Road.codOf (n := 7) rfl (fun c hc => (hp_t_SLIDING c hc).2)
  have hbd_t_SLIDING := own_up _ hp_t_SLIDING
  have hp_t_FIXED : ∀ c ∈ ([(102 : Int32), (105 : Int32), (120 : Int32), (101 : Int32), (100 : Int32)] : List Int32), ¬ c < 0 ∧ ¬ (255 : Int32) < c := by decide
  have hcd_t_FIXED : StrChars.Road.CodA [(102 : Int32), (105 : Int32), (120 : Int32), (101 : Int32), (100 : Int32)] 0 (5 : Int32) [(.int (102 : Int32)), (.int (105 : Int32)), (.int (120 : Int32)), (.int (101 : Int32)), (.int (100 : Int32))] := StrChars.Road.codOf (n := 5) rfl (fun c hc => (hp_t_FIXED c hc).2)
  have hbd_t_FIXED := own_up _ hp_t_FIXED
  have hp_x : ∀ c ∈ ([(115 : Int32), (108 : Int32), (105 : Int32), (100 : Int32), (105 : Int32), (110 : Int32), (103 : Int32)] : List Int32), ¬ c < 0 ∧ ¬ (255 : Int32) < c := by decide
  have hcd_x : StrChars.Road.CodA [(115 : Int32), (108 : Int32), (105 : Int32), (100 : Int32), (105 : Int32), (110 : Int32), (103 : Int32)] 0 (7 : Int32) ((([(115 : Int32), (108 : Int32), (105 : Int32), (100 : Int32), (105 : Int32), (110 : Int32), (103 : Int32)] : List Int32).map (fun c => c.toInt8.toInt32)).map Value.int) := StrChars.Road.codOf (n := 7) rfl (fun c hc => (hp_x c hc).2)
  have hbd_x := own_up _ hp_x
  show OEnds p e below s _ _ _ (s₁.setTop (mkF m 0 #[.val (.ref x), .unset, .unset, .unset, .unset] []))
  obtain ⟨_, _, ⟨T1, L1, k1, n1⟩, -, X1, ⟨Lc1, hQ1, l1, y1, z1⟩, st1⟩ := Jvm.LawKit.callS X0 hx (y := (⟨"com/example/amber_gate/ambergate/Algorithm", "values", "()[Lcom/example/amber_gate/ambergate/Algorithm;"⟩ : MethodName)) hown (mvT hZ (hw _ (List.mem_of_getElem? (i := 37) rfl))) (mvT hZ (hw _ (List.mem_of_getElem? (i := 38) rfl))) (mvT hZ (hw _ (List.mem_of_getElem? (i := 3) rfl))) (mvT hZ (hw _ (List.mem_of_getElem? (i := 39) rfl))) (by decide) (backOf (W := 0) (rmV l Z a0 hw [] a_EXACT a_SLIDING a_FIXED va kA h0 n0 Od S_V AV EV) hZ (hw _ (List.mem_of_getElem? (i := 39) rfl)) (hw _ (List.mem_of_getElem? (i := 3) rfl)) (by decide) (by decide)) (g := (mkF m 0 #[.val (.ref x), .unset, .unset, .unset, .unset] [])) rfl (by rw [hml]; rfl) (argsL := []) (rest := []) (lenOf pd_28295bLcom2fexample2famber_gate2fambergate2fAlgorithm3b rfl) rfl (by show 2 * 0 + _ ≤ _; exact Nat.le_of_eq rfl) (hb hby d7_0) (fun _ _ => ⟨rfl, e0, Nat.le_of_ble_eq_true rfl, Nat.le_of_ble_eq_true rfl⟩)
  dsimp only [Pt.U, Pt.locs, Pt.cells, Pt.slots] at X1 l1 y1 z1 st1 hQ1
  subst l1 y1 z1
  obtain ⟨ar, rfl, N1q, K1, A1⟩ := hQ1
  have N1 := Fr.app N0 N1q
  replace Od := Od.keep K1 all0
  replace Kp := Kp.trans K1 all0
  replace Ex := Ex.keep K1
  replace Vx := Vx.keep K1 nin0
  replace Cx := Cx.keep K1 nin0
  replace Kx := Kx.keep K1 nin0
  obtain ⟨cl, Ar, qA, Sa, MA, HA, GA⟩ := A1
  refine OEnds.via (fun _ k => st1 _ k) ?_
  show OEnds p e below s _ _ _ (T1.setTop (mkF m 3 #[.val (.ref x), .unset, .unset, .unset, .unset] [(.ref ar)]))
  refine OEnds.via (fun _ k => XS.astoreN X1.here hx rfl (hb hby d7_3) rfl rfl (l' := #[.val (.ref x), .val (.ref ar), .unset, .unset, .unset]) rfl k) ?_
  show OEnds p e below s _ _ _ (T1.setTop (mkF m 4 #[.val (.ref x), .val (.ref ar), .unset, .unset, .unset] []))
  refine OEnds.via (fun _ k => XS.aloadN X1.here hx rfl (hb hby d7_4) rfl rfl k) ?_
  show OEnds p e below s _ _ _ (T1.setTop (mkF m 5 #[.val (.ref x), .val (.ref ar), .unset, .unset, .unset] [(.ref ar)]))
  refine OEnds.via (fun _ k => X1.arraylength hx Ar.1 (State.isArrayOf_alike hZ.alike Ar.2.1) (g := (mkF m 5 #[.val (.ref x), .val (.ref ar), .unset, .unset, .unset] [(.ref ar)])) rfl rfl (hb hby d7_5) _ k) ?_
  rw [len_of Sa MA]
  show OEnds p e below s _ _ _ (T1.setTop (mkF m 6 #[.val (.ref x), .val (.ref ar), .unset, .unset, .unset] [(.int (3 : Int32))]))
  refine OEnds.via (fun _ k => XS.istoreN X1.here hx rfl (hb hby d7_6) rfl (l' := #[.val (.ref x), .val (.ref ar), .val (.int (3 : Int32)), .unset, .unset]) rfl k) ?_
  show OEnds p e below s _ _ _ (T1.setTop (mkF m 7 #[.val (.ref x), .val (.ref ar), .val (.int (3 : Int32)), .unset, .unset] []))
  refine OEnds.via (fun _ k => XS.iconst X1.here hx rfl (hb hby d7_7) k) ?_
  show OEnds p e below s _ _ _ (T1.setTop (mkF m 8 #[.val (.ref x), .val (.ref ar), .val (.int (3 : Int32)), .unset, .unset] [(.int (0 : Int32))]))
  refine OEnds.via (fun _ k => XS.istoreN X1.here hx rfl (hb hby d7_8) rfl (l' := #[.val (.ref x), .val (.ref ar), .val (.int (3 : Int32)), .val (.int (0 : Int32)), .unset]) rfl k) ?_
  show OEnds p e below s _ _ _ (T1.setTop (mkF m 9 #[.val (.ref x), .val (.ref ar), .val (.int (3 : Int32)), .val (.int (0 : Int32)), .unset] []))
  refine OEnds.via (fun _ k => XS.iloadN X1.here hx rfl (hb hby d7_9) rfl k) ?_
  show OEnds p e below s _ _ _ (T1.setTop (mkF m 10 #[.val (.ref x), .val (.ref ar), .val (.int (3 : Int32)), .val (.int (0 : Int32)), .unset] [(.int (0 : Int32))]))
  refine OEnds.via (fun _ k => XS.iloadN X1.here hx rfl (hb hby d7_10) rfl k) ?_
  show OEnds p e below s _ _ _ (T1.setTop (mkF m 11 #[.val (.ref x), .val (.ref ar), .val (.int (3 : Int32)), .val (.int (0 : Int32)), .unset] [(.int (3 : Int32)), (.int (0 : Int32))]))
  refine OEnds.via (fun _ k => XS.icmpNo X1.here hx rfl (hb hby d7_11) rfl (tlt (by decide : (0 : Int32) < (3 : Int32))).2.1 k) ?_
  show OEnds p e below s _ _ _ (T1.setTop (mkF m 14 #[.val (.ref x), .val (.ref ar), .val (.int (3 : Int32)), .val (.int (0 : Int32)), .unset] []))
  refine OEnds.via (fun _ k => XS.aloadN X1.here hx rfl (hb hby d7_14) rfl rfl k) ?_
  show OEnds p e below s _ _ _ (T1.setTop (mkF m 15 #[.val (.ref x), .val (.ref ar), .val (.int (3 : Int32)), .val (.int (0 : Int32)), .unset] [(.ref ar)]))
  refine OEnds.via (fun _ k => XS.iloadN X1.here hx rfl (hb hby d7_15) rfl k) ?_
  show OEnds p e below s _ _ _ (T1.setTop (mkF m 16 #[.val (.ref x), .val (.ref ar), .val (.int (3 : Int32)), .val (.int (0 : Int32)), .unset] [(.int (0 : Int32)), (.ref ar)]))
  refine OEnds.via (fun _ k => X1.aaload hx (j := (0 : Int32)) (v := (.ref a_EXACT)) Ar.1 (State.isArrayOf_alike hZ.alike Ar.2.1) rfl Ar.2.2 (inb_of Sa ⟨by decide, by decide⟩) (HA 0 (by rw [Sa]; decide)) (g := (mkF m 16 #[.val (.ref x), .val (.ref ar), .val (.int (3 : Int32)), .val (.int (0 : Int32)), .unset] [(.int (0 : Int32)), (.ref ar)])) rfl rfl (hb hby d7_16) _ k) ?_
  show OEnds p e below s _ _ _ (T1.setTop (mkF m 17 #[.val (.ref x), .val (.ref ar), .val (.int (3 : Int32)), .val (.int (0 : Int32)), .unset] [(.ref a_EXACT)]))
  refine OEnds.via (fun _ k => XS.astore X1.here hx rfl (hb hby d7_17) rfl rfl (l' := #[.val (.ref x), .val (.ref ar), .val (.int (3 : Int32)), .val (.int (0 : Int32)), .val (.ref a_EXACT)]) rfl k) ?_
  show OEnds p e below s _ _ _ (T1.setTop (mkF m 19 #[.val (.ref x), .val (.ref ar), .val (.int (3 : Int32)), .val (.int (0 : Int32)), .val (.ref a_EXACT)] []))
  refine OEnds.via (fun _ k => XS.aload X1.here hx rfl (hb hby d7_19) rfl rfl k) ?_
  show OEnds p e below s _ _ _ (T1.setTop (mkF m 21 #[.val (.ref x), .val (.ref ar), .val (.int (3 : Int32)), .val (.int (0 : Int32)), .val (.ref a_EXACT)] [(.ref a_EXACT)]))
  obtain ⟨T2, X2, e2, st2⟩ := getF X1 hx hZ hown (host := "") (Or.inl (hw _ (List.mem_of_getElem? (i := 54) rfl))) Via.refl rfl (Fld.ext Od.2 Ft_EXACT) (g := (mkF m 21 #[.val (.ref x), .val (.ref ar), .val (.int (3 : Int32)), .val (.int (0 : Int32)), .val (.ref a_EXACT)] [(.ref a_EXACT)])) rfl rfl (hb hby d7_21)
  refine OEnds.via (fun _ k => st2 _ k) ?_
  show OEnds p e below s _ _ _ (T2.setTop (mkF m 24 #[.val (.ref x), .val (.ref ar), .val (.int (3 : Int32)), .val (.int (0 : Int32)), .val (.ref a_EXACT)] [(.ref t_EXACT)]))
  refine OEnds.via (fun _ k => XS.aloadN X2.here hx rfl (hb hby d7_24) rfl rfl k) ?_
  show OEnds p e below s _ _ _ (T2.setTop (mkF m 25 #[.val (.ref x), .val (.ref ar), .val (.int (3 : Int32)), .val (.int (0 : Int32)), .val (.ref a_EXACT)] [(.ref x), (.ref t_EXACT)]))
  obtain ⟨cq3, kq3, q3a, q3b, q3c⟩ := isOf hZ e2 (Exa.ext Od.2 Et_EXACT)
  obtain ⟨_, _, ⟨T3, L3, k3, n3⟩, -, X3, ⟨Lc3, hQ3, l3, y3, z3⟩, st3⟩ := X2.virtualBack hx (y := (⟨"java/lang/String", "equals", "(Ljava/lang/Object;)Z"⟩ : MethodName)) (z := (⟨"java/lang/String", "equals", "(Ljava/lang/Object;)Z"⟩ : MethodName)) hown (mvT hZ (hw _ (List.mem_of_getElem? (i := 56) rfl))) (mvT hZ (hw _ (List.mem_of_getElem? (i := 57) rfl))) (notFace_of_selects (args := #[]) (mvT hZ (hw _ (List.mem_of_getElem? (i := 59) rfl)))) (mvT hZ (hw _ (List.mem_of_getElem? (i := 59) rfl))) (mvT hZ (hw _ (List.mem_of_getElem? (i := 58) rfl))) (by decide) (StrChars.Road.eqW (W := 0) hZ heq (kI := 4) (hw _ (List.mem_of_getElem? (i := 6) rfl)) (Exa.ext Od.2 Et_EXACT) (Fld.ext Od.2 Vt_EXACT) (Fld.ext Od.2 Ct_EXACT) (Kt_EXACT.ext Od.2) hcd_t_EXACT hbd_t_EXACT (by decide) Ex Vx Cx Kx hcd_x hbd_x (by decide) (Sta.ext Od.2 S_CS) nz_CS (by decide) (by decide)) q3a q3c (g := (mkF m 25 #[.val (.ref x), .val (.ref ar), .val (.int (3 : Int32)), .val (.int (0 : Int32)), .val (.ref a_EXACT)] [(.ref x), (.ref t_EXACT)])) rfl (by rw [hml]; rfl) (Steps.refl _) (argsL := [(.ref x)]) (rest := []) (lenOf pd_28Ljava2flang2fObject3b29Z rfl) rfl (by show 2 * 0 + _ ≤ _; exact Nat.le_of_eq rfl) (hb hby d7_25) (fun _ _ => ⟨rfl, e2, Nat.le_of_ble_eq_true rfl, Nat.le_of_ble_eq_true rfl⟩)
  dsimp only [Pt.U, Pt.locs, Pt.cells, Pt.slots] at X3 l3 y3 z3 st3 hQ3
  subst l3 y3 z3
  obtain ⟨hcase3, rfl, e3⟩ := hQ3
  have N3 := Fr.app N1 (Fr.nil n0)
  have hv3 : _ = some (Value.int 0) := hcase3.elim (fun q => absurd q.2 (by decide)) (fun q => q.1)
  subst hv3
  refine OEnds.via (fun _ k => st3.trans k) ?_
  show OEnds p e below s _ _ _ (T3.setTop (mkF m 28 #[.val (.ref x), .val (.ref ar), .val (.int (3 : Int32)), .val (.int (0 : Int32)), .val (.ref a_EXACT)] [(.int (0 : Int32))]))
  refine OEnds.via (fun _ k => XS.ifYes X3.here hx rfl (pc0 := 28) (pc' := 34) rfl (hb hby d7_28) rfl ((if0 _ _).trans (teq (by decide : (0 : Int32) = (0 : Int32))).1) (by decide) (by decide) k) ?_
  show OEnds p e below s _ _ _ (T3.setTop (mkF m 34 #[.val (.ref x), .val (.ref ar), .val (.int (3 : Int32)), .val (.int (0 : Int32)), .val (.ref a_EXACT)] []))
  refine OEnds.via (fun _ k => XS.iinc X3.here hx rfl (hb hby d7_34) rfl (l' := #[.val (.ref x), .val (.ref ar), .val (.int (3 : Int32)), .val (.int (1 : Int32)), .val (.ref a_EXACT)]) rfl k) ?_
  show OEnds p e below s _ _ _ (T3.setTop (mkF m 37 #[.val (.ref x), .val (.ref ar), .val (.int (3 : Int32)), .val (.int (1 : Int32)), .val (.ref a_EXACT)] []))
  refine OEnds.via (fun _ k => XS.goto X3.here hx rfl (pc0 := 37) (pc' := 9) rfl (hb hby d7_37) (by decide) (by decide) k) ?_
  show OEnds p e below s _ _ _ (T3.setTop (mkF m 9 #[.val (.ref x), .val (.ref ar), .val (.int (3 : Int32)), .val (.int (1 : Int32)), .val (.ref a_EXACT)] []))
  refine OEnds.via (fun _ k => XS.iloadN X3.here hx rfl (hb hby d7_9) rfl k) ?_
  show OEnds p e below s _ _ _ (T3.setTop (mkF m 10 #[.val (.ref x), .val (.ref ar), .val (.int (3 : Int32)), .val (.int (1 : Int32)), .val (.ref a_EXACT)] [(.int (1 : Int32))]))
  refine OEnds.via (fun _ k => XS.iloadN X3.here hx rfl (hb hby d7_10) rfl k) ?_
  show OEnds p e below s _ _ _ (T3.setTop (mkF m 11 #[.val (.ref x), .val (.ref ar), .val (.int (3 : Int32)), .val (.int (1 : Int32)), .val (.ref a_EXACT)] [(.int (3 : Int32)), (.int (1 : Int32))]))
  refine OEnds.via (fun _ k => XS.icmpNo X3.here hx rfl (hb hby d7_11) rfl (tlt (by decide : (1 : Int32) < (3 : Int32))).2.1 k) ?_
  show OEnds p e below s _ _ _ (T3.setTop (mkF m 14 #[.val (.ref x), .val (.ref ar), .val (.int (3 : Int32)), .val (.int (1 : Int32)), .val (.ref a_EXACT)] []))
  refine OEnds.via (fun _ k => XS.aloadN X3.here hx rfl (hb hby d7_14) rfl rfl k) ?_
  show OEnds p e below s _ _ _ (T3.setTop (mkF m 15 #[.val (.ref x), .val (.ref ar), .val (.int (3 : Int32)), .val (.int (1 : Int32)), .val (.ref a_EXACT)] [(.ref ar)]))
  refine OEnds.via (fun _ k => XS.iloadN X3.here hx rfl (hb hby d7_15) rfl k) ?_
  show OEnds p e below s _ _ _ (T3.setTop (mkF m 16 #[.val (.ref x), .val (.ref ar), .val (.int (3 : Int32)), .val (.int (1 : Int32)), .val (.ref a_EXACT)] [(.int (1 : Int32)), (.ref ar)]))
  refine OEnds.via (fun _ k => X3.aaload hx (j := (1 : Int32)) (v := (.ref a_SLIDING)) (by rw [e3]; exact Ar.1) (State.isArrayOf_alike hZ.alike Ar.2.1) rfl Ar.2.2 (inb_of Sa ⟨by decide, by decide⟩) (HA 1 (by rw [Sa]; decide)) (g := (mkF m 16 #[.val (.ref x), .val (.ref ar), .val (.int (3 : Int32)), .val (.int (1 : Int32)), .val (.ref a_EXACT)] [(.int (1 : Int32)), (.ref ar)])) rfl rfl (hb hby d7_16) _ k) ?_
  show OEnds p e below s _ _ _ (T3.setTop (mkF m 17 #[.val (.ref x), .val (.ref ar), .val (.int (3 : Int32)), .val (.int (1 : Int32)), .val (.ref a_EXACT)] [(.ref a_SLIDING)]))
  refine OEnds.via (fun _ k => XS.astore X3.here hx rfl (hb hby d7_17) rfl rfl (l' := #[.val (.ref x), .val (.ref ar), .val (.int (3 : Int32)), .val (.int (1 : Int32)), .val (.ref a_SLIDING)]) rfl k) ?_
  show OEnds p e below s _ _ _ (T3.setTop (mkF m 19 #[.val (.ref x), .val (.ref ar), .val (.int (3 : Int32)), .val (.int (1 : Int32)), .val (.ref a_SLIDING)] []))
  refine OEnds.via (fun _ k => XS.aload X3.here hx rfl (hb hby d7_19) rfl rfl k) ?_
  show OEnds p e below s _ _ _ (T3.setTop (mkF m 21 #[.val (.ref x), .val (.ref ar), .val (.int (3 : Int32)), .val (.int (1 : Int32)), .val (.ref a_SLIDING)] [(.ref a_SLIDING)]))
  obtain ⟨T4, X4, e4, st4⟩ := getF X3 hx hZ hown (host := "") (Or.inl (hw _ (List.mem_of_getElem? (i := 54) rfl))) Via.refl e3 (Fld.ext Od.2 Ft_SLIDING) (g := (mkF m 21 #[.val (.ref x), .val (.ref ar), .val (.int (3 : Int32)), .val (.int (1 : Int32)), .val (.ref a_SLIDING)] [(.ref a_SLIDING)])) rfl rfl (hb hby d7_21)
  refine OEnds.via (fun _ k => st4 _ k) ?_
  show OEnds p e below s _ _ _ (T4.setTop (mkF m 24 #[.val (.ref x), .val (.ref ar), .val (.int (3 : Int32)), .val (.int (1 : Int32)), .val (.ref a_SLIDING)] [(.ref t_SLIDING)]))
  refine OEnds.via (fun _ k => XS.aloadN X4.here hx rfl (hb hby d7_24) rfl rfl k) ?_
  show OEnds p e below s _ _ _ (T4.setTop (mkF m 25 #[.val (.ref x), .val (.ref ar), .val (.int (3 : Int32)), .val (.int (1 : Int32)), .val (.ref a_SLIDING)] [(.ref x), (.ref t_SLIDING)]))
  obtain ⟨cq5, kq5, q5a, q5b, q5c⟩ := isOf hZ e4 (Exa.ext Od.2 Et_SLIDING)
  obtain ⟨_, _, ⟨T5, L5, k5, n5⟩, -, X5, ⟨Lc5, hQ5, l5, y5, z5⟩, st5⟩ := X4.virtualBack hx (y := (⟨"java/lang/String", "equals", "(Ljava/lang/Object;)Z"⟩ : MethodName)) (z := (⟨"java/lang/String", "equals", "(Ljava/lang/Object;)Z"⟩ : MethodName)) hown (mvT hZ (hw _ (List.mem_of_getElem? (i := 56) rfl))) (mvT hZ (hw _ (List.mem_of_getElem? (i := 57) rfl))) (notFace_of_selects (args := #[]) (mvT hZ (hw _ (List.mem_of_getElem? (i := 59) rfl)))) (mvT hZ (hw _ (List.mem_of_getElem? (i := 59) rfl))) (mvT hZ (hw _ (List.mem_of_getElem? (i := 58) rfl))) (by decide) (StrChars.Road.eqW (W := 0) hZ heq (kI := 4) (hw _ (List.mem_of_getElem? (i := 6) rfl)) (Exa.ext Od.2 Et_SLIDING) (Fld.ext Od.2 Vt_SLIDING) (Fld.ext Od.2 Ct_SLIDING) (Kt_SLIDING.ext Od.2) hcd_t_SLIDING hbd_t_SLIDING (by decide) Ex Vx Cx Kx hcd_x hbd_x (by decide) (Sta.ext Od.2 S_CS) nz_CS (by decide) (by decide)) q5a q5c (g := (mkF m 25 #[.val (.ref x), .val (.ref ar), .val (.int (3 : Int32)), .val (.int (1 : Int32)), .val (.ref a_SLIDING)] [(.ref x), (.ref t_SLIDING)])) rfl (by rw [hml]; rfl) (Steps.refl _) (argsL := [(.ref x)]) (rest := []) (lenOf pd_28Ljava2flang2fObject3b29Z rfl) rfl (by show 2 * 0 + _ ≤ _; exact Nat.le_of_eq rfl) (hb hby d7_25) (fun _ _ => ⟨rfl, e4, Nat.le_of_ble_eq_true rfl, Nat.le_of_ble_eq_true rfl⟩)
  dsimp only [Pt.U, Pt.locs, Pt.cells, Pt.slots] at X5 l5 y5 z5 st5 hQ5
  subst l5 y5 z5
  obtain ⟨hcase5, rfl, e5⟩ := hQ5
  have N5 := Fr.app N3 (Fr.nil n0)
  have hv5 : _ = some (Value.int 1) := hcase5.elim (fun q => q.1) (fun q => absurd rfl q.2)
  subst hv5
  refine OEnds.via (fun _ k => st5.trans k) ?_
  show OEnds p e below s _ _ _ (T5.setTop (mkF m 28 #[.val (.ref x), .val (.ref ar), .val (.int (3 : Int32)), .val (.int (1 : Int32)), .val (.ref a_SLIDING)] [(.int (1 : Int32))]))
  refine OEnds.via (fun _ k => XS.ifNo X5.here hx rfl (hb hby d7_28) rfl ((if0 _ _).trans (feq (by decide : ¬ ((1 : Int32) = (0 : Int32)))).1) k) ?_
  show OEnds p e below s _ _ _ (T5.setTop (mkF m 31 #[.val (.ref x), .val (.ref ar), .val (.int (3 : Int32)), .val (.int (1 : Int32)), .val (.ref a_SLIDING)] []))
  refine OEnds.via (fun _ k => XS.aload X5.here hx rfl (hb hby d7_31) rfl rfl k) ?_
  show OEnds p e below s _ _ _ (T5.setTop (mkF m 33 #[.val (.ref x), .val (.ref ar), .val (.int (3 : Int32)), .val (.int (1 : Int32)), .val (.ref a_SLIDING)] [(.ref a_SLIDING)]))
  refine OEnds.retR X5 hx hlk Bd.returns rfl rfl (hb hby d7_33) ?_ (by decide) (by decide)
  exact ⟨rfl, N5, by rw [e5]; exact Kp⟩
def Q_rmN2 (Z : State) (x : Addr) (tx : Addr) (kx : ClassId) (a_EXACT : Addr) (a_SLIDING : Addr) (a_FIXED : Addr) (t_EXACT : Addr) (t_SLIDING : Addr) (t_FIXED : Addr) (tv_EXACT : Addr) (tv_SLIDING : Addr) (tv_FIXED : Addr) (kt_EXACT : ClassId) (kt_SLIDING : ClassId) (kt_FIXED : ClassId) (va : Addr) (kA : ClassId) (G1 : Int32) (h0 : Heap) (n0 : Nat) (v : Option Value) (h : Heap) (L : List Loc) : Prop := v = some (.ref a_FIXED) ∧ Fr n0 L ∧ Keep h0 h []
set_option maxRecDepth 65536 in
set_option maxHeartbeats 40000000 in
theorem rmN2 (l : Launch) (Z : State) (a0 : Array Value) (hw : ∀ d ∈ tables_1, d.before a0 Z = true) (ws : List Jvm.Cond) (x : Addr) (tx : Addr) (kx : ClassId) (a_EXACT : Addr) (a_SLIDING : Addr) (a_FIXED : Addr) (t_EXACT : Addr) (t_SLIDING : Addr) (t_FIXED : Addr) (tv_EXACT : Addr) (tv_SLIDING : Addr) (tv_FIXED : Addr) (kt_EXACT : ClassId) (kt_SLIDING : ClassId) (kt_FIXED : ClassId) (va : Addr) (kA : ClassId) (G1 : Int32) (h0 : Heap) (n0 : Nat) (O0 : Old Z n0 h0) (Ex : Exa Z h0 x "java/lang/String") (Vx : Fld Z h0 x "java/lang/String" "value" "[B" (.ref tx)) (Cx : Fld Z h0 x "java/lang/String" "coder" "B" (.int (0 : Int32))) (Kx : Arv Z h0 tx kx .byte (5 : Int32) ((([(102 : Int32), (105 : Int32), (120 : Int32), (101 : Int32), (100 : Int32)] : List Int32).map (fun c => c.toInt8.toInt32)).map Value.int) (.int (0 : Int32))) (S_CS : Sta Z Z.heap "java/lang/String" "COMPACT_STRINGS" "Z" (.int G1)) (nz_CS : ¬ (G1 = (0 : Int32))) (S_V : Sta Z Z.heap "com/example/amber_gate/ambergate/Algorithm" "$VALUES" "[Lcom/example/amber_gate/ambergate/Algorithm;" (.ref va)) (AV : Arv Z Z.heap va kA (.object "com/example/amber_gate/ambergate/Algorithm") (3 : Int32) [(.ref a_EXACT), (.ref a_SLIDING), (.ref a_FIXED)] .null) (EV : Exa Z Z.heap va "[Lcom/example/amber_gate/ambergate/Algorithm;") (Et_EXACT : Exa Z Z.heap t_EXACT "java/lang/String") (Vt_EXACT : Fld Z Z.heap t_EXACT "java/lang/String" "value" "[B" (.ref tv_EXACT)) (Ct_EXACT : Fld Z Z.heap t_EXACT "java/lang/String" "coder" "B" (.int (0 : Int32))) (Kt_EXACT : Arv Z Z.heap tv_EXACT kt_EXACT .byte (5 : Int32) [(.int (101 : Int32)), (.int (120 : Int32)), (.int (97 : Int32)), (.int (99 : Int32)), (.int (116 : Int32))] (.int (0 : Int32))) (Ft_EXACT : Fld Z Z.heap a_EXACT "com/example/amber_gate/ambergate/Algorithm" "text" "Ljava/lang/String;" (.ref t_EXACT)) (Et_SLIDING : Exa Z Z.heap t_SLIDING "java/lang/String") (Vt_SLIDING : Fld Z Z.heap t_SLIDING "java/lang/String" "value" "[B" (.ref tv_SLIDING)) (Ct_SLIDING : Fld Z Z.heap t_SLIDING "java/lang/String" "coder" "B" (.int (0 : Int32))) (Kt_SLIDING : Arv Z Z.heap tv_SLIDING kt_SLIDING .byte (7 : Int32) [(.int (115 : Int32)), (.int (108 : Int32)), (.int (105 : Int32)), (.int (100 : Int32)), (.int (105 : Int32)), (.int (110 : Int32)), (.int (103 : Int32))] (.int (0 : Int32))) (Ft_SLIDING : Fld Z Z.heap a_SLIDING "com/example/amber_gate/ambergate/Algorithm" "text" "Ljava/lang/String;" (.ref t_SLIDING)) (Et_FIXED : Exa Z Z.heap t_FIXED "java/lang/String") (Vt_FIXED : Fld Z Z.heap t_FIXED "java/lang/String" "value" "[B" (.ref tv_FIXED)) (Ct_FIXED : Fld Z Z.heap t_FIXED "java/lang/String" "coder" "B" (.int (0 : Int32))) (Kt_FIXED : Arv Z Z.heap tv_FIXED kt_FIXED .byte (5 : Int32) [(.int (102 : Int32)), (.int (105 : Int32)), (.int (120 : Int32)), (.int (101 : Int32)), (.int (100 : Int32))] (.int (0 : Int32))) (Ft_FIXED : Fld Z Z.heap a_FIXED "com/example/amber_gate/ambergate/Algorithm" "text" "Ljava/lang/String;" (.ref t_FIXED)) :
    MetFree l (⟨"com/example/amber_gate/ambergate/Algorithm", "named", "(Ljava/lang/String;)Lcom/example/amber_gate/ambergate/Algorithm;"⟩ : MethodName) (head1 (Jvm.Cond.code (⟨"com/example/amber_gate/ambergate/Algorithm", "named", "(Ljava/lang/String;)Lcom/example/amber_gate/ambergate/Algorithm;"⟩ : MethodName) prog_1_method_6_code 5 (some (.object "com/example/amber_gate/ambergate/Algorithm")) :: ws) ({ frames := 3, cells := 1, slots := 3, locals := 60 } : Room)) (fun ar' U => ar' = #[(.ref x)] ∧ Z.Warmed39 U.vm ∧ U.heap = h0) (fun _ _ _ _ _ => True) (fun _ U o U' => ∃ v L, o = .returned v ∧ (Q_rmN2 Z x tx kx a_EXACT a_SLIDING a_FIXED t_EXACT t_SLIDING t_FIXED tv_EXACT tv_SLIDING tv_FIXED kt_EXACT kt_SLIDING kt_FIXED va kA G1 h0 n0) v U'.heap L ∧ FrameEnd U o U' L ({ frames := 3, cells := 1, slots := 3, locals := 60 } : Room).cells ({ frames := 3, cells := 1, slots := 3, locals := 60 } : Room).slots) := by
  refine MetFree.of_bodySF (plainFor_of_name pn_com_example_amber_gate_ambergate_Algorithm) hisR ?_
  intro p e s m args below meth c s₁ Bd hml0 hP hK
  obtain ⟨rfl, hZ, hh⟩ := hP
  have hx := Bd.exec
  have hby := Bd.bytes
  have hlk := BodyLoose.notSynchronized Bd
  have hml : c.maxLocals = 5 := hml0
  have hown : s.vm.findClass "com/example/amber_gate/ambergate/Algorithm" = some m.cls := findClass_of_methodNamed Bd.named
  have hnm := (name_of_methodNamed Bd.named Bd.method).1
  have X0 : Stand p l e ({ frames := 3, cells := 1, slots := 3, locals := 60 } : Room) s m #[(.ref x)] below meth c s₁ [] 0 0 := Stand.of_body Bd
  have e0 : s₁.heap = h0 := by rw [← hh, Bd.state]; rfl
  have N0 := Fr.nil n0
  have Z0 : n0 ≤ h0.size := O0.1 ▸ O0.2.1
  show OEnds p e below s ({ frames := 3, cells := 1, slots := 3, locals := 60 } : Room).cells ({ frames := 3, cells := 1, slots := 3, locals := 60 } : Room).slots (Q_rmN2 Z x tx kx a_EXACT a_SLIDING a_FIXED t_EXACT t_SLIDING t_FIXED tv_EXACT tv_SLIDING tv_FIXED kt_EXACT kt_SLIDING kt_FIXED va kA G1 h0 n0) (s₁.setTop (entryFrame m #[(.ref x)] 5))
  refine OEnds.via (fun _ k => castTop (show entryFrame m #[(.ref x)] 5 = (mkF m 0 #[.val (.ref x), .unset, .unset, .unset, .unset] []) by first | (simp [entryFrame, mkF, argsToLocals, Value.category, maxLocals]; done) | rfl) k) ?_
  have heq : ∀ d ∈ StrChars.Road.wordsEq, d.before a0 Z = true := fun d hd => hw d ((by decide +kernel : ∀ d ∈ StrChars.Road.wordsEq, d ∈ tables_1) d hd)
  have Od := O0
  have Kp := Keep.refl h0 []
  have hp_t_EXACT : ∀ c ∈ ([(101 : Int32), (120 : Int32), (97 : Int32), (99 : Int32), (116 : Int32)] : List Int32), ¬ c < 0 ∧ ¬ (255 : Int32) < c := by decide
  have hcd_t_EXACT : StrChars.Road.CodA [(101 : Int32), (120 : Int32), (97 : Int32), (99 : Int32), (116 : Int32)] 0 (5 : Int32) [(.int (101 : Int32)), (.int (120 : Int32)), (.int (97 : Int32)), (.int (99 : Int32)), (.int (116 : Int32))] := StrChars.Road.codOf (n := 5) rfl (fun c hc => (hp_t_EXACT c hc).2)
  have hbd_t_EXACT := own_up _ hp_t_EXACT
  have hp_t_SLIDING : ∀ c ∈ ([(115 : Int32), (108 : Int32), (105 : Int32), (100 : Int32), (105 : Int32), (110 : Int32), (103 : Int32)] : List Int32), ¬ c < 0 ∧ ¬ (255 : Int32) < c := by decide
  have hcd_t_SLIDING : StrChars.Road.CodA [(115 : Int32), (108 : Int32), (105 : Int32), (100 : Int32), (105 : Int32), (110 : Int32), (103 : Int32)] 0 (7 : Int32) [(.int (115 : Int32)), (.int (108 : Int32)), (.int (105 : Int32)), (.int (100 : Int32)), (.int (105 : Int32)), (.int (110 : Int32)), (.int (103 : Int32))] := StrChars.Road.codOf (n := 7) rfl (fun c hc => (hp_t_SLIDING c hc).2)
  have hbd_t_SLIDING := own_up _ hp_t_SLIDING
  have hp_t_FIXED : ∀ c ∈ ([(102 : Int32), (105 : Int32), (120 : Int32), (101 : Int32), (100 : Int32)] : List Int32), ¬ c < 0 ∧ ¬ (255 : Int32) < c := by decide
  have hcd_t_FIXED : StrChars.Road.CodA [(102 : Int32), (105 : Int32), (120 : Int32), (101 : Int32), (100 : Int32)] 0 (5 : Int32) [(.int (102 : Int32)), (.int (105 : Int32)), (.int (120 : Int32)), (.int (101 : Int32)), (.int (100 : Int32))] := StrChars.Road.codOf (n := 5) rfl (fun c hc => (hp_t_FIXED c hc).2)
  have hbd_t_FIXED := own_up _ hp_t_FIXED
  have hp_x : ∀ c ∈ ([(102 : Int32), (105 : Int32), (120 : Int32), (101 : Int32), (100 : Int32)] : List Int32), ¬ c < 0 ∧ ¬ (255 : Int32) < c := by decide
  have hcd_x : StrChars.Road.CodA [(102 : Int32), (105 : Int32), (120 : Int32), (101 : Int32), (100 : Int32)] 0 (5 : Int32) ((([(102 : Int32), (105 : Int32), (120 : Int32), (101 : Int32), (100 : Int32)] : List Int32).map (fun c => c.toInt8.toInt32)).map Value.int) := StrChars.Road.codOf (n := 5) rfl (fun c hc => (hp_x c hc).2)
  have hbd_x := own_up _ hp_x
  show OEnds p e below s _ _ _ (s₁.setTop (mkF m 0 #[.val (.ref x), .unset, .unset, .unset, .unset] []))
  obtain ⟨_, _, ⟨T1, L1, k1, n1⟩, -, X1, ⟨Lc1, hQ1, l1, y1, z1⟩, st1⟩ := Jvm.LawKit.callS X0 hx (y := (⟨"com/example/amber_gate/ambergate/Algorithm", "values", "()[Lcom/example/amber_gate/ambergate/Algorithm;"⟩ : MethodName)) hown (mvT hZ (hw _ (List.mem_of_getElem? (i := 37) rfl))) (mvT hZ (hw _ (List.mem_of_getElem? (i := 38) rfl))) (mvT hZ (hw _ (List.mem_of_getElem? (i := 3) rfl))) (mvT hZ (hw _ (List.mem_of_getElem? (i := 39) rfl))) (by decide) (backOf (W := 0) (rmV l Z a0 hw [] a_EXACT a_SLIDING a_FIXED va kA h0 n0 Od S_V AV EV) hZ (hw _ (List.mem_of_getElem? (i := 39) rfl)) (hw _ (List.mem_of_getElem? (i := 3) rfl)) (by decide) (by decide)) (g := (mkF m 0 #[.val (.ref x), .unset, .unset, .unset, .unset] [])) rfl (by rw [hml]; rfl) (argsL := []) (rest := []) (lenOf pd_28295bLcom2fexample2famber_gate2fambergate2fAlgorithm3b rfl) rfl (by show 2 * 0 + _ ≤ _; exact Nat.le_of_eq rfl) (hb hby d7_0) (fun _ _ => ⟨rfl, e0, Nat.le_of_ble_eq_true rfl, Nat.le_of_ble_eq_true rfl⟩)
  dsimp only [Pt.U, Pt.locs, Pt.cells, Pt.slots] at X1 l1 y1 z1 st1 hQ1
  subst l1 y1 z1
  obtain ⟨ar, rfl, N1q, K1, A1⟩ := hQ1
  have N1 := Fr.app N0 N1q
  replace Od := Od.keep K1 all0
  replace Kp := Kp.trans K1 all0
  replace Ex := Ex.keep K1
  replace Vx := Vx.keep K1 nin0
  replace Cx := Cx.keep K1 nin0
  replace Kx := Kx.keep K1 nin0
  obtain ⟨cl, Ar, qA, Sa, MA, HA, GA⟩ := A1
  refine OEnds.via (fun _ k => st1 _ k) ?_
  show OEnds p e below s _ _ _ (T1.setTop (mkF m 3 #[.val (.ref x), .unset, .unset, .unset, .unset] [(.ref ar)]))
  refine OEnds.via (fun _ k => XS.astoreN X1.here hx rfl (hb hby d7_3) rfl rfl (l' := #[.val (.ref x), .val (.ref ar), .unset, .unset, .unset]) rfl k) ?_
  show OEnds p e below s _ _ _ (T1.setTop (mkF m 4 #[.val (.ref x), .val (.ref ar), .unset, .unset, .unset] []))
  refine OEnds.via (fun _ k => XS.aloadN X1.here hx rfl (hb hby d7_4) rfl rfl k) ?_
  show OEnds p e below s _ _ _ (T1.setTop (mkF m 5 #[.val (.ref x), .val (.ref ar), .unset, .unset, .unset] [(.ref ar)]))
  refine OEnds.via (fun _ k => X1.arraylength hx Ar.1 (State.isArrayOf_alike hZ.alike Ar.2.1) (g := (mkF m 5 #[.val (.ref x), .val (.ref ar), .unset, .unset, .unset] [(.ref ar)])) rfl rfl (hb hby d7_5) _ k) ?_
  rw [len_of Sa MA]
  show OEnds p e below s _ _ _ (T1.setTop (mkF m 6 #[.val (.ref x), .val (.ref ar), .unset, .unset, .unset] [(.int (3 : Int32))]))
  refine OEnds.via (fun _ k => XS.istoreN X1.here hx rfl (hb hby d7_6) rfl (l' := #[.val (.ref x), .val (.ref ar), .val (.int (3 : Int32)), .unset, .unset]) rfl k) ?_
  show OEnds p e below s _ _ _ (T1.setTop (mkF m 7 #[.val (.ref x), .val (.ref ar), .val (.int (3 : Int32)), .unset, .unset] []))
  refine OEnds.via (fun _ k => XS.iconst X1.here hx rfl (hb hby d7_7) k) ?_
  show OEnds p e below s _ _ _ (T1.setTop (mkF m 8 #[.val (.ref x), .val (.ref ar), .val (.int (3 : Int32)), .unset, .unset] [(.int (0 : Int32))]))
  refine OEnds.via (fun _ k => XS.istoreN X1.here hx rfl (hb hby d7_8) rfl (l' := #[.val (.ref x), .val (.ref ar), .val (.int (3 : Int32)), .val (.int (0 : Int32)), .unset]) rfl k) ?_
  show OEnds p e below s _ _ _ (T1.setTop (mkF m 9 #[.val (.ref x), .val (.ref ar), .val (.int (3 : Int32)), .val (.int (0 : Int32)), .unset] []))
  refine OEnds.via (fun _ k => XS.iloadN X1.here hx rfl (hb hby d7_9) rfl k) ?_
  show OEnds p e below s _ _ _ (T1.setTop (mkF m 10 #[.val (.ref x), .val (.ref ar), .val (.int (3 : Int32)), .val (.int (0 : Int32)), .unset] [(.int (0 : Int32))]))
  refine OEnds.via (fun _ k => XS.iloadN X1.here hx rfl (hb hby d7_10) rfl k) ?_
  show OEnds p e below s _ _ _ (T1.setTop (mkF m 11 #[.val (.ref x), .val (.ref ar), .val (.int (3 : Int32)), .val (.int (0 : Int32)), .unset] [(.int (3 : Int32)), (.int (0 : Int32))]))
  refine OEnds.via (fun _ k => XS.icmpNo X1.here hx rfl (hb hby d7_11) rfl (tlt (by decide : (0 : Int32) < (3 : Int32))).2.1 k) ?_
  show OEnds p e below s _ _ _ (T1.setTop (mkF m 14 #[.val (.ref x), .val (.ref ar), .val (.int (3 : Int32)), .val (.int (0 : Int32)), .unset] []))
  refine OEnds.via (fun _ k => XS.aloadN X1.here hx rfl (hb hby d7_14) rfl rfl k) ?_
  show OEnds p e below s _ _ _ (T1.setTop (mkF m 15 #[.val (.ref x), .val (.ref ar), .val (.int (3 : Int32)), .val (.int (0 : Int32)), .unset] [(.ref ar)]))
  refine OEnds.via (fun _ k => XS.iloadN X1.here hx rfl (hb hby d7_15) rfl k) ?_
  show OEnds p e below s _ _ _ (T1.setTop (mkF m 16 #[.val (.ref x), .val (.ref ar), .val (.int (3 : Int32)), .val (.int (0 : Int32)), .unset] [(.int (0 : Int32)), (.ref ar)]))
  refine OEnds.via (fun _ k => X1.aaload hx (j := (0 : Int32)) (v := (.ref a_EXACT)) Ar.1 (State.isArrayOf_alike hZ.alike Ar.2.1) rfl Ar.2.2 (inb_of Sa ⟨by decide, by decide⟩) (HA 0 (by rw [Sa]; decide)) (g := (mkF m 16 #[.val (.ref x), .val (.ref ar), .val (.int (3 : Int32)), .val (.int (0 : Int32)), .unset] [(.int (0 : Int32)), (.ref ar)])) rfl rfl (hb hby d7_16) _ k) ?_
  show OEnds p e below s _ _ _ (T1.setTop (mkF m 17 #[.val (.ref x), .val (.ref ar), .val (.int (3 : Int32)), .val (.int (0 : Int32)), .unset] [(.ref a_EXACT)]))
  refine OEnds.via (fun _ k => XS.astore X1.here hx rfl (hb hby d7_17) rfl rfl (l' := #[.val (.ref x), .val (.ref ar), .val (.int (3 : Int32)), .val (.int (0 : Int32)), .val (.ref a_EXACT)]) rfl k) ?_
  show OEnds p e below s _ _ _ (T1.setTop (mkF m 19 #[.val (.ref x), .val (.ref ar), .val (.int (3 : Int32)), .val (.int (0 : Int32)), .val (.ref a_EXACT)] []))
  refine OEnds.via (fun _ k => XS.aload X1.here hx rfl (hb hby d7_19) rfl rfl k) ?_
  show OEnds p e below s _ _ _ (T1.setTop (mkF m 21 #[.val (.ref x), .val (.ref ar), .val (.int (3 : Int32)), .val (.int (0 : Int32)), .val (.ref a_EXACT)] [(.ref a_EXACT)]))
  obtain ⟨T2, X2, e2, st2⟩ := getF X1 hx hZ hown (host := "") (Or.inl (hw _ (List.mem_of_getElem? (i := 54) rfl))) Via.refl rfl (Fld.ext Od.2 Ft_EXACT) (g := (mkF m 21 #[.val (.ref x), .val (.ref ar), .val (.int (3 : Int32)), .val (.int (0 : Int32)), .val (.ref a_EXACT)] [(.ref a_EXACT)])) rfl rfl (hb hby d7_21)
  refine OEnds.via (fun _ k => st2 _ k) ?_
  show OEnds p e below s _ _ _ (T2.setTop (mkF m 24 #[.val (.ref x), .val (.ref ar), .val (.int (3 : Int32)), .val (.int (0 : Int32)), .val (.ref a_EXACT)] [(.ref t_EXACT)]))
  refine OEnds.via (fun _ k => XS.aloadN X2.here hx rfl (hb hby d7_24) rfl rfl k) ?_
  show OEnds p e below s _ _ _ (T2.setTop (mkF m 25 #[.val (.ref x), .val (.ref ar), .val (.int (3 : Int32)), .val (.int (0 : Int32)), .val (.ref a_EXACT)] [(.ref x), (.ref t_EXACT)]))
  obtain ⟨cq3, kq3, q3a, q3b, q3c⟩ := isOf hZ e2 (Exa.ext Od.2 Et_EXACT)
  obtain ⟨_, _, ⟨T3, L3, k3, n3⟩, -, X3, ⟨Lc3, hQ3, l3, y3, z3⟩, st3⟩ := X2.virtualBack hx (y := (⟨"java/lang/String", "equals", "(Ljava/lang/Object;)Z"⟩ : MethodName)) (z := (⟨"java/lang/String", "equals", "(Ljava/lang/Object;)Z"⟩ : MethodName)) hown (mvT hZ (hw _ (List.mem_of_getElem? (i := 56) rfl))) (mvT hZ (hw _ (List.mem_of_getElem? (i := 57) rfl))) (notFace_of_selects (args := #[]) (mvT hZ (hw _ (List.mem_of_getElem? (i := 59) rfl)))) (mvT hZ (hw _ (List.mem_of_getElem? (i := 59) rfl))) (mvT hZ (hw _ (List.mem_of_getElem? (i := 58) rfl))) (by decide) (StrChars.Road.eqW (W := 0) hZ heq (kI := 4) (hw _ (List.mem_of_getElem? (i := 6) rfl)) (Exa.ext Od.2 Et_EXACT) (Fld.ext Od.2 Vt_EXACT) (Fld.ext Od.2 Ct_EXACT) (Kt_EXACT.ext Od.2) hcd_t_EXACT hbd_t_EXACT (by decide) Ex Vx Cx Kx hcd_x hbd_x (by decide) (Sta.ext Od.2 S_CS) nz_CS (by decide) (by decide)) q3a q3c (g := (mkF m 25 #[.val (.ref x), .val (.ref ar), .val (.int (3 : Int32)), .val (.int (0 : Int32)), .val (.ref a_EXACT)] [(.ref x), (.ref t_EXACT)])) rfl (by rw [hml]; rfl) (Steps.refl _) (argsL := [(.ref x)]) (rest := []) (lenOf pd_28Ljava2flang2fObject3b29Z rfl) rfl (by show 2 * 0 + _ ≤ _; exact Nat.le_of_eq rfl) (hb hby d7_25) (fun _ _ => ⟨rfl, e2, Nat.le_of_ble_eq_true rfl, Nat.le_of_ble_eq_true rfl⟩)
  dsimp only [Pt.U, Pt.locs, Pt.cells, Pt.slots] at X3 l3 y3 z3 st3 hQ3
  subst l3 y3 z3
  obtain ⟨hcase3, rfl, e3⟩ := hQ3
  have N3 := Fr.app N1 (Fr.nil n0)
  have hv3 : _ = some (Value.int 0) := hcase3.elim (fun q => absurd q.2 (by decide)) (fun q => q.1)
  subst hv3
  refine OEnds.via (fun _ k => st3.trans k) ?_
  show OEnds p e below s _ _ _ (T3.setTop (mkF m 28 #[.val (.ref x), .val (.ref ar), .val (.int (3 : Int32)), .val (.int (0 : Int32)), .val (.ref a_EXACT)] [(.int (0 : Int32))]))
  refine OEnds.via (fun _ k => XS.ifYes X3.here hx rfl (pc0 := 28) (pc' := 34) rfl (hb hby d7_28) rfl ((if0 _ _).trans (teq (by decide : (0 : Int32) = (0 : Int32))).1) (by decide) (by decide) k) ?_
  show OEnds p e below s _ _ _ (T3.setTop (mkF m 34 #[.val (.ref x), .val (.ref ar), .val (.int (3 : Int32)), .val (.int (0 : Int32)), .val (.ref a_EXACT)] []))
  refine OEnds.via (fun _ k => XS.iinc X3.here hx rfl (hb hby d7_34) rfl (l' := #[.val (.ref x), .val (.ref ar), .val (.int (3 : Int32)), .val (.int (1 : Int32)), .val (.ref a_EXACT)]) rfl k) ?_
  show OEnds p e below s _ _ _ (T3.setTop (mkF m 37 #[.val (.ref x), .val (.ref ar), .val (.int (3 : Int32)), .val (.int (1 : Int32)), .val (.ref a_EXACT)] []))
  refine OEnds.via (fun _ k => XS.goto X3.here hx rfl (pc0 := 37) (pc' := 9) rfl (hb hby d7_37) (by decide) (by decide) k) ?_
  show OEnds p e below s _ _ _ (T3.setTop (mkF m 9 #[.val (.ref x), .val (.ref ar), .val (.int (3 : Int32)), .val (.int (1 : Int32)), .val (.ref a_EXACT)] []))
  refine OEnds.via (fun _ k => XS.iloadN X3.here hx rfl (hb hby d7_9) rfl k) ?_
  show OEnds p e below s _ _ _ (T3.setTop (mkF m 10 #[.val (.ref x), .val (.ref ar), .val (.int (3 : Int32)), .val (.int (1 : Int32)), .val (.ref a_EXACT)] [(.int (1 : Int32))]))
  refine OEnds.via (fun _ k => XS.iloadN X3.here hx rfl (hb hby d7_10) rfl k) ?_
  show OEnds p e below s _ _ _ (T3.setTop (mkF m 11 #[.val (.ref x), .val (.ref ar), .val (.int (3 : Int32)), .val (.int (1 : Int32)), .val (.ref a_EXACT)] [(.int (3 : Int32)), (.int (1 : Int32))]))
  refine OEnds.via (fun _ k => XS.icmpNo X3.here hx rfl (hb hby d7_11) rfl (tlt (by decide : (1 : Int32) < (3 : Int32))).2.1 k) ?_
  show OEnds p e below s _ _ _ (T3.setTop (mkF m 14 #[.val (.ref x), .val (.ref ar), .val (.int (3 : Int32)), .val (.int (1 : Int32)), .val (.ref a_EXACT)] []))
  refine OEnds.via (fun _ k => XS.aloadN X3.here hx rfl (hb hby d7_14) rfl rfl k) ?_
  show OEnds p e below s _ _ _ (T3.setTop (mkF m 15 #[.val (.ref x), .val (.ref ar), .val (.int (3 : Int32)), .val (.int (1 : Int32)), .val (.ref a_EXACT)] [(.ref ar)]))
  refine OEnds.via (fun _ k => XS.iloadN X3.here hx rfl (hb hby d7_15) rfl k) ?_
  show OEnds p e below s _ _ _ (T3.setTop (mkF m 16 #[.val (.ref x), .val (.ref ar), .val (.int (3 : Int32)), .val (.int (1 : Int32)), .val (.ref a_EXACT)] [(.int (1 : Int32)), (.ref ar)]))
  refine OEnds.via (fun _ k => X3.aaload hx (j := (1 : Int32)) (v := (.ref a_SLIDING)) (by rw [e3]; exact Ar.1) (State.isArrayOf_alike hZ.alike Ar.2.1) rfl Ar.2.2 (inb_of Sa ⟨by decide, by decide⟩) (HA 1 (by rw [Sa]; decide)) (g := (mkF m 16 #[.val (.ref x), .val (.ref ar), .val (.int (3 : Int32)), .val (.int (1 : Int32)), .val (.ref a_EXACT)] [(.int (1 : Int32)), (.ref ar)])) rfl rfl (hb hby d7_16) _ k) ?_
  show OEnds p e below s _ _ _ (T3.setTop (mkF m 17 #[.val (.ref x), .val (.ref ar), .val (.int (3 : Int32)), .val (.int (1 : Int32)), .val (.ref a_EXACT)] [(.ref a_SLIDING)]))
  refine OEnds.via (fun _ k => XS.astore X3.here hx rfl (hb hby d7_17) rfl rfl (l' := #[.val (.ref x), .val (.ref ar), .val (.int (3 : Int32)), .val (.int (1 : Int32)), .val (.ref a_SLIDING)]) rfl k) ?_
  show OEnds p e below s _ _ _ (T3.setTop (mkF m 19 #[.val (.ref x), .val (.ref ar), .val (.int (3 : Int32)), .val (.int (1 : Int32)), .val (.ref a_SLIDING)] []))
  refine OEnds.via (fun _ k => XS.aload X3.here hx rfl (hb hby d7_19) rfl rfl k) ?_
  show OEnds p e below s _ _ _ (T3.setTop (mkF m 21 #[.val (.ref x), .val (.ref ar), .val (.int (3 : Int32)), .val (.int (1 : Int32)), .val (.ref a_SLIDING)] [(.ref a_SLIDING)]))
  obtain ⟨T4, X4, e4, st4⟩ := getF X3 hx hZ hown (host := "") (Or.inl (hw _ (List.mem_of_getElem? (i := 54) rfl))) Via.refl e3 (Fld.ext Od.2 Ft_SLIDING) (g := (mkF m 21 #[.val (.ref x), .val (.ref ar), .val (.int (3 : Int32)), .val (.int (1 : Int32)), .val (.ref a_SLIDING)] [(.ref a_SLIDING)])) rfl rfl (hb hby d7_21)
  refine OEnds.via (fun _ k => st4 _ k) ?_
  show OEnds p e below s _ _ _ (T4.setTop (mkF m 24 #[.val (.ref x), .val (.ref ar), .val (.int (3 : Int32)), .val (.int (1 : Int32)), .val (.ref a_SLIDING)] [(.ref t_SLIDING)]))
  refine OEnds.via (fun _ k => XS.aloadN X4.here hx rfl (hb hby d7_24) rfl rfl k) ?_
  show OEnds p e below s _ _ _ (T4.setTop (mkF m 25 #[.val (.ref x), .val (.ref ar), .val (.int (3 : Int32)), .val (.int (1 : Int32)), .val (.ref a_SLIDING)] [(.ref x), (.ref t_SLIDING)]))
  obtain ⟨cq5, kq5, q5a, q5b, q5c⟩ := isOf hZ e4 (Exa.ext Od.2 Et_SLIDING)
  obtain ⟨_, _, ⟨T5, L5, k5, n5⟩, -, X5, ⟨Lc5, hQ5, l5, y5, z5⟩, st5⟩ := X4.virtualBack hx (y := (⟨"java/lang/String", "equals", "(Ljava/lang/Object;)Z"⟩ : MethodName)) (z := (⟨"java/lang/String", "equals", "(Ljava/lang/Object;)Z"⟩ : MethodName)) hown (mvT hZ (hw _ (List.mem_of_getElem? (i := 56) rfl))) (mvT hZ (hw _ (List.mem_of_getElem? (i := 57) rfl))) (notFace_of_selects (args := #[]) (mvT hZ (hw _ (List.mem_of_getElem? (i := 59) rfl)))) (mvT hZ (hw _ (List.mem_of_getElem? (i := 59) rfl))) (mvT hZ (hw _ (List.mem_of_getElem? (i := 58) rfl))) (by decide) (StrChars.Road.eqW (W := 0) hZ heq (kI := 4) (hw _ (List.mem_of_getElem? (i := 6) rfl)) (Exa.ext Od.2 Et_SLIDING) (Fld.ext Od.2 Vt_SLIDING) (Fld.ext Od.2 Ct_SLIDING) (Kt_SLIDING.ext Od.2) hcd_t_SLIDING hbd_t_SLIDING (by decide) Ex Vx Cx Kx hcd_x hbd_x (by decide) (Sta.ext Od.2 S_CS) nz_CS (by decide) (by decide)) q5a q5c (g := (mkF m 25 #[.val (.ref x), .val (.ref ar), .val (.int (3 : Int32)), .val (.int (1 : Int32)), .val (.ref a_SLIDING)] [(.ref x), (.ref t_SLIDING)])) rfl (by rw [hml]; rfl) (Steps.refl _) (argsL := [(.ref x)]) (rest := []) (lenOf pd_28Ljava2flang2fObject3b29Z rfl) rfl (by show 2 * 0 + _ ≤ _; exact Nat.le_of_eq rfl) (hb hby d7_25) (fun _ _ => ⟨rfl, e4, Nat.le_of_ble_eq_true rfl, Nat.le_of_ble_eq_true rfl⟩)
  dsimp only [Pt.U, Pt.locs, Pt.cells, Pt.slots] at X5 l5 y5 z5 st5 hQ5
  subst l5 y5 z5
  obtain ⟨hcase5, rfl, e5⟩ := hQ5
  have N5 := Fr.app N3 (Fr.nil n0)
  have hv5 : _ = some (Value.int 0) := hcase5.elim (fun q => absurd q.2 (by decide)) (fun q => q.1)
  subst hv5
  refine OEnds.via (fun _ k => st5.trans k) ?_
  show OEnds p e below s _ _ _ (T5.setTop (mkF m 28 #[.val (.ref x), .val (.ref ar), .val (.int (3 : Int32)), .val (.int (1 : Int32)), .val (.ref a_SLIDING)] [(.int (0 : Int32))]))
  refine OEnds.via (fun _ k => XS.ifYes X5.here hx rfl (pc0 := 28) (pc' := 34) rfl (hb hby d7_28) rfl ((if0 _ _).trans (teq (by decide : (0 : Int32) = (0 : Int32))).1) (by decide) (by decide) k) ?_
  show OEnds p e below s _ _ _ (T5.setTop (mkF m 34 #[.val (.ref x), .val (.ref ar), .val (.int (3 : Int32)), .val (.int (1 : Int32)), .val (.ref a_SLIDING)] []))
  refine OEnds.via (fun _ k => XS.iinc X5.here hx rfl (hb hby d7_34) rfl (l' := #[.val (.ref x), .val (.ref ar), .val (.int (3 : Int32)), .val (.int (2 : Int32)), .val (.ref a_SLIDING)]) rfl k) ?_
  show OEnds p e below s _ _ _ (T5.setTop (mkF m 37 #[.val (.ref x), .val (.ref ar), .val (.int (3 : Int32)), .val (.int (2 : Int32)), .val (.ref a_SLIDING)] []))
  refine OEnds.via (fun _ k => XS.goto X5.here hx rfl (pc0 := 37) (pc' := 9) rfl (hb hby d7_37) (by decide) (by decide) k) ?_
  show OEnds p e below s _ _ _ (T5.setTop (mkF m 9 #[.val (.ref x), .val (.ref ar), .val (.int (3 : Int32)), .val (.int (2 : Int32)), .val (.ref a_SLIDING)] []))
  refine OEnds.via (fun _ k => XS.iloadN X5.here hx rfl (hb hby d7_9) rfl k) ?_
  show OEnds p e below s _ _ _ (T5.setTop (mkF m 10 #[.val (.ref x), .val (.ref ar), .val (.int (3 : Int32)), .val (.int (2 : Int32)), .val (.ref a_SLIDING)] [(.int (2 : Int32))]))
  refine OEnds.via (fun _ k => XS.iloadN X5.here hx rfl (hb hby d7_10) rfl k) ?_
  show OEnds p e below s _ _ _ (T5.setTop (mkF m 11 #[.val (.ref x), .val (.ref ar), .val (.int (3 : Int32)), .val (.int (2 : Int32)), .val (.ref a_SLIDING)] [(.int (3 : Int32)), (.int (2 : Int32))]))
  refine OEnds.via (fun _ k => XS.icmpNo X5.here hx rfl (hb hby d7_11) rfl (tlt (by decide : (2 : Int32) < (3 : Int32))).2.1 k) ?_
  show OEnds p e below s _ _ _ (T5.setTop (mkF m 14 #[.val (.ref x), .val (.ref ar), .val (.int (3 : Int32)), .val (.int (2 : Int32)), .val (.ref a_SLIDING)] []))
  refine OEnds.via (fun _ k => XS.aloadN X5.here hx rfl (hb hby d7_14) rfl rfl k) ?_
  show OEnds p e below s _ _ _ (T5.setTop (mkF m 15 #[.val (.ref x), .val (.ref ar), .val (.int (3 : Int32)), .val (.int (2 : Int32)), .val (.ref a_SLIDING)] [(.ref ar)]))
  refine OEnds.via (fun _ k => XS.iloadN X5.here hx rfl (hb hby d7_15) rfl k) ?_
  show OEnds p e below s _ _ _ (T5.setTop (mkF m 16 #[.val (.ref x), .val (.ref ar), .val (.int (3 : Int32)), .val (.int (2 : Int32)), .val (.ref a_SLIDING)] [(.int (2 : Int32)), (.ref ar)]))
  refine OEnds.via (fun _ k => X5.aaload hx (j := (2 : Int32)) (v := (.ref a_FIXED)) (by rw [e5]; exact Ar.1) (State.isArrayOf_alike hZ.alike Ar.2.1) rfl Ar.2.2 (inb_of Sa ⟨by decide, by decide⟩) (HA 2 (by rw [Sa]; decide)) (g := (mkF m 16 #[.val (.ref x), .val (.ref ar), .val (.int (3 : Int32)), .val (.int (2 : Int32)), .val (.ref a_SLIDING)] [(.int (2 : Int32)), (.ref ar)])) rfl rfl (hb hby d7_16) _ k) ?_
  show OEnds p e below s _ _ _ (T5.setTop (mkF m 17 #[.val (.ref x), .val (.ref ar), .val (.int (3 : Int32)), .val (.int (2 : Int32)), .val (.ref a_SLIDING)] [(.ref a_FIXED)]))
  refine OEnds.via (fun _ k => XS.astore X5.here hx rfl (hb hby d7_17) rfl rfl (l' := #[.val (.ref x), .val (.ref ar), .val (.int (3 : Int32)), .val (.int (2 : Int32)), .val (.ref a_FIXED)]) rfl k) ?_
  show OEnds p e below s _ _ _ (T5.setTop (mkF m 19 #[.val (.ref x), .val (.ref ar), .val (.int (3 : Int32)), .val (.int (2 : Int32)), .val (.ref a_FIXED)] []))
  refine OEnds.via (fun _ k => XS.aload X5.here hx rfl (hb hby d7_19) rfl rfl k) ?_
  show OEnds p e below s _ _ _ (T5.setTop (mkF m 21 #[.val (.ref x), .val (.ref ar), .val (.int (3 : Int32)), .val (.int (2 : Int32)), .val (.ref a_FIXED)] [(.ref a_FIXED)]))
  obtain ⟨T6, X6, e6, st6⟩ := getF X5 hx hZ hown (host := "") (Or.inl (hw _ (List.mem_of_getElem? (i := 54) rfl))) Via.refl e5 (Fld.ext Od.2 Ft_FIXED) (g := (mkF m 21 #[.val (.ref x), .val (.ref ar), .val (.int (3 : Int32)), .val (.int (2 : Int32)), .val (.ref a_FIXED)] [(.ref a_FIXED)])) rfl rfl (hb hby d7_21)
  refine OEnds.via (fun _ k => st6 _ k) ?_
  show OEnds p e below s _ _ _ (T6.setTop (mkF m 24 #[.val (.ref x), .val (.ref ar), .val (.int (3 : Int32)), .val (.int (2 : Int32)), .val (.ref a_FIXED)] [(.ref t_FIXED)]))
  refine OEnds.via (fun _ k => XS.aloadN X6.here hx rfl (hb hby d7_24) rfl rfl k) ?_
  show OEnds p e below s _ _ _ (T6.setTop (mkF m 25 #[.val (.ref x), .val (.ref ar), .val (.int (3 : Int32)), .val (.int (2 : Int32)), .val (.ref a_FIXED)] [(.ref x), (.ref t_FIXED)]))
  obtain ⟨cq7, kq7, q7a, q7b, q7c⟩ := isOf hZ e6 (Exa.ext Od.2 Et_FIXED)
  obtain ⟨_, _, ⟨T7, L7, k7, n7⟩, -, X7, ⟨Lc7, hQ7, l7, y7, z7⟩, st7⟩ := X6.virtualBack hx (y := (⟨"java/lang/String", "equals", "(Ljava/lang/Object;)Z"⟩ : MethodName)) (z := (⟨"java/lang/String", "equals", "(Ljava/lang/Object;)Z"⟩ : MethodName)) hown (mvT hZ (hw _ (List.mem_of_getElem? (i := 56) rfl))) (mvT hZ (hw _ (List.mem_of_getElem? (i := 57) rfl))) (notFace_of_selects (args := #[]) (mvT hZ (hw _ (List.mem_of_getElem? (i := 59) rfl)))) (mvT hZ (hw _ (List.mem_of_getElem? (i := 59) rfl))) (mvT hZ (hw _ (List.mem_of_getElem? (i := 58) rfl))) (by decide) (StrChars.Road.eqW (W := 0) hZ heq (kI := 4) (hw _ (List.mem_of_getElem? (i := 6) rfl)) (Exa.ext Od.2 Et_FIXED) (Fld.ext Od.2 Vt_FIXED) (Fld.ext Od.2 Ct_FIXED) (Kt_FIXED.ext Od.2) hcd_t_FIXED hbd_t_FIXED (by decide) Ex Vx Cx Kx hcd_x hbd_x (by decide) (Sta.ext Od.2 S_CS) nz_CS (by decide) (by decide)) q7a q7c (g := (mkF m 25 #[.val (.ref x), .val (.ref ar), .val (.int (3 : Int32)), .val (.int (2 : Int32)), .val (.ref a_FIXED)] [(.ref x), (.ref t_FIXED)])) rfl (by rw [hml]; rfl) (Steps.refl _) (argsL := [(.ref x)]) (rest := []) (lenOf pd_28Ljava2flang2fObject3b29Z rfl) rfl (by show 2 * 0 + _ ≤ _; exact Nat.le_of_eq rfl) (hb hby d7_25) (fun _ _ => ⟨rfl, e6, Nat.le_of_ble_eq_true rfl, Nat.le_of_ble_eq_true rfl⟩)
  dsimp only [Pt.U, Pt.locs, Pt.cells, Pt.slots] at X7 l7 y7 z7 st7 hQ7
  subst l7 y7 z7
  obtain ⟨hcase7, rfl, e7⟩ := hQ7
  have N7 := Fr.app N5 (Fr.nil n0)
  have hv7 : _ = some (Value.int 1) := hcase7.elim (fun q => q.1) (fun q => absurd rfl q.2)
  subst hv7
  refine OEnds.via (fun _ k => st7.trans k) ?_
  show OEnds p e below s _ _ _ (T7.setTop (mkF m 28 #[.val (.ref x), .val (.ref ar), .val (.int (3 : Int32)), .val (.int (2 : Int32)), .val (.ref a_FIXED)] [(.int (1 : Int32))]))
  refine OEnds.via (fun _ k => XS.ifNo X7.here hx rfl (hb hby d7_28) rfl ((if0 _ _).trans (feq (by decide : ¬ ((1 : Int32) = (0 : Int32)))).1) k) ?_
  show OEnds p e below s _ _ _ (T7.setTop (mkF m 31 #[.val (.ref x), .val (.ref ar), .val (.int (3 : Int32)), .val (.int (2 : Int32)), .val (.ref a_FIXED)] []))
  refine OEnds.via (fun _ k => XS.aload X7.here hx rfl (hb hby d7_31) rfl rfl k) ?_
  show OEnds p e below s _ _ _ (T7.setTop (mkF m 33 #[.val (.ref x), .val (.ref ar), .val (.int (3 : Int32)), .val (.int (2 : Int32)), .val (.ref a_FIXED)] [(.ref a_FIXED)]))
  refine OEnds.retR X7 hx hlk Bd.returns rfl rfl (hb hby d7_33) ?_ (by decide) (by decide)
  exact ⟨rfl, N7, by rw [e7]; exact Kp⟩
theorem d11_0 : decode prog_1_method_4_code 0 = .ok (.aload_n 0, 1) := by decide +kernel
theorem d11_1 : decode prog_1_method_4_code 1 = .ok (.getfield 36, 3) := by decide +kernel
theorem d11_4 : decode prog_1_method_4_code 4 = .ok (.ireturn, 1) := by decide +kernel
set_option maxRecDepth 65536 in
set_option maxHeartbeats 40000000 in
theorem rmS (l : Launch) (Z : State) (a0 : Array Value) (hw : ∀ d ∈ tables_1, d.before a0 Z = true) (ws : List Jvm.Cond) (r : Addr) (b : Int32) (h0 : Heap) (n0 : Nat) (O0 : Old Z n0 h0) (F : Fld Z Z.heap r "com/example/amber_gate/ambergate/Algorithm" "splitsWindow" "Z" (.int b)) (hb1 : nar .boolean b = b) :
    MetFree l (⟨"com/example/amber_gate/ambergate/Algorithm", "splitsWindow", "()Z"⟩ : MethodName) (head1 (Jvm.Cond.code (⟨"com/example/amber_gate/ambergate/Algorithm", "splitsWindow", "()Z"⟩ : MethodName) prog_1_method_4_code 1 (some .boolean) :: ws) ({ frames := 0, cells := 0, slots := 0, locals := 0 } : Room)) (fun ar' U => ar' = #[(.ref r)] ∧ Z.Warmed39 U.vm ∧ U.heap = h0) (fun _ _ _ _ _ => True) (fun _ U o U' => ∃ v L, o = .returned v ∧ (QA (some (.int b)) h0 n0) v U'.heap L ∧ FrameEnd U o U' L ({ frames := 0, cells := 0, slots := 0, locals := 0 } : Room).cells ({ frames := 0, cells := 0, slots := 0, locals := 0 } : Room).slots) := by
  refine MetFree.of_bodySF (plainFor_of_name pn_com_example_amber_gate_ambergate_Algorithm) hisR ?_
  intro p e s m args below meth c s₁ Bd hml0 hP hK
  obtain ⟨rfl, hZ, hh⟩ := hP
  have hx := Bd.exec
  have hby := Bd.bytes
  have hlk := BodyLoose.notSynchronized Bd
  have hml : c.maxLocals = 1 := hml0
  have hown : s.vm.findClass "com/example/amber_gate/ambergate/Algorithm" = some m.cls := findClass_of_methodNamed Bd.named
  have hnm := (name_of_methodNamed Bd.named Bd.method).1
  have X0 : Stand p l e ({ frames := 0, cells := 0, slots := 0, locals := 0 } : Room) s m #[(.ref r)] below meth c s₁ [] 0 0 := Stand.of_body Bd
  have e0 : s₁.heap = h0 := by rw [← hh, Bd.state]; rfl
  have N0 := Fr.nil n0
  have Z0 : n0 ≤ h0.size := O0.1 ▸ O0.2.1
  show OEnds p e below s ({ frames := 0, cells := 0, slots := 0, locals := 0 } : Room).cells ({ frames := 0, cells := 0, slots := 0, locals := 0 } : Room).slots (QA (some (.int b)) h0 n0) (s₁.setTop (entryFrame m #[(.ref r)] 1))
  refine OEnds.via (fun _ k => castTop (show entryFrame m #[(.ref r)] 1 = (mkF m 0 #[.val (.ref r)] []) by first | (simp [entryFrame, mkF, argsToLocals, Value.category, maxLocals]; done) | rfl) k) ?_
  refine OEnds.via (fun _ k => XS.aloadN X0.here hx rfl (hb hby d11_0) rfl rfl k) ?_
  show OEnds p e below s _ _ _ (s₁.setTop (mkF m 1 #[.val (.ref r)] [(.ref r)]))
  obtain ⟨T1, X1, e1, st1⟩ := getF X0 hx hZ hown (host := "") (Or.inl (hw _ (List.mem_of_getElem? (i := 71) rfl))) Via.refl e0 (Fld.ext O0.2 F) (g := (mkF m 1 #[.val (.ref r)] [(.ref r)])) rfl rfl (hb hby d11_1)
  refine OEnds.via (fun _ k => st1 _ k) ?_
  show OEnds p e below s _ _ _ (T1.setTop (mkF m 4 #[.val (.ref r)] [(.int b)]))
  refine OEnds.retN X1 hx hlk (t := .boolean) Bd.returns (by simp) (hb hby d11_4) ?_ (by decide) (by decide)
  exact ⟨by rw [hb1], N0, e1⟩
theorem d12_0 : decode prog_1_method_5_code 0 = .ok (.aload_n 0, 1) := by decide +kernel
theorem d12_1 : decode prog_1_method_5_code 1 = .ok (.getfield 32, 3) := by decide +kernel
theorem d12_4 : decode prog_1_method_5_code 4 = .ok (.areturn, 1) := by decide +kernel
set_option maxRecDepth 65536 in
set_option maxHeartbeats 40000000 in
theorem rmT (l : Launch) (Z : State) (a0 : Array Value) (hw : ∀ d ∈ tables_1, d.before a0 Z = true) (ws : List Jvm.Cond) (r : Addr) (b : Addr) (h0 : Heap) (n0 : Nat) (O0 : Old Z n0 h0) (F : Fld Z Z.heap r "com/example/amber_gate/ambergate/Algorithm" "text" "Ljava/lang/String;" (.ref b)) :
    MetFree l (⟨"com/example/amber_gate/ambergate/Algorithm", "toString", "()Ljava/lang/String;"⟩ : MethodName) (head1 (Jvm.Cond.code (⟨"com/example/amber_gate/ambergate/Algorithm", "toString", "()Ljava/lang/String;"⟩ : MethodName) prog_1_method_5_code 1 (some (.object "java/lang/String")) :: ws) ({ frames := 0, cells := 0, slots := 0, locals := 0 } : Room)) (fun ar' U => ar' = #[(.ref r)] ∧ Z.Warmed39 U.vm ∧ U.heap = h0) (fun _ _ _ _ _ => True) (fun _ U o U' => ∃ v L, o = .returned v ∧ (QA (some (.ref b)) h0 n0) v U'.heap L ∧ FrameEnd U o U' L ({ frames := 0, cells := 0, slots := 0, locals := 0 } : Room).cells ({ frames := 0, cells := 0, slots := 0, locals := 0 } : Room).slots) := by
  refine MetFree.of_bodySF (plainFor_of_name pn_com_example_amber_gate_ambergate_Algorithm) hisR ?_
  intro p e s m args below meth c s₁ Bd hml0 hP hK
  obtain ⟨rfl, hZ, hh⟩ := hP
  have hx := Bd.exec
  have hby := Bd.bytes
  have hlk := BodyLoose.notSynchronized Bd
  have hml : c.maxLocals = 1 := hml0
  have hown : s.vm.findClass "com/example/amber_gate/ambergate/Algorithm" = some m.cls := findClass_of_methodNamed Bd.named
  have hnm := (name_of_methodNamed Bd.named Bd.method).1
  have X0 : Stand p l e ({ frames := 0, cells := 0, slots := 0, locals := 0 } : Room) s m #[(.ref r)] below meth c s₁ [] 0 0 := Stand.of_body Bd
  have e0 : s₁.heap = h0 := by rw [← hh, Bd.state]; rfl
  have N0 := Fr.nil n0
  have Z0 : n0 ≤ h0.size := O0.1 ▸ O0.2.1
  show OEnds p e below s ({ frames := 0, cells := 0, slots := 0, locals := 0 } : Room).cells ({ frames := 0, cells := 0, slots := 0, locals := 0 } : Room).slots (QA (some (.ref b)) h0 n0) (s₁.setTop (entryFrame m #[(.ref r)] 1))
  refine OEnds.via (fun _ k => castTop (show entryFrame m #[(.ref r)] 1 = (mkF m 0 #[.val (.ref r)] []) by first | (simp [entryFrame, mkF, argsToLocals, Value.category, maxLocals]; done) | rfl) k) ?_
  refine OEnds.via (fun _ k => XS.aloadN X0.here hx rfl (hb hby d12_0) rfl rfl k) ?_
  show OEnds p e below s _ _ _ (s₁.setTop (mkF m 1 #[.val (.ref r)] [(.ref r)]))
  obtain ⟨T1, X1, e1, st1⟩ := getF X0 hx hZ hown (host := "") (Or.inl (hw _ (List.mem_of_getElem? (i := 54) rfl))) Via.refl e0 (Fld.ext O0.2 F) (g := (mkF m 1 #[.val (.ref r)] [(.ref r)])) rfl rfl (hb hby d12_1)
  refine OEnds.via (fun _ k => st1 _ k) ?_
  show OEnds p e below s _ _ _ (T1.setTop (mkF m 4 #[.val (.ref r)] [(.ref b)]))
  refine OEnds.retR X1 hx hlk Bd.returns rfl rfl (hb hby d12_4) ?_ (by decide) (by decide)
  exact ⟨rfl, N0, e1⟩
theorem pn_com_example_amber_gate_ambergate_AlgorithmNamedPinLaw : plainName "com/example/amber_gate/ambergate/AlgorithmNamedPinLaw" = true := by first | (simp [plainName, overriddenIn]; done) | decide +kernel
theorem pd_2829Ljava2flang2fString3b : parseMethodDescriptor "()Ljava/lang/String;" = some ⟨[], some (.object "java/lang/String")⟩ := by decide +kernel
theorem pd_2829Z : parseMethodDescriptor "()Z" = some ⟨[], some .boolean⟩ := by decide +kernel
theorem pd_28Ljava2flang2fString3b29Lcom2fexample2famber_gate2fambergate2fAlgorithm3b : parseMethodDescriptor "(Ljava/lang/String;)Lcom/example/amber_gate/ambergate/Algorithm;" = some ⟨[(.object "java/lang/String")], some (.object "com/example/amber_gate/ambergate/Algorithm")⟩ := by decide +kernel
theorem pd_285bC29V : parseMethodDescriptor "([C)V" = some ⟨[(.array .char)], none⟩ := by decide +kernel
set_option maxRecDepth 65536 in
set_option maxHeartbeats 40000000 in
theorem rm0 (l : Launch) (Z : State) (a0 : Array Value) (hw : ∀ d ∈ tables_1, d.before a0 Z = true) (ws : List Jvm.Cond) (p0 : Int32) (a_EXACT : Addr) (a_SLIDING : Addr) (a_FIXED : Addr) (t_EXACT : Addr) (t_SLIDING : Addr) (t_FIXED : Addr) (tv_EXACT : Addr) (tv_SLIDING : Addr) (tv_FIXED : Addr) (kt_EXACT : ClassId) (kt_SLIDING : ClassId) (kt_FIXED : ClassId) (va : Addr) (kA : ClassId) (G1 : Int32) (h0 : Heap) (n0 : Nat) (O0 : Old Z n0 h0) (S_CS : Sta Z Z.heap "java/lang/String" "COMPACT_STRINGS" "Z" (.int G1)) (nz_CS : ¬ (G1 = (0 : Int32))) (S_V : Sta Z Z.heap "com/example/amber_gate/ambergate/Algorithm" "$VALUES" "[Lcom/example/amber_gate/ambergate/Algorithm;" (.ref va)) (AV : Arv Z Z.heap va kA (.object "com/example/amber_gate/ambergate/Algorithm") (3 : Int32) [(.ref a_EXACT), (.ref a_SLIDING), (.ref a_FIXED)] .null) (EV : Exa Z Z.heap va "[Lcom/example/amber_gate/ambergate/Algorithm;") (Et_EXACT : Exa Z Z.heap t_EXACT "java/lang/String") (Vt_EXACT : Fld Z Z.heap t_EXACT "java/lang/String" "value" "[B" (.ref tv_EXACT)) (Ct_EXACT : Fld Z Z.heap t_EXACT "java/lang/String" "coder" "B" (.int (0 : Int32))) (Kt_EXACT : Arv Z Z.heap tv_EXACT kt_EXACT .byte (5 : Int32) [(.int (101 : Int32)), (.int (120 : Int32)), (.int (97 : Int32)), (.int (99 : Int32)), (.int (116 : Int32))] (.int (0 : Int32))) (Ft_EXACT : Fld Z Z.heap a_EXACT "com/example/amber_gate/ambergate/Algorithm" "text" "Ljava/lang/String;" (.ref t_EXACT)) (Et_SLIDING : Exa Z Z.heap t_SLIDING "java/lang/String") (Vt_SLIDING : Fld Z Z.heap t_SLIDING "java/lang/String" "value" "[B" (.ref tv_SLIDING)) (Ct_SLIDING : Fld Z Z.heap t_SLIDING "java/lang/String" "coder" "B" (.int (0 : Int32))) (Kt_SLIDING : Arv Z Z.heap tv_SLIDING kt_SLIDING .byte (7 : Int32) [(.int (115 : Int32)), (.int (108 : Int32)), (.int (105 : Int32)), (.int (100 : Int32)), (.int (105 : Int32)), (.int (110 : Int32)), (.int (103 : Int32))] (.int (0 : Int32))) (Ft_SLIDING : Fld Z Z.heap a_SLIDING "com/example/amber_gate/ambergate/Algorithm" "text" "Ljava/lang/String;" (.ref t_SLIDING)) (Et_FIXED : Exa Z Z.heap t_FIXED "java/lang/String") (Vt_FIXED : Fld Z Z.heap t_FIXED "java/lang/String" "value" "[B" (.ref tv_FIXED)) (Ct_FIXED : Fld Z Z.heap t_FIXED "java/lang/String" "coder" "B" (.int (0 : Int32))) (Kt_FIXED : Arv Z Z.heap tv_FIXED kt_FIXED .byte (5 : Int32) [(.int (102 : Int32)), (.int (105 : Int32)), (.int (120 : Int32)), (.int (101 : Int32)), (.int (100 : Int32))] (.int (0 : Int32))) (Ft_FIXED : Fld Z Z.heap a_FIXED "com/example/amber_gate/ambergate/Algorithm" "text" "Ljava/lang/String;" (.ref t_FIXED)) (S_EXACT : Sta Z Z.heap "com/example/amber_gate/ambergate/Algorithm" "EXACT" "Lcom/example/amber_gate/ambergate/Algorithm;" (.ref a_EXACT)) (S_SLIDING : Sta Z Z.heap "com/example/amber_gate/ambergate/Algorithm" "SLIDING" "Lcom/example/amber_gate/ambergate/Algorithm;" (.ref a_SLIDING)) (S_FIXED : Sta Z Z.heap "com/example/amber_gate/ambergate/Algorithm" "FIXED" "Lcom/example/amber_gate/ambergate/Algorithm;" (.ref a_FIXED)) (E_EXACT : Exa Z Z.heap a_EXACT "com/example/amber_gate/ambergate/Algorithm") (E_SLIDING : Exa Z Z.heap a_SLIDING "com/example/amber_gate/ambergate/Algorithm") (E_FIXED : Exa Z Z.heap a_FIXED "com/example/amber_gate/ambergate/Algorithm") (Fs_EXACT : Fld Z Z.heap a_EXACT "com/example/amber_gate/ambergate/Algorithm" "splitsWindow" "Z" (.int (0 : Int32))) (Fs_SLIDING : Fld Z Z.heap a_SLIDING "com/example/amber_gate/ambergate/Algorithm" "splitsWindow" "Z" (.int (1 : Int32))) (Fs_FIXED : Fld Z Z.heap a_FIXED "com/example/amber_gate/ambergate/Algorithm" "splitsWindow" "Z" (.int (0 : Int32))) :
    MetFree l x (head1 (Jvm.Cond.code x code maxLocals ret :: ws) room_1) (fun ar' U => ar' = #[(.int p0)] ∧ Z.Warmed39 U.vm ∧ U.heap = h0) (fun _ _ _ _ _ => True) (fun _ U o U' => ∃ v L, o = .returned v ∧ (QL n0) v U'.heap L ∧ FrameEnd U o U' L 16 128) := by
  refine MetFree.of_bodySF (plainFor_of_name pn_com_example_amber_gate_ambergate_AlgorithmNamedPinLaw) hisR ?_
  intro p e s m args below meth c s₁ Bd hml0 hP hK
  obtain ⟨rfl, hZ, hh⟩ := hP
  have hx := Bd.exec
  have hby := Bd.bytes
  have hlk := BodyLoose.notSynchronized Bd
  have hml : c.maxLocals = 7 := hml0
  have hown : s.vm.findClass "com/example/amber_gate/ambergate/AlgorithmNamedPinLaw" = some m.cls := findClass_of_methodNamed Bd.named
  have hnm := (name_of_methodNamed Bd.named Bd.method).1
  have X0 : Stand p l e room_1 s m #[(.int p0)] below meth c s₁ [] 0 0 := Stand.of_body Bd
  have e0 : s₁.heap = h0 := by rw [← hh, Bd.state]; rfl
  have N0 := Fr.nil n0
  have Z0 : n0 ≤ h0.size := O0.1 ▸ O0.2.1
  show OEnds p e below s 16 128 (QL n0) (s₁.setTop (entryFrame m #[(.int p0)] maxLocals))
  refine OEnds.via (fun _ k => castTop (show entryFrame m #[(.int p0)] maxLocals = (mkF m 0 #[.val (.int p0), .unset, .unset, .unset, .unset, .unset, .unset] []) by first | (simp [entryFrame, mkF, argsToLocals, Value.category, maxLocals]; done) | rfl) k) ?_
  have hws : ∀ d ∈ StrChars.Road.words, d.before a0 Z = true := fun d hd => hw d ((by decide +kernel : ∀ d ∈ StrChars.Road.words, d ∈ tables_1) d hd)
  have heq : ∀ d ∈ StrChars.Road.wordsEq, d.before a0 Z = true := fun d hd => hw d ((by decide +kernel : ∀ d ∈ StrChars.Road.wordsEq, d ∈ tables_1) d hd)
  have Od := O0
  have hp_t_EXACT : ∀ c ∈ ([(101 : Int32), (120 : Int32), (97 : Int32), (99 : Int32), (116 : Int32)] : List Int32), ¬ c < 0 ∧ ¬ (255 : Int32) < c := by decide
  have hcd_t_EXACT : StrChars.Road.CodA [(101 : Int32), (120 : Int32), (97 : Int32), (99 : Int32), (116 : Int32)] 0 (5 : Int32) [(.int (101 : Int32)), (.int (120 : Int32)), (.int (97 : Int32)), (.int (99 : Int32)), (.int (116 : Int32))] := StrChars.Road.codOf (n := 5) rfl (fun c hc => (hp_t_EXACT c hc).2)
  have hbd_t_EXACT := own_up _ hp_t_EXACT
  have hp_t_SLIDING : ∀ c ∈ ([(115 : Int32), (108 : Int32), (105 : Int32), (100 : Int32), (105 : Int32), (110 : Int32), (103 : Int32)] : List Int32), ¬ c < 0 ∧ ¬ (255 : Int32) < c := by decide
  have hcd_t_SLIDING : StrChars.Road.CodA [(115 : Int32), (108 : Int32), (105 : Int32), (100 : Int32), (105 : Int32), (110 : Int32), (103 : Int32)] 0 (7 : Int32) [(.int (115 : Int32)), (.int (108 : Int32)), (.int (105 : Int32)), (.int (100 : Int32)), (.int (105 : Int32)), (.int (110 : Int32)), (.int (103 : Int32))] := StrChars.Road.codOf (n := 7) rfl (fun c hc => (hp_t_SLIDING c hc).2)
  have hbd_t_SLIDING := own_up _ hp_t_SLIDING
  have hp_t_FIXED : ∀ c ∈ ([(102 : Int32), (105 : Int32), (120 : Int32), (101 : Int32), (100 : Int32)] : List Int32), ¬ c < 0 ∧ ¬ (255 : Int32) < c := by decide
  have hcd_t_FIXED : StrChars.Road.CodA [(102 : Int32), (105 : Int32), (120 : Int32), (101 : Int32), (100 : Int32)] 0 (5 : Int32) [(.int (102 : Int32)), (.int (105 : Int32)), (.int (120 : Int32)), (.int (101 : Int32)), (.int (100 : Int32))] := StrChars.Road.codOf (n := 5) rfl (fun c hc => (hp_t_FIXED c hc).2)
  have hbd_t_FIXED := own_up _ hp_t_FIXED
  show OEnds p e below s _ _ _ (s₁.setTop (mkF m 0 #[.val (.int p0), .unset, .unset, .unset, .unset, .unset, .unset] []))
  refine OEnds.via (fun _ k => XS.iloadN X0.here hx rfl (hb hby at_0) rfl k) ?_
  show OEnds p e below s _ _ _ (s₁.setTop (mkF m 1 #[.val (.int p0), .unset, .unset, .unset, .unset, .unset, .unset] [(.int p0)]))
  refine OEnds.via (fun _ k => X0.ldcInt hx hown (mvT hZ (hw _ (List.mem_of_getElem? (i := 0) rfl))) (g := (mkF m 1 #[.val (.int p0), .unset, .unset, .unset, .unset, .unset, .unset] [(.int p0)])) rfl (hb hby at_1) _ k) ?_
  show OEnds p e below s _ _ _ (s₁.setTop (mkF m 3 #[.val (.int p0), .unset, .unset, .unset, .unset, .unset, .unset] [(.int (2147483647 : Int32)), (.int p0)]))
  refine OEnds.via (fun _ k => XS.iand X0.here hx rfl (hb hby at_3) rfl k) ?_
  show OEnds p e below s _ _ _ (s₁.setTop (mkF m 4 #[.val (.int p0), .unset, .unset, .unset, .unset, .unset, .unset] [(.int (p0 &&& (2147483647 : Int32)))]))
  refine OEnds.via (fun _ k => XS.iconst X0.here hx rfl (hb hby at_4) k) ?_
  show OEnds p e below s _ _ _ (s₁.setTop (mkF m 5 #[.val (.int p0), .unset, .unset, .unset, .unset, .unset, .unset] [(.int (3 : Int32)), (.int (p0 &&& (2147483647 : Int32)))]))
  refine OEnds.via (fun _ k => iremM X0 hx rfl (hb hby at_5) rfl (by decide) k) ?_
  show OEnds p e below s _ _ _ (s₁.setTop (mkF m 6 #[.val (.int p0), .unset, .unset, .unset, .unset, .unset, .unset] [(.int ((p0 &&& (2147483647 : Int32)) % (3 : Int32)))]))
  refine OEnds.via (fun _ k => XS.istoreN X0.here hx rfl (hb hby at_6) rfl (l' := #[.val (.int p0), .val (.int ((p0 &&& (2147483647 : Int32)) % (3 : Int32))), .unset, .unset, .unset, .unset, .unset]) rfl k) ?_
  show OEnds p e below s _ _ _ (s₁.setTop (mkF m 7 #[.val (.int p0), .val (.int ((p0 &&& (2147483647 : Int32)) % (3 : Int32))), .unset, .unset, .unset, .unset, .unset] []))
  refine OEnds.via (fun _ k => XS.iloadN X0.here hx rfl (hb hby at_7) rfl k) ?_
  show OEnds p e below s _ _ _ (s₁.setTop (mkF m 8 #[.val (.int p0), .val (.int ((p0 &&& (2147483647 : Int32)) % (3 : Int32))), .unset, .unset, .unset, .unset, .unset] [(.int ((p0 &&& (2147483647 : Int32)) % (3 : Int32)))]))
  by_cases hc8_0 : ((p0 &&& (2147483647 : Int32)) % (3 : Int32)) = (0 : Int32)
  · skip
    refine OEnds.via (fun _ k => XS.ifNo X0.here hx rfl (hb hby at_8) rfl ((if0 _ _).trans (teq hc8_0).2) k) ?_
    show OEnds p e below s _ _ _ (s₁.setTop (mkF m 11 #[.val (.int p0), .val (.int ((p0 &&& (2147483647 : Int32)) % (3 : Int32))), .unset, .unset, .unset, .unset, .unset] []))
    refine OEnds.via (fun _ k => XS.iconst X0.here hx rfl (hb hby at_11) k) ?_
    show OEnds p e below s _ _ _ (s₁.setTop (mkF m 12 #[.val (.int p0), .val (.int ((p0 &&& (2147483647 : Int32)) % (3 : Int32))), .unset, .unset, .unset, .unset, .unset] [(.int (5 : Int32))]))
    obtain ⟨T2, h2, k2, X2, e2, E2, A2, st2⟩ := newP X0 hx hZ (hw _ (List.mem_of_getElem? (i := 1) rfl)) e0 (g := (mkF m 12 #[.val (.int p0), .val (.int ((p0 &&& (2147483647 : Int32)) % (3 : Int32))), .unset, .unset, .unset, .unset, .unset] [(.int (5 : Int32))])) rfl (hb hby at_12) rfl (by decide) (cap := 5) (by decide) (by decide) (by decide) (by decide)
    obtain ⟨b2, g2⟩ : ∃ z, z = h0.size := ⟨_, rfl⟩
    have ge_b2 : n0 ≤ b2 := Nat.le_trans (Od.1 ▸ Od.2.1) (Nat.le_of_eq g2.symm)
    rw [← g2] at A2 st2
    replace Od := Od.ext E2
    have V_b2 : Arv Z h2 b2 k2 .char (5 : Int32) [(.int (0 : Int32)), (.int (0 : Int32)), (.int (0 : Int32)), (.int (0 : Int32)), (.int (0 : Int32))] (.int (0 : Int32)) := (Arv.new A2 (by decide)).pad (pad_rep [] (.int (0 : Int32)) 5)
    refine OEnds.via (fun _ k => st2 _ k) ?_
    show OEnds p e below s _ _ _ (T2.setTop (mkF m 14 #[.val (.int p0), .val (.int ((p0 &&& (2147483647 : Int32)) % (3 : Int32))), .unset, .unset, .unset, .unset, .unset] [(.ref b2)]))
    refine OEnds.via (fun _ k => XS.dup X2.here hx rfl (hb hby at_14) rfl rfl k) ?_
    show OEnds p e below s _ _ _ (T2.setTop (mkF m 15 #[.val (.int p0), .val (.int ((p0 &&& (2147483647 : Int32)) % (3 : Int32))), .unset, .unset, .unset, .unset, .unset] [(.ref b2), (.ref b2)]))
    refine OEnds.via (fun _ k => XS.iconst X2.here hx rfl (hb hby at_15) k) ?_
    show OEnds p e below s _ _ _ (T2.setTop (mkF m 16 #[.val (.int p0), .val (.int ((p0 &&& (2147483647 : Int32)) % (3 : Int32))), .unset, .unset, .unset, .unset, .unset] [(.int (0 : Int32)), (.ref b2), (.ref b2)]))
    refine OEnds.via (fun _ k => XS.bipush X2.here hx rfl (hb hby at_16) k) ?_
    show OEnds p e below s _ _ _ (T2.setTop (mkF m 18 #[.val (.int p0), .val (.int ((p0 &&& (2147483647 : Int32)) % (3 : Int32))), .unset, .unset, .unset, .unset, .unset] [(.int (101 : Int32)), (.int (0 : Int32)), (.ref b2), (.ref b2)]))
    obtain ⟨cl3, Ar3, q3, S3, M3, H3, G3⟩ := V_b2
    obtain ⟨T3, h3, X3, e3, W3, st3⟩ := stC X2 hx hZ e2 Ar3 (j := (0 : Int32)) (inb_of S3 ⟨by decide, by decide⟩) (g := (mkF m 18 #[.val (.int p0), .val (.int ((p0 &&& (2147483647 : Int32)) % (3 : Int32))), .unset, .unset, .unset, .unset, .unset] [(.int (101 : Int32)), (.int (0 : Int32)), (.ref b2), (.ref b2)])) rfl rfl (hb hby at_18)
    have V_b2 : Arv Z h3 b2 k2 .char (5 : Int32) [(.int (101 : Int32)), (.int (0 : Int32)), (.int (0 : Int32)), (.int (0 : Int32)), (.int (0 : Int32))] (.int (0 : Int32)) := Arv.set Ar3 q3 S3 M3 H3 G3 rfl W3 0 rfl (Nat.le_of_ble_eq_true rfl)
    have N3 := Fr.snoc X3 N0 ge_b2
    replace Od := Od.wr W3 ge_b2
    refine OEnds.via (fun _ k => st3 _ k) ?_
    show OEnds p e below s _ _ _ (T3.setTop (mkF m 19 #[.val (.int p0), .val (.int ((p0 &&& (2147483647 : Int32)) % (3 : Int32))), .unset, .unset, .unset, .unset, .unset] [(.ref b2)]))
    refine OEnds.via (fun _ k => XS.dup X3.here hx rfl (hb hby at_19) rfl rfl k) ?_
    show OEnds p e below s _ _ _ (T3.setTop (mkF m 20 #[.val (.int p0), .val (.int ((p0 &&& (2147483647 : Int32)) % (3 : Int32))), .unset, .unset, .unset, .unset, .unset] [(.ref b2), (.ref b2)]))
    refine OEnds.via (fun _ k => XS.iconst X3.here hx rfl (hb hby at_20) k) ?_
    show OEnds p e below s _ _ _ (T3.setTop (mkF m 21 #[.val (.int p0), .val (.int ((p0 &&& (2147483647 : Int32)) % (3 : Int32))), .unset, .unset, .unset, .unset, .unset] [(.int (1 : Int32)), (.ref b2), (.ref b2)]))
    refine OEnds.via (fun _ k => XS.bipush X3.here hx rfl (hb hby at_21) k) ?_
    show OEnds p e below s _ _ _ (T3.setTop (mkF m 23 #[.val (.int p0), .val (.int ((p0 &&& (2147483647 : Int32)) % (3 : Int32))), .unset, .unset, .unset, .unset, .unset] [(.int (120 : Int32)), (.int (1 : Int32)), (.ref b2), (.ref b2)]))
    obtain ⟨cl4, Ar4, q4, S4, M4, H4, G4⟩ := V_b2
    obtain ⟨T4, h4, X4, e4, W4, st4⟩ := stC X3 hx hZ e3 Ar4 (j := (1 : Int32)) (inb_of S4 ⟨by decide, by decide⟩) (g := (mkF m 23 #[.val (.int p0), .val (.int ((p0 &&& (2147483647 : Int32)) % (3 : Int32))), .unset, .unset, .unset, .unset, .unset] [(.int (120 : Int32)), (.int (1 : Int32)), (.ref b2), (.ref b2)])) rfl rfl (hb hby at_23)
    have V_b2 : Arv Z h4 b2 k2 .char (5 : Int32) [(.int (101 : Int32)), (.int (120 : Int32)), (.int (0 : Int32)), (.int (0 : Int32)), (.int (0 : Int32))] (.int (0 : Int32)) := Arv.set Ar4 q4 S4 M4 H4 G4 rfl W4 1 rfl (Nat.le_of_ble_eq_true rfl)
    have N4 := Fr.snoc X4 N3 ge_b2
    replace Od := Od.wr W4 ge_b2
    refine OEnds.via (fun _ k => st4 _ k) ?_
    show OEnds p e below s _ _ _ (T4.setTop (mkF m 24 #[.val (.int p0), .val (.int ((p0 &&& (2147483647 : Int32)) % (3 : Int32))), .unset, .unset, .unset, .unset, .unset] [(.ref b2)]))
    refine OEnds.via (fun _ k => XS.dup X4.here hx rfl (hb hby at_24) rfl rfl k) ?_
    show OEnds p e below s _ _ _ (T4.setTop (mkF m 25 #[.val (.int p0), .val (.int ((p0 &&& (2147483647 : Int32)) % (3 : Int32))), .unset, .unset, .unset, .unset, .unset] [(.ref b2), (.ref b2)]))
    refine OEnds.via (fun _ k => XS.iconst X4.here hx rfl (hb hby at_25) k) ?_
    show OEnds p e below s _ _ _ (T4.setTop (mkF m 26 #[.val (.int p0), .val (.int ((p0 &&& (2147483647 : Int32)) % (3 : Int32))), .unset, .unset, .unset, .unset, .unset] [(.int (2 : Int32)), (.ref b2), (.ref b2)]))
    refine OEnds.via (fun _ k => XS.bipush X4.here hx rfl (hb hby at_26) k) ?_
    show OEnds p e below s _ _ _ (T4.setTop (mkF m 28 #[.val (.int p0), .val (.int ((p0 &&& (2147483647 : Int32)) % (3 : Int32))), .unset, .unset, .unset, .unset, .unset] [(.int (97 : Int32)), (.int (2 : Int32)), (.ref b2), (.ref b2)]))
    obtain ⟨cl5, Ar5, q5, S5, M5, H5, G5⟩ := V_b2
    obtain ⟨T5, h5, X5, e5, W5, st5⟩ := stC X4 hx hZ e4 Ar5 (j := (2 : Int32)) (inb_of S5 ⟨by decide, by decide⟩) (g := (mkF m 28 #[.val (.int p0), .val (.int ((p0 &&& (2147483647 : Int32)) % (3 : Int32))), .unset, .unset, .unset, .unset, .unset] [(.int (97 : Int32)), (.int (2 : Int32)), (.ref b2), (.ref b2)])) rfl rfl (hb hby at_28)
    have V_b2 : Arv Z h5 b2 k2 .char (5 : Int32) [(.int (101 : Int32)), (.int (120 : Int32)), (.int (97 : Int32)), (.int (0 : Int32)), (.int (0 : Int32))] (.int (0 : Int32)) := Arv.set Ar5 q5 S5 M5 H5 G5 rfl W5 2 rfl (Nat.le_of_ble_eq_true rfl)
    have N5 := Fr.snoc X5 N4 ge_b2
    replace Od := Od.wr W5 ge_b2
    refine OEnds.via (fun _ k => st5 _ k) ?_
    show OEnds p e below s _ _ _ (T5.setTop (mkF m 29 #[.val (.int p0), .val (.int ((p0 &&& (2147483647 : Int32)) % (3 : Int32))), .unset, .unset, .unset, .unset, .unset] [(.ref b2)]))
    refine OEnds.via (fun _ k => XS.dup X5.here hx rfl (hb hby at_29) rfl rfl k) ?_
    show OEnds p e below s _ _ _ (T5.setTop (mkF m 30 #[.val (.int p0), .val (.int ((p0 &&& (2147483647 : Int32)) % (3 : Int32))), .unset, .unset, .unset, .unset, .unset] [(.ref b2), (.ref b2)]))
    refine OEnds.via (fun _ k => XS.iconst X5.here hx rfl (hb hby at_30) k) ?_
    show OEnds p e below s _ _ _ (T5.setTop (mkF m 31 #[.val (.int p0), .val (.int ((p0 &&& (2147483647 : Int32)) % (3 : Int32))), .unset, .unset, .unset, .unset, .unset] [(.int (3 : Int32)), (.ref b2), (.ref b2)]))
    refine OEnds.via (fun _ k => XS.bipush X5.here hx rfl (hb hby at_31) k) ?_
    show OEnds p e below s _ _ _ (T5.setTop (mkF m 33 #[.val (.int p0), .val (.int ((p0 &&& (2147483647 : Int32)) % (3 : Int32))), .unset, .unset, .unset, .unset, .unset] [(.int (99 : Int32)), (.int (3 : Int32)), (.ref b2), (.ref b2)]))
    obtain ⟨cl6, Ar6, q6, S6, M6, H6, G6⟩ := V_b2
    obtain ⟨T6, h6, X6, e6, W6, st6⟩ := stC X5 hx hZ e5 Ar6 (j := (3 : Int32)) (inb_of S6 ⟨by decide, by decide⟩) (g := (mkF m 33 #[.val (.int p0), .val (.int ((p0 &&& (2147483647 : Int32)) % (3 : Int32))), .unset, .unset, .unset, .unset, .unset] [(.int (99 : Int32)), (.int (3 : Int32)), (.ref b2), (.ref b2)])) rfl rfl (hb hby at_33)
    have V_b2 : Arv Z h6 b2 k2 .char (5 : Int32) [(.int (101 : Int32)), (.int (120 : Int32)), (.int (97 : Int32)), (.int (99 : Int32)), (.int (0 : Int32))] (.int (0 : Int32)) := Arv.set Ar6 q6 S6 M6 H6 G6 rfl W6 3 rfl (Nat.le_of_ble_eq_true rfl)
    have N6 := Fr.snoc X6 N5 ge_b2
    replace Od := Od.wr W6 ge_b2
    refine OEnds.via (fun _ k => st6 _ k) ?_
    show OEnds p e below s _ _ _ (T6.setTop (mkF m 34 #[.val (.int p0), .val (.int ((p0 &&& (2147483647 : Int32)) % (3 : Int32))), .unset, .unset, .unset, .unset, .unset] [(.ref b2)]))
    refine OEnds.via (fun _ k => XS.dup X6.here hx rfl (hb hby at_34) rfl rfl k) ?_
    show OEnds p e below s _ _ _ (T6.setTop (mkF m 35 #[.val (.int p0), .val (.int ((p0 &&& (2147483647 : Int32)) % (3 : Int32))), .unset, .unset, .unset, .unset, .unset] [(.ref b2), (.ref b2)]))
    refine OEnds.via (fun _ k => XS.iconst X6.here hx rfl (hb hby at_35) k) ?_
    show OEnds p e below s _ _ _ (T6.setTop (mkF m 36 #[.val (.int p0), .val (.int ((p0 &&& (2147483647 : Int32)) % (3 : Int32))), .unset, .unset, .unset, .unset, .unset] [(.int (4 : Int32)), (.ref b2), (.ref b2)]))
    refine OEnds.via (fun _ k => XS.bipush X6.here hx rfl (hb hby at_36) k) ?_
    show OEnds p e below s _ _ _ (T6.setTop (mkF m 38 #[.val (.int p0), .val (.int ((p0 &&& (2147483647 : Int32)) % (3 : Int32))), .unset, .unset, .unset, .unset, .unset] [(.int (116 : Int32)), (.int (4 : Int32)), (.ref b2), (.ref b2)]))
    obtain ⟨cl7, Ar7, q7, S7, M7, H7, G7⟩ := V_b2
    obtain ⟨T7, h7, X7, e7, W7, st7⟩ := stC X6 hx hZ e6 Ar7 (j := (4 : Int32)) (inb_of S7 ⟨by decide, by decide⟩) (g := (mkF m 38 #[.val (.int p0), .val (.int ((p0 &&& (2147483647 : Int32)) % (3 : Int32))), .unset, .unset, .unset, .unset, .unset] [(.int (116 : Int32)), (.int (4 : Int32)), (.ref b2), (.ref b2)])) rfl rfl (hb hby at_38)
    have V_b2 : Arv Z h7 b2 k2 .char (5 : Int32) [(.int (101 : Int32)), (.int (120 : Int32)), (.int (97 : Int32)), (.int (99 : Int32)), (.int (116 : Int32))] (.int (0 : Int32)) := Arv.set Ar7 q7 S7 M7 H7 G7 rfl W7 4 rfl (Nat.le_of_ble_eq_true rfl)
    have N7 := Fr.snoc X7 N6 ge_b2
    replace Od := Od.wr W7 ge_b2
    refine OEnds.via (fun _ k => st7 _ k) ?_
    show OEnds p e below s _ _ _ (T7.setTop (mkF m 39 #[.val (.int p0), .val (.int ((p0 &&& (2147483647 : Int32)) % (3 : Int32))), .unset, .unset, .unset, .unset, .unset] [(.ref b2)]))
    refine OEnds.via (fun _ k => XS.astoreN X7.here hx rfl (hb hby at_39) rfl rfl (l' := #[.val (.int p0), .val (.int ((p0 &&& (2147483647 : Int32)) % (3 : Int32))), .val (.ref b2), .unset, .unset, .unset, .unset]) rfl k) ?_
    show OEnds p e below s _ _ _ (T7.setTop (mkF m 40 #[.val (.int p0), .val (.int ((p0 &&& (2147483647 : Int32)) % (3 : Int32))), .val (.ref b2), .unset, .unset, .unset, .unset] []))
    obtain ⟨T8, X8, e8, st8⟩ := getS2 X7 hx hZ hown (host := "") (Or.inl (hw _ (List.mem_of_getElem? (i := 2) rfl))) Via.refl e7 (Sta.ext Od.2 S_EXACT) (g := (mkF m 40 #[.val (.int p0), .val (.int ((p0 &&& (2147483647 : Int32)) % (3 : Int32))), .val (.ref b2), .unset, .unset, .unset, .unset] [])) rfl (hb hby at_40)
    refine OEnds.via (fun _ k => st8 _ k) ?_
    show OEnds p e below s _ _ _ (T8.setTop (mkF m 43 #[.val (.int p0), .val (.int ((p0 &&& (2147483647 : Int32)) % (3 : Int32))), .val (.ref b2), .unset, .unset, .unset, .unset] [(.ref a_EXACT)]))
    refine OEnds.via (fun _ k => XS.astoreN X8.here hx rfl (hb hby at_43) rfl rfl (l' := #[.val (.int p0), .val (.int ((p0 &&& (2147483647 : Int32)) % (3 : Int32))), .val (.ref b2), .val (.ref a_EXACT), .unset, .unset, .unset]) rfl k) ?_
    show OEnds p e below s _ _ _ (T8.setTop (mkF m 44 #[.val (.int p0), .val (.int ((p0 &&& (2147483647 : Int32)) % (3 : Int32))), .val (.ref b2), .val (.ref a_EXACT), .unset, .unset, .unset] []))
    refine OEnds.via (fun _ k => XS.iconst X8.here hx rfl (hb hby at_44) k) ?_
    show OEnds p e below s _ _ _ (T8.setTop (mkF m 45 #[.val (.int p0), .val (.int ((p0 &&& (2147483647 : Int32)) % (3 : Int32))), .val (.ref b2), .val (.ref a_EXACT), .unset, .unset, .unset] [(.int (0 : Int32))]))
    refine OEnds.via (fun _ k => XS.istore X8.here hx rfl (hb hby at_45) rfl (l' := #[.val (.int p0), .val (.int ((p0 &&& (2147483647 : Int32)) % (3 : Int32))), .val (.ref b2), .val (.ref a_EXACT), .val (.int (0 : Int32)), .unset, .unset]) rfl k) ?_
    show OEnds p e below s _ _ _ (T8.setTop (mkF m 47 #[.val (.int p0), .val (.int ((p0 &&& (2147483647 : Int32)) % (3 : Int32))), .val (.ref b2), .val (.ref a_EXACT), .val (.int (0 : Int32)), .unset, .unset] []))
    refine OEnds.via (fun _ k => XS.goto X8.here hx rfl (pc0 := 47) (pc' := 142) rfl (hb hby at_47) (by decide) (by decide) k) ?_
    show OEnds p e below s _ _ _ (T8.setTop (mkF m 142 #[.val (.int p0), .val (.int ((p0 &&& (2147483647 : Int32)) % (3 : Int32))), .val (.ref b2), .val (.ref a_EXACT), .val (.int (0 : Int32)), .unset, .unset] []))
    obtain ⟨T9, h9, X9, e9, E9, A9, D9, -, st9⟩ := newO X8 hx hZ hown (hw _ (List.mem_of_getElem? (i := 5) rfl)) (hw _ (List.mem_of_getElem? (i := 6) rfl)) (hw _ (List.mem_of_getElem? (i := 7) rfl)) e8 (g := (mkF m 142 #[.val (.int p0), .val (.int ((p0 &&& (2147483647 : Int32)) % (3 : Int32))), .val (.ref b2), .val (.ref a_EXACT), .val (.int (0 : Int32)), .unset, .unset] [])) rfl (hb hby at_142) (by decide) (by decide)
    obtain ⟨b9, g9⟩ : ∃ z, z = h7.size := ⟨_, rfl⟩
    have ne_b2_b9 : b2 ≠ b9 := Nat.ne_of_lt (Nat.lt_of_lt_of_le V_b2.lt (Nat.le_of_eq g9.symm))
    have ge_b9 : n0 ≤ b9 := Nat.le_trans (Od.1 ▸ Od.2.1) (Nat.le_of_eq g9.symm)
    rw [← g9] at A9 D9 st9
    replace Od := Od.ext E9
    replace V_b2 := V_b2.ext E9
    have E_b9 : Exa Z h9 b9 "java/lang/String" := A9
    have F_coder_b9 : Fld Z h9 b9 "java/lang/String" "coder" "B" (.int (0 : Int32)) := D9 (Or.inr (hw _ (List.mem_of_getElem? (i := 31) rfl))) (ty := .byte) (by decide)
    have F_value_b9 : Fld Z h9 b9 "java/lang/String" "value" "[B" .null := D9 (Or.inr (hw _ (List.mem_of_getElem? (i := 33) rfl))) (ty := (.array .byte)) (by decide)
    refine OEnds.via (fun _ k => st9 _ k) ?_
    show OEnds p e below s _ _ _ (T9.setTop (mkF m 145 #[.val (.int p0), .val (.int ((p0 &&& (2147483647 : Int32)) % (3 : Int32))), .val (.ref b2), .val (.ref a_EXACT), .val (.int (0 : Int32)), .unset, .unset] [(.ref b9)]))
    refine OEnds.via (fun _ k => XS.dup X9.here hx rfl (hb hby at_145) rfl rfl k) ?_
    show OEnds p e below s _ _ _ (T9.setTop (mkF m 146 #[.val (.int p0), .val (.int ((p0 &&& (2147483647 : Int32)) % (3 : Int32))), .val (.ref b2), .val (.ref a_EXACT), .val (.int (0 : Int32)), .unset, .unset] [(.ref b9), (.ref b9)]))
    refine OEnds.via (fun _ k => XS.aloadN X9.here hx rfl (hb hby at_146) rfl rfl k) ?_
    show OEnds p e below s _ _ _ (T9.setTop (mkF m 147 #[.val (.int p0), .val (.int ((p0 &&& (2147483647 : Int32)) % (3 : Int32))), .val (.ref b2), .val (.ref a_EXACT), .val (.int (0 : Int32)), .unset, .unset] [(.ref b2), (.ref b9), (.ref b9)]))
    obtain ⟨cs_b9, hcs_b9⟩ : ∃ cs : List Int32, cs = [(101 : Int32), (120 : Int32), (97 : Int32), (99 : Int32), (116 : Int32)] := ⟨_, rfl⟩
    have hp_b9 : ∀ c ∈ cs_b9, ¬ c < 0 ∧ ¬ (255 : Int32) < c := (by rw [hcs_b9]; decide)
    have hl_b9 : cs_b9.length = 5 := by rw [hcs_b9]; rfl
    have Kc_b9 : Arv Z h9 b2 k2 .char (5 : Int32) (cs_b9.map Value.int) (.int (0 : Int32)) := by rw [hcs_b9]; exact V_b2
    obtain ⟨_, _, ⟨T10, L10, k10, n10⟩, -, X10, ⟨Lc10, hQ10, l10, y10, z10⟩, st10⟩ := X9.specialBack hx (y := (⟨"java/lang/String", "<init>", "([C)V"⟩ : MethodName)) rfl hown (mvT hZ (hw _ (List.mem_of_getElem? (i := 8) rfl))) (mvT hZ (hw _ (List.mem_of_getElem? (i := 9) rfl))) (mvT hZ (hw _ (List.mem_of_getElem? (i := 10) rfl))) (by decide) (StrChars.Road.backV (W := 1) hZ hws (kI := 4) (hw _ (List.mem_of_getElem? (i := 6) rfl)) (cs := cs_b9) (bs := cs_b9.map (fun c => c.toInt8.toInt32)) (n := 5) ge_b9 (Od.1 ▸ Od.2.1) E_b9 F_value_b9 F_coder_b9 Kc_b9 (Sta.ext Od.2 S_CS) nz_CS hl_b9 rfl (by decide) (by decide) hp_b9 rfl (by decide) (by decide)) (g := (mkF m 147 #[.val (.int p0), .val (.int ((p0 &&& (2147483647 : Int32)) % (3 : Int32))), .val (.ref b2), .val (.ref a_EXACT), .val (.int (0 : Int32)), .unset, .unset] [(.ref b2), (.ref b9), (.ref b9)])) rfl (by rw [hml]; rfl) (Steps.refl _) (a := b9) (argsL := [(.ref b2)]) (rest := [(.ref b9)]) (lenOf pd_285bC29V rfl) rfl (by show 2 * 0 + _ ≤ _; exact Nat.le_of_eq rfl) (hb hby at_147) (fun _ _ => ⟨rfl, e9, Nat.le_of_ble_eq_true rfl, Nat.le_of_ble_eq_true rfl⟩)
    dsimp only [Pt.U, Pt.locs, Pt.cells, Pt.slots] at X10 l10 y10 z10 st10 hQ10
    subst l10 y10 z10
    obtain ⟨rfl, N10q, K10, -, C_b9, t_b9, kb_b9, ge_t_b9, sz_t_b9, ntx_b9, V_b9, K_b9⟩ := hQ10
    have ne_b2_t_b9 : b2 ≠ t_b9 := Nat.ne_of_lt (Nat.lt_of_lt_of_le V_b2.lt sz_t_b9)
    have ne_b9_t_b9 : b9 ≠ t_b9 := Nat.ne_of_lt (Nat.lt_of_lt_of_le E_b9.lt sz_t_b9)
    have N10 := Fr.app N7 N10q
    replace Od := Od.keep K10 (allS ge_b9 all0)
    replace V_b2 := V_b2.keep K10 (ninS ne_b2_b9 nin0)
    replace E_b9 := E_b9.keep K10
    have hcd_b9 : StrChars.Road.CodA cs_b9 0 (5 : Int32) ((cs_b9.map (fun c => c.toInt8.toInt32)).map Value.int) := StrChars.Road.codOf (n := 5) hl_b9 (fun c hc => (hp_b9 c hc).2)
    have hbd_b9 := own_up _ hp_b9
    refine OEnds.via (fun _ k => st10.trans k) ?_
    show OEnds p e below s _ _ _ (T10.setTop (mkF m 150 #[.val (.int p0), .val (.int ((p0 &&& (2147483647 : Int32)) % (3 : Int32))), .val (.ref b2), .val (.ref a_EXACT), .val (.int (0 : Int32)), .unset, .unset] [(.ref b9)]))
    refine OEnds.via (fun _ k => XS.astore X10.here hx rfl (hb hby at_150) rfl rfl (l' := #[.val (.int p0), .val (.int ((p0 &&& (2147483647 : Int32)) % (3 : Int32))), .val (.ref b2), .val (.ref a_EXACT), .val (.int (0 : Int32)), .val (.ref b9), .unset]) rfl k) ?_
    show OEnds p e below s _ _ _ (T10.setTop (mkF m 152 #[.val (.int p0), .val (.int ((p0 &&& (2147483647 : Int32)) % (3 : Int32))), .val (.ref b2), .val (.ref a_EXACT), .val (.int (0 : Int32)), .val (.ref b9), .unset] []))
    refine OEnds.via (fun _ k => XS.aload X10.here hx rfl (hb hby at_152) rfl rfl k) ?_
    show OEnds p e below s _ _ _ (T10.setTop (mkF m 154 #[.val (.int p0), .val (.int ((p0 &&& (2147483647 : Int32)) % (3 : Int32))), .val (.ref b2), .val (.ref a_EXACT), .val (.int (0 : Int32)), .val (.ref b9), .unset] [(.ref b9)]))
    obtain ⟨_, _, ⟨T11, L11, k11, n11⟩, -, X11, ⟨Lc11, hQ11, l11, y11, z11⟩, st11⟩ := Jvm.LawKit.callS X10 hx (y := (⟨"com/example/amber_gate/ambergate/Algorithm", "named", "(Ljava/lang/String;)Lcom/example/amber_gate/ambergate/Algorithm;"⟩ : MethodName)) hown (mvT hZ (hw _ (List.mem_of_getElem? (i := 34) rfl))) (mvT hZ (hw _ (List.mem_of_getElem? (i := 35) rfl))) (mvT hZ (hw _ (List.mem_of_getElem? (i := 3) rfl))) (mvT hZ (hw _ (List.mem_of_getElem? (i := 36) rfl))) (by decide) (backOf (W := 0) (rmN0 l Z a0 hw [] b9 t_b9 kb_b9 a_EXACT a_SLIDING a_FIXED t_EXACT t_SLIDING t_FIXED tv_EXACT tv_SLIDING tv_FIXED kt_EXACT kt_SLIDING kt_FIXED va kA G1 T10.heap n0 Od E_b9 V_b9 C_b9 (by rw [hcs_b9] at K_b9; exact K_b9) S_CS nz_CS S_V AV EV Et_EXACT Vt_EXACT Ct_EXACT Kt_EXACT Ft_EXACT Et_SLIDING Vt_SLIDING Ct_SLIDING Kt_SLIDING Ft_SLIDING Et_FIXED Vt_FIXED Ct_FIXED Kt_FIXED Ft_FIXED) hZ (hw _ (List.mem_of_getElem? (i := 36) rfl)) (hw _ (List.mem_of_getElem? (i := 3) rfl)) (by decide) (by decide)) (g := (mkF m 154 #[.val (.int p0), .val (.int ((p0 &&& (2147483647 : Int32)) % (3 : Int32))), .val (.ref b2), .val (.ref a_EXACT), .val (.int (0 : Int32)), .val (.ref b9), .unset] [(.ref b9)])) rfl (by rw [hml]; rfl) (argsL := [(.ref b9)]) (rest := []) (lenOf pd_28Ljava2flang2fString3b29Lcom2fexample2famber_gate2fambergate2fAlgorithm3b rfl) rfl (by show 2 * 0 + _ ≤ _; exact Nat.le_of_eq rfl) (hb hby at_154) (fun _ _ => ⟨rfl, rfl, Nat.le_of_ble_eq_true rfl, Nat.le_of_ble_eq_true rfl⟩)
    dsimp only [Pt.U, Pt.locs, Pt.cells, Pt.slots] at X11 l11 y11 z11 st11 hQ11
    subst l11 y11 z11
    obtain ⟨rfl, N11q, K11⟩ := hQ11
    have N11 := Fr.app N10 N11q
    replace Od := Od.keep K11 all0
    replace V_b2 := V_b2.keep K11 nin0
    replace E_b9 := E_b9.keep K11
    replace C_b9 := C_b9.keep K11 nin0
    replace V_b9 := V_b9.keep K11 nin0
    replace K_b9 := K_b9.keep K11 nin0
    refine OEnds.via (fun _ k => st11 _ k) ?_
    show OEnds p e below s _ _ _ (T11.setTop (mkF m 157 #[.val (.int p0), .val (.int ((p0 &&& (2147483647 : Int32)) % (3 : Int32))), .val (.ref b2), .val (.ref a_EXACT), .val (.int (0 : Int32)), .val (.ref b9), .unset] [(.ref a_EXACT)]))
    refine OEnds.via (fun _ k => XS.astore X11.here hx rfl (hb hby at_157) rfl rfl (l' := #[.val (.int p0), .val (.int ((p0 &&& (2147483647 : Int32)) % (3 : Int32))), .val (.ref b2), .val (.ref a_EXACT), .val (.int (0 : Int32)), .val (.ref b9), .val (.ref a_EXACT)]) rfl k) ?_
    show OEnds p e below s _ _ _ (T11.setTop (mkF m 159 #[.val (.int p0), .val (.int ((p0 &&& (2147483647 : Int32)) % (3 : Int32))), .val (.ref b2), .val (.ref a_EXACT), .val (.int (0 : Int32)), .val (.ref b9), .val (.ref a_EXACT)] []))
    refine OEnds.via (fun _ k => XS.aload X11.here hx rfl (hb hby at_159) rfl rfl k) ?_
    show OEnds p e below s _ _ _ (T11.setTop (mkF m 161 #[.val (.int p0), .val (.int ((p0 &&& (2147483647 : Int32)) % (3 : Int32))), .val (.ref b2), .val (.ref a_EXACT), .val (.int (0 : Int32)), .val (.ref b9), .val (.ref a_EXACT)] [(.ref a_EXACT)]))
    refine OEnds.via (fun _ k => XS.aloadN X11.here hx rfl (hb hby at_161) rfl rfl k) ?_
    show OEnds p e below s _ _ _ (T11.setTop (mkF m 162 #[.val (.int p0), .val (.int ((p0 &&& (2147483647 : Int32)) % (3 : Int32))), .val (.ref b2), .val (.ref a_EXACT), .val (.int (0 : Int32)), .val (.ref b9), .val (.ref a_EXACT)] [(.ref a_EXACT), (.ref a_EXACT)]))
    refine OEnds.via (fun _ k => Jvm.RoadKit.acmp (g := (mkF m 162 #[.val (.int p0), .val (.int ((p0 &&& (2147483647 : Int32)) % (3 : Int32))), .val (.ref b2), .val (.ref a_EXACT), .val (.int (0 : Int32)), .val (.ref b9), .val (.ref a_EXACT)] [(.ref a_EXACT), (.ref a_EXACT)])) X11 hx rfl rfl rfl (pc0 := 162) (pc' := 167) (same := true) rfl (hb hby at_162) rfl (decide_eq_true rfl) (by decide) (by decide) k) ?_
    show OEnds p e below s _ _ _ (T11.setTop (mkF m 167 #[.val (.int p0), .val (.int ((p0 &&& (2147483647 : Int32)) % (3 : Int32))), .val (.ref b2), .val (.ref a_EXACT), .val (.int (0 : Int32)), .val (.ref b9), .val (.ref a_EXACT)] []))
    refine OEnds.via (fun _ k => XS.aload X11.here hx rfl (hb hby at_167) rfl rfl k) ?_
    show OEnds p e below s _ _ _ (T11.setTop (mkF m 169 #[.val (.int p0), .val (.int ((p0 &&& (2147483647 : Int32)) % (3 : Int32))), .val (.ref b2), .val (.ref a_EXACT), .val (.int (0 : Int32)), .val (.ref b9), .val (.ref a_EXACT)] [(.ref a_EXACT)]))
    obtain ⟨cq12, kq12, q12a, q12b, q12c⟩ := isOf hZ rfl (Exa.ext Od.2 E_EXACT)
    obtain ⟨_, _, ⟨T12, L12, k12, n12⟩, -, X12, ⟨Lc12, hQ12, l12, y12, z12⟩, st12⟩ := X11.virtualBack hx (y := (⟨"com/example/amber_gate/ambergate/Algorithm", "splitsWindow", "()Z"⟩ : MethodName)) (z := (⟨"com/example/amber_gate/ambergate/Algorithm", "splitsWindow", "()Z"⟩ : MethodName)) hown (mvT hZ (hw _ (List.mem_of_getElem? (i := 66) rfl))) (mvT hZ (hw _ (List.mem_of_getElem? (i := 67) rfl))) (notFace_of_selects (args := #[]) (mvT hZ (hw _ (List.mem_of_getElem? (i := 69) rfl)))) (mvT hZ (hw _ (List.mem_of_getElem? (i := 69) rfl))) (mvT hZ (hw _ (List.mem_of_getElem? (i := 68) rfl))) (by decide) (backOf (W := 0) (rmS l Z a0 hw [] a_EXACT (0 : Int32) T11.heap n0 Od Fs_EXACT (by decide)) hZ (hw _ (List.mem_of_getElem? (i := 70) rfl)) (hw _ (List.mem_of_getElem? (i := 3) rfl)) (by decide) (by decide)) q12a q12c (g := (mkF m 169 #[.val (.int p0), .val (.int ((p0 &&& (2147483647 : Int32)) % (3 : Int32))), .val (.ref b2), .val (.ref a_EXACT), .val (.int (0 : Int32)), .val (.ref b9), .val (.ref a_EXACT)] [(.ref a_EXACT)])) rfl (by rw [hml]; rfl) (Steps.refl _) (argsL := []) (rest := []) (lenOf pd_2829Z rfl) rfl (by show 2 * 0 + _ ≤ _; exact Nat.le_of_eq rfl) (hb hby at_169) (fun _ _ => ⟨rfl, rfl, Nat.le_of_ble_eq_true rfl, Nat.le_of_ble_eq_true rfl⟩)
    dsimp only [Pt.U, Pt.locs, Pt.cells, Pt.slots] at X12 l12 y12 z12 st12 hQ12
    subst l12 y12 z12
    obtain ⟨rfl, N12q, e12⟩ := hQ12
    have N12 := Fr.app N11 N12q
    refine OEnds.via (fun _ k => st12.trans k) ?_
    show OEnds p e below s _ _ _ (T12.setTop (mkF m 172 #[.val (.int p0), .val (.int ((p0 &&& (2147483647 : Int32)) % (3 : Int32))), .val (.ref b2), .val (.ref a_EXACT), .val (.int (0 : Int32)), .val (.ref b9), .val (.ref a_EXACT)] [(.int (0 : Int32))]))
    refine OEnds.via (fun _ k => XS.iload X12.here hx rfl (hb hby at_172) rfl k) ?_
    show OEnds p e below s _ _ _ (T12.setTop (mkF m 174 #[.val (.int p0), .val (.int ((p0 &&& (2147483647 : Int32)) % (3 : Int32))), .val (.ref b2), .val (.ref a_EXACT), .val (.int (0 : Int32)), .val (.ref b9), .val (.ref a_EXACT)] [(.int (0 : Int32)), (.int (0 : Int32))]))
    refine OEnds.via (fun _ k => XS.icmpYes X12.here hx rfl (pc0 := 174) (pc' := 179) rfl (hb hby at_174) rfl (teq (by decide : (0 : Int32) = (0 : Int32))).1 (by decide) (by decide) k) ?_
    show OEnds p e below s _ _ _ (T12.setTop (mkF m 179 #[.val (.int p0), .val (.int ((p0 &&& (2147483647 : Int32)) % (3 : Int32))), .val (.ref b2), .val (.ref a_EXACT), .val (.int (0 : Int32)), .val (.ref b9), .val (.ref a_EXACT)] []))
    refine OEnds.via (fun _ k => XS.aload X12.here hx rfl (hb hby at_179) rfl rfl k) ?_
    show OEnds p e below s _ _ _ (T12.setTop (mkF m 181 #[.val (.int p0), .val (.int ((p0 &&& (2147483647 : Int32)) % (3 : Int32))), .val (.ref b2), .val (.ref a_EXACT), .val (.int (0 : Int32)), .val (.ref b9), .val (.ref a_EXACT)] [(.ref b9)]))
    refine OEnds.via (fun _ k => XS.aload X12.here hx rfl (hb hby at_181) rfl rfl k) ?_
    show OEnds p e below s _ _ _ (T12.setTop (mkF m 183 #[.val (.int p0), .val (.int ((p0 &&& (2147483647 : Int32)) % (3 : Int32))), .val (.ref b2), .val (.ref a_EXACT), .val (.int (0 : Int32)), .val (.ref b9), .val (.ref a_EXACT)] [(.ref a_EXACT), (.ref b9)]))
    obtain ⟨cq13, kq13, q13a, q13b, q13c⟩ := isOf hZ e12 (Exa.ext Od.2 E_EXACT)
    obtain ⟨_, _, ⟨T13, L13, k13, n13⟩, -, X13, ⟨Lc13, hQ13, l13, y13, z13⟩, st13⟩ := X12.virtualBack hx (y := (⟨"com/example/amber_gate/ambergate/Algorithm", "toString", "()Ljava/lang/String;"⟩ : MethodName)) (z := (⟨"com/example/amber_gate/ambergate/Algorithm", "toString", "()Ljava/lang/String;"⟩ : MethodName)) hown (mvT hZ (hw _ (List.mem_of_getElem? (i := 73) rfl))) (mvT hZ (hw _ (List.mem_of_getElem? (i := 74) rfl))) (notFace_of_selects (args := #[]) (mvT hZ (hw _ (List.mem_of_getElem? (i := 76) rfl)))) (mvT hZ (hw _ (List.mem_of_getElem? (i := 76) rfl))) (mvT hZ (hw _ (List.mem_of_getElem? (i := 75) rfl))) (by decide) (backOf (W := 1) (rmT l Z a0 hw [] a_EXACT t_EXACT T11.heap n0 Od Ft_EXACT) hZ (hw _ (List.mem_of_getElem? (i := 77) rfl)) (hw _ (List.mem_of_getElem? (i := 3) rfl)) (by decide) (by decide)) q13a q13c (g := (mkF m 183 #[.val (.int p0), .val (.int ((p0 &&& (2147483647 : Int32)) % (3 : Int32))), .val (.ref b2), .val (.ref a_EXACT), .val (.int (0 : Int32)), .val (.ref b9), .val (.ref a_EXACT)] [(.ref a_EXACT), (.ref b9)])) rfl (by rw [hml]; rfl) (Steps.refl _) (argsL := []) (rest := [(.ref b9)]) (lenOf pd_2829Ljava2flang2fString3b rfl) rfl (by show 2 * 0 + _ ≤ _; exact Nat.le_of_eq rfl) (hb hby at_183) (fun _ _ => ⟨rfl, e12, Nat.le_of_ble_eq_true rfl, Nat.le_of_ble_eq_true rfl⟩)
    dsimp only [Pt.U, Pt.locs, Pt.cells, Pt.slots] at X13 l13 y13 z13 st13 hQ13
    subst l13 y13 z13
    obtain ⟨rfl, N13q, e13⟩ := hQ13
    have N13 := Fr.app N12 N13q
    refine OEnds.via (fun _ k => st13.trans k) ?_
    show OEnds p e below s _ _ _ (T13.setTop (mkF m 186 #[.val (.int p0), .val (.int ((p0 &&& (2147483647 : Int32)) % (3 : Int32))), .val (.ref b2), .val (.ref a_EXACT), .val (.int (0 : Int32)), .val (.ref b9), .val (.ref a_EXACT)] [(.ref t_EXACT), (.ref b9)]))
    obtain ⟨cq14, kq14, q14a, q14b, q14c⟩ := isOf hZ e13 E_b9
    obtain ⟨_, _, ⟨T14, L14, k14, n14⟩, -, X14, ⟨Lc14, hQ14, l14, y14, z14⟩, st14⟩ := X13.virtualBack hx (y := (⟨"java/lang/String", "equals", "(Ljava/lang/Object;)Z"⟩ : MethodName)) (z := (⟨"java/lang/String", "equals", "(Ljava/lang/Object;)Z"⟩ : MethodName)) hown (mvT hZ (hw _ (List.mem_of_getElem? (i := 78) rfl))) (mvT hZ (hw _ (List.mem_of_getElem? (i := 57) rfl))) (notFace_of_selects (args := #[]) (mvT hZ (hw _ (List.mem_of_getElem? (i := 59) rfl)))) (mvT hZ (hw _ (List.mem_of_getElem? (i := 59) rfl))) (mvT hZ (hw _ (List.mem_of_getElem? (i := 58) rfl))) (by decide) (StrChars.Road.eqW (W := 0) hZ heq (kI := 4) (hw _ (List.mem_of_getElem? (i := 6) rfl)) E_b9 V_b9 C_b9 K_b9 hcd_b9 hbd_b9 (by rw [hl_b9]; decide) (Exa.ext Od.2 Et_EXACT) (Fld.ext Od.2 Vt_EXACT) (Fld.ext Od.2 Ct_EXACT) (Kt_EXACT.ext Od.2) hcd_t_EXACT hbd_t_EXACT (by decide) (Sta.ext Od.2 S_CS) nz_CS (by decide) (by decide)) q14a q14c (g := (mkF m 186 #[.val (.int p0), .val (.int ((p0 &&& (2147483647 : Int32)) % (3 : Int32))), .val (.ref b2), .val (.ref a_EXACT), .val (.int (0 : Int32)), .val (.ref b9), .val (.ref a_EXACT)] [(.ref t_EXACT), (.ref b9)])) rfl (by rw [hml]; rfl) (Steps.refl _) (argsL := [(.ref t_EXACT)]) (rest := []) (lenOf pd_28Ljava2flang2fObject3b29Z rfl) rfl (by show 2 * 0 + _ ≤ _; exact Nat.le_of_eq rfl) (hb hby at_186) (fun _ _ => ⟨rfl, e13, Nat.le_of_ble_eq_true rfl, Nat.le_of_ble_eq_true rfl⟩)
    dsimp only [Pt.U, Pt.locs, Pt.cells, Pt.slots] at X14 l14 y14 z14 st14 hQ14
    subst l14 y14 z14
    obtain ⟨hcase14, rfl, e14⟩ := hQ14
    have N14 := Fr.app N13 (Fr.nil n0)
    have hv14 : _ = some (Value.int 1) := hcase14.elim (fun q => q.1) (fun q => absurd hcs_b9 q.2)
    subst hv14
    refine OEnds.via (fun _ k => st14.trans k) ?_
    show OEnds p e below s _ _ _ (T14.setTop (mkF m 189 #[.val (.int p0), .val (.int ((p0 &&& (2147483647 : Int32)) % (3 : Int32))), .val (.ref b2), .val (.ref a_EXACT), .val (.int (0 : Int32)), .val (.ref b9), .val (.ref a_EXACT)] [(.int (1 : Int32))]))
    refine OEnds.retN X14 hx hlk (t := .boolean) Bd.returns (by simp) (hb hby at_189) ?_ (by decide) (by decide)
    exact ⟨rfl, N14⟩
  · skip
    refine OEnds.via (fun _ k => XS.ifYes X0.here hx rfl (pc0 := 8) (pc' := 50) rfl (hb hby at_8) rfl ((if0 _ _).trans (feq hc8_0).2) (by decide) (by decide) k) ?_
    show OEnds p e below s _ _ _ (s₁.setTop (mkF m 50 #[.val (.int p0), .val (.int ((p0 &&& (2147483647 : Int32)) % (3 : Int32))), .unset, .unset, .unset, .unset, .unset] []))
    refine OEnds.via (fun _ k => XS.iloadN X0.here hx rfl (hb hby at_50) rfl k) ?_
    show OEnds p e below s _ _ _ (s₁.setTop (mkF m 51 #[.val (.int p0), .val (.int ((p0 &&& (2147483647 : Int32)) % (3 : Int32))), .unset, .unset, .unset, .unset, .unset] [(.int ((p0 &&& (2147483647 : Int32)) % (3 : Int32)))]))
    refine OEnds.via (fun _ k => XS.iconst X0.here hx rfl (hb hby at_51) k) ?_
    show OEnds p e below s _ _ _ (s₁.setTop (mkF m 52 #[.val (.int p0), .val (.int ((p0 &&& (2147483647 : Int32)) % (3 : Int32))), .unset, .unset, .unset, .unset, .unset] [(.int (1 : Int32)), (.int ((p0 &&& (2147483647 : Int32)) % (3 : Int32)))]))
    by_cases hc52_14 : ((p0 &&& (2147483647 : Int32)) % (3 : Int32)) = (1 : Int32)
    · skip
      refine OEnds.via (fun _ k => XS.icmpNo X0.here hx rfl (hb hby at_52) rfl (teq hc52_14).2 k) ?_
      show OEnds p e below s _ _ _ (s₁.setTop (mkF m 55 #[.val (.int p0), .val (.int ((p0 &&& (2147483647 : Int32)) % (3 : Int32))), .unset, .unset, .unset, .unset, .unset] []))
      refine OEnds.via (fun _ k => XS.bipush X0.here hx rfl (hb hby at_55) k) ?_
      show OEnds p e below s _ _ _ (s₁.setTop (mkF m 57 #[.val (.int p0), .val (.int ((p0 &&& (2147483647 : Int32)) % (3 : Int32))), .unset, .unset, .unset, .unset, .unset] [(.int (7 : Int32))]))
      obtain ⟨T16, h16, k16, X16, e16, E16, A16, st16⟩ := newP X0 hx hZ (hw _ (List.mem_of_getElem? (i := 1) rfl)) e0 (g := (mkF m 57 #[.val (.int p0), .val (.int ((p0 &&& (2147483647 : Int32)) % (3 : Int32))), .unset, .unset, .unset, .unset, .unset] [(.int (7 : Int32))])) rfl (hb hby at_57) rfl (by decide) (cap := 7) (by decide) (by decide) (by decide) (by decide)
      obtain ⟨b16, g16⟩ : ∃ z, z = h0.size := ⟨_, rfl⟩
      have ge_b16 : n0 ≤ b16 := Nat.le_trans (Od.1 ▸ Od.2.1) (Nat.le_of_eq g16.symm)
      rw [← g16] at A16 st16
      replace Od := Od.ext E16
      have V_b16 : Arv Z h16 b16 k16 .char (7 : Int32) [(.int (0 : Int32)), (.int (0 : Int32)), (.int (0 : Int32)), (.int (0 : Int32)), (.int (0 : Int32)), (.int (0 : Int32)), (.int (0 : Int32))] (.int (0 : Int32)) := (Arv.new A16 (by decide)).pad (pad_rep [] (.int (0 : Int32)) 7)
      refine OEnds.via (fun _ k => st16 _ k) ?_
      show OEnds p e below s _ _ _ (T16.setTop (mkF m 59 #[.val (.int p0), .val (.int ((p0 &&& (2147483647 : Int32)) % (3 : Int32))), .unset, .unset, .unset, .unset, .unset] [(.ref b16)]))
      refine OEnds.via (fun _ k => XS.dup X16.here hx rfl (hb hby at_59) rfl rfl k) ?_
      show OEnds p e below s _ _ _ (T16.setTop (mkF m 60 #[.val (.int p0), .val (.int ((p0 &&& (2147483647 : Int32)) % (3 : Int32))), .unset, .unset, .unset, .unset, .unset] [(.ref b16), (.ref b16)]))
      refine OEnds.via (fun _ k => XS.iconst X16.here hx rfl (hb hby at_60) k) ?_
      show OEnds p e below s _ _ _ (T16.setTop (mkF m 61 #[.val (.int p0), .val (.int ((p0 &&& (2147483647 : Int32)) % (3 : Int32))), .unset, .unset, .unset, .unset, .unset] [(.int (0 : Int32)), (.ref b16), (.ref b16)]))
      refine OEnds.via (fun _ k => XS.bipush X16.here hx rfl (hb hby at_61) k) ?_
      show OEnds p e below s _ _ _ (T16.setTop (mkF m 63 #[.val (.int p0), .val (.int ((p0 &&& (2147483647 : Int32)) % (3 : Int32))), .unset, .unset, .unset, .unset, .unset] [(.int (115 : Int32)), (.int (0 : Int32)), (.ref b16), (.ref b16)]))
      obtain ⟨cl17, Ar17, q17, S17, M17, H17, G17⟩ := V_b16
      obtain ⟨T17, h17, X17, e17, W17, st17⟩ := stC X16 hx hZ e16 Ar17 (j := (0 : Int32)) (inb_of S17 ⟨by decide, by decide⟩) (g := (mkF m 63 #[.val (.int p0), .val (.int ((p0 &&& (2147483647 : Int32)) % (3 : Int32))), .unset, .unset, .unset, .unset, .unset] [(.int (115 : Int32)), (.int (0 : Int32)), (.ref b16), (.ref b16)])) rfl rfl (hb hby at_63)
      have V_b16 : Arv Z h17 b16 k16 .char (7 : Int32) [(.int (115 : Int32)), (.int (0 : Int32)), (.int (0 : Int32)), (.int (0 : Int32)), (.int (0 : Int32)), (.int (0 : Int32)), (.int (0 : Int32))] (.int (0 : Int32)) := Arv.set Ar17 q17 S17 M17 H17 G17 rfl W17 0 rfl (Nat.le_of_ble_eq_true rfl)
      have N17 := Fr.snoc X17 N0 ge_b16
      replace Od := Od.wr W17 ge_b16
      refine OEnds.via (fun _ k => st17 _ k) ?_
      show OEnds p e below s _ _ _ (T17.setTop (mkF m 64 #[.val (.int p0), .val (.int ((p0 &&& (2147483647 : Int32)) % (3 : Int32))), .unset, .unset, .unset, .unset, .unset] [(.ref b16)]))
      refine OEnds.via (fun _ k => XS.dup X17.here hx rfl (hb hby at_64) rfl rfl k) ?_
      show OEnds p e below s _ _ _ (T17.setTop (mkF m 65 #[.val (.int p0), .val (.int ((p0 &&& (2147483647 : Int32)) % (3 : Int32))), .unset, .unset, .unset, .unset, .unset] [(.ref b16), (.ref b16)]))
      refine OEnds.via (fun _ k => XS.iconst X17.here hx rfl (hb hby at_65) k) ?_
      show OEnds p e below s _ _ _ (T17.setTop (mkF m 66 #[.val (.int p0), .val (.int ((p0 &&& (2147483647 : Int32)) % (3 : Int32))), .unset, .unset, .unset, .unset, .unset] [(.int (1 : Int32)), (.ref b16), (.ref b16)]))
      refine OEnds.via (fun _ k => XS.bipush X17.here hx rfl (hb hby at_66) k) ?_
      show OEnds p e below s _ _ _ (T17.setTop (mkF m 68 #[.val (.int p0), .val (.int ((p0 &&& (2147483647 : Int32)) % (3 : Int32))), .unset, .unset, .unset, .unset, .unset] [(.int (108 : Int32)), (.int (1 : Int32)), (.ref b16), (.ref b16)]))
      obtain ⟨cl18, Ar18, q18, S18, M18, H18, G18⟩ := V_b16
      obtain ⟨T18, h18, X18, e18, W18, st18⟩ := stC X17 hx hZ e17 Ar18 (j := (1 : Int32)) (inb_of S18 ⟨by decide, by decide⟩) (g := (mkF m 68 #[.val (.int p0), .val (.int ((p0 &&& (2147483647 : Int32)) % (3 : Int32))), .unset, .unset, .unset, .unset, .unset] [(.int (108 : Int32)), (.int (1 : Int32)), (.ref b16), (.ref b16)])) rfl rfl (hb hby at_68)
      have V_b16 : Arv Z h18 b16 k16 .char (7 : Int32) [(.int (115 : Int32)), (.int (108 : Int32)), (.int (0 : Int32)), (.int (0 : Int32)), (.int (0 : Int32)), (.int (0 : Int32)), (.int (0 : Int32))] (.int (0 : Int32)) := Arv.set Ar18 q18 S18 M18 H18 G18 rfl W18 1 rfl (Nat.le_of_ble_eq_true rfl)
      have N18 := Fr.snoc X18 N17 ge_b16
      replace Od := Od.wr W18 ge_b16
      refine OEnds.via (fun _ k => st18 _ k) ?_
      show OEnds p e below s _ _ _ (T18.setTop (mkF m 69 #[.val (.int p0), .val (.int ((p0 &&& (2147483647 : Int32)) % (3 : Int32))), .unset, .unset, .unset, .unset, .unset] [(.ref b16)]))
      refine OEnds.via (fun _ k => XS.dup X18.here hx rfl (hb hby at_69) rfl rfl k) ?_
      show OEnds p e below s _ _ _ (T18.setTop (mkF m 70 #[.val (.int p0), .val (.int ((p0 &&& (2147483647 : Int32)) % (3 : Int32))), .unset, .unset, .unset, .unset, .unset] [(.ref b16), (.ref b16)]))
      refine OEnds.via (fun _ k => XS.iconst X18.here hx rfl (hb hby at_70) k) ?_
      show OEnds p e below s _ _ _ (T18.setTop (mkF m 71 #[.val (.int p0), .val (.int ((p0 &&& (2147483647 : Int32)) % (3 : Int32))), .unset, .unset, .unset, .unset, .unset] [(.int (2 : Int32)), (.ref b16), (.ref b16)]))
      refine OEnds.via (fun _ k => XS.bipush X18.here hx rfl (hb hby at_71) k) ?_
      show OEnds p e below s _ _ _ (T18.setTop (mkF m 73 #[.val (.int p0), .val (.int ((p0 &&& (2147483647 : Int32)) % (3 : Int32))), .unset, .unset, .unset, .unset, .unset] [(.int (105 : Int32)), (.int (2 : Int32)), (.ref b16), (.ref b16)]))
      obtain ⟨cl19, Ar19, q19, S19, M19, H19, G19⟩ := V_b16
      obtain ⟨T19, h19, X19, e19, W19, st19⟩ := stC X18 hx hZ e18 Ar19 (j := (2 : Int32)) (inb_of S19 ⟨by decide, by decide⟩) (g := (mkF m 73 #[.val (.int p0), .val (.int ((p0 &&& (2147483647 : Int32)) % (3 : Int32))), .unset, .unset, .unset, .unset, .unset] [(.int (105 : Int32)), (.int (2 : Int32)), (.ref b16), (.ref b16)])) rfl rfl (hb hby at_73)
      have V_b16 : Arv Z h19 b16 k16 .char (7 : Int32) [(.int (115 : Int32)), (.int (108 : Int32)), (.int (105 : Int32)), (.int (0 : Int32)), (.int (0 : Int32)), (.int (0 : Int32)), (.int (0 : Int32))] (.int (0 : Int32)) := Arv.set Ar19 q19 S19 M19 H19 G19 rfl W19 2 rfl (Nat.le_of_ble_eq_true rfl)
      have N19 := Fr.snoc X19 N18 ge_b16
      replace Od := Od.wr W19 ge_b16
      refine OEnds.via (fun _ k => st19 _ k) ?_
      show OEnds p e below s _ _ _ (T19.setTop (mkF m 74 #[.val (.int p0), .val (.int ((p0 &&& (2147483647 : Int32)) % (3 : Int32))), .unset, .unset, .unset, .unset, .unset] [(.ref b16)]))
      refine OEnds.via (fun _ k => XS.dup X19.here hx rfl (hb hby at_74) rfl rfl k) ?_
      show OEnds p e below s _ _ _ (T19.setTop (mkF m 75 #[.val (.int p0), .val (.int ((p0 &&& (2147483647 : Int32)) % (3 : Int32))), .unset, .unset, .unset, .unset, .unset] [(.ref b16), (.ref b16)]))
      refine OEnds.via (fun _ k => XS.iconst X19.here hx rfl (hb hby at_75) k) ?_
      show OEnds p e below s _ _ _ (T19.setTop (mkF m 76 #[.val (.int p0), .val (.int ((p0 &&& (2147483647 : Int32)) % (3 : Int32))), .unset, .unset, .unset, .unset, .unset] [(.int (3 : Int32)), (.ref b16), (.ref b16)]))
      refine OEnds.via (fun _ k => XS.bipush X19.here hx rfl (hb hby at_76) k) ?_
      show OEnds p e below s _ _ _ (T19.setTop (mkF m 78 #[.val (.int p0), .val (.int ((p0 &&& (2147483647 : Int32)) % (3 : Int32))), .unset, .unset, .unset, .unset, .unset] [(.int (100 : Int32)), (.int (3 : Int32)), (.ref b16), (.ref b16)]))
      obtain ⟨cl20, Ar20, q20, S20, M20, H20, G20⟩ := V_b16
      obtain ⟨T20, h20, X20, e20, W20, st20⟩ := stC X19 hx hZ e19 Ar20 (j := (3 : Int32)) (inb_of S20 ⟨by decide, by decide⟩) (g := (mkF m 78 #[.val (.int p0), .val (.int ((p0 &&& (2147483647 : Int32)) % (3 : Int32))), .unset, .unset, .unset, .unset, .unset] [(.int (100 : Int32)), (.int (3 : Int32)), (.ref b16), (.ref b16)])) rfl rfl (hb hby at_78)
      have V_b16 : Arv Z h20 b16 k16 .char (7 : Int32) [(.int (115 : Int32)), (.int (108 : Int32)), (.int (105 : Int32)), (.int (100 : Int32)), (.int (0 : Int32)), (.int (0 : Int32)), (.int (0 : Int32))] (.int (0 : Int32)) := Arv.set Ar20 q20 S20 M20 H20 G20 rfl W20 3 rfl (Nat.le_of_ble_eq_true rfl)
      have N20 := Fr.snoc X20 N19 ge_b16
      replace Od := Od.wr W20 ge_b16
      refine OEnds.via (fun _ k => st20 _ k) ?_
      show OEnds p e below s _ _ _ (T20.setTop (mkF m 79 #[.val (.int p0), .val (.int ((p0 &&& (2147483647 : Int32)) % (3 : Int32))), .unset, .unset, .unset, .unset, .unset] [(.ref b16)]))
      refine OEnds.via (fun _ k => XS.dup X20.here hx rfl (hb hby at_79) rfl rfl k) ?_
      show OEnds p e below s _ _ _ (T20.setTop (mkF m 80 #[.val (.int p0), .val (.int ((p0 &&& (2147483647 : Int32)) % (3 : Int32))), .unset, .unset, .unset, .unset, .unset] [(.ref b16), (.ref b16)]))
      refine OEnds.via (fun _ k => XS.iconst X20.here hx rfl (hb hby at_80) k) ?_
      show OEnds p e below s _ _ _ (T20.setTop (mkF m 81 #[.val (.int p0), .val (.int ((p0 &&& (2147483647 : Int32)) % (3 : Int32))), .unset, .unset, .unset, .unset, .unset] [(.int (4 : Int32)), (.ref b16), (.ref b16)]))
      refine OEnds.via (fun _ k => XS.bipush X20.here hx rfl (hb hby at_81) k) ?_
      show OEnds p e below s _ _ _ (T20.setTop (mkF m 83 #[.val (.int p0), .val (.int ((p0 &&& (2147483647 : Int32)) % (3 : Int32))), .unset, .unset, .unset, .unset, .unset] [(.int (105 : Int32)), (.int (4 : Int32)), (.ref b16), (.ref b16)]))
      obtain ⟨cl21, Ar21, q21, S21, M21, H21, G21⟩ := V_b16
      obtain ⟨T21, h21, X21, e21, W21, st21⟩ := stC X20 hx hZ e20 Ar21 (j := (4 : Int32)) (inb_of S21 ⟨by decide, by decide⟩) (g := (mkF m 83 #[.val (.int p0), .val (.int ((p0 &&& (2147483647 : Int32)) % (3 : Int32))), .unset, .unset, .unset, .unset, .unset] [(.int (105 : Int32)), (.int (4 : Int32)), (.ref b16), (.ref b16)])) rfl rfl (hb hby at_83)
      have V_b16 : Arv Z h21 b16 k16 .char (7 : Int32) [(.int (115 : Int32)), (.int (108 : Int32)), (.int (105 : Int32)), (.int (100 : Int32)), (.int (105 : Int32)), (.int (0 : Int32)), (.int (0 : Int32))] (.int (0 : Int32)) := Arv.set Ar21 q21 S21 M21 H21 G21 rfl W21 4 rfl (Nat.le_of_ble_eq_true rfl)
      have N21 := Fr.snoc X21 N20 ge_b16
      replace Od := Od.wr W21 ge_b16
      refine OEnds.via (fun _ k => st21 _ k) ?_
      show OEnds p e below s _ _ _ (T21.setTop (mkF m 84 #[.val (.int p0), .val (.int ((p0 &&& (2147483647 : Int32)) % (3 : Int32))), .unset, .unset, .unset, .unset, .unset] [(.ref b16)]))
      refine OEnds.via (fun _ k => XS.dup X21.here hx rfl (hb hby at_84) rfl rfl k) ?_
      show OEnds p e below s _ _ _ (T21.setTop (mkF m 85 #[.val (.int p0), .val (.int ((p0 &&& (2147483647 : Int32)) % (3 : Int32))), .unset, .unset, .unset, .unset, .unset] [(.ref b16), (.ref b16)]))
      refine OEnds.via (fun _ k => XS.iconst X21.here hx rfl (hb hby at_85) k) ?_
      show OEnds p e below s _ _ _ (T21.setTop (mkF m 86 #[.val (.int p0), .val (.int ((p0 &&& (2147483647 : Int32)) % (3 : Int32))), .unset, .unset, .unset, .unset, .unset] [(.int (5 : Int32)), (.ref b16), (.ref b16)]))
      refine OEnds.via (fun _ k => XS.bipush X21.here hx rfl (hb hby at_86) k) ?_
      show OEnds p e below s _ _ _ (T21.setTop (mkF m 88 #[.val (.int p0), .val (.int ((p0 &&& (2147483647 : Int32)) % (3 : Int32))), .unset, .unset, .unset, .unset, .unset] [(.int (110 : Int32)), (.int (5 : Int32)), (.ref b16), (.ref b16)]))
      obtain ⟨cl22, Ar22, q22, S22, M22, H22, G22⟩ := V_b16
      obtain ⟨T22, h22, X22, e22, W22, st22⟩ := stC X21 hx hZ e21 Ar22 (j := (5 : Int32)) (inb_of S22 ⟨by decide, by decide⟩) (g := (mkF m 88 #[.val (.int p0), .val (.int ((p0 &&& (2147483647 : Int32)) % (3 : Int32))), .unset, .unset, .unset, .unset, .unset] [(.int (110 : Int32)), (.int (5 : Int32)), (.ref b16), (.ref b16)])) rfl rfl (hb hby at_88)
      have V_b16 : Arv Z h22 b16 k16 .char (7 : Int32) [(.int (115 : Int32)), (.int (108 : Int32)), (.int (105 : Int32)), (.int (100 : Int32)), (.int (105 : Int32)), (.int (110 : Int32)), (.int (0 : Int32))] (.int (0 : Int32)) := Arv.set Ar22 q22 S22 M22 H22 G22 rfl W22 5 rfl (Nat.le_of_ble_eq_true rfl)
      have N22 := Fr.snoc X22 N21 ge_b16
      replace Od := Od.wr W22 ge_b16
      refine OEnds.via (fun _ k => st22 _ k) ?_
      show OEnds p e below s _ _ _ (T22.setTop (mkF m 89 #[.val (.int p0), .val (.int ((p0 &&& (2147483647 : Int32)) % (3 : Int32))), .unset, .unset, .unset, .unset, .unset] [(.ref b16)]))
      refine OEnds.via (fun _ k => XS.dup X22.here hx rfl (hb hby at_89) rfl rfl k) ?_
      show OEnds p e below s _ _ _ (T22.setTop (mkF m 90 #[.val (.int p0), .val (.int ((p0 &&& (2147483647 : Int32)) % (3 : Int32))), .unset, .unset, .unset, .unset, .unset] [(.ref b16), (.ref b16)]))
      refine OEnds.via (fun _ k => XS.bipush X22.here hx rfl (hb hby at_90) k) ?_
      show OEnds p e below s _ _ _ (T22.setTop (mkF m 92 #[.val (.int p0), .val (.int ((p0 &&& (2147483647 : Int32)) % (3 : Int32))), .unset, .unset, .unset, .unset, .unset] [(.int (6 : Int32)), (.ref b16), (.ref b16)]))
      refine OEnds.via (fun _ k => XS.bipush X22.here hx rfl (hb hby at_92) k) ?_
      show OEnds p e below s _ _ _ (T22.setTop (mkF m 94 #[.val (.int p0), .val (.int ((p0 &&& (2147483647 : Int32)) % (3 : Int32))), .unset, .unset, .unset, .unset, .unset] [(.int (103 : Int32)), (.int (6 : Int32)), (.ref b16), (.ref b16)]))
      obtain ⟨cl23, Ar23, q23, S23, M23, H23, G23⟩ := V_b16
      obtain ⟨T23, h23, X23, e23, W23, st23⟩ := stC X22 hx hZ e22 Ar23 (j := (6 : Int32)) (inb_of S23 ⟨by decide, by decide⟩) (g := (mkF m 94 #[.val (.int p0), .val (.int ((p0 &&& (2147483647 : Int32)) % (3 : Int32))), .unset, .unset, .unset, .unset, .unset] [(.int (103 : Int32)), (.int (6 : Int32)), (.ref b16), (.ref b16)])) rfl rfl (hb hby at_94)
      have V_b16 : Arv Z h23 b16 k16 .char (7 : Int32) [(.int (115 : Int32)), (.int (108 : Int32)), (.int (105 : Int32)), (.int (100 : Int32)), (.int (105 : Int32)), (.int (110 : Int32)), (.int (103 : Int32))] (.int (0 : Int32)) := Arv.set Ar23 q23 S23 M23 H23 G23 rfl W23 6 rfl (Nat.le_of_ble_eq_true rfl)
      have N23 := Fr.snoc X23 N22 ge_b16
      replace Od := Od.wr W23 ge_b16
      refine OEnds.via (fun _ k => st23 _ k) ?_
      show OEnds p e below s _ _ _ (T23.setTop (mkF m 95 #[.val (.int p0), .val (.int ((p0 &&& (2147483647 : Int32)) % (3 : Int32))), .unset, .unset, .unset, .unset, .unset] [(.ref b16)]))
      refine OEnds.via (fun _ k => XS.astoreN X23.here hx rfl (hb hby at_95) rfl rfl (l' := #[.val (.int p0), .val (.int ((p0 &&& (2147483647 : Int32)) % (3 : Int32))), .val (.ref b16), .unset, .unset, .unset, .unset]) rfl k) ?_
      show OEnds p e below s _ _ _ (T23.setTop (mkF m 96 #[.val (.int p0), .val (.int ((p0 &&& (2147483647 : Int32)) % (3 : Int32))), .val (.ref b16), .unset, .unset, .unset, .unset] []))
      obtain ⟨T24, X24, e24, st24⟩ := getS2 X23 hx hZ hown (host := "") (Or.inl (hw _ (List.mem_of_getElem? (i := 80) rfl))) Via.refl e23 (Sta.ext Od.2 S_SLIDING) (g := (mkF m 96 #[.val (.int p0), .val (.int ((p0 &&& (2147483647 : Int32)) % (3 : Int32))), .val (.ref b16), .unset, .unset, .unset, .unset] [])) rfl (hb hby at_96)
      refine OEnds.via (fun _ k => st24 _ k) ?_
      show OEnds p e below s _ _ _ (T24.setTop (mkF m 99 #[.val (.int p0), .val (.int ((p0 &&& (2147483647 : Int32)) % (3 : Int32))), .val (.ref b16), .unset, .unset, .unset, .unset] [(.ref a_SLIDING)]))
      refine OEnds.via (fun _ k => XS.astoreN X24.here hx rfl (hb hby at_99) rfl rfl (l' := #[.val (.int p0), .val (.int ((p0 &&& (2147483647 : Int32)) % (3 : Int32))), .val (.ref b16), .val (.ref a_SLIDING), .unset, .unset, .unset]) rfl k) ?_
      show OEnds p e below s _ _ _ (T24.setTop (mkF m 100 #[.val (.int p0), .val (.int ((p0 &&& (2147483647 : Int32)) % (3 : Int32))), .val (.ref b16), .val (.ref a_SLIDING), .unset, .unset, .unset] []))
      refine OEnds.via (fun _ k => XS.iconst X24.here hx rfl (hb hby at_100) k) ?_
      show OEnds p e below s _ _ _ (T24.setTop (mkF m 101 #[.val (.int p0), .val (.int ((p0 &&& (2147483647 : Int32)) % (3 : Int32))), .val (.ref b16), .val (.ref a_SLIDING), .unset, .unset, .unset] [(.int (1 : Int32))]))
      refine OEnds.via (fun _ k => XS.istore X24.here hx rfl (hb hby at_101) rfl (l' := #[.val (.int p0), .val (.int ((p0 &&& (2147483647 : Int32)) % (3 : Int32))), .val (.ref b16), .val (.ref a_SLIDING), .val (.int (1 : Int32)), .unset, .unset]) rfl k) ?_
      show OEnds p e below s _ _ _ (T24.setTop (mkF m 103 #[.val (.int p0), .val (.int ((p0 &&& (2147483647 : Int32)) % (3 : Int32))), .val (.ref b16), .val (.ref a_SLIDING), .val (.int (1 : Int32)), .unset, .unset] []))
      refine OEnds.via (fun _ k => XS.goto X24.here hx rfl (pc0 := 103) (pc' := 142) rfl (hb hby at_103) (by decide) (by decide) k) ?_
      show OEnds p e below s _ _ _ (T24.setTop (mkF m 142 #[.val (.int p0), .val (.int ((p0 &&& (2147483647 : Int32)) % (3 : Int32))), .val (.ref b16), .val (.ref a_SLIDING), .val (.int (1 : Int32)), .unset, .unset] []))
      obtain ⟨T25, h25, X25, e25, E25, A25, D25, -, st25⟩ := newO X24 hx hZ hown (hw _ (List.mem_of_getElem? (i := 5) rfl)) (hw _ (List.mem_of_getElem? (i := 6) rfl)) (hw _ (List.mem_of_getElem? (i := 7) rfl)) e24 (g := (mkF m 142 #[.val (.int p0), .val (.int ((p0 &&& (2147483647 : Int32)) % (3 : Int32))), .val (.ref b16), .val (.ref a_SLIDING), .val (.int (1 : Int32)), .unset, .unset] [])) rfl (hb hby at_142) (by decide) (by decide)
      obtain ⟨b25, g25⟩ : ∃ z, z = h23.size := ⟨_, rfl⟩
      have ne_b16_b25 : b16 ≠ b25 := Nat.ne_of_lt (Nat.lt_of_lt_of_le V_b16.lt (Nat.le_of_eq g25.symm))
      have ge_b25 : n0 ≤ b25 := Nat.le_trans (Od.1 ▸ Od.2.1) (Nat.le_of_eq g25.symm)
      rw [← g25] at A25 D25 st25
      replace Od := Od.ext E25
      replace V_b16 := V_b16.ext E25
      have E_b25 : Exa Z h25 b25 "java/lang/String" := A25
      have F_coder_b25 : Fld Z h25 b25 "java/lang/String" "coder" "B" (.int (0 : Int32)) := D25 (Or.inr (hw _ (List.mem_of_getElem? (i := 31) rfl))) (ty := .byte) (by decide)
      have F_value_b25 : Fld Z h25 b25 "java/lang/String" "value" "[B" .null := D25 (Or.inr (hw _ (List.mem_of_getElem? (i := 33) rfl))) (ty := (.array .byte)) (by decide)
      refine OEnds.via (fun _ k => st25 _ k) ?_
      show OEnds p e below s _ _ _ (T25.setTop (mkF m 145 #[.val (.int p0), .val (.int ((p0 &&& (2147483647 : Int32)) % (3 : Int32))), .val (.ref b16), .val (.ref a_SLIDING), .val (.int (1 : Int32)), .unset, .unset] [(.ref b25)]))
      refine OEnds.via (fun _ k => XS.dup X25.here hx rfl (hb hby at_145) rfl rfl k) ?_
      show OEnds p e below s _ _ _ (T25.setTop (mkF m 146 #[.val (.int p0), .val (.int ((p0 &&& (2147483647 : Int32)) % (3 : Int32))), .val (.ref b16), .val (.ref a_SLIDING), .val (.int (1 : Int32)), .unset, .unset] [(.ref b25), (.ref b25)]))
      refine OEnds.via (fun _ k => XS.aloadN X25.here hx rfl (hb hby at_146) rfl rfl k) ?_
      show OEnds p e below s _ _ _ (T25.setTop (mkF m 147 #[.val (.int p0), .val (.int ((p0 &&& (2147483647 : Int32)) % (3 : Int32))), .val (.ref b16), .val (.ref a_SLIDING), .val (.int (1 : Int32)), .unset, .unset] [(.ref b16), (.ref b25), (.ref b25)]))
      obtain ⟨cs_b25, hcs_b25⟩ : ∃ cs : List Int32, cs = [(115 : Int32), (108 : Int32), (105 : Int32), (100 : Int32), (105 : Int32), (110 : Int32), (103 : Int32)] := ⟨_, rfl⟩
      have hp_b25 : ∀ c ∈ cs_b25, ¬ c < 0 ∧ ¬ (255 : Int32) < c := (by rw [hcs_b25]; decide)
      have hl_b25 : cs_b25.length = 7 := by rw [hcs_b25]; rfl
      have Kc_b25 : Arv Z h25 b16 k16 .char (7 : Int32) (cs_b25.map Value.int) (.int (0 : Int32)) := by rw [hcs_b25]; exact V_b16
      obtain ⟨_, _, ⟨T26, L26, k26, n26⟩, -, X26, ⟨Lc26, hQ26, l26, y26, z26⟩, st26⟩ := X25.specialBack hx (y := (⟨"java/lang/String", "<init>", "([C)V"⟩ : MethodName)) rfl hown (mvT hZ (hw _ (List.mem_of_getElem? (i := 8) rfl))) (mvT hZ (hw _ (List.mem_of_getElem? (i := 9) rfl))) (mvT hZ (hw _ (List.mem_of_getElem? (i := 10) rfl))) (by decide) (StrChars.Road.backV (W := 1) hZ hws (kI := 4) (hw _ (List.mem_of_getElem? (i := 6) rfl)) (cs := cs_b25) (bs := cs_b25.map (fun c => c.toInt8.toInt32)) (n := 7) ge_b25 (Od.1 ▸ Od.2.1) E_b25 F_value_b25 F_coder_b25 Kc_b25 (Sta.ext Od.2 S_CS) nz_CS hl_b25 rfl (by decide) (by decide) hp_b25 rfl (by decide) (by decide)) (g := (mkF m 147 #[.val (.int p0), .val (.int ((p0 &&& (2147483647 : Int32)) % (3 : Int32))), .val (.ref b16), .val (.ref a_SLIDING), .val (.int (1 : Int32)), .unset, .unset] [(.ref b16), (.ref b25), (.ref b25)])) rfl (by rw [hml]; rfl) (Steps.refl _) (a := b25) (argsL := [(.ref b16)]) (rest := [(.ref b25)]) (lenOf pd_285bC29V rfl) rfl (by show 2 * 0 + _ ≤ _; exact Nat.le_of_eq rfl) (hb hby at_147) (fun _ _ => ⟨rfl, e25, Nat.le_of_ble_eq_true rfl, Nat.le_of_ble_eq_true rfl⟩)
      dsimp only [Pt.U, Pt.locs, Pt.cells, Pt.slots] at X26 l26 y26 z26 st26 hQ26
      subst l26 y26 z26
      obtain ⟨rfl, N26q, K26, -, C_b25, t_b25, kb_b25, ge_t_b25, sz_t_b25, ntx_b25, V_b25, K_b25⟩ := hQ26
      have ne_b16_t_b25 : b16 ≠ t_b25 := Nat.ne_of_lt (Nat.lt_of_lt_of_le V_b16.lt sz_t_b25)
      have ne_b25_t_b25 : b25 ≠ t_b25 := Nat.ne_of_lt (Nat.lt_of_lt_of_le E_b25.lt sz_t_b25)
      have N26 := Fr.app N23 N26q
      replace Od := Od.keep K26 (allS ge_b25 all0)
      replace V_b16 := V_b16.keep K26 (ninS ne_b16_b25 nin0)
      replace E_b25 := E_b25.keep K26
      have hcd_b25 : StrChars.Road.CodA cs_b25 0 (7 : Int32) ((cs_b25.map (fun c => c.toInt8.toInt32)).map Value.int) := StrChars.Road.codOf (n := 7) hl_b25 (fun c hc => (hp_b25 c hc).2)
      have hbd_b25 := own_up _ hp_b25
      refine OEnds.via (fun _ k => st26.trans k) ?_
      show OEnds p e below s _ _ _ (T26.setTop (mkF m 150 #[.val (.int p0), .val (.int ((p0 &&& (2147483647 : Int32)) % (3 : Int32))), .val (.ref b16), .val (.ref a_SLIDING), .val (.int (1 : Int32)), .unset, .unset] [(.ref b25)]))
      refine OEnds.via (fun _ k => XS.astore X26.here hx rfl (hb hby at_150) rfl rfl (l' := #[.val (.int p0), .val (.int ((p0 &&& (2147483647 : Int32)) % (3 : Int32))), .val (.ref b16), .val (.ref a_SLIDING), .val (.int (1 : Int32)), .val (.ref b25), .unset]) rfl k) ?_
      show OEnds p e below s _ _ _ (T26.setTop (mkF m 152 #[.val (.int p0), .val (.int ((p0 &&& (2147483647 : Int32)) % (3 : Int32))), .val (.ref b16), .val (.ref a_SLIDING), .val (.int (1 : Int32)), .val (.ref b25), .unset] []))
      refine OEnds.via (fun _ k => XS.aload X26.here hx rfl (hb hby at_152) rfl rfl k) ?_
      show OEnds p e below s _ _ _ (T26.setTop (mkF m 154 #[.val (.int p0), .val (.int ((p0 &&& (2147483647 : Int32)) % (3 : Int32))), .val (.ref b16), .val (.ref a_SLIDING), .val (.int (1 : Int32)), .val (.ref b25), .unset] [(.ref b25)]))
      obtain ⟨_, _, ⟨T27, L27, k27, n27⟩, -, X27, ⟨Lc27, hQ27, l27, y27, z27⟩, st27⟩ := Jvm.LawKit.callS X26 hx (y := (⟨"com/example/amber_gate/ambergate/Algorithm", "named", "(Ljava/lang/String;)Lcom/example/amber_gate/ambergate/Algorithm;"⟩ : MethodName)) hown (mvT hZ (hw _ (List.mem_of_getElem? (i := 34) rfl))) (mvT hZ (hw _ (List.mem_of_getElem? (i := 35) rfl))) (mvT hZ (hw _ (List.mem_of_getElem? (i := 3) rfl))) (mvT hZ (hw _ (List.mem_of_getElem? (i := 36) rfl))) (by decide) (backOf (W := 0) (rmN1 l Z a0 hw [] b25 t_b25 kb_b25 a_EXACT a_SLIDING a_FIXED t_EXACT t_SLIDING t_FIXED tv_EXACT tv_SLIDING tv_FIXED kt_EXACT kt_SLIDING kt_FIXED va kA G1 T26.heap n0 Od E_b25 V_b25 C_b25 (by rw [hcs_b25] at K_b25; exact K_b25) S_CS nz_CS S_V AV EV Et_EXACT Vt_EXACT Ct_EXACT Kt_EXACT Ft_EXACT Et_SLIDING Vt_SLIDING Ct_SLIDING Kt_SLIDING Ft_SLIDING Et_FIXED Vt_FIXED Ct_FIXED Kt_FIXED Ft_FIXED) hZ (hw _ (List.mem_of_getElem? (i := 36) rfl)) (hw _ (List.mem_of_getElem? (i := 3) rfl)) (by decide) (by decide)) (g := (mkF m 154 #[.val (.int p0), .val (.int ((p0 &&& (2147483647 : Int32)) % (3 : Int32))), .val (.ref b16), .val (.ref a_SLIDING), .val (.int (1 : Int32)), .val (.ref b25), .unset] [(.ref b25)])) rfl (by rw [hml]; rfl) (argsL := [(.ref b25)]) (rest := []) (lenOf pd_28Ljava2flang2fString3b29Lcom2fexample2famber_gate2fambergate2fAlgorithm3b rfl) rfl (by show 2 * 0 + _ ≤ _; exact Nat.le_of_eq rfl) (hb hby at_154) (fun _ _ => ⟨rfl, rfl, Nat.le_of_ble_eq_true rfl, Nat.le_of_ble_eq_true rfl⟩)
      dsimp only [Pt.U, Pt.locs, Pt.cells, Pt.slots] at X27 l27 y27 z27 st27 hQ27
      subst l27 y27 z27
      obtain ⟨rfl, N27q, K27⟩ := hQ27
      have N27 := Fr.app N26 N27q
      replace Od := Od.keep K27 all0
      replace V_b16 := V_b16.keep K27 nin0
      replace E_b25 := E_b25.keep K27
      replace C_b25 := C_b25.keep K27 nin0
      replace V_b25 := V_b25.keep K27 nin0
      replace K_b25 := K_b25.keep K27 nin0
      refine OEnds.via (fun _ k => st27 _ k) ?_
      show OEnds p e below s _ _ _ (T27.setTop (mkF m 157 #[.val (.int p0), .val (.int ((p0 &&& (2147483647 : Int32)) % (3 : Int32))), .val (.ref b16), .val (.ref a_SLIDING), .val (.int (1 : Int32)), .val (.ref b25), .unset] [(.ref a_SLIDING)]))
      refine OEnds.via (fun _ k => XS.astore X27.here hx rfl (hb hby at_157) rfl rfl (l' := #[.val (.int p0), .val (.int ((p0 &&& (2147483647 : Int32)) % (3 : Int32))), .val (.ref b16), .val (.ref a_SLIDING), .val (.int (1 : Int32)), .val (.ref b25), .val (.ref a_SLIDING)]) rfl k) ?_
      show OEnds p e below s _ _ _ (T27.setTop (mkF m 159 #[.val (.int p0), .val (.int ((p0 &&& (2147483647 : Int32)) % (3 : Int32))), .val (.ref b16), .val (.ref a_SLIDING), .val (.int (1 : Int32)), .val (.ref b25), .val (.ref a_SLIDING)] []))
      refine OEnds.via (fun _ k => XS.aload X27.here hx rfl (hb hby at_159) rfl rfl k) ?_
      show OEnds p e below s _ _ _ (T27.setTop (mkF m 161 #[.val (.int p0), .val (.int ((p0 &&& (2147483647 : Int32)) % (3 : Int32))), .val (.ref b16), .val (.ref a_SLIDING), .val (.int (1 : Int32)), .val (.ref b25), .val (.ref a_SLIDING)] [(.ref a_SLIDING)]))
      refine OEnds.via (fun _ k => XS.aloadN X27.here hx rfl (hb hby at_161) rfl rfl k) ?_
      show OEnds p e below s _ _ _ (T27.setTop (mkF m 162 #[.val (.int p0), .val (.int ((p0 &&& (2147483647 : Int32)) % (3 : Int32))), .val (.ref b16), .val (.ref a_SLIDING), .val (.int (1 : Int32)), .val (.ref b25), .val (.ref a_SLIDING)] [(.ref a_SLIDING), (.ref a_SLIDING)]))
      refine OEnds.via (fun _ k => Jvm.RoadKit.acmp (g := (mkF m 162 #[.val (.int p0), .val (.int ((p0 &&& (2147483647 : Int32)) % (3 : Int32))), .val (.ref b16), .val (.ref a_SLIDING), .val (.int (1 : Int32)), .val (.ref b25), .val (.ref a_SLIDING)] [(.ref a_SLIDING), (.ref a_SLIDING)])) X27 hx rfl rfl rfl (pc0 := 162) (pc' := 167) (same := true) rfl (hb hby at_162) rfl (decide_eq_true rfl) (by decide) (by decide) k) ?_
      show OEnds p e below s _ _ _ (T27.setTop (mkF m 167 #[.val (.int p0), .val (.int ((p0 &&& (2147483647 : Int32)) % (3 : Int32))), .val (.ref b16), .val (.ref a_SLIDING), .val (.int (1 : Int32)), .val (.ref b25), .val (.ref a_SLIDING)] []))
      refine OEnds.via (fun _ k => XS.aload X27.here hx rfl (hb hby at_167) rfl rfl k) ?_
      show OEnds p e below s _ _ _ (T27.setTop (mkF m 169 #[.val (.int p0), .val (.int ((p0 &&& (2147483647 : Int32)) % (3 : Int32))), .val (.ref b16), .val (.ref a_SLIDING), .val (.int (1 : Int32)), .val (.ref b25), .val (.ref a_SLIDING)] [(.ref a_SLIDING)]))
      obtain ⟨cq28, kq28, q28a, q28b, q28c⟩ := isOf hZ rfl (Exa.ext Od.2 E_SLIDING)
      obtain ⟨_, _, ⟨T28, L28, k28, n28⟩, -, X28, ⟨Lc28, hQ28, l28, y28, z28⟩, st28⟩ := X27.virtualBack hx (y := (⟨"com/example/amber_gate/ambergate/Algorithm", "splitsWindow", "()Z"⟩ : MethodName)) (z := (⟨"com/example/amber_gate/ambergate/Algorithm", "splitsWindow", "()Z"⟩ : MethodName)) hown (mvT hZ (hw _ (List.mem_of_getElem? (i := 66) rfl))) (mvT hZ (hw _ (List.mem_of_getElem? (i := 67) rfl))) (notFace_of_selects (args := #[]) (mvT hZ (hw _ (List.mem_of_getElem? (i := 69) rfl)))) (mvT hZ (hw _ (List.mem_of_getElem? (i := 69) rfl))) (mvT hZ (hw _ (List.mem_of_getElem? (i := 68) rfl))) (by decide) (backOf (W := 0) (rmS l Z a0 hw [] a_SLIDING (1 : Int32) T27.heap n0 Od Fs_SLIDING (by decide)) hZ (hw _ (List.mem_of_getElem? (i := 70) rfl)) (hw _ (List.mem_of_getElem? (i := 3) rfl)) (by decide) (by decide)) q28a q28c (g := (mkF m 169 #[.val (.int p0), .val (.int ((p0 &&& (2147483647 : Int32)) % (3 : Int32))), .val (.ref b16), .val (.ref a_SLIDING), .val (.int (1 : Int32)), .val (.ref b25), .val (.ref a_SLIDING)] [(.ref a_SLIDING)])) rfl (by rw [hml]; rfl) (Steps.refl _) (argsL := []) (rest := []) (lenOf pd_2829Z rfl) rfl (by show 2 * 0 + _ ≤ _; exact Nat.le_of_eq rfl) (hb hby at_169) (fun _ _ => ⟨rfl, rfl, Nat.le_of_ble_eq_true rfl, Nat.le_of_ble_eq_true rfl⟩)
      dsimp only [Pt.U, Pt.locs, Pt.cells, Pt.slots] at X28 l28 y28 z28 st28 hQ28
      subst l28 y28 z28
      obtain ⟨rfl, N28q, e28⟩ := hQ28
      have N28 := Fr.app N27 N28q
      refine OEnds.via (fun _ k => st28.trans k) ?_
      show OEnds p e below s _ _ _ (T28.setTop (mkF m 172 #[.val (.int p0), .val (.int ((p0 &&& (2147483647 : Int32)) % (3 : Int32))), .val (.ref b16), .val (.ref a_SLIDING), .val (.int (1 : Int32)), .val (.ref b25), .val (.ref a_SLIDING)] [(.int (1 : Int32))]))
      refine OEnds.via (fun _ k => XS.iload X28.here hx rfl (hb hby at_172) rfl k) ?_
      show OEnds p e below s _ _ _ (T28.setTop (mkF m 174 #[.val (.int p0), .val (.int ((p0 &&& (2147483647 : Int32)) % (3 : Int32))), .val (.ref b16), .val (.ref a_SLIDING), .val (.int (1 : Int32)), .val (.ref b25), .val (.ref a_SLIDING)] [(.int (1 : Int32)), (.int (1 : Int32))]))
      refine OEnds.via (fun _ k => XS.icmpYes X28.here hx rfl (pc0 := 174) (pc' := 179) rfl (hb hby at_174) rfl (teq (by decide : (1 : Int32) = (1 : Int32))).1 (by decide) (by decide) k) ?_
      show OEnds p e below s _ _ _ (T28.setTop (mkF m 179 #[.val (.int p0), .val (.int ((p0 &&& (2147483647 : Int32)) % (3 : Int32))), .val (.ref b16), .val (.ref a_SLIDING), .val (.int (1 : Int32)), .val (.ref b25), .val (.ref a_SLIDING)] []))
      refine OEnds.via (fun _ k => XS.aload X28.here hx rfl (hb hby at_179) rfl rfl k) ?_
      show OEnds p e below s _ _ _ (T28.setTop (mkF m 181 #[.val (.int p0), .val (.int ((p0 &&& (2147483647 : Int32)) % (3 : Int32))), .val (.ref b16), .val (.ref a_SLIDING), .val (.int (1 : Int32)), .val (.ref b25), .val (.ref a_SLIDING)] [(.ref b25)]))
      refine OEnds.via (fun _ k => XS.aload X28.here hx rfl (hb hby at_181) rfl rfl k) ?_
      show OEnds p e below s _ _ _ (T28.setTop (mkF m 183 #[.val (.int p0), .val (.int ((p0 &&& (2147483647 : Int32)) % (3 : Int32))), .val (.ref b16), .val (.ref a_SLIDING), .val (.int (1 : Int32)), .val (.ref b25), .val (.ref a_SLIDING)] [(.ref a_SLIDING), (.ref b25)]))
      obtain ⟨cq29, kq29, q29a, q29b, q29c⟩ := isOf hZ e28 (Exa.ext Od.2 E_SLIDING)
      obtain ⟨_, _, ⟨T29, L29, k29, n29⟩, -, X29, ⟨Lc29, hQ29, l29, y29, z29⟩, st29⟩ := X28.virtualBack hx (y := (⟨"com/example/amber_gate/ambergate/Algorithm", "toString", "()Ljava/lang/String;"⟩ : MethodName)) (z := (⟨"com/example/amber_gate/ambergate/Algorithm", "toString", "()Ljava/lang/String;"⟩ : MethodName)) hown (mvT hZ (hw _ (List.mem_of_getElem? (i := 73) rfl))) (mvT hZ (hw _ (List.mem_of_getElem? (i := 74) rfl))) (notFace_of_selects (args := #[]) (mvT hZ (hw _ (List.mem_of_getElem? (i := 76) rfl)))) (mvT hZ (hw _ (List.mem_of_getElem? (i := 76) rfl))) (mvT hZ (hw _ (List.mem_of_getElem? (i := 75) rfl))) (by decide) (backOf (W := 1) (rmT l Z a0 hw [] a_SLIDING t_SLIDING T27.heap n0 Od Ft_SLIDING) hZ (hw _ (List.mem_of_getElem? (i := 77) rfl)) (hw _ (List.mem_of_getElem? (i := 3) rfl)) (by decide) (by decide)) q29a q29c (g := (mkF m 183 #[.val (.int p0), .val (.int ((p0 &&& (2147483647 : Int32)) % (3 : Int32))), .val (.ref b16), .val (.ref a_SLIDING), .val (.int (1 : Int32)), .val (.ref b25), .val (.ref a_SLIDING)] [(.ref a_SLIDING), (.ref b25)])) rfl (by rw [hml]; rfl) (Steps.refl _) (argsL := []) (rest := [(.ref b25)]) (lenOf pd_2829Ljava2flang2fString3b rfl) rfl (by show 2 * 0 + _ ≤ _; exact Nat.le_of_eq rfl) (hb hby at_183) (fun _ _ => ⟨rfl, e28, Nat.le_of_ble_eq_true rfl, Nat.le_of_ble_eq_true rfl⟩)
      dsimp only [Pt.U, Pt.locs, Pt.cells, Pt.slots] at X29 l29 y29 z29 st29 hQ29
      subst l29 y29 z29
      obtain ⟨rfl, N29q, e29⟩ := hQ29
      have N29 := Fr.app N28 N29q
      refine OEnds.via (fun _ k => st29.trans k) ?_
      show OEnds p e below s _ _ _ (T29.setTop (mkF m 186 #[.val (.int p0), .val (.int ((p0 &&& (2147483647 : Int32)) % (3 : Int32))), .val (.ref b16), .val (.ref a_SLIDING), .val (.int (1 : Int32)), .val (.ref b25), .val (.ref a_SLIDING)] [(.ref t_SLIDING), (.ref b25)]))
      obtain ⟨cq30, kq30, q30a, q30b, q30c⟩ := isOf hZ e29 E_b25
      obtain ⟨_, _, ⟨T30, L30, k30, n30⟩, -, X30, ⟨Lc30, hQ30, l30, y30, z30⟩, st30⟩ := X29.virtualBack hx (y := (⟨"java/lang/String", "equals", "(Ljava/lang/Object;)Z"⟩ : MethodName)) (z := (⟨"java/lang/String", "equals", "(Ljava/lang/Object;)Z"⟩ : MethodName)) hown (mvT hZ (hw _ (List.mem_of_getElem? (i := 78) rfl))) (mvT hZ (hw _ (List.mem_of_getElem? (i := 57) rfl))) (notFace_of_selects (args := #[]) (mvT hZ (hw _ (List.mem_of_getElem? (i := 59) rfl)))) (mvT hZ (hw _ (List.mem_of_getElem? (i := 59) rfl))) (mvT hZ (hw _ (List.mem_of_getElem? (i := 58) rfl))) (by decide) (StrChars.Road.eqW (W := 0) hZ heq (kI := 4) (hw _ (List.mem_of_getElem? (i := 6) rfl)) E_b25 V_b25 C_b25 K_b25 hcd_b25 hbd_b25 (by rw [hl_b25]; decide) (Exa.ext Od.2 Et_SLIDING) (Fld.ext Od.2 Vt_SLIDING) (Fld.ext Od.2 Ct_SLIDING) (Kt_SLIDING.ext Od.2) hcd_t_SLIDING hbd_t_SLIDING (by decide) (Sta.ext Od.2 S_CS) nz_CS (by decide) (by decide)) q30a q30c (g := (mkF m 186 #[.val (.int p0), .val (.int ((p0 &&& (2147483647 : Int32)) % (3 : Int32))), .val (.ref b16), .val (.ref a_SLIDING), .val (.int (1 : Int32)), .val (.ref b25), .val (.ref a_SLIDING)] [(.ref t_SLIDING), (.ref b25)])) rfl (by rw [hml]; rfl) (Steps.refl _) (argsL := [(.ref t_SLIDING)]) (rest := []) (lenOf pd_28Ljava2flang2fObject3b29Z rfl) rfl (by show 2 * 0 + _ ≤ _; exact Nat.le_of_eq rfl) (hb hby at_186) (fun _ _ => ⟨rfl, e29, Nat.le_of_ble_eq_true rfl, Nat.le_of_ble_eq_true rfl⟩)
      dsimp only [Pt.U, Pt.locs, Pt.cells, Pt.slots] at X30 l30 y30 z30 st30 hQ30
      subst l30 y30 z30
      obtain ⟨hcase30, rfl, e30⟩ := hQ30
      have N30 := Fr.app N29 (Fr.nil n0)
      have hv30 : _ = some (Value.int 1) := hcase30.elim (fun q => q.1) (fun q => absurd hcs_b25 q.2)
      subst hv30
      refine OEnds.via (fun _ k => st30.trans k) ?_
      show OEnds p e below s _ _ _ (T30.setTop (mkF m 189 #[.val (.int p0), .val (.int ((p0 &&& (2147483647 : Int32)) % (3 : Int32))), .val (.ref b16), .val (.ref a_SLIDING), .val (.int (1 : Int32)), .val (.ref b25), .val (.ref a_SLIDING)] [(.int (1 : Int32))]))
      refine OEnds.retN X30 hx hlk (t := .boolean) Bd.returns (by simp) (hb hby at_189) ?_ (by decide) (by decide)
      exact ⟨rfl, N30⟩
    · skip
      refine OEnds.via (fun _ k => XS.icmpYes X0.here hx rfl (pc0 := 52) (pc' := 106) rfl (hb hby at_52) rfl (feq hc52_14).2 (by decide) (by decide) k) ?_
      show OEnds p e below s _ _ _ (s₁.setTop (mkF m 106 #[.val (.int p0), .val (.int ((p0 &&& (2147483647 : Int32)) % (3 : Int32))), .unset, .unset, .unset, .unset, .unset] []))
      refine OEnds.via (fun _ k => XS.iconst X0.here hx rfl (hb hby at_106) k) ?_
      show OEnds p e below s _ _ _ (s₁.setTop (mkF m 107 #[.val (.int p0), .val (.int ((p0 &&& (2147483647 : Int32)) % (3 : Int32))), .unset, .unset, .unset, .unset, .unset] [(.int (5 : Int32))]))
      obtain ⟨T31, h31, k31, X31, e31, E31, A31, st31⟩ := newP X0 hx hZ (hw _ (List.mem_of_getElem? (i := 1) rfl)) e0 (g := (mkF m 107 #[.val (.int p0), .val (.int ((p0 &&& (2147483647 : Int32)) % (3 : Int32))), .unset, .unset, .unset, .unset, .unset] [(.int (5 : Int32))])) rfl (hb hby at_107) rfl (by decide) (cap := 5) (by decide) (by decide) (by decide) (by decide)
      obtain ⟨b31, g31⟩ : ∃ z, z = h0.size := ⟨_, rfl⟩
      have ge_b31 : n0 ≤ b31 := Nat.le_trans (Od.1 ▸ Od.2.1) (Nat.le_of_eq g31.symm)
      rw [← g31] at A31 st31
      replace Od := Od.ext E31
      have V_b31 : Arv Z h31 b31 k31 .char (5 : Int32) [(.int (0 : Int32)), (.int (0 : Int32)), (.int (0 : Int32)), (.int (0 : Int32)), (.int (0 : Int32))] (.int (0 : Int32)) := (Arv.new A31 (by decide)).pad (pad_rep [] (.int (0 : Int32)) 5)
      refine OEnds.via (fun _ k => st31 _ k) ?_
      show OEnds p e below s _ _ _ (T31.setTop (mkF m 109 #[.val (.int p0), .val (.int ((p0 &&& (2147483647 : Int32)) % (3 : Int32))), .unset, .unset, .unset, .unset, .unset] [(.ref b31)]))
      refine OEnds.via (fun _ k => XS.dup X31.here hx rfl (hb hby at_109) rfl rfl k) ?_
      show OEnds p e below s _ _ _ (T31.setTop (mkF m 110 #[.val (.int p0), .val (.int ((p0 &&& (2147483647 : Int32)) % (3 : Int32))), .unset, .unset, .unset, .unset, .unset] [(.ref b31), (.ref b31)]))
      refine OEnds.via (fun _ k => XS.iconst X31.here hx rfl (hb hby at_110) k) ?_
      show OEnds p e below s _ _ _ (T31.setTop (mkF m 111 #[.val (.int p0), .val (.int ((p0 &&& (2147483647 : Int32)) % (3 : Int32))), .unset, .unset, .unset, .unset, .unset] [(.int (0 : Int32)), (.ref b31), (.ref b31)]))
      refine OEnds.via (fun _ k => XS.bipush X31.here hx rfl (hb hby at_111) k) ?_
      show OEnds p e below s _ _ _ (T31.setTop (mkF m 113 #[.val (.int p0), .val (.int ((p0 &&& (2147483647 : Int32)) % (3 : Int32))), .unset, .unset, .unset, .unset, .unset] [(.int (102 : Int32)), (.int (0 : Int32)), (.ref b31), (.ref b31)]))
      obtain ⟨cl32, Ar32, q32, S32, M32, H32, G32⟩ := V_b31
      obtain ⟨T32, h32, X32, e32, W32, st32⟩ := stC X31 hx hZ e31 Ar32 (j := (0 : Int32)) (inb_of S32 ⟨by decide, by decide⟩) (g := (mkF m 113 #[.val (.int p0), .val (.int ((p0 &&& (2147483647 : Int32)) % (3 : Int32))), .unset, .unset, .unset, .unset, .unset] [(.int (102 : Int32)), (.int (0 : Int32)), (.ref b31), (.ref b31)])) rfl rfl (hb hby at_113)
      have V_b31 : Arv Z h32 b31 k31 .char (5 : Int32) [(.int (102 : Int32)), (.int (0 : Int32)), (.int (0 : Int32)), (.int (0 : Int32)), (.int (0 : Int32))] (.int (0 : Int32)) := Arv.set Ar32 q32 S32 M32 H32 G32 rfl W32 0 rfl (Nat.le_of_ble_eq_true rfl)
      have N32 := Fr.snoc X32 N0 ge_b31
      replace Od := Od.wr W32 ge_b31
      refine OEnds.via (fun _ k => st32 _ k) ?_
      show OEnds p e below s _ _ _ (T32.setTop (mkF m 114 #[.val (.int p0), .val (.int ((p0 &&& (2147483647 : Int32)) % (3 : Int32))), .unset, .unset, .unset, .unset, .unset] [(.ref b31)]))
      refine OEnds.via (fun _ k => XS.dup X32.here hx rfl (hb hby at_114) rfl rfl k) ?_
      show OEnds p e below s _ _ _ (T32.setTop (mkF m 115 #[.val (.int p0), .val (.int ((p0 &&& (2147483647 : Int32)) % (3 : Int32))), .unset, .unset, .unset, .unset, .unset] [(.ref b31), (.ref b31)]))
      refine OEnds.via (fun _ k => XS.iconst X32.here hx rfl (hb hby at_115) k) ?_
      show OEnds p e below s _ _ _ (T32.setTop (mkF m 116 #[.val (.int p0), .val (.int ((p0 &&& (2147483647 : Int32)) % (3 : Int32))), .unset, .unset, .unset, .unset, .unset] [(.int (1 : Int32)), (.ref b31), (.ref b31)]))
      refine OEnds.via (fun _ k => XS.bipush X32.here hx rfl (hb hby at_116) k) ?_
      show OEnds p e below s _ _ _ (T32.setTop (mkF m 118 #[.val (.int p0), .val (.int ((p0 &&& (2147483647 : Int32)) % (3 : Int32))), .unset, .unset, .unset, .unset, .unset] [(.int (105 : Int32)), (.int (1 : Int32)), (.ref b31), (.ref b31)]))
      obtain ⟨cl33, Ar33, q33, S33, M33, H33, G33⟩ := V_b31
      obtain ⟨T33, h33, X33, e33, W33, st33⟩ := stC X32 hx hZ e32 Ar33 (j := (1 : Int32)) (inb_of S33 ⟨by decide, by decide⟩) (g := (mkF m 118 #[.val (.int p0), .val (.int ((p0 &&& (2147483647 : Int32)) % (3 : Int32))), .unset, .unset, .unset, .unset, .unset] [(.int (105 : Int32)), (.int (1 : Int32)), (.ref b31), (.ref b31)])) rfl rfl (hb hby at_118)
      have V_b31 : Arv Z h33 b31 k31 .char (5 : Int32) [(.int (102 : Int32)), (.int (105 : Int32)), (.int (0 : Int32)), (.int (0 : Int32)), (.int (0 : Int32))] (.int (0 : Int32)) := Arv.set Ar33 q33 S33 M33 H33 G33 rfl W33 1 rfl (Nat.le_of_ble_eq_true rfl)
      have N33 := Fr.snoc X33 N32 ge_b31
      replace Od := Od.wr W33 ge_b31
      refine OEnds.via (fun _ k => st33 _ k) ?_
      show OEnds p e below s _ _ _ (T33.setTop (mkF m 119 #[.val (.int p0), .val (.int ((p0 &&& (2147483647 : Int32)) % (3 : Int32))), .unset, .unset, .unset, .unset, .unset] [(.ref b31)]))
      refine OEnds.via (fun _ k => XS.dup X33.here hx rfl (hb hby at_119) rfl rfl k) ?_
      show OEnds p e below s _ _ _ (T33.setTop (mkF m 120 #[.val (.int p0), .val (.int ((p0 &&& (2147483647 : Int32)) % (3 : Int32))), .unset, .unset, .unset, .unset, .unset] [(.ref b31), (.ref b31)]))
      refine OEnds.via (fun _ k => XS.iconst X33.here hx rfl (hb hby at_120) k) ?_
      show OEnds p e below s _ _ _ (T33.setTop (mkF m 121 #[.val (.int p0), .val (.int ((p0 &&& (2147483647 : Int32)) % (3 : Int32))), .unset, .unset, .unset, .unset, .unset] [(.int (2 : Int32)), (.ref b31), (.ref b31)]))
      refine OEnds.via (fun _ k => XS.bipush X33.here hx rfl (hb hby at_121) k) ?_
      show OEnds p e below s _ _ _ (T33.setTop (mkF m 123 #[.val (.int p0), .val (.int ((p0 &&& (2147483647 : Int32)) % (3 : Int32))), .unset, .unset, .unset, .unset, .unset] [(.int (120 : Int32)), (.int (2 : Int32)), (.ref b31), (.ref b31)]))
      obtain ⟨cl34, Ar34, q34, S34, M34, H34, G34⟩ := V_b31
      obtain ⟨T34, h34, X34, e34, W34, st34⟩ := stC X33 hx hZ e33 Ar34 (j := (2 : Int32)) (inb_of S34 ⟨by decide, by decide⟩) (g := (mkF m 123 #[.val (.int p0), .val (.int ((p0 &&& (2147483647 : Int32)) % (3 : Int32))), .unset, .unset, .unset, .unset, .unset] [(.int (120 : Int32)), (.int (2 : Int32)), (.ref b31), (.ref b31)])) rfl rfl (hb hby at_123)
      have V_b31 : Arv Z h34 b31 k31 .char (5 : Int32) [(.int (102 : Int32)), (.int (105 : Int32)), (.int (120 : Int32)), (.int (0 : Int32)), (.int (0 : Int32))] (.int (0 : Int32)) := Arv.set Ar34 q34 S34 M34 H34 G34 rfl W34 2 rfl (Nat.le_of_ble_eq_true rfl)
      have N34 := Fr.snoc X34 N33 ge_b31
      replace Od := Od.wr W34 ge_b31
      refine OEnds.via (fun _ k => st34 _ k) ?_
      show OEnds p e below s _ _ _ (T34.setTop (mkF m 124 #[.val (.int p0), .val (.int ((p0 &&& (2147483647 : Int32)) % (3 : Int32))), .unset, .unset, .unset, .unset, .unset] [(.ref b31)]))
      refine OEnds.via (fun _ k => XS.dup X34.here hx rfl (hb hby at_124) rfl rfl k) ?_
      show OEnds p e below s _ _ _ (T34.setTop (mkF m 125 #[.val (.int p0), .val (.int ((p0 &&& (2147483647 : Int32)) % (3 : Int32))), .unset, .unset, .unset, .unset, .unset] [(.ref b31), (.ref b31)]))
      refine OEnds.via (fun _ k => XS.iconst X34.here hx rfl (hb hby at_125) k) ?_
      show OEnds p e below s _ _ _ (T34.setTop (mkF m 126 #[.val (.int p0), .val (.int ((p0 &&& (2147483647 : Int32)) % (3 : Int32))), .unset, .unset, .unset, .unset, .unset] [(.int (3 : Int32)), (.ref b31), (.ref b31)]))
      refine OEnds.via (fun _ k => XS.bipush X34.here hx rfl (hb hby at_126) k) ?_
      show OEnds p e below s _ _ _ (T34.setTop (mkF m 128 #[.val (.int p0), .val (.int ((p0 &&& (2147483647 : Int32)) % (3 : Int32))), .unset, .unset, .unset, .unset, .unset] [(.int (101 : Int32)), (.int (3 : Int32)), (.ref b31), (.ref b31)]))
      obtain ⟨cl35, Ar35, q35, S35, M35, H35, G35⟩ := V_b31
      obtain ⟨T35, h35, X35, e35, W35, st35⟩ := stC X34 hx hZ e34 Ar35 (j := (3 : Int32)) (inb_of S35 ⟨by decide, by decide⟩) (g := (mkF m 128 #[.val (.int p0), .val (.int ((p0 &&& (2147483647 : Int32)) % (3 : Int32))), .unset, .unset, .unset, .unset, .unset] [(.int (101 : Int32)), (.int (3 : Int32)), (.ref b31), (.ref b31)])) rfl rfl (hb hby at_128)
      have V_b31 : Arv Z h35 b31 k31 .char (5 : Int32) [(.int (102 : Int32)), (.int (105 : Int32)), (.int (120 : Int32)), (.int (101 : Int32)), (.int (0 : Int32))] (.int (0 : Int32)) := Arv.set Ar35 q35 S35 M35 H35 G35 rfl W35 3 rfl (Nat.le_of_ble_eq_true rfl)
      have N35 := Fr.snoc X35 N34 ge_b31
      replace Od := Od.wr W35 ge_b31
      refine OEnds.via (fun _ k => st35 _ k) ?_
      show OEnds p e below s _ _ _ (T35.setTop (mkF m 129 #[.val (.int p0), .val (.int ((p0 &&& (2147483647 : Int32)) % (3 : Int32))), .unset, .unset, .unset, .unset, .unset] [(.ref b31)]))
      refine OEnds.via (fun _ k => XS.dup X35.here hx rfl (hb hby at_129) rfl rfl k) ?_
      show OEnds p e below s _ _ _ (T35.setTop (mkF m 130 #[.val (.int p0), .val (.int ((p0 &&& (2147483647 : Int32)) % (3 : Int32))), .unset, .unset, .unset, .unset, .unset] [(.ref b31), (.ref b31)]))
      refine OEnds.via (fun _ k => XS.iconst X35.here hx rfl (hb hby at_130) k) ?_
      show OEnds p e below s _ _ _ (T35.setTop (mkF m 131 #[.val (.int p0), .val (.int ((p0 &&& (2147483647 : Int32)) % (3 : Int32))), .unset, .unset, .unset, .unset, .unset] [(.int (4 : Int32)), (.ref b31), (.ref b31)]))
      refine OEnds.via (fun _ k => XS.bipush X35.here hx rfl (hb hby at_131) k) ?_
      show OEnds p e below s _ _ _ (T35.setTop (mkF m 133 #[.val (.int p0), .val (.int ((p0 &&& (2147483647 : Int32)) % (3 : Int32))), .unset, .unset, .unset, .unset, .unset] [(.int (100 : Int32)), (.int (4 : Int32)), (.ref b31), (.ref b31)]))
      obtain ⟨cl36, Ar36, q36, S36, M36, H36, G36⟩ := V_b31
      obtain ⟨T36, h36, X36, e36, W36, st36⟩ := stC X35 hx hZ e35 Ar36 (j := (4 : Int32)) (inb_of S36 ⟨by decide, by decide⟩) (g := (mkF m 133 #[.val (.int p0), .val (.int ((p0 &&& (2147483647 : Int32)) % (3 : Int32))), .unset, .unset, .unset, .unset, .unset] [(.int (100 : Int32)), (.int (4 : Int32)), (.ref b31), (.ref b31)])) rfl rfl (hb hby at_133)
      have V_b31 : Arv Z h36 b31 k31 .char (5 : Int32) [(.int (102 : Int32)), (.int (105 : Int32)), (.int (120 : Int32)), (.int (101 : Int32)), (.int (100 : Int32))] (.int (0 : Int32)) := Arv.set Ar36 q36 S36 M36 H36 G36 rfl W36 4 rfl (Nat.le_of_ble_eq_true rfl)
      have N36 := Fr.snoc X36 N35 ge_b31
      replace Od := Od.wr W36 ge_b31
      refine OEnds.via (fun _ k => st36 _ k) ?_
      show OEnds p e below s _ _ _ (T36.setTop (mkF m 134 #[.val (.int p0), .val (.int ((p0 &&& (2147483647 : Int32)) % (3 : Int32))), .unset, .unset, .unset, .unset, .unset] [(.ref b31)]))
      refine OEnds.via (fun _ k => XS.astoreN X36.here hx rfl (hb hby at_134) rfl rfl (l' := #[.val (.int p0), .val (.int ((p0 &&& (2147483647 : Int32)) % (3 : Int32))), .val (.ref b31), .unset, .unset, .unset, .unset]) rfl k) ?_
      show OEnds p e below s _ _ _ (T36.setTop (mkF m 135 #[.val (.int p0), .val (.int ((p0 &&& (2147483647 : Int32)) % (3 : Int32))), .val (.ref b31), .unset, .unset, .unset, .unset] []))
      obtain ⟨T37, X37, e37, st37⟩ := getS2 X36 hx hZ hown (host := "") (Or.inl (hw _ (List.mem_of_getElem? (i := 79) rfl))) Via.refl e36 (Sta.ext Od.2 S_FIXED) (g := (mkF m 135 #[.val (.int p0), .val (.int ((p0 &&& (2147483647 : Int32)) % (3 : Int32))), .val (.ref b31), .unset, .unset, .unset, .unset] [])) rfl (hb hby at_135)
      refine OEnds.via (fun _ k => st37 _ k) ?_
      show OEnds p e below s _ _ _ (T37.setTop (mkF m 138 #[.val (.int p0), .val (.int ((p0 &&& (2147483647 : Int32)) % (3 : Int32))), .val (.ref b31), .unset, .unset, .unset, .unset] [(.ref a_FIXED)]))
      refine OEnds.via (fun _ k => XS.astoreN X37.here hx rfl (hb hby at_138) rfl rfl (l' := #[.val (.int p0), .val (.int ((p0 &&& (2147483647 : Int32)) % (3 : Int32))), .val (.ref b31), .val (.ref a_FIXED), .unset, .unset, .unset]) rfl k) ?_
      show OEnds p e below s _ _ _ (T37.setTop (mkF m 139 #[.val (.int p0), .val (.int ((p0 &&& (2147483647 : Int32)) % (3 : Int32))), .val (.ref b31), .val (.ref a_FIXED), .unset, .unset, .unset] []))
      refine OEnds.via (fun _ k => XS.iconst X37.here hx rfl (hb hby at_139) k) ?_
      show OEnds p e below s _ _ _ (T37.setTop (mkF m 140 #[.val (.int p0), .val (.int ((p0 &&& (2147483647 : Int32)) % (3 : Int32))), .val (.ref b31), .val (.ref a_FIXED), .unset, .unset, .unset] [(.int (0 : Int32))]))
      refine OEnds.via (fun _ k => XS.istore X37.here hx rfl (hb hby at_140) rfl (l' := #[.val (.int p0), .val (.int ((p0 &&& (2147483647 : Int32)) % (3 : Int32))), .val (.ref b31), .val (.ref a_FIXED), .val (.int (0 : Int32)), .unset, .unset]) rfl k) ?_
      show OEnds p e below s _ _ _ (T37.setTop (mkF m 142 #[.val (.int p0), .val (.int ((p0 &&& (2147483647 : Int32)) % (3 : Int32))), .val (.ref b31), .val (.ref a_FIXED), .val (.int (0 : Int32)), .unset, .unset] []))
      obtain ⟨T38, h38, X38, e38, E38, A38, D38, -, st38⟩ := newO X37 hx hZ hown (hw _ (List.mem_of_getElem? (i := 5) rfl)) (hw _ (List.mem_of_getElem? (i := 6) rfl)) (hw _ (List.mem_of_getElem? (i := 7) rfl)) e37 (g := (mkF m 142 #[.val (.int p0), .val (.int ((p0 &&& (2147483647 : Int32)) % (3 : Int32))), .val (.ref b31), .val (.ref a_FIXED), .val (.int (0 : Int32)), .unset, .unset] [])) rfl (hb hby at_142) (by decide) (by decide)
      obtain ⟨b38, g38⟩ : ∃ z, z = h36.size := ⟨_, rfl⟩
      have ne_b31_b38 : b31 ≠ b38 := Nat.ne_of_lt (Nat.lt_of_lt_of_le V_b31.lt (Nat.le_of_eq g38.symm))
      have ge_b38 : n0 ≤ b38 := Nat.le_trans (Od.1 ▸ Od.2.1) (Nat.le_of_eq g38.symm)
      rw [← g38] at A38 D38 st38
      replace Od := Od.ext E38
      replace V_b31 := V_b31.ext E38
      have E_b38 : Exa Z h38 b38 "java/lang/String" := A38
      have F_coder_b38 : Fld Z h38 b38 "java/lang/String" "coder" "B" (.int (0 : Int32)) := D38 (Or.inr (hw _ (List.mem_of_getElem? (i := 31) rfl))) (ty := .byte) (by decide)
      have F_value_b38 : Fld Z h38 b38 "java/lang/String" "value" "[B" .null := D38 (Or.inr (hw _ (List.mem_of_getElem? (i := 33) rfl))) (ty := (.array .byte)) (by decide)
      refine OEnds.via (fun _ k => st38 _ k) ?_
      show OEnds p e below s _ _ _ (T38.setTop (mkF m 145 #[.val (.int p0), .val (.int ((p0 &&& (2147483647 : Int32)) % (3 : Int32))), .val (.ref b31), .val (.ref a_FIXED), .val (.int (0 : Int32)), .unset, .unset] [(.ref b38)]))
      refine OEnds.via (fun _ k => XS.dup X38.here hx rfl (hb hby at_145) rfl rfl k) ?_
      show OEnds p e below s _ _ _ (T38.setTop (mkF m 146 #[.val (.int p0), .val (.int ((p0 &&& (2147483647 : Int32)) % (3 : Int32))), .val (.ref b31), .val (.ref a_FIXED), .val (.int (0 : Int32)), .unset, .unset] [(.ref b38), (.ref b38)]))
      refine OEnds.via (fun _ k => XS.aloadN X38.here hx rfl (hb hby at_146) rfl rfl k) ?_
      show OEnds p e below s _ _ _ (T38.setTop (mkF m 147 #[.val (.int p0), .val (.int ((p0 &&& (2147483647 : Int32)) % (3 : Int32))), .val (.ref b31), .val (.ref a_FIXED), .val (.int (0 : Int32)), .unset, .unset] [(.ref b31), (.ref b38), (.ref b38)]))
      obtain ⟨cs_b38, hcs_b38⟩ : ∃ cs : List Int32, cs = [(102 : Int32), (105 : Int32), (120 : Int32), (101 : Int32), (100 : Int32)] := ⟨_, rfl⟩
      have hp_b38 : ∀ c ∈ cs_b38, ¬ c < 0 ∧ ¬ (255 : Int32) < c := (by rw [hcs_b38]; decide)
      have hl_b38 : cs_b38.length = 5 := by rw [hcs_b38]; rfl
      have Kc_b38 : Arv Z h38 b31 k31 .char (5 : Int32) (cs_b38.map Value.int) (.int (0 : Int32)) := by rw [hcs_b38]; exact V_b31
      obtain ⟨_, _, ⟨T39, L39, k39, n39⟩, -, X39, ⟨Lc39, hQ39, l39, y39, z39⟩, st39⟩ := X38.specialBack hx (y := (⟨"java/lang/String", "<init>", "([C)V"⟩ : MethodName)) rfl hown (mvT hZ (hw _ (List.mem_of_getElem? (i := 8) rfl))) (mvT hZ (hw _ (List.mem_of_getElem? (i := 9) rfl))) (mvT hZ (hw _ (List.mem_of_getElem? (i := 10) rfl))) (by decide) (StrChars.Road.backV (W := 1) hZ hws (kI := 4) (hw _ (List.mem_of_getElem? (i := 6) rfl)) (cs := cs_b38) (bs := cs_b38.map (fun c => c.toInt8.toInt32)) (n := 5) ge_b38 (Od.1 ▸ Od.2.1) E_b38 F_value_b38 F_coder_b38 Kc_b38 (Sta.ext Od.2 S_CS) nz_CS hl_b38 rfl (by decide) (by decide) hp_b38 rfl (by decide) (by decide)) (g := (mkF m 147 #[.val (.int p0), .val (.int ((p0 &&& (2147483647 : Int32)) % (3 : Int32))), .val (.ref b31), .val (.ref a_FIXED), .val (.int (0 : Int32)), .unset, .unset] [(.ref b31), (.ref b38), (.ref b38)])) rfl (by rw [hml]; rfl) (Steps.refl _) (a := b38) (argsL := [(.ref b31)]) (rest := [(.ref b38)]) (lenOf pd_285bC29V rfl) rfl (by show 2 * 0 + _ ≤ _; exact Nat.le_of_eq rfl) (hb hby at_147) (fun _ _ => ⟨rfl, e38, Nat.le_of_ble_eq_true rfl, Nat.le_of_ble_eq_true rfl⟩)
      dsimp only [Pt.U, Pt.locs, Pt.cells, Pt.slots] at X39 l39 y39 z39 st39 hQ39
      subst l39 y39 z39
      obtain ⟨rfl, N39q, K39, -, C_b38, t_b38, kb_b38, ge_t_b38, sz_t_b38, ntx_b38, V_b38, K_b38⟩ := hQ39
      have ne_b31_t_b38 : b31 ≠ t_b38 := Nat.ne_of_lt (Nat.lt_of_lt_of_le V_b31.lt sz_t_b38)
      have ne_b38_t_b38 : b38 ≠ t_b38 := Nat.ne_of_lt (Nat.lt_of_lt_of_le E_b38.lt sz_t_b38)
      have N39 := Fr.app N36 N39q
      replace Od := Od.keep K39 (allS ge_b38 all0)
      replace V_b31 := V_b31.keep K39 (ninS ne_b31_b38 nin0)
      replace E_b38 := E_b38.keep K39
      have hcd_b38 : StrChars.Road.CodA cs_b38 0 (5 : Int32) ((cs_b38.map (fun c => c.toInt8.toInt32)).map Value.int) := StrChars.Road.codOf (n := 5) hl_b38 (fun c hc => (hp_b38 c hc).2)
      have hbd_b38 := own_up _ hp_b38
      refine OEnds.via (fun _ k => st39.trans k) ?_
      show OEnds p e below s _ _ _ (T39.setTop (mkF m 150 #[.val (.int p0), .val (.int ((p0 &&& (2147483647 : Int32)) % (3 : Int32))), .val (.ref b31), .val (.ref a_FIXED), .val (.int (0 : Int32)), .unset, .unset] [(.ref b38)]))
      refine OEnds.via (fun _ k => XS.astore X39.here hx rfl (hb hby at_150) rfl rfl (l' := #[.val (.int p0), .val (.int ((p0 &&& (2147483647 : Int32)) % (3 : Int32))), .val (.ref b31), .val (.ref a_FIXED), .val (.int (0 : Int32)), .val (.ref b38), .unset]) rfl k) ?_
      show OEnds p e below s _ _ _ (T39.setTop (mkF m 152 #[.val (.int p0), .val (.int ((p0 &&& (2147483647 : Int32)) % (3 : Int32))), .val (.ref b31), .val (.ref a_FIXED), .val (.int (0 : Int32)), .val (.ref b38), .unset] []))
      refine OEnds.via (fun _ k => XS.aload X39.here hx rfl (hb hby at_152) rfl rfl k) ?_
      show OEnds p e below s _ _ _ (T39.setTop (mkF m 154 #[.val (.int p0), .val (.int ((p0 &&& (2147483647 : Int32)) % (3 : Int32))), .val (.ref b31), .val (.ref a_FIXED), .val (.int (0 : Int32)), .val (.ref b38), .unset] [(.ref b38)]))
      obtain ⟨_, _, ⟨T40, L40, k40, n40⟩, -, X40, ⟨Lc40, hQ40, l40, y40, z40⟩, st40⟩ := Jvm.LawKit.callS X39 hx (y := (⟨"com/example/amber_gate/ambergate/Algorithm", "named", "(Ljava/lang/String;)Lcom/example/amber_gate/ambergate/Algorithm;"⟩ : MethodName)) hown (mvT hZ (hw _ (List.mem_of_getElem? (i := 34) rfl))) (mvT hZ (hw _ (List.mem_of_getElem? (i := 35) rfl))) (mvT hZ (hw _ (List.mem_of_getElem? (i := 3) rfl))) (mvT hZ (hw _ (List.mem_of_getElem? (i := 36) rfl))) (by decide) (backOf (W := 0) (rmN2 l Z a0 hw [] b38 t_b38 kb_b38 a_EXACT a_SLIDING a_FIXED t_EXACT t_SLIDING t_FIXED tv_EXACT tv_SLIDING tv_FIXED kt_EXACT kt_SLIDING kt_FIXED va kA G1 T39.heap n0 Od E_b38 V_b38 C_b38 (by rw [hcs_b38] at K_b38; exact K_b38) S_CS nz_CS S_V AV EV Et_EXACT Vt_EXACT Ct_EXACT Kt_EXACT Ft_EXACT Et_SLIDING Vt_SLIDING Ct_SLIDING Kt_SLIDING Ft_SLIDING Et_FIXED Vt_FIXED Ct_FIXED Kt_FIXED Ft_FIXED) hZ (hw _ (List.mem_of_getElem? (i := 36) rfl)) (hw _ (List.mem_of_getElem? (i := 3) rfl)) (by decide) (by decide)) (g := (mkF m 154 #[.val (.int p0), .val (.int ((p0 &&& (2147483647 : Int32)) % (3 : Int32))), .val (.ref b31), .val (.ref a_FIXED), .val (.int (0 : Int32)), .val (.ref b38), .unset] [(.ref b38)])) rfl (by rw [hml]; rfl) (argsL := [(.ref b38)]) (rest := []) (lenOf pd_28Ljava2flang2fString3b29Lcom2fexample2famber_gate2fambergate2fAlgorithm3b rfl) rfl (by show 2 * 0 + _ ≤ _; exact Nat.le_of_eq rfl) (hb hby at_154) (fun _ _ => ⟨rfl, rfl, Nat.le_of_ble_eq_true rfl, Nat.le_of_ble_eq_true rfl⟩)
      dsimp only [Pt.U, Pt.locs, Pt.cells, Pt.slots] at X40 l40 y40 z40 st40 hQ40
      subst l40 y40 z40
      obtain ⟨rfl, N40q, K40⟩ := hQ40
      have N40 := Fr.app N39 N40q
      replace Od := Od.keep K40 all0
      replace V_b31 := V_b31.keep K40 nin0
      replace E_b38 := E_b38.keep K40
      replace C_b38 := C_b38.keep K40 nin0
      replace V_b38 := V_b38.keep K40 nin0
      replace K_b38 := K_b38.keep K40 nin0
      refine OEnds.via (fun _ k => st40 _ k) ?_
      show OEnds p e below s _ _ _ (T40.setTop (mkF m 157 #[.val (.int p0), .val (.int ((p0 &&& (2147483647 : Int32)) % (3 : Int32))), .val (.ref b31), .val (.ref a_FIXED), .val (.int (0 : Int32)), .val (.ref b38), .unset] [(.ref a_FIXED)]))
      refine OEnds.via (fun _ k => XS.astore X40.here hx rfl (hb hby at_157) rfl rfl (l' := #[.val (.int p0), .val (.int ((p0 &&& (2147483647 : Int32)) % (3 : Int32))), .val (.ref b31), .val (.ref a_FIXED), .val (.int (0 : Int32)), .val (.ref b38), .val (.ref a_FIXED)]) rfl k) ?_
      show OEnds p e below s _ _ _ (T40.setTop (mkF m 159 #[.val (.int p0), .val (.int ((p0 &&& (2147483647 : Int32)) % (3 : Int32))), .val (.ref b31), .val (.ref a_FIXED), .val (.int (0 : Int32)), .val (.ref b38), .val (.ref a_FIXED)] []))
      refine OEnds.via (fun _ k => XS.aload X40.here hx rfl (hb hby at_159) rfl rfl k) ?_
      show OEnds p e below s _ _ _ (T40.setTop (mkF m 161 #[.val (.int p0), .val (.int ((p0 &&& (2147483647 : Int32)) % (3 : Int32))), .val (.ref b31), .val (.ref a_FIXED), .val (.int (0 : Int32)), .val (.ref b38), .val (.ref a_FIXED)] [(.ref a_FIXED)]))
      refine OEnds.via (fun _ k => XS.aloadN X40.here hx rfl (hb hby at_161) rfl rfl k) ?_
      show OEnds p e below s _ _ _ (T40.setTop (mkF m 162 #[.val (.int p0), .val (.int ((p0 &&& (2147483647 : Int32)) % (3 : Int32))), .val (.ref b31), .val (.ref a_FIXED), .val (.int (0 : Int32)), .val (.ref b38), .val (.ref a_FIXED)] [(.ref a_FIXED), (.ref a_FIXED)]))
      refine OEnds.via (fun _ k => Jvm.RoadKit.acmp (g := (mkF m 162 #[.val (.int p0), .val (.int ((p0 &&& (2147483647 : Int32)) % (3 : Int32))), .val (.ref b31), .val (.ref a_FIXED), .val (.int (0 : Int32)), .val (.ref b38), .val (.ref a_FIXED)] [(.ref a_FIXED), (.ref a_FIXED)])) X40 hx rfl rfl rfl (pc0 := 162) (pc' := 167) (same := true) rfl (hb hby at_162) rfl (decide_eq_true rfl) (by decide) (by decide) k) ?_
      show OEnds p e below s _ _ _ (T40.setTop (mkF m 167 #[.val (.int p0), .val (.int ((p0 &&& (2147483647 : Int32)) % (3 : Int32))), .val (.ref b31), .val (.ref a_FIXED), .val (.int (0 : Int32)), .val (.ref b38), .val (.ref a_FIXED)] []))
      refine OEnds.via (fun _ k => XS.aload X40.here hx rfl (hb hby at_167) rfl rfl k) ?_
      show OEnds p e below s _ _ _ (T40.setTop (mkF m 169 #[.val (.int p0), .val (.int ((p0 &&& (2147483647 : Int32)) % (3 : Int32))), .val (.ref b31), .val (.ref a_FIXED), .val (.int (0 : Int32)), .val (.ref b38), .val (.ref a_FIXED)] [(.ref a_FIXED)]))
      obtain ⟨cq41, kq41, q41a, q41b, q41c⟩ := isOf hZ rfl (Exa.ext Od.2 E_FIXED)
      obtain ⟨_, _, ⟨T41, L41, k41, n41⟩, -, X41, ⟨Lc41, hQ41, l41, y41, z41⟩, st41⟩ := X40.virtualBack hx (y := (⟨"com/example/amber_gate/ambergate/Algorithm", "splitsWindow", "()Z"⟩ : MethodName)) (z := (⟨"com/example/amber_gate/ambergate/Algorithm", "splitsWindow", "()Z"⟩ : MethodName)) hown (mvT hZ (hw _ (List.mem_of_getElem? (i := 66) rfl))) (mvT hZ (hw _ (List.mem_of_getElem? (i := 67) rfl))) (notFace_of_selects (args := #[]) (mvT hZ (hw _ (List.mem_of_getElem? (i := 69) rfl)))) (mvT hZ (hw _ (List.mem_of_getElem? (i := 69) rfl))) (mvT hZ (hw _ (List.mem_of_getElem? (i := 68) rfl))) (by decide) (backOf (W := 0) (rmS l Z a0 hw [] a_FIXED (0 : Int32) T40.heap n0 Od Fs_FIXED (by decide)) hZ (hw _ (List.mem_of_getElem? (i := 70) rfl)) (hw _ (List.mem_of_getElem? (i := 3) rfl)) (by decide) (by decide)) q41a q41c (g := (mkF m 169 #[.val (.int p0), .val (.int ((p0 &&& (2147483647 : Int32)) % (3 : Int32))), .val (.ref b31), .val (.ref a_FIXED), .val (.int (0 : Int32)), .val (.ref b38), .val (.ref a_FIXED)] [(.ref a_FIXED)])) rfl (by rw [hml]; rfl) (Steps.refl _) (argsL := []) (rest := []) (lenOf pd_2829Z rfl) rfl (by show 2 * 0 + _ ≤ _; exact Nat.le_of_eq rfl) (hb hby at_169) (fun _ _ => ⟨rfl, rfl, Nat.le_of_ble_eq_true rfl, Nat.le_of_ble_eq_true rfl⟩)
      dsimp only [Pt.U, Pt.locs, Pt.cells, Pt.slots] at X41 l41 y41 z41 st41 hQ41
      subst l41 y41 z41
      obtain ⟨rfl, N41q, e41⟩ := hQ41
      have N41 := Fr.app N40 N41q
      refine OEnds.via (fun _ k => st41.trans k) ?_
      show OEnds p e below s _ _ _ (T41.setTop (mkF m 172 #[.val (.int p0), .val (.int ((p0 &&& (2147483647 : Int32)) % (3 : Int32))), .val (.ref b31), .val (.ref a_FIXED), .val (.int (0 : Int32)), .val (.ref b38), .val (.ref a_FIXED)] [(.int (0 : Int32))]))
      refine OEnds.via (fun _ k => XS.iload X41.here hx rfl (hb hby at_172) rfl k) ?_
      show OEnds p e below s _ _ _ (T41.setTop (mkF m 174 #[.val (.int p0), .val (.int ((p0 &&& (2147483647 : Int32)) % (3 : Int32))), .val (.ref b31), .val (.ref a_FIXED), .val (.int (0 : Int32)), .val (.ref b38), .val (.ref a_FIXED)] [(.int (0 : Int32)), (.int (0 : Int32))]))
      refine OEnds.via (fun _ k => XS.icmpYes X41.here hx rfl (pc0 := 174) (pc' := 179) rfl (hb hby at_174) rfl (teq (by decide : (0 : Int32) = (0 : Int32))).1 (by decide) (by decide) k) ?_
      show OEnds p e below s _ _ _ (T41.setTop (mkF m 179 #[.val (.int p0), .val (.int ((p0 &&& (2147483647 : Int32)) % (3 : Int32))), .val (.ref b31), .val (.ref a_FIXED), .val (.int (0 : Int32)), .val (.ref b38), .val (.ref a_FIXED)] []))
      refine OEnds.via (fun _ k => XS.aload X41.here hx rfl (hb hby at_179) rfl rfl k) ?_
      show OEnds p e below s _ _ _ (T41.setTop (mkF m 181 #[.val (.int p0), .val (.int ((p0 &&& (2147483647 : Int32)) % (3 : Int32))), .val (.ref b31), .val (.ref a_FIXED), .val (.int (0 : Int32)), .val (.ref b38), .val (.ref a_FIXED)] [(.ref b38)]))
      refine OEnds.via (fun _ k => XS.aload X41.here hx rfl (hb hby at_181) rfl rfl k) ?_
      show OEnds p e below s _ _ _ (T41.setTop (mkF m 183 #[.val (.int p0), .val (.int ((p0 &&& (2147483647 : Int32)) % (3 : Int32))), .val (.ref b31), .val (.ref a_FIXED), .val (.int (0 : Int32)), .val (.ref b38), .val (.ref a_FIXED)] [(.ref a_FIXED), (.ref b38)]))
      obtain ⟨cq42, kq42, q42a, q42b, q42c⟩ := isOf hZ e41 (Exa.ext Od.2 E_FIXED)
      obtain ⟨_, _, ⟨T42, L42, k42, n42⟩, -, X42, ⟨Lc42, hQ42, l42, y42, z42⟩, st42⟩ := X41.virtualBack hx (y := (⟨"com/example/amber_gate/ambergate/Algorithm", "toString", "()Ljava/lang/String;"⟩ : MethodName)) (z := (⟨"com/example/amber_gate/ambergate/Algorithm", "toString", "()Ljava/lang/String;"⟩ : MethodName)) hown (mvT hZ (hw _ (List.mem_of_getElem? (i := 73) rfl))) (mvT hZ (hw _ (List.mem_of_getElem? (i := 74) rfl))) (notFace_of_selects (args := #[]) (mvT hZ (hw _ (List.mem_of_getElem? (i := 76) rfl)))) (mvT hZ (hw _ (List.mem_of_getElem? (i := 76) rfl))) (mvT hZ (hw _ (List.mem_of_getElem? (i := 75) rfl))) (by decide) (backOf (W := 1) (rmT l Z a0 hw [] a_FIXED t_FIXED T40.heap n0 Od Ft_FIXED) hZ (hw _ (List.mem_of_getElem? (i := 77) rfl)) (hw _ (List.mem_of_getElem? (i := 3) rfl)) (by decide) (by decide)) q42a q42c (g := (mkF m 183 #[.val (.int p0), .val (.int ((p0 &&& (2147483647 : Int32)) % (3 : Int32))), .val (.ref b31), .val (.ref a_FIXED), .val (.int (0 : Int32)), .val (.ref b38), .val (.ref a_FIXED)] [(.ref a_FIXED), (.ref b38)])) rfl (by rw [hml]; rfl) (Steps.refl _) (argsL := []) (rest := [(.ref b38)]) (lenOf pd_2829Ljava2flang2fString3b rfl) rfl (by show 2 * 0 + _ ≤ _; exact Nat.le_of_eq rfl) (hb hby at_183) (fun _ _ => ⟨rfl, e41, Nat.le_of_ble_eq_true rfl, Nat.le_of_ble_eq_true rfl⟩)
      dsimp only [Pt.U, Pt.locs, Pt.cells, Pt.slots] at X42 l42 y42 z42 st42 hQ42
      subst l42 y42 z42
      obtain ⟨rfl, N42q, e42⟩ := hQ42
      have N42 := Fr.app N41 N42q
      refine OEnds.via (fun _ k => st42.trans k) ?_
      show OEnds p e below s _ _ _ (T42.setTop (mkF m 186 #[.val (.int p0), .val (.int ((p0 &&& (2147483647 : Int32)) % (3 : Int32))), .val (.ref b31), .val (.ref a_FIXED), .val (.int (0 : Int32)), .val (.ref b38), .val (.ref a_FIXED)] [(.ref t_FIXED), (.ref b38)]))
      obtain ⟨cq43, kq43, q43a, q43b, q43c⟩ := isOf hZ e42 E_b38
      obtain ⟨_, _, ⟨T43, L43, k43, n43⟩, -, X43, ⟨Lc43, hQ43, l43, y43, z43⟩, st43⟩ := X42.virtualBack hx (y := (⟨"java/lang/String", "equals", "(Ljava/lang/Object;)Z"⟩ : MethodName)) (z := (⟨"java/lang/String", "equals", "(Ljava/lang/Object;)Z"⟩ : MethodName)) hown (mvT hZ (hw _ (List.mem_of_getElem? (i := 78) rfl))) (mvT hZ (hw _ (List.mem_of_getElem? (i := 57) rfl))) (notFace_of_selects (args := #[]) (mvT hZ (hw _ (List.mem_of_getElem? (i := 59) rfl)))) (mvT hZ (hw _ (List.mem_of_getElem? (i := 59) rfl))) (mvT hZ (hw _ (List.mem_of_getElem? (i := 58) rfl))) (by decide) (StrChars.Road.eqW (W := 0) hZ heq (kI := 4) (hw _ (List.mem_of_getElem? (i := 6) rfl)) E_b38 V_b38 C_b38 K_b38 hcd_b38 hbd_b38 (by rw [hl_b38]; decide) (Exa.ext Od.2 Et_FIXED) (Fld.ext Od.2 Vt_FIXED) (Fld.ext Od.2 Ct_FIXED) (Kt_FIXED.ext Od.2) hcd_t_FIXED hbd_t_FIXED (by decide) (Sta.ext Od.2 S_CS) nz_CS (by decide) (by decide)) q43a q43c (g := (mkF m 186 #[.val (.int p0), .val (.int ((p0 &&& (2147483647 : Int32)) % (3 : Int32))), .val (.ref b31), .val (.ref a_FIXED), .val (.int (0 : Int32)), .val (.ref b38), .val (.ref a_FIXED)] [(.ref t_FIXED), (.ref b38)])) rfl (by rw [hml]; rfl) (Steps.refl _) (argsL := [(.ref t_FIXED)]) (rest := []) (lenOf pd_28Ljava2flang2fObject3b29Z rfl) rfl (by show 2 * 0 + _ ≤ _; exact Nat.le_of_eq rfl) (hb hby at_186) (fun _ _ => ⟨rfl, e42, Nat.le_of_ble_eq_true rfl, Nat.le_of_ble_eq_true rfl⟩)
      dsimp only [Pt.U, Pt.locs, Pt.cells, Pt.slots] at X43 l43 y43 z43 st43 hQ43
      subst l43 y43 z43
      obtain ⟨hcase43, rfl, e43⟩ := hQ43
      have N43 := Fr.app N42 (Fr.nil n0)
      have hv43 : _ = some (Value.int 1) := hcase43.elim (fun q => q.1) (fun q => absurd hcs_b38 q.2)
      subst hv43
      refine OEnds.via (fun _ k => st43.trans k) ?_
      show OEnds p e below s _ _ _ (T43.setTop (mkF m 189 #[.val (.int p0), .val (.int ((p0 &&& (2147483647 : Int32)) % (3 : Int32))), .val (.ref b31), .val (.ref a_FIXED), .val (.int (0 : Int32)), .val (.ref b38), .val (.ref a_FIXED)] [(.int (1 : Int32))]))
      refine OEnds.retN X43 hx hlk (t := .boolean) Bd.returns (by simp) (hb hby at_189) ?_ (by decide) (by decide)
      exact ⟨rfl, N43⟩
set_option maxRecDepth 65536 in
set_option maxHeartbeats 40000000 in
theorem comes_1 {Post : Tables → Env → Array Value → State → Outcome → State → Prop} (hpost : ∀ tb e args s v u, (limb_1_1.after args s (.returned v) u = true ∧ limb_1_2.after args s (.returned v) u = true ∧ True) → FrameEnd s (.returned v) u (Jvm.fieldLocs frame_1_writes args s ++ Jvm.arrayLocs frame_1_arrays args s ++ Jvm.staticLocs frame_1_statics s) 16 128 → Post tb e args s (.returned v) u) :
    ArmFor flags0 classFile x code maxLocals ret World_1 tables_1 room_1 Calls_1 rest_1 Pre_1 Post := by
  intro l hfl _ _ p e ha hc hk s m args below hf hA hF happ hP
  obtain ⟨hcalls, hrest, hpre⟩ := hP
  obtain ⟨-, -, -, hnamed, -, -, -, hat⟩ := (Spec.applies_iff hf).mp happ
  obtain ⟨hg, hn⟩ := and_e (Cond.before_iff.mp (show (Jvm.Cond.and given_1 narrow_1).before args s = true from hpre))
  obtain ⟨g1, g2⟩ := and_e hg
  obtain ⟨w0, rfl⟩ : ∃ w0 : Value, args = #[w0] := by
    have hs : args.size = 1 := by simpa [Cond.value, given_1] using g1
    obtain ⟨L⟩ := args
    match L, hs with
    | [w0], _ => exact ⟨w0, rfl⟩
  have hw := fun d (hd : d ∈ tables_1) => atoms_spec (ws := Jvm.Cond.code x code maxLocals ret :: tables_1) hat d (List.mem_cons_of_mem _ hd)
  have hfit : Fit s := fun {y c} hc i hi => by
    obtain ⟨ha, rfl⟩ := Array.getElem?_eq_some_iff.mp hc
    have q := List.all_eq_true.mp ((Array.all_eq_true_iff_forall_mem.mp hF) _ (Array.getElem_mem ha)) i (List.mem_range.mpr hi)
    simpa [Array.getElem?_eq_getElem hi] using q
  obtain ⟨hsets, hown0⟩ := atoms_of _ (rest_1_c_eq ▸ (show rest_1_c.before _ s = true from hrest))
  have hr0 := Cond.before_iff.mp hown0
  obtain ⟨i0, ei0⟩ := is_v g2
  obtain rfl : w0 = (.int i0) := Option.some.inj ei0
  obtain ⟨g3, g4⟩ := and_e hn
  obtain ⟨g5, g6⟩ := and_e g4
  obtain ⟨g7, g8⟩ := and_e g6
  obtain ⟨g9, g10⟩ := and_e g8
  obtain ⟨g11, g12⟩ := and_e g10
  obtain ⟨g13, g14⟩ := and_e g12
  obtain ⟨g15, g16⟩ := and_e g14
  obtain ⟨g17, g18⟩ := and_e g16
  obtain ⟨g19, g20⟩ := and_e g18
  obtain ⟨g21, g22⟩ := and_e g20
  obtain ⟨g23, g24⟩ := and_e g22
  obtain ⟨g25, g26⟩ := and_e g24
  obtain ⟨g27, g28⟩ := and_e g26
  obtain ⟨g29, g30⟩ := and_e g28
  obtain ⟨g31, g32⟩ := and_e g30
  obtain ⟨g33, g34⟩ := and_e g32
  obtain ⟨g35, g36⟩ := and_e g34
  obtain ⟨g37, g38⟩ := and_e g36
  obtain ⟨g39, g40⟩ := and_e g38
  obtain ⟨g41, g42⟩ := and_e g40
  obtain ⟨g43, g44⟩ := and_e g42
  obtain ⟨g45, g46⟩ := and_e g44
  obtain ⟨g47, g48⟩ := and_e g46
  obtain ⟨g49, g50⟩ := and_e g48
  obtain ⟨g51, g52⟩ := and_e g50
  obtain ⟨g53, g54⟩ := and_e g52
  obtain ⟨g55, g56⟩ := and_e g54
  obtain ⟨g57, g58⟩ := and_e g56
  obtain ⟨g59, g60⟩ := and_e g58
  obtain ⟨g61, g62⟩ := and_e g60
  obtain ⟨g63, g64⟩ := and_e g62
  obtain ⟨g65, g66⟩ := and_e g64
  obtain ⟨g67, g68⟩ := and_e g66
  obtain ⟨g69, g70⟩ := and_e g68
  obtain ⟨g71, g72⟩ := and_e g70
  obtain ⟨g73, g74⟩ := and_e g72
  obtain ⟨g75, g76⟩ := and_e g74
  obtain ⟨g77, g78⟩ := and_e g76
  obtain ⟨g79, g80⟩ := and_e g78
  obtain ⟨g81, g82⟩ := and_e g80
  obtain ⟨a_COMPACT_STRINGS, ev_a_COMPACT_STRINGS⟩ := is_v (Cond.before_iff.mp (hsets _ (List.mem_of_getElem? (i := 1) rfl)))
  have S_a_COMPACT_STRINGS : Sta s s.heap "java/lang/String" "COMPACT_STRINGS" "Z" (.int a_COMPACT_STRINGS) := Sta.start ev_a_COMPACT_STRINGS (Or.inl (hsets _ (List.mem_of_getElem? (i := 0) rfl)))
  obtain ⟨a_SIOOBE_FORMATTER, ev_a_SIOOBE_FORMATTER, rf_a_SIOOBE_FORMATTER⟩ := isR_v (Cond.before_iff.mp (hsets _ (List.mem_of_getElem? (i := 8) rfl)))
  have S_a_SIOOBE_FORMATTER : Sta s s.heap "jdk/internal/util/Preconditions" "SIOOBE_FORMATTER" "Ljava/util/function/BiFunction;" a_SIOOBE_FORMATTER := Sta.start ev_a_SIOOBE_FORMATTER (Or.inl (hsets _ (List.mem_of_getElem? (i := 7) rfl)))
  have nz_a_COMPACT_STRINGS : ¬ (a_COMPACT_STRINGS = (0 : Int32)) := gotF (Cond.eq_ints ev_a_COMPACT_STRINGS (Term.int_eval (0))) (not_v (Cond.before_iff.mp (hsets _ (List.mem_of_getElem? (i := 2) rfl))))
  obtain ⟨a_EXACT, ev_a_EXACT⟩ := exa_v g3
  have S_a_EXACT : Sta s s.heap "com/example/amber_gate/ambergate/Algorithm" "EXACT" "Lcom/example/amber_gate/ambergate/Algorithm;" (.ref a_EXACT) := Sta.start ev_a_EXACT (Or.inr ⟨(hw _ (List.mem_of_getElem? (i := 3) rfl)), (hw _ (List.mem_of_getElem? (i := 4) rfl))⟩)
  have E_a_EXACT : Exa s s.heap a_EXACT "com/example/amber_gate/ambergate/Algorithm" := Exa.start ev_a_EXACT g3
  obtain ⟨a__VALUES, ev_a__VALUES⟩ := arr_v g5
  have S_a__VALUES : Sta s s.heap "com/example/amber_gate/ambergate/Algorithm" "$VALUES" "[Lcom/example/amber_gate/ambergate/Algorithm;" (.ref a__VALUES) := Sta.start ev_a__VALUES (Or.inl (hw _ (List.mem_of_getElem? (i := 51) rfl)))
  obtain ⟨cl_a__VALUES, Ar_a__VALUES⟩ := Arr.start ev_a__VALUES g5
  have E_a__VALUES : Exa s s.heap a__VALUES "[Lcom/example/amber_gate/ambergate/Algorithm;" := Exa.start ev_a__VALUES g7
  obtain ⟨a_SLIDING, ev_a_SLIDING⟩ := exa_v g13
  have S_a_SLIDING : Sta s s.heap "com/example/amber_gate/ambergate/Algorithm" "SLIDING" "Lcom/example/amber_gate/ambergate/Algorithm;" (.ref a_SLIDING) := Sta.start ev_a_SLIDING (Or.inr ⟨(hw _ (List.mem_of_getElem? (i := 3) rfl)), (hw _ (List.mem_of_getElem? (i := 49) rfl))⟩)
  have E_a_SLIDING : Exa s s.heap a_SLIDING "com/example/amber_gate/ambergate/Algorithm" := Exa.start ev_a_SLIDING g13
  obtain ⟨a_FIXED, ev_a_FIXED⟩ := exa_v g17
  have S_a_FIXED : Sta s s.heap "com/example/amber_gate/ambergate/Algorithm" "FIXED" "Lcom/example/amber_gate/ambergate/Algorithm;" (.ref a_FIXED) := Sta.start ev_a_FIXED (Or.inr ⟨(hw _ (List.mem_of_getElem? (i := 3) rfl)), (hw _ (List.mem_of_getElem? (i := 50) rfl))⟩)
  have E_a_FIXED : Exa s s.heap a_FIXED "com/example/amber_gate/ambergate/Algorithm" := Exa.start ev_a_FIXED g17
  obtain ⟨a_EXACT_text, ev_a_EXACT_text⟩ := exa_v g21
  have F_text_a_EXACT : Fld s s.heap a_EXACT "com/example/amber_gate/ambergate/Algorithm" "text" "Ljava/lang/String;" (.ref a_EXACT_text) := Fld.start ((fld_at ev_a_EXACT).symm.trans ev_a_EXACT_text)
  have E_a_EXACT_text : Exa s s.heap a_EXACT_text "java/lang/String" := Exa.start ev_a_EXACT_text g21
  obtain ⟨a_SLIDING_text, ev_a_SLIDING_text⟩ := exa_v g31
  have F_text_a_SLIDING : Fld s s.heap a_SLIDING "com/example/amber_gate/ambergate/Algorithm" "text" "Ljava/lang/String;" (.ref a_SLIDING_text) := Fld.start ((fld_at ev_a_SLIDING).symm.trans ev_a_SLIDING_text)
  have E_a_SLIDING_text : Exa s s.heap a_SLIDING_text "java/lang/String" := Exa.start ev_a_SLIDING_text g31
  obtain ⟨a_FIXED_text, ev_a_FIXED_text⟩ := exa_v g39
  have F_text_a_FIXED : Fld s s.heap a_FIXED "com/example/amber_gate/ambergate/Algorithm" "text" "Ljava/lang/String;" (.ref a_FIXED_text) := Fld.start ((fld_at ev_a_FIXED).symm.trans ev_a_FIXED_text)
  have E_a_FIXED_text : Exa s s.heap a_FIXED_text "java/lang/String" := Exa.start ev_a_FIXED_text g39
  obtain ⟨a_EXACT_text_value, ev_a_EXACT_text_value⟩ := arr_v g25
  have F_value_a_EXACT_text : Fld s s.heap a_EXACT_text "java/lang/String" "value" "[B" (.ref a_EXACT_text_value) := Fld.start ((fld_at ev_a_EXACT_text).symm.trans ev_a_EXACT_text_value)
  obtain ⟨cl_a_EXACT_text_value, Ar_a_EXACT_text_value⟩ := Arr.start ev_a_EXACT_text_value g25
  obtain ⟨a_SLIDING_text_value, ev_a_SLIDING_text_value⟩ := arr_v g35
  have F_value_a_SLIDING_text : Fld s s.heap a_SLIDING_text "java/lang/String" "value" "[B" (.ref a_SLIDING_text_value) := Fld.start ((fld_at ev_a_SLIDING_text).symm.trans ev_a_SLIDING_text_value)
  obtain ⟨cl_a_SLIDING_text_value, Ar_a_SLIDING_text_value⟩ := Arr.start ev_a_SLIDING_text_value g35
  obtain ⟨a_FIXED_text_value, ev_a_FIXED_text_value⟩ := arr_v g43
  have F_value_a_FIXED_text : Fld s s.heap a_FIXED_text "java/lang/String" "value" "[B" (.ref a_FIXED_text_value) := Fld.start ((fld_at ev_a_FIXED_text).symm.trans ev_a_FIXED_text_value)
  obtain ⟨cl_a_FIXED_text_value, Ar_a_FIXED_text_value⟩ := Arr.start ev_a_FIXED_text_value g43
  obtain ⟨L31_a__VALUES, L_a__VALUES⟩ := own_len g9 ev_a__VALUES Ar_a__VALUES
  have el_a__VALUES_0 := own_elemR g11 ev_a_EXACT ev_a__VALUES Ar_a__VALUES
  have el_a__VALUES_1 := own_elemR g15 ev_a_SLIDING ev_a__VALUES Ar_a__VALUES
  have el_a__VALUES_2 := own_elemR g19 ev_a_FIXED ev_a__VALUES Ar_a__VALUES
  have F_coder_a_EXACT_text : Fld s s.heap a_EXACT_text "java/lang/String" "coder" "B" (.int (0 : Int32)) := Fld.start ((fld_at ev_a_EXACT_text).symm.trans (own_eqint g23))
  obtain ⟨L31_a_EXACT_text_value, L_a_EXACT_text_value⟩ := own_len g27 ev_a_EXACT_text_value Ar_a_EXACT_text_value
  have F_splitsWindow_a_EXACT : Fld s s.heap a_EXACT "com/example/amber_gate/ambergate/Algorithm" "splitsWindow" "Z" (.int (0 : Int32)) := Fld.start ((fld_at ev_a_EXACT).symm.trans (own_eqint g29))
  have F_coder_a_SLIDING_text : Fld s s.heap a_SLIDING_text "java/lang/String" "coder" "B" (.int (0 : Int32)) := Fld.start ((fld_at ev_a_SLIDING_text).symm.trans (own_eqint g33))
  obtain ⟨L31_a_SLIDING_text_value, L_a_SLIDING_text_value⟩ := own_len g37 ev_a_SLIDING_text_value Ar_a_SLIDING_text_value
  have F_coder_a_FIXED_text : Fld s s.heap a_FIXED_text "java/lang/String" "coder" "B" (.int (0 : Int32)) := Fld.start ((fld_at ev_a_FIXED_text).symm.trans (own_eqint g41))
  obtain ⟨L31_a_FIXED_text_value, L_a_FIXED_text_value⟩ := own_len g45 ev_a_FIXED_text_value Ar_a_FIXED_text_value
  have F_splitsWindow_a_FIXED : Fld s s.heap a_FIXED "com/example/amber_gate/ambergate/Algorithm" "splitsWindow" "Z" (.int (0 : Int32)) := Fld.start ((fld_at ev_a_FIXED).symm.trans (own_eqint g47))
  have F_splitsWindow_a_SLIDING : Fld s s.heap a_SLIDING "com/example/amber_gate/ambergate/Algorithm" "splitsWindow" "Z" (.int (1 : Int32)) := Fld.start ((fld_at ev_a_SLIDING).symm.trans (own_eqint g49))
  have el_a_EXACT_text_value_0 := own_elem g51 ev_a_EXACT_text_value Ar_a_EXACT_text_value
  have el_a_EXACT_text_value_1 := own_elem g53 ev_a_EXACT_text_value Ar_a_EXACT_text_value
  have el_a_EXACT_text_value_2 := own_elem g55 ev_a_EXACT_text_value Ar_a_EXACT_text_value
  have el_a_EXACT_text_value_3 := own_elem g57 ev_a_EXACT_text_value Ar_a_EXACT_text_value
  have el_a_EXACT_text_value_4 := own_elem g59 ev_a_EXACT_text_value Ar_a_EXACT_text_value
  have el_a_SLIDING_text_value_0 := own_elem g61 ev_a_SLIDING_text_value Ar_a_SLIDING_text_value
  have el_a_SLIDING_text_value_1 := own_elem g63 ev_a_SLIDING_text_value Ar_a_SLIDING_text_value
  have el_a_SLIDING_text_value_2 := own_elem g65 ev_a_SLIDING_text_value Ar_a_SLIDING_text_value
  have el_a_SLIDING_text_value_3 := own_elem g67 ev_a_SLIDING_text_value Ar_a_SLIDING_text_value
  have el_a_SLIDING_text_value_4 := own_elem g69 ev_a_SLIDING_text_value Ar_a_SLIDING_text_value
  have el_a_SLIDING_text_value_5 := own_elem g71 ev_a_SLIDING_text_value Ar_a_SLIDING_text_value
  have el_a_SLIDING_text_value_6 := own_elem g73 ev_a_SLIDING_text_value Ar_a_SLIDING_text_value
  have el_a_FIXED_text_value_0 := own_elem g75 ev_a_FIXED_text_value Ar_a_FIXED_text_value
  have el_a_FIXED_text_value_1 := own_elem g77 ev_a_FIXED_text_value Ar_a_FIXED_text_value
  have el_a_FIXED_text_value_2 := own_elem g79 ev_a_FIXED_text_value Ar_a_FIXED_text_value
  have el_a_FIXED_text_value_3 := own_elem g81 ev_a_FIXED_text_value Ar_a_FIXED_text_value
  have el_a_FIXED_text_value_4 := own_elem g82 ev_a_FIXED_text_value Ar_a_FIXED_text_value
  have V_a__VALUES : Arv s s.heap a__VALUES cl_a__VALUES.cls (.object "com/example/amber_gate/ambergate/Algorithm") (3 : Int32) [(.ref a_EXACT), (.ref a_SLIDING), (.ref a_FIXED)] .null := Arv.start hfit Ar_a__VALUES L31_a__VALUES L_a__VALUES (by decide) rfl ⟨el_a__VALUES_0, el_a__VALUES_1, el_a__VALUES_2, trivial⟩
  have V_a_EXACT_text_value : Arv s s.heap a_EXACT_text_value cl_a_EXACT_text_value.cls .byte (5 : Int32) [(.int (101 : Int32)), (.int (120 : Int32)), (.int (97 : Int32)), (.int (99 : Int32)), (.int (116 : Int32))] (.int (0 : Int32)) := Arv.start hfit Ar_a_EXACT_text_value L31_a_EXACT_text_value L_a_EXACT_text_value (by decide) rfl ⟨el_a_EXACT_text_value_0, el_a_EXACT_text_value_1, el_a_EXACT_text_value_2, el_a_EXACT_text_value_3, el_a_EXACT_text_value_4, trivial⟩
  have V_a_SLIDING_text_value : Arv s s.heap a_SLIDING_text_value cl_a_SLIDING_text_value.cls .byte (7 : Int32) [(.int (115 : Int32)), (.int (108 : Int32)), (.int (105 : Int32)), (.int (100 : Int32)), (.int (105 : Int32)), (.int (110 : Int32)), (.int (103 : Int32))] (.int (0 : Int32)) := Arv.start hfit Ar_a_SLIDING_text_value L31_a_SLIDING_text_value L_a_SLIDING_text_value (by decide) rfl ⟨el_a_SLIDING_text_value_0, el_a_SLIDING_text_value_1, el_a_SLIDING_text_value_2, el_a_SLIDING_text_value_3, el_a_SLIDING_text_value_4, el_a_SLIDING_text_value_5, el_a_SLIDING_text_value_6, trivial⟩
  have V_a_FIXED_text_value : Arv s s.heap a_FIXED_text_value cl_a_FIXED_text_value.cls .byte (5 : Int32) [(.int (102 : Int32)), (.int (105 : Int32)), (.int (120 : Int32)), (.int (101 : Int32)), (.int (100 : Int32))] (.int (0 : Int32)) := Arv.start hfit Ar_a_FIXED_text_value L31_a_FIXED_text_value L_a_FIXED_text_value (by decide) rfl ⟨el_a_FIXED_text_value_0, el_a_FIXED_text_value_1, el_a_FIXED_text_value_2, el_a_FIXED_text_value_3, el_a_FIXED_text_value_4, trivial⟩
  obtain ⟨n, o, h1, h2, h3, _, L, rfl, ⟨rfl, N⟩, hq⟩ := rm0 l s _ hw tables_1 i0 a_EXACT a_SLIDING a_FIXED a_EXACT_text a_SLIDING_text a_FIXED_text a_EXACT_text_value a_SLIDING_text_value a_FIXED_text_value cl_a_EXACT_text_value.cls cl_a_SLIDING_text_value.cls cl_a_FIXED_text_value.cls a__VALUES cl_a__VALUES.cls a_COMPACT_STRINGS s.heap s.heap.size (Old.start s) S_a_COMPACT_STRINGS nz_a_COMPACT_STRINGS S_a__VALUES V_a__VALUES E_a__VALUES E_a_EXACT_text F_value_a_EXACT_text F_coder_a_EXACT_text V_a_EXACT_text_value F_text_a_EXACT E_a_SLIDING_text F_value_a_SLIDING_text F_coder_a_SLIDING_text V_a_SLIDING_text_value F_text_a_SLIDING E_a_FIXED_text F_value_a_FIXED_text F_coder_a_FIXED_text V_a_FIXED_text_value F_text_a_FIXED S_a_EXACT S_a_SLIDING S_a_FIXED E_a_EXACT E_a_SLIDING E_a_FIXED F_splitsWindow_a_EXACT F_splitsWindow_a_SLIDING F_splitsWindow_a_FIXED p e ha hc hk s m _ below hf ((Spec.applies_iff_loose hf).mp happ).1 ⟨rfl, State.Warmed39.refl s, rfl⟩ trivial
  refine ⟨n, _, h1, h2, h3, hpost _ _ _ _ _ _ ⟨Cond.after_iff.mpr rfl, Cond.after_iff.mpr (eq_i res_at (Term.int_eval (1)) rfl), trivial⟩ ⟨hq.1, hq.2.1, (hq.2.2.sift fun y hy => Or.inr (N y hy)).mono (by decide) (by decide)⟩⟩
theorem main_1_1 : Claimed_1_1 := comes_1 fun _ _ _ _ _ _ h hF => ⟨h.1, hF⟩
theorem main_1_2 : Claimed_1_2 := comes_1 fun _ _ _ _ _ _ h hF => ⟨h.2.1, hF⟩
end Jvm.Pilot.@@N@@
namespace Jvm.Pilot.@@N@@
open Jvm Jvm.ClassFile Sem Op Lib Jvm.Free Jvm.Stand Jvm.Pilot.@@N@@.Jvm.D
/-! MADE BY PROGRAM (witnessworld.py) out of the Statement's table words and the real class files: 22 classes; the members and pool entries that the words name. The judged class is class 1, her method 1. -/
namespace start1
open Jvm.ClassFile
def u (s : String) : CpInfo := .utf8 (stringToUtf16 s)
/-- a pool by its gaps: so many unusable entries, then the entry; so many at the end -/
def gap : Nat → List CpInfo → List CpInfo
  | 0, r => r
  | n + 1, r => .unusable :: gap n r
def poolList (es : List (Nat × CpInfo)) (last : Nat) : List CpInfo := es.foldr (fun e r => gap e.1 (e.2 :: r)) (gap last [])
def pool (es : List (Nat × CpInfo)) (last : Nat) : Array CpInfo := ⟨poolList es last⟩
def fileOf (pool : Array CpInfo) (this : Nat) (attrs : Array Attribute := #[]) (ms : Array MethodInfo := #[]) (fl : Nat := 33) (sup : Nat := 0) (ifs : Array Nat := #[]) (fds : Array FieldInfo := #[]) : ClassFile where
  minorVersion := 0
  majorVersion := 65
  constantPool := pool
  accessFlags := fl
  thisClass := this
  superClass := sup
  interfaces := ifs
  fields := fds
  methods := ms
  attributes := attrs
def plain (name : String) (sup : Option ClassId) : Class where
  name := name
  kind := .ordinary
  loader := none
  accessFlags := 33
  super := sup
  interfaces := #[]
  cf := none
  fields := #[]
  methods := #[]
  instanceTypes := #[]
  staticTypes := #[]
  resolved := #[]
  callSites := []
  init := .initialized
  statics := none
  mirror := none

def pool0 : Array CpInfo := pool [(5, u "<init>"), (0, u "()V"), (1, .class_ 10), (1, u "java/lang/Object"), (85, u "clone"), (0, u "()Ljava/lang/Object;")] 26

def k0c0 : Code := { maxStack := 0, maxLocals := 1, code := object_method_1_code, exceptionTable := #[], attributes := #[] }
def k0m0 : Method := { name := "<init>", desc := "()V", sig := { parameters := [], returnType := none }, accessFlags := 1, code := some k0c0 }
def k0m1 : Method := { name := "clone", desc := "()Ljava/lang/Object;", sig := { parameters := [], returnType := some (.object "java/lang/Object") }, accessFlags := 260, code := none }
/-- java/lang/Object -/
def k0 : Class := { plain "java/lang/Object" none with
  accessFlags := 33
  interfaces := #[]
  cf := some (fileOf pool0 8 #[] #[{ accessFlags := 1, nameIndex := 5, descriptorIndex := 6, attributes := #[] }, { accessFlags := 260, nameIndex := 96, descriptorIndex := 97, attributes := #[] }] 33 0 #[] #[])
  fields := #[]
  methods := #[k0m0, k0m1]
  instanceTypes := #[]
  staticTypes := #[]
  resolved := Array.replicate 124 none
  statics := none }

def pool1 : Array CpInfo := pool [(2, .class_ 4), (1, u "java/lang/Object"), (0, u "<init>"), (0, u "()V"), (0, .integer 2147483647), (0, .fieldref 9 10), (0, .class_ 11), (0, .nameAndType 12 13), (0, u "com/example/amber_gate/ambergate/Algorithm"), (0, u "EXACT"), (0, u "Lcom/example/amber_gate/ambergate/Algorithm;"), (0, .fieldref 9 15), (0, .nameAndType 16 13), (0, u "SLIDING"), (0, .fieldref 9 18), (0, .nameAndType 19 13), (0, u "FIXED"), (0, .class_ 21), (0, u "java/lang/String"), (0, .methodref 20 23), (0, .nameAndType 5 24), (0, u "([C)V"), (0, .methodref 9 26), (0, .nameAndType 27 28), (0, u "named"), (0, u "(Ljava/lang/String;)Lcom/example/amber_gate/ambergate/Algorithm;"), (0, .methodref 9 30), (0, .nameAndType 31 32), (0, u "splitsWindow"), (0, u "()Z"), (0, .methodref 9 34), (0, .nameAndType 35 36), (0, u "toString"), (0, u "()Ljava/lang/String;"), (0, .methodref 20 38), (0, .nameAndType 39 40), (0, u "equals"), (0, u "(Ljava/lang/Object;)Z"), (0, .class_ 42), (0, u "com/example/amber_gate/ambergate/AlgorithmNamedPinLaw"), (2, u "law"), (0, u "(I)Z")] 5

def k1m0 : Method := { name := "<init>", desc := "()V", sig := { parameters := [], returnType := none }, accessFlags := 1, code := none }
def k1c1 : Code := { maxStack := 4, maxLocals := 7, code := code, exceptionTable := #[], attributes := #[] }
def k1m1 : Method := { name := "law", desc := "(I)Z", sig := { parameters := [.int], returnType := some .boolean }, accessFlags := 9, code := some k1c1 }
/-- com/example/amber_gate/ambergate/AlgorithmNamedPinLaw -/
def k1 : Class := { plain "com/example/amber_gate/ambergate/AlgorithmNamedPinLaw" (some 0) with
  accessFlags := 49
  interfaces := #[]
  cf := some (fileOf pool1 41 #[] #[{ accessFlags := 1, nameIndex := 5, descriptorIndex := 6, attributes := #[] }, { accessFlags := 9, nameIndex := 45, descriptorIndex := 46, attributes := #[] }] 49 2 #[] #[])
  fields := #[]
  methods := #[k1m0, k1m1]
  instanceTypes := #[]
  staticTypes := #[]
  resolved := Array.replicate 52 none
  statics := none }

def pool2 : Array CpInfo := pool [(1, .class_ 2), (0, u "java/lang/constant/Constable"), (0, .class_ 4), (0, u "java/lang/Object")] 6

/-- java/lang/constant/Constable -/
def k2 : Class := { plain "java/lang/constant/Constable" (some 0) with
  accessFlags := 1537
  interfaces := #[]
  cf := some (fileOf pool2 1 #[] #[] 1537 3 #[] #[])
  fields := #[]
  methods := #[]
  instanceTypes := #[]
  staticTypes := #[]
  resolved := Array.replicate 11 none
  statics := none }

def pool3 : Array CpInfo := pool [(1, .class_ 2), (0, u "java/lang/Comparable"), (0, .class_ 4), (0, u "java/lang/Object")] 7

/-- java/lang/Comparable -/
def k3 : Class := { plain "java/lang/Comparable" (some 0) with
  accessFlags := 1537
  interfaces := #[]
  cf := some (fileOf pool3 1 #[] #[] 1537 3 #[] #[])
  fields := #[]
  methods := #[]
  instanceTypes := #[]
  staticTypes := #[]
  resolved := Array.replicate 12 none
  statics := none }

def pool4 : Array CpInfo := pool [(1, .class_ 2), (0, u "java/io/Serializable"), (0, .class_ 4), (0, u "java/lang/Object")] 2

/-- java/io/Serializable -/
def k4 : Class := { plain "java/io/Serializable" (some 0) with
  accessFlags := 1537
  interfaces := #[]
  cf := some (fileOf pool4 1 #[] #[] 1537 3 #[] #[])
  fields := #[]
  methods := #[]
  instanceTypes := #[]
  staticTypes := #[]
  resolved := Array.replicate 7 none
  statics := none }

def pool5 : Array CpInfo := pool [(2, .class_ 4), (1, u "java/lang/Enum"), (0, u "name"), (0, u "Ljava/lang/String;"), (2, u "ordinal"), (0, u "I"), (1, .class_ 14), (1, u "java/lang/Object"), (4, u "hash"), (86, .class_ 108), (1, u "java/lang/Enum$EnumDesc"), (2, .class_ 112), (0, u "java/lang/constant/Constable"), (0, .class_ 114), (0, u "java/lang/Comparable"), (0, .class_ 116), (0, u "java/io/Serializable")] 87

/-- java/lang/Enum -/
def k5 : Class := { plain "java/lang/Enum" (some 0) with
  accessFlags := 1057
  interfaces := #[2, 3, 4]
  cf := some (fileOf pool5 2 #[.nestMembers #[106]] #[] 1057 12 #[111, 113, 115] #[{ accessFlags := 18, nameIndex := 5, descriptorIndex := 6, attributes := #[] }, { accessFlags := 18, nameIndex := 9, descriptorIndex := 10, attributes := #[] }, { accessFlags := 2, nameIndex := 19, descriptorIndex := 10, attributes := #[] }])
  fields := #[{ name := "name", type := (.object "java/lang/String"), accessFlags := 18, slot := 0, constantValue := 0 }, { name := "ordinal", type := .int, accessFlags := 18, slot := 1, constantValue := 0 }, { name := "hash", type := .int, accessFlags := 2, slot := 2, constantValue := 0 }]
  methods := #[]
  instanceTypes := #[(.object "java/lang/String"), .int, .int]
  staticTypes := #[]
  resolved := Array.replicate 204 none
  statics := none }

def pool6 : Array CpInfo := pool [(1, .class_ 2), (0, u "com/example/amber_gate/ambergate/Algorithm"), (2, u "EXACT"), (0, u "Lcom/example/amber_gate/ambergate/Algorithm;"), (2, u "SLIDING"), (2, u "FIXED"), (0, .fieldref 1 14), (0, .nameAndType 15 16), (0, u "$VALUES"), (0, u "[Lcom/example/amber_gate/ambergate/Algorithm;"), (0, .methodref 18 19), (0, .class_ 16), (0, .nameAndType 20 21), (0, u "clone"), (0, u "()Ljava/lang/Object;"), (1, .class_ 25), (1, u "java/lang/Enum"), (6, .fieldref 1 33), (0, .nameAndType 34 35), (0, u "text"), (0, u "Ljava/lang/String;"), (0, .fieldref 1 37), (0, .nameAndType 38 39), (0, u "splitsWindow"), (0, u "Z"), (0, .methodref 1 41), (0, .nameAndType 42 43), (0, u "values"), (0, u "()[Lcom/example/amber_gate/ambergate/Algorithm;"), (0, .methodref 45 46), (0, .class_ 47), (0, .nameAndType 48 49), (0, u "java/lang/String"), (0, u "equals"), (0, u "(Ljava/lang/Object;)Z"), (46, u "(Ljava/lang/String;)Lcom/example/amber_gate/ambergate/Algorithm;"), (3, u "()Z"), (0, u "toString"), (0, u "()Ljava/lang/String;"), (0, u "named")] 21

def k6c0 : Code := { maxStack := 1, maxLocals := 0, code := prog_1_method_1_code, exceptionTable := #[], attributes := #[] }
def k6m0 : Method := { name := "values", desc := "()[Lcom/example/amber_gate/ambergate/Algorithm;", sig := { parameters := [], returnType := some (.array (.object "com/example/amber_gate/ambergate/Algorithm")) }, accessFlags := 9, code := some k6c0 }
def k6c1 : Code := { maxStack := 1, maxLocals := 1, code := prog_1_method_4_code, exceptionTable := #[], attributes := #[] }
def k6m1 : Method := { name := "splitsWindow", desc := "()Z", sig := { parameters := [], returnType := some .boolean }, accessFlags := 1, code := some k6c1 }
def k6c2 : Code := { maxStack := 1, maxLocals := 1, code := prog_1_method_5_code, exceptionTable := #[], attributes := #[] }
def k6m2 : Method := { name := "toString", desc := "()Ljava/lang/String;", sig := { parameters := [], returnType := some (.object "java/lang/String") }, accessFlags := 1, code := some k6c2 }
def k6c3 : Code := { maxStack := 5, maxLocals := 5, code := prog_1_method_6_code, exceptionTable := #[], attributes := #[] }
def k6m3 : Method := { name := "named", desc := "(Ljava/lang/String;)Lcom/example/amber_gate/ambergate/Algorithm;", sig := { parameters := [(.object "java/lang/String")], returnType := some (.object "com/example/amber_gate/ambergate/Algorithm") }, accessFlags := 9, code := some k6c3 }
/-- com/example/amber_gate/ambergate/Algorithm -/
def k6 : Class := { plain "com/example/amber_gate/ambergate/Algorithm" (some 5) with
  accessFlags := 16433
  interfaces := #[]
  cf := some (fileOf pool6 1 #[] #[{ accessFlags := 9, nameIndex := 42, descriptorIndex := 43, attributes := #[] }, { accessFlags := 1, nameIndex := 38, descriptorIndex := 100, attributes := #[] }, { accessFlags := 1, nameIndex := 101, descriptorIndex := 102, attributes := #[] }, { accessFlags := 9, nameIndex := 103, descriptorIndex := 96, attributes := #[] }] 16433 23 #[] #[{ accessFlags := 16409, nameIndex := 5, descriptorIndex := 6, attributes := #[] }, { accessFlags := 16409, nameIndex := 9, descriptorIndex := 6, attributes := #[] }, { accessFlags := 16409, nameIndex := 12, descriptorIndex := 6, attributes := #[] }, { accessFlags := 18, nameIndex := 34, descriptorIndex := 35, attributes := #[] }, { accessFlags := 18, nameIndex := 38, descriptorIndex := 39, attributes := #[] }, { accessFlags := 4122, nameIndex := 15, descriptorIndex := 16, attributes := #[] }])
  fields := #[{ name := "EXACT", type := (.object "com/example/amber_gate/ambergate/Algorithm"), accessFlags := 16409, slot := 0, constantValue := 0 }, { name := "SLIDING", type := (.object "com/example/amber_gate/ambergate/Algorithm"), accessFlags := 16409, slot := 1, constantValue := 0 }, { name := "FIXED", type := (.object "com/example/amber_gate/ambergate/Algorithm"), accessFlags := 16409, slot := 2, constantValue := 0 }, { name := "text", type := (.object "java/lang/String"), accessFlags := 18, slot := 3, constantValue := 0 }, { name := "splitsWindow", type := .boolean, accessFlags := 18, slot := 4, constantValue := 0 }, { name := "$VALUES", type := (.array (.object "com/example/amber_gate/ambergate/Algorithm")), accessFlags := 4122, slot := 3, constantValue := 0 }]
  methods := #[k6m0, k6m1, k6m2, k6m3]
  instanceTypes := #[(.object "java/lang/String"), .int, .int, (.object "java/lang/String"), .boolean]
  staticTypes := #[(.object "com/example/amber_gate/ambergate/Algorithm"), (.object "com/example/amber_gate/ambergate/Algorithm"), (.object "com/example/amber_gate/ambergate/Algorithm"), (.array (.object "com/example/amber_gate/ambergate/Algorithm"))]
  resolved := Array.replicate 125 none
  statics := some 0 }

def pool7 : Array CpInfo := pool [(2, .class_ 4), (1, u "java/lang/CharSequence"), (42, .class_ 48), (0, u "java/lang/CharSequence$1CodePointIterator"), (10, .class_ 60), (0, u "java/lang/CharSequence$1CharIterator"), (5, .class_ 67), (0, u "java/lang/Object")] 63

/-- java/lang/CharSequence -/
def k7 : Class := { plain "java/lang/CharSequence" (some 0) with
  accessFlags := 1537
  interfaces := #[]
  cf := some (fileOf pool7 2 #[.nestMembers #[47, 59]] #[] 1537 66 #[] #[])
  fields := #[]
  methods := #[]
  instanceTypes := #[]
  staticTypes := #[]
  resolved := Array.replicate 131 none
  statics := none }

def pool8 : Array CpInfo := pool [(1, .class_ 2), (0, u "java/lang/constant/ConstantDesc"), (0, .class_ 4), (0, u "java/lang/Object")] 32

/-- java/lang/constant/ConstantDesc -/
def k8 : Class := { plain "java/lang/constant/ConstantDesc" (some 0) with
  accessFlags := 1537
  interfaces := #[]
  cf := some (fileOf pool8 1 #[] #[] 1537 3 #[] #[])
  fields := #[]
  methods := #[]
  instanceTypes := #[]
  staticTypes := #[]
  resolved := Array.replicate 37 none
  statics := none }

def pool9 : Array CpInfo := pool [(1, .methodref 2 3), (0, .class_ 4), (0, .nameAndType 5 6), (0, u "java/lang/Object"), (0, u "<init>"), (0, u "()V"), (2, .fieldref 10 11), (0, .class_ 12), (0, .nameAndType 13 14), (0, u "java/lang/String"), (0, u "value"), (0, u "[B"), (0, .fieldref 10 16), (0, .nameAndType 17 18), (0, u "coder"), (0, u "B"), (2, u "hash"), (0, u "I"), (2, u "hashIsZero"), (0, u "Z"), (0, .methodref 10 28), (0, .nameAndType 5 29), (0, u "([CIILjava/lang/Void;)V"), (8, .fieldref 10 39), (0, .nameAndType 40 26), (0, u "COMPACT_STRINGS"), (1, .class_ 44), (1, u "java/lang/StringUTF16"), (0, u "compress"), (1, .methodref 42 48), (0, .nameAndType 49 50), (0, u "coderFromArrayLen"), (0, u "([BI)B"), (56, .class_ 109), (1, u "java/lang/StringLatin1"), (67, .methodref 42 178), (0, .nameAndType 45 179), (0, u "([CII)[B"), (361, .methodref 107 542), (0, .nameAndType 543 544), (0, u "equals"), (0, u "([B[B)Z"), (28, u "(Ljava/lang/Object;)Z"), (1, .class_ 576), (0, u "java/lang/CharSequence"), (22, u "CASE_INSENSITIVE_ORDER"), (0, u "Ljava/util/Comparator;"), (409, u "([C)V"), (90, u "serialPersistentFields"), (0, u "[Ljava/io/ObjectStreamField;"), (0, .class_ 1104), (0, u "java/lang/String$CaseInsensitiveComparator"), (1, .class_ 1107), (0, u "java/io/Serializable"), (0, .class_ 1109), (0, u "java/lang/Comparable"), (0, .class_ 1111), (0, u "java/lang/constant/Constable"), (0, .class_ 1113), (0, u "java/lang/constant/ConstantDesc"), (2, u "serialVersionUID"), (0, u "J"), (3, u "REPL"), (0, u "C"), (2, u "LATIN1"), (1, u "UTF16")] 323

def k9m0 : Method := { name := "<init>", desc := "()V", sig := { parameters := [], returnType := none }, accessFlags := 1, code := none }
def k9c1 : Code := { maxStack := 5, maxLocals := 2, code := jdk_42_method_3_code, exceptionTable := #[], attributes := #[] }
def k9m1 : Method := { name := "<init>", desc := "([C)V", sig := { parameters := [(.array .char)], returnType := none }, accessFlags := 1, code := some k9c1 }
def k9c2 : Code := { maxStack := 2, maxLocals := 3, code := jdk_42_method_66_code, exceptionTable := #[], attributes := #[] }
def k9m2 : Method := { name := "equals", desc := "(Ljava/lang/Object;)Z", sig := { parameters := [(.object "java/lang/Object")], returnType := some .boolean }, accessFlags := 1, code := some k9c2 }
def k9c3 : Code := { maxStack := 4, maxLocals := 6, code := jdk_42_method_149_code, exceptionTable := #[], attributes := #[] }
def k9m3 : Method := { name := "<init>", desc := "([CIILjava/lang/Void;)V", sig := { parameters := [(.array .char), .int, .int, (.object "java/lang/Void")], returnType := none }, accessFlags := 2, code := some k9c3 }
/-- java/lang/String -/
def k9 : Class := { plain "java/lang/String" (some 0) with
  accessFlags := 49
  interfaces := #[4, 3, 7, 2, 8]
  cf := some (fileOf pool9 10 #[.nestMembers #[1103]] #[{ accessFlags := 1, nameIndex := 5, descriptorIndex := 6, attributes := #[] }, { accessFlags := 1, nameIndex := 5, descriptorIndex := 1010, attributes := #[] }, { accessFlags := 1, nameIndex := 543, descriptorIndex := 573, attributes := #[] }, { accessFlags := 2, nameIndex := 5, descriptorIndex := 29, attributes := #[] }] 49 2 #[1106, 1108, 575, 1110, 1112] #[{ accessFlags := 18, nameIndex := 13, descriptorIndex := 14, attributes := #[] }, { accessFlags := 18, nameIndex := 17, descriptorIndex := 18, attributes := #[] }, { accessFlags := 2, nameIndex := 21, descriptorIndex := 22, attributes := #[] }, { accessFlags := 2, nameIndex := 25, descriptorIndex := 26, attributes := #[] }, { accessFlags := 26, nameIndex := 1116, descriptorIndex := 1117, attributes := #[] }, { accessFlags := 24, nameIndex := 40, descriptorIndex := 26, attributes := #[] }, { accessFlags := 26, nameIndex := 1101, descriptorIndex := 1102, attributes := #[] }, { accessFlags := 26, nameIndex := 1121, descriptorIndex := 1122, attributes := #[] }, { accessFlags := 25, nameIndex := 599, descriptorIndex := 600, attributes := #[] }, { accessFlags := 24, nameIndex := 1125, descriptorIndex := 18, attributes := #[] }, { accessFlags := 24, nameIndex := 1127, descriptorIndex := 18, attributes := #[] }])
  fields := #[{ name := "value", type := (.array .byte), accessFlags := 18, slot := 0, constantValue := 0 }, { name := "coder", type := .byte, accessFlags := 18, slot := 1, constantValue := 0 }, { name := "hash", type := .int, accessFlags := 2, slot := 2, constantValue := 0 }, { name := "hashIsZero", type := .boolean, accessFlags := 2, slot := 3, constantValue := 0 }, { name := "serialVersionUID", type := .long, accessFlags := 26, slot := 0, constantValue := 0 }, { name := "COMPACT_STRINGS", type := .boolean, accessFlags := 24, slot := 1, constantValue := 0 }, { name := "serialPersistentFields", type := (.array (.object "java/io/ObjectStreamField")), accessFlags := 26, slot := 2, constantValue := 0 }, { name := "REPL", type := .char, accessFlags := 26, slot := 3, constantValue := 0 }, { name := "CASE_INSENSITIVE_ORDER", type := (.object "java/util/Comparator"), accessFlags := 25, slot := 4, constantValue := 0 }, { name := "LATIN1", type := .byte, accessFlags := 24, slot := 5, constantValue := 0 }, { name := "UTF16", type := .byte, accessFlags := 24, slot := 6, constantValue := 0 }]
  methods := #[k9m0, k9m1, k9m2, k9m3]
  instanceTypes := #[(.array .byte), .byte, .int, .boolean]
  staticTypes := #[.long, .boolean, (.array (.object "java/io/ObjectStreamField")), .char, (.object "java/util/Comparator"), .byte, .byte]
  resolved := Array.replicate 1451 none
  statics := some 1 }

def pool10 : Array CpInfo := pool [(6, .class_ 8), (1, u "java/lang/Object"), (0, u "<init>"), (0, u "()V"), (1, .class_ 14), (1, u "java/lang/StringUTF16"), (31, u "$assertionsDisabled"), (0, u "Z"), (13, u "HI_BYTE_SHIFT"), (0, u "I"), (2, u "LO_BYTE_SHIFT"), (49, .methodref 12 116), (0, .nameAndType 117 118), (0, u "compress"), (0, u "([CI[BII)I"), (3, u "([CII)[B"), (138, u "coderFromArrayLen"), (0, u "([BI)B"), (106, .class_ 371), (1, u "java/lang/StringUTF16$LinesSpliterator"), (58, u "MAX_LENGTH"), (196, .class_ 628), (0, u "java/lang/StringUTF16$CodePointsSpliterator"), (0, .class_ 630), (0, u "java/lang/StringUTF16$CharsSpliterator")] 4

def k10m0 : Method := { name := "<init>", desc := "()V", sig := { parameters := [], returnType := none }, accessFlags := 0, code := none }
def k10c1 : Code := { maxStack := 2, maxLocals := 2, code := jdk_52_method_15_code, exceptionTable := #[], attributes := #[] }
def k10m1 : Method := { name := "coderFromArrayLen", desc := "([BI)B", sig := { parameters := [(.array .byte), .int], returnType := some .byte }, accessFlags := 8, code := some k10c1 }
def k10c2 : Code := { maxStack := 5, maxLocals := 6, code := jdk_52_method_16_code, exceptionTable := #[], attributes := #[] }
def k10m2 : Method := { name := "compress", desc := "([CII)[B", sig := { parameters := [(.array .char), .int, .int], returnType := some (.array .byte) }, accessFlags := 9, code := some k10c2 }
def k10c3 : Code := { maxStack := 3, maxLocals := 7, code := jdk_52_method_21_code, exceptionTable := #[], attributes := #[] }
def k10m3 : Method := { name := "compress", desc := "([CI[BII)I", sig := { parameters := [(.array .char), .int, (.array .byte), .int, .int], returnType := some .int }, accessFlags := 9, code := some k10c3 }
/-- java/lang/StringUTF16 -/
def k10 : Class := { plain "java/lang/StringUTF16" (some 0) with
  accessFlags := 48
  interfaces := #[]
  cf := some (fileOf pool10 12 #[.nestMembers #[627, 629, 369]] #[{ accessFlags := 0, nameIndex := 9, descriptorIndex := 10, attributes := #[] }, { accessFlags := 8, nameIndex := 261, descriptorIndex := 262, attributes := #[] }, { accessFlags := 9, nameIndex := 117, descriptorIndex := 122, attributes := #[] }, { accessFlags := 9, nameIndex := 117, descriptorIndex := 118, attributes := #[] }] 48 6 #[] #[{ accessFlags := 26, nameIndex := 61, descriptorIndex := 62, attributes := #[] }, { accessFlags := 26, nameIndex := 65, descriptorIndex := 62, attributes := #[] }, { accessFlags := 24, nameIndex := 430, descriptorIndex := 62, attributes := #[] }, { accessFlags := 4120, nameIndex := 46, descriptorIndex := 47, attributes := #[] }])
  fields := #[{ name := "HI_BYTE_SHIFT", type := .int, accessFlags := 26, slot := 0, constantValue := 0 }, { name := "LO_BYTE_SHIFT", type := .int, accessFlags := 26, slot := 1, constantValue := 0 }, { name := "MAX_LENGTH", type := .int, accessFlags := 24, slot := 2, constantValue := 0 }, { name := "$assertionsDisabled", type := .boolean, accessFlags := 4120, slot := 3, constantValue := 0 }]
  methods := #[k10m0, k10m1, k10m2, k10m3]
  instanceTypes := #[]
  staticTypes := #[.int, .int, .int, .boolean]
  resolved := Array.replicate 635 none
  statics := none }

def pool11 : Array CpInfo := pool [(1, .class_ 2), (0, u "java/lang/Cloneable"), (0, .class_ 4), (0, u "java/lang/Object")] 2

/-- java/lang/Cloneable -/
def k11 : Class := { plain "java/lang/Cloneable" (some 0) with
  accessFlags := 1537
  interfaces := #[]
  cf := some (fileOf pool11 1 #[] #[] 1537 3 #[] #[])
  fields := #[]
  methods := #[]
  instanceTypes := #[]
  staticTypes := #[]
  resolved := Array.replicate 7 none
  statics := none }

def pool12 : Array CpInfo := pool [(4, .class_ 6), (1, u "java/lang/Object"), (0, u "<init>"), (0, u "()V"), (5, .class_ 16), (1, u "java/lang/StringLatin1"), (104, u "$assertionsDisabled"), (0, u "Z"), (98, .class_ 223), (1, u "java/lang/StringLatin1$LinesSpliterator"), (57, u "equals"), (0, u "([B[B)Z"), (107, .class_ 391), (0, u "java/lang/StringLatin1$CharsSpliterator")] 3

def k12m0 : Method := { name := "<init>", desc := "()V", sig := { parameters := [], returnType := none }, accessFlags := 0, code := none }
def k12c1 : Code := { maxStack := 3, maxLocals := 3, code := jdk_43_method_13_code, exceptionTable := #[], attributes := #[] }
def k12m1 : Method := { name := "equals", desc := "([B[B)Z", sig := { parameters := [(.array .byte), (.array .byte)], returnType := some .boolean }, accessFlags := 9, code := some k12c1 }
/-- java/lang/StringLatin1 -/
def k12 : Class := { plain "java/lang/StringLatin1" (some 0) with
  accessFlags := 48
  interfaces := #[]
  cf := some (fileOf pool12 14 #[.nestMembers #[390, 221]] #[{ accessFlags := 0, nameIndex := 7, descriptorIndex := 8, attributes := #[] }, { accessFlags := 9, nameIndex := 281, descriptorIndex := 282, attributes := #[] }] 48 4 #[] #[{ accessFlags := 4120, nameIndex := 121, descriptorIndex := 122, attributes := #[] }])
  fields := #[{ name := "$assertionsDisabled", type := .boolean, accessFlags := 4120, slot := 0, constantValue := 0 }]
  methods := #[k12m0, k12m1]
  instanceTypes := #[]
  staticTypes := #[.boolean]
  resolved := Array.replicate 395 none
  statics := none }

def pool13 : Array CpInfo := pool [(2, .class_ 4), (1, u "java/lang/Object"), (0, u "<init>"), (0, u "()V"), (17, .class_ 26), (1, u "jdk/internal/util/Preconditions"), (28, .class_ 56), (0, u "jdk/internal/util/Preconditions$4"), (57, .class_ 115), (0, u "jdk/internal/util/Preconditions$1"), (7, u "SIOOBE_FORMATTER"), (0, u "Ljava/util/function/BiFunction;"), (0, .class_ 126), (0, u "jdk/internal/util/Preconditions$2"), (3, u "AIOOBE_FORMATTER"), (0, .class_ 132), (0, u "jdk/internal/util/Preconditions$3"), (3, u "IOOBE_FORMATTER")] 57

def k13m0 : Method := { name := "<init>", desc := "()V", sig := { parameters := [], returnType := none }, accessFlags := 1, code := none }
/-- jdk/internal/util/Preconditions -/
def k13 : Class := { plain "jdk/internal/util/Preconditions" (some 0) with
  accessFlags := 33
  interfaces := #[]
  cf := some (fileOf pool13 24 #[.nestMembers #[55, 131, 125, 114]] #[{ accessFlags := 1, nameIndex := 5, descriptorIndex := 6, attributes := #[] }] 33 2 #[] #[{ accessFlags := 25, nameIndex := 123, descriptorIndex := 124, attributes := #[] }, { accessFlags := 25, nameIndex := 130, descriptorIndex := 124, attributes := #[] }, { accessFlags := 25, nameIndex := 136, descriptorIndex := 124, attributes := #[] }])
  fields := #[{ name := "SIOOBE_FORMATTER", type := (.object "java/util/function/BiFunction"), accessFlags := 25, slot := 0, constantValue := 0 }, { name := "AIOOBE_FORMATTER", type := (.object "java/util/function/BiFunction"), accessFlags := 25, slot := 1, constantValue := 0 }, { name := "IOOBE_FORMATTER", type := (.object "java/util/function/BiFunction"), accessFlags := 25, slot := 2, constantValue := 0 }]
  methods := #[k13m0]
  instanceTypes := #[]
  staticTypes := #[(.object "java/util/function/BiFunction"), (.object "java/util/function/BiFunction"), (.object "java/util/function/BiFunction")]
  resolved := Array.replicate 194 none
  statics := some 2 }

def pool14 : Array CpInfo := pool [(9, u "<init>"), (6, .class_ 18), (1, u "java/lang/Object"), (0, u "()V"), (1, .class_ 23), (1, u "jdk/internal/util/ArraysSupport"), (0, u "LOG2_ARRAY_LONG_INDEX_SCALE"), (0, u "I"), (2, u "U"), (0, u "Ljdk/internal/misc/Unsafe;"), (8, u "BIG_ENDIAN"), (0, u "Z"), (8, u "LOG2_BYTE_BIT_SIZE"), (4, u "LOG2_ARRAY_INT_INDEX_SCALE"), (54, u "JLA"), (0, u "Ljdk/internal/access/JavaLangAccess;"), (11, u "LOG2_ARRAY_BOOLEAN_INDEX_SCALE"), (9, u "LOG2_ARRAY_BYTE_INDEX_SCALE"), (5, u "LOG2_ARRAY_CHAR_INDEX_SCALE"), (5, u "LOG2_ARRAY_SHORT_INDEX_SCALE"), (18, u "LOG2_ARRAY_FLOAT_INDEX_SCALE"), (24, u "LOG2_ARRAY_DOUBLE_INDEX_SCALE"), (89, u "T_BOOLEAN"), (2, u "T_CHAR"), (1, u "T_FLOAT"), (1, u "T_DOUBLE"), (1, u "T_BYTE"), (1, u "T_SHORT"), (1, u "T_INT"), (1, u "T_LONG"), (1, u "SOFT_MAX_ARRAY_LENGTH")] 83

def k14m0 : Method := { name := "<init>", desc := "()V", sig := { parameters := [], returnType := none }, accessFlags := 2, code := none }
/-- jdk/internal/util/ArraysSupport -/
def k14 : Class := { plain "jdk/internal/util/ArraysSupport" (some 0) with
  accessFlags := 33
  interfaces := #[]
  cf := some (fileOf pool14 21 #[] #[{ accessFlags := 2, nameIndex := 9, descriptorIndex := 19, attributes := #[] }] 33 16 #[] #[{ accessFlags := 24, nameIndex := 28, descriptorIndex := 29, attributes := #[] }, { accessFlags := 26, nameIndex := 38, descriptorIndex := 39, attributes := #[] }, { accessFlags := 25, nameIndex := 121, descriptorIndex := 25, attributes := #[] }, { accessFlags := 25, nameIndex := 131, descriptorIndex := 25, attributes := #[] }, { accessFlags := 25, nameIndex := 137, descriptorIndex := 25, attributes := #[] }, { accessFlags := 25, nameIndex := 143, descriptorIndex := 25, attributes := #[] }, { accessFlags := 25, nameIndex := 53, descriptorIndex := 25, attributes := #[] }, { accessFlags := 25, nameIndex := 24, descriptorIndex := 25, attributes := #[] }, { accessFlags := 25, nameIndex := 162, descriptorIndex := 25, attributes := #[] }, { accessFlags := 25, nameIndex := 187, descriptorIndex := 25, attributes := #[] }, { accessFlags := 26, nameIndex := 48, descriptorIndex := 25, attributes := #[] }, { accessFlags := 25, nameIndex := 277, descriptorIndex := 25, attributes := #[] }, { accessFlags := 25, nameIndex := 280, descriptorIndex := 25, attributes := #[] }, { accessFlags := 25, nameIndex := 282, descriptorIndex := 25, attributes := #[] }, { accessFlags := 25, nameIndex := 284, descriptorIndex := 25, attributes := #[] }, { accessFlags := 25, nameIndex := 286, descriptorIndex := 25, attributes := #[] }, { accessFlags := 25, nameIndex := 288, descriptorIndex := 25, attributes := #[] }, { accessFlags := 25, nameIndex := 290, descriptorIndex := 25, attributes := #[] }, { accessFlags := 25, nameIndex := 292, descriptorIndex := 25, attributes := #[] }, { accessFlags := 26, nameIndex := 108, descriptorIndex := 109, attributes := #[] }, { accessFlags := 25, nameIndex := 294, descriptorIndex := 25, attributes := #[] }])
  fields := #[{ name := "U", type := (.object "jdk/internal/misc/Unsafe"), accessFlags := 24, slot := 0, constantValue := 0 }, { name := "BIG_ENDIAN", type := .boolean, accessFlags := 26, slot := 1, constantValue := 0 }, { name := "LOG2_ARRAY_BOOLEAN_INDEX_SCALE", type := .int, accessFlags := 25, slot := 2, constantValue := 0 }, { name := "LOG2_ARRAY_BYTE_INDEX_SCALE", type := .int, accessFlags := 25, slot := 3, constantValue := 0 }, { name := "LOG2_ARRAY_CHAR_INDEX_SCALE", type := .int, accessFlags := 25, slot := 4, constantValue := 0 }, { name := "LOG2_ARRAY_SHORT_INDEX_SCALE", type := .int, accessFlags := 25, slot := 5, constantValue := 0 }, { name := "LOG2_ARRAY_INT_INDEX_SCALE", type := .int, accessFlags := 25, slot := 6, constantValue := 0 }, { name := "LOG2_ARRAY_LONG_INDEX_SCALE", type := .int, accessFlags := 25, slot := 7, constantValue := 0 }, { name := "LOG2_ARRAY_FLOAT_INDEX_SCALE", type := .int, accessFlags := 25, slot := 8, constantValue := 0 }, { name := "LOG2_ARRAY_DOUBLE_INDEX_SCALE", type := .int, accessFlags := 25, slot := 9, constantValue := 0 }, { name := "LOG2_BYTE_BIT_SIZE", type := .int, accessFlags := 26, slot := 10, constantValue := 0 }, { name := "T_BOOLEAN", type := .int, accessFlags := 25, slot := 11, constantValue := 0 }, { name := "T_CHAR", type := .int, accessFlags := 25, slot := 12, constantValue := 0 }, { name := "T_FLOAT", type := .int, accessFlags := 25, slot := 13, constantValue := 0 }, { name := "T_DOUBLE", type := .int, accessFlags := 25, slot := 14, constantValue := 0 }, { name := "T_BYTE", type := .int, accessFlags := 25, slot := 15, constantValue := 0 }, { name := "T_SHORT", type := .int, accessFlags := 25, slot := 16, constantValue := 0 }, { name := "T_INT", type := .int, accessFlags := 25, slot := 17, constantValue := 0 }, { name := "T_LONG", type := .int, accessFlags := 25, slot := 18, constantValue := 0 }, { name := "JLA", type := (.object "jdk/internal/access/JavaLangAccess"), accessFlags := 26, slot := 19, constantValue := 0 }, { name := "SOFT_MAX_ARRAY_LENGTH", type := .int, accessFlags := 25, slot := 20, constantValue := 0 }]
  methods := #[k14m0]
  instanceTypes := #[]
  staticTypes := #[(.object "jdk/internal/misc/Unsafe"), .boolean, .int, .int, .int, .int, .int, .int, .int, .int, .int, .int, .int, .int, .int, .int, .int, .int, .int, (.object "jdk/internal/access/JavaLangAccess"), .int]
  resolved := Array.replicate 378 none
  statics := none }

/-- the primitive byte -/
def k15 : Class := { plain "byte" none with kind := .primitive 'B', accessFlags := 0x411 }
/-- [B -/
def k16 : Class := { plain "[B" (some 0) with kind := .array 15 .byte, interfaces := #[11, 4], accessFlags := 1041 }

/-- the primitive char -/
def k17 : Class := { plain "char" none with kind := .primitive 'C', accessFlags := 0x411 }
/-- [C -/
def k18 : Class := { plain "[C" (some 0) with kind := .array 17 .char, interfaces := #[11, 4], accessFlags := 1041 }

/-- the primitive int -/
def k19 : Class := { plain "int" none with kind := .primitive 'I', accessFlags := 0x411 }
/-- [I -/
def k20 : Class := { plain "[I" (some 0) with kind := .array 19 .int, interfaces := #[11, 4], accessFlags := 1041 }

/-- [Lcom/example/amber_gate/ambergate/Algorithm; -/
def k21 : Class := { plain "[Lcom/example/amber_gate/ambergate/Algorithm;" (some 0) with kind := .array 6 (.object "com/example/amber_gate/ambergate/Algorithm"), interfaces := #[11, 4], accessFlags := 1041 }

def heap : Heap := #[{ cls := 6, slots := #[.ref 4, .ref 5, .ref 6, .ref 3], vm := .statics 6 },
  { cls := 9, slots := #[.long 0, .int 1, .null, .int 0, .null, .int 0, .int 0], vm := .statics 9 },
  { cls := 13, slots := #[.null, .null, .null], vm := .statics 13 },
  { cls := 21, slots := #[.ref 4, .ref 5, .ref 6], vm := .none },
  { cls := 6, slots := #[.null, .int 0, .int 0, .ref 7, .int 0], vm := .none },
  { cls := 6, slots := #[.null, .int 1, .int 0, .ref 8, .int 1], vm := .none },
  { cls := 6, slots := #[.null, .int 2, .int 0, .ref 9, .int 0], vm := .none },
  { cls := 9, slots := #[.ref 10, .int 0, .int 0, .int 0], vm := .none },
  { cls := 9, slots := #[.ref 11, .int 0, .int 0, .int 0], vm := .none },
  { cls := 9, slots := #[.ref 12, .int 0, .int 0, .int 0], vm := .none },
  { cls := 16, slots := #[.int 101, .int 120, .int 97, .int 99, .int 116], vm := .none },
  { cls := 16, slots := #[.int 115, .int 108, .int 105, .int 100, .int 105, .int 110, .int 103], vm := .none },
  { cls := 16, slots := #[.int 102, .int 105, .int 120, .int 101, .int 100], vm := .none }]
def classes : Array Class := #[k0, k1, k2, k3, k4, k5, k6, k7, k8, k9, k10, k11, k12, k13, k14, k15, k16, k17, k18, k19, k20, k21]
def interned : List (Array UInt16 × Addr) := []
def slotsUsed : Nat := 61
def theMethod : MethodId := ⟨1, 1⟩
def args0 : Array Value := #[.int 5]
def aboutOver (below : List Frame) : State where
  vm := { classes := classes, interned := interned.toArray }
  heap := heap
  slotsUsed := slotsUsed
  threads := #[{ frames := .invoking theMethod args0 :: below }]
def below0 : List Frame := [.native { method := ⟨0, 0⟩, args := #[] }]
def about1 : State := aboutOver below0
def p0 : Program := .bare "" "" ""
def e0 : Env := launch0.env 0 0 0
theorem w_frames : about1.frames = Frame.invoking theMethod args0 :: below0 := rfl
set_option maxRecDepth 65536 in
theorem w_args : argsFit about1.vm theMethod args0 = true := by decide +kernel
set_option maxRecDepth 65536 in
theorem w_heap : heapFits about1 = true := by decide +kernel
set_option maxRecDepth 65536 in
theorem w_runnable : about1.curStatus? = some .runnable := by decide +kernel
set_option maxRecDepth 65536 in
theorem w_alone : about1.alone = true := by decide +kernel
set_option maxRecDepth 65536 in
theorem w_named : about1.methodNamed? x = some theMethod := by decide +kernel
set_option maxRecDepth 65536 in
theorem w_hears : about1.hears theMethod below0 = true := by decide +kernel
set_option maxRecDepth 65536 in
theorem w_ripe : about1.ripe theMethod args0 below0 = true := by decide +kernel
theorem w_running : about1.status = .running := rfl
set_option maxRecDepth 65536 in
theorem w_room : about1.hasRoom e0.platform room_1 = true :=
  launch0.hasRoom_least _ room_1 (by decide +kernel) (by decide +kernel) (by decide +kernel) (by decide +kernel) (by decide +kernel) (by decide +kernel)
theorem allAtoms_all (ts : List Jvm.Cond) (a : Array Jvm.Value) (st : Jvm.State) : (allAtoms ts).before a st = ts.all (fun c => c.before a st) := by
  induction ts with
  | nil => rfl
  | cons c t ih =>
    show (Jvm.Cond.and c (allAtoms t)).before a st = _
    rw [Jvm.Cond.before_and, ih, List.all_cons]
def words1 : List Jvm.Cond := Jvm.Cond.code x code maxLocals ret :: tables_1
/-- a 'code' word, met by the world's own term for the bytes: nothing is compared byte by byte -/
theorem code_word {y : MethodName} {bytes : ByteArray} {mx : Nat} {rt : Option FieldType} {a : Array Value} {s : State} {m : MethodId} {meth : Method} {c : Code} (h1 : s.methodNamed? y = some m) (h2 : s.vm.method? m = some meth) (h3 : meth.code = some c) (h4 : c.code = bytes)
    (h5 : (c.maxLocals == mx && c.exceptionTable.isEmpty && decide (c.maxStack ≤ mostOperands) && decide (meth.sig.returnType = rt) && !meth.locks && decide (parseMethodDescriptor y.desc = some meth.sig)) = true) : (Jvm.Cond.code y bytes mx rt).before a s = true := by
  simp only [Bool.and_eq_true, beq_iff_eq, Bool.not_eq_true', decide_eq_true_eq] at h5
  obtain ⟨⟨⟨⟨⟨g1, g2⟩, g3⟩, g4⟩, g5⟩, g6⟩ := h5
  simp [Cond.before, Cond.holds, Cond.value, h1, h2, h3, h4, g1, g2, g3, g4, g5, g6]
def isCode : Jvm.Cond → Bool
  | .code _ _ _ _ => true
  | _ => false
theorem all_split {L : List Jvm.Cond} {P : Jvm.Cond → Bool} (h1 : L.all (fun c => isCode c || P c) = true) (h2 : ∀ c ∈ L.filter isCode, P c = true) : L.all P = true := by
  refine List.all_eq_true.mpr fun c hc => ?_
  have h := List.all_eq_true.mp h1 c hc
  rcases Bool.eq_false_or_eq_true (isCode c) with hi | hi
  · exact h2 c (List.mem_filter.mpr ⟨hc, hi⟩)
  · simpa [hi] using h
set_option maxRecDepth 65536 in
theorem w_c0 : (Jvm.Cond.code x code maxLocals ret).before args0 about1 = true := code_word (m := ⟨1, 1⟩) (meth := k1m1) (c := k1c1) (by decide +kernel) rfl rfl rfl (by decide +kernel)
set_option maxRecDepth 65536 in
theorem w_c1 : (Jvm.Cond.code ({ cls := "java/lang/String", name := "<init>", desc := "([C)V" } : Jvm.MethodName) jdk_42_method_3_code (2 : Nat) (Option.none : Option Jvm.ClassFile.FieldType)).before args0 about1 = true := code_word (m := ⟨9, 1⟩) (meth := k9m1) (c := k9c1) (by decide +kernel) rfl rfl rfl (by decide +kernel)
set_option maxRecDepth 65536 in
theorem w_c2 : (Jvm.Cond.code ({ cls := "java/lang/String", name := "<init>", desc := "([CIILjava/lang/Void;)V" } : Jvm.MethodName) jdk_42_method_149_code (6 : Nat) (Option.none : Option Jvm.ClassFile.FieldType)).before args0 about1 = true := code_word (m := ⟨9, 3⟩) (meth := k9m3) (c := k9c3) (by decide +kernel) rfl rfl rfl (by decide +kernel)
set_option maxRecDepth 65536 in
theorem w_c3 : (Jvm.Cond.code ({ cls := "java/lang/Object", name := "<init>", desc := "()V" } : Jvm.MethodName) object_method_1_code (1 : Nat) (Option.none : Option Jvm.ClassFile.FieldType)).before args0 about1 = true := code_word (m := ⟨0, 0⟩) (meth := k0m0) (c := k0c0) (by decide +kernel) rfl rfl rfl (by decide +kernel)
set_option maxRecDepth 65536 in
theorem w_c4 : (Jvm.Cond.code ({ cls := "java/lang/StringUTF16", name := "compress", desc := "([CII)[B" } : Jvm.MethodName) jdk_52_method_16_code (6 : Nat) (Option.some (Jvm.ClassFile.FieldType.array Jvm.ClassFile.FieldType.byte))).before args0 about1 = true := code_word (m := ⟨10, 2⟩) (meth := k10m2) (c := k10c2) (by decide +kernel) rfl rfl rfl (by decide +kernel)
set_option maxRecDepth 65536 in
theorem w_c5 : (Jvm.Cond.code ({ cls := "java/lang/StringUTF16", name := "compress", desc := "([CI[BII)I" } : Jvm.MethodName) jdk_52_method_21_code (7 : Nat) (Option.some Jvm.ClassFile.FieldType.int)).before args0 about1 = true := code_word (m := ⟨10, 3⟩) (meth := k10m3) (c := k10c3) (by decide +kernel) rfl rfl rfl (by decide +kernel)
set_option maxRecDepth 65536 in
theorem w_c6 : (Jvm.Cond.code ({ cls := "java/lang/StringUTF16", name := "coderFromArrayLen", desc := "([BI)B" } : Jvm.MethodName) jdk_52_method_15_code (2 : Nat) (Option.some Jvm.ClassFile.FieldType.byte)).before args0 about1 = true := code_word (m := ⟨10, 1⟩) (meth := k10m1) (c := k10c1) (by decide +kernel) rfl rfl rfl (by decide +kernel)
set_option maxRecDepth 65536 in
theorem w_c7 : (Jvm.Cond.code ({ cls := "com/example/amber_gate/ambergate/Algorithm", name := "named", desc := "(Ljava/lang/String;)Lcom/example/amber_gate/ambergate/Algorithm;" } : Jvm.MethodName) prog_1_method_6_code (5 : Nat) (Option.some (Jvm.ClassFile.FieldType.object "com/example/amber_gate/ambergate/Algorithm"))).before args0 about1 = true := code_word (m := ⟨6, 3⟩) (meth := k6m3) (c := k6c3) (by decide +kernel) rfl rfl rfl (by decide +kernel)
set_option maxRecDepth 65536 in
theorem w_c8 : (Jvm.Cond.code ({ cls := "com/example/amber_gate/ambergate/Algorithm", name := "values", desc := "()[Lcom/example/amber_gate/ambergate/Algorithm;" } : Jvm.MethodName) prog_1_method_1_code (0 : Nat) (Option.some (Jvm.ClassFile.FieldType.array (Jvm.ClassFile.FieldType.object "com/example/amber_gate/ambergate/Algorithm")))).before args0 about1 = true := code_word (m := ⟨6, 0⟩) (meth := k6m0) (c := k6c0) (by decide +kernel) rfl rfl rfl (by decide +kernel)
set_option maxRecDepth 65536 in
theorem w_c9 : (Jvm.Cond.code ({ cls := "java/lang/String", name := "equals", desc := "(Ljava/lang/Object;)Z" } : Jvm.MethodName) jdk_42_method_66_code (3 : Nat) (Option.some Jvm.ClassFile.FieldType.boolean)).before args0 about1 = true := code_word (m := ⟨9, 2⟩) (meth := k9m2) (c := k9c2) (by decide +kernel) rfl rfl rfl (by decide +kernel)
set_option maxRecDepth 65536 in
theorem w_c10 : (Jvm.Cond.code ({ cls := "java/lang/StringLatin1", name := "equals", desc := "([B[B)Z" } : Jvm.MethodName) jdk_43_method_13_code (3 : Nat) (Option.some Jvm.ClassFile.FieldType.boolean)).before args0 about1 = true := code_word (m := ⟨12, 1⟩) (meth := k12m1) (c := k12c1) (by decide +kernel) rfl rfl rfl (by decide +kernel)
set_option maxRecDepth 65536 in
theorem w_c11 : (Jvm.Cond.code ({ cls := "com/example/amber_gate/ambergate/Algorithm", name := "splitsWindow", desc := "()Z" } : Jvm.MethodName) prog_1_method_4_code (1 : Nat) (Option.some Jvm.ClassFile.FieldType.boolean)).before args0 about1 = true := code_word (m := ⟨6, 1⟩) (meth := k6m1) (c := k6c1) (by decide +kernel) rfl rfl rfl (by decide +kernel)
set_option maxRecDepth 65536 in
theorem w_c12 : (Jvm.Cond.code ({ cls := "com/example/amber_gate/ambergate/Algorithm", name := "toString", desc := "()Ljava/lang/String;" } : Jvm.MethodName) prog_1_method_5_code (1 : Nat) (Option.some (Jvm.ClassFile.FieldType.object "java/lang/String"))).before args0 about1 = true := code_word (m := ⟨6, 2⟩) (meth := k6m2) (c := k6c2) (by decide +kernel) rfl rfl rfl (by decide +kernel)
def codes1 : List Jvm.Cond := [Jvm.Cond.code x code maxLocals ret, Jvm.Cond.code ({ cls := "java/lang/String", name := "<init>", desc := "([C)V" } : Jvm.MethodName) jdk_42_method_3_code (2 : Nat) (Option.none : Option Jvm.ClassFile.FieldType), Jvm.Cond.code ({ cls := "java/lang/String", name := "<init>", desc := "([CIILjava/lang/Void;)V" } : Jvm.MethodName) jdk_42_method_149_code (6 : Nat) (Option.none : Option Jvm.ClassFile.FieldType), Jvm.Cond.code ({ cls := "java/lang/Object", name := "<init>", desc := "()V" } : Jvm.MethodName) object_method_1_code (1 : Nat) (Option.none : Option Jvm.ClassFile.FieldType), Jvm.Cond.code ({ cls := "java/lang/StringUTF16", name := "compress", desc := "([CII)[B" } : Jvm.MethodName) jdk_52_method_16_code (6 : Nat) (Option.some (Jvm.ClassFile.FieldType.array Jvm.ClassFile.FieldType.byte)), Jvm.Cond.code ({ cls := "java/lang/StringUTF16", name := "compress", desc := "([CI[BII)I" } : Jvm.MethodName) jdk_52_method_21_code (7 : Nat) (Option.some Jvm.ClassFile.FieldType.int), Jvm.Cond.code ({ cls := "java/lang/StringUTF16", name := "coderFromArrayLen", desc := "([BI)B" } : Jvm.MethodName) jdk_52_method_15_code (2 : Nat) (Option.some Jvm.ClassFile.FieldType.byte), Jvm.Cond.code ({ cls := "com/example/amber_gate/ambergate/Algorithm", name := "named", desc := "(Ljava/lang/String;)Lcom/example/amber_gate/ambergate/Algorithm;" } : Jvm.MethodName) prog_1_method_6_code (5 : Nat) (Option.some (Jvm.ClassFile.FieldType.object "com/example/amber_gate/ambergate/Algorithm")), Jvm.Cond.code ({ cls := "com/example/amber_gate/ambergate/Algorithm", name := "values", desc := "()[Lcom/example/amber_gate/ambergate/Algorithm;" } : Jvm.MethodName) prog_1_method_1_code (0 : Nat) (Option.some (Jvm.ClassFile.FieldType.array (Jvm.ClassFile.FieldType.object "com/example/amber_gate/ambergate/Algorithm"))), Jvm.Cond.code ({ cls := "java/lang/String", name := "equals", desc := "(Ljava/lang/Object;)Z" } : Jvm.MethodName) jdk_42_method_66_code (3 : Nat) (Option.some Jvm.ClassFile.FieldType.boolean), Jvm.Cond.code ({ cls := "java/lang/StringLatin1", name := "equals", desc := "([B[B)Z" } : Jvm.MethodName) jdk_43_method_13_code (3 : Nat) (Option.some Jvm.ClassFile.FieldType.boolean), Jvm.Cond.code ({ cls := "com/example/amber_gate/ambergate/Algorithm", name := "splitsWindow", desc := "()Z" } : Jvm.MethodName) prog_1_method_4_code (1 : Nat) (Option.some Jvm.ClassFile.FieldType.boolean), Jvm.Cond.code ({ cls := "com/example/amber_gate/ambergate/Algorithm", name := "toString", desc := "()Ljava/lang/String;" } : Jvm.MethodName) prog_1_method_5_code (1 : Nat) (Option.some (Jvm.ClassFile.FieldType.object "java/lang/String"))]
set_option maxRecDepth 65536 in
theorem codes_eq : words1.filter isCode = codes1 := rfl
theorem w_codes : ∀ c ∈ words1.filter isCode, c.before args0 about1 = true := by
  rw [codes_eq]
  intro c hc
  simp only [codes1, List.mem_cons, List.not_mem_nil, or_false] at hc
  rcases hc with rfl | rfl | rfl | rfl | rfl | rfl | rfl | rfl | rfl | rfl | rfl | rfl | rfl
  · exact w_c0
  · exact w_c1
  · exact w_c2
  · exact w_c3
  · exact w_c4
  · exact w_c5
  · exact w_c6
  · exact w_c7
  · exact w_c8
  · exact w_c9
  · exact w_c10
  · exact w_c11
  · exact w_c12
set_option maxRecDepth 65536 in
theorem w_t1 : (words1.take 24).all (fun c => isCode c || c.before args0 about1) = true := by decide +kernel
set_option maxRecDepth 65536 in
theorem w_t2 : ((words1.drop 24).take 24).all (fun c => isCode c || c.before args0 about1) = true := by decide +kernel
set_option maxRecDepth 65536 in
theorem w_t3 : (((words1.drop 24).drop 24).take 24).all (fun c => isCode c || c.before args0 about1) = true := by decide +kernel
set_option maxRecDepth 65536 in
theorem w_t4 : (((words1.drop 24).drop 24).drop 24).all (fun c => isCode c || c.before args0 about1) = true := by decide +kernel
theorem w_tables : (allAtoms (Jvm.Cond.code x code maxLocals ret :: tables_1)).before args0 about1 = true := by
  rw [allAtoms_all]
  show words1.all (fun c => c.before args0 about1) = true
  refine all_split ?_ w_codes
  rw [← List.take_append_drop 24 words1, List.all_append, w_t1, ← List.take_append_drop 24 (words1.drop 24), List.all_append, w_t2, ← List.take_append_drop 24 ((words1.drop 24).drop 24), List.all_append, w_t3, w_t4]
  rfl
set_option maxRecDepth 65536 in
theorem w_rest : rest_1_c.before args0 about1 = true := by decide +kernel
set_option maxRecDepth 65536 in
theorem w_case : (Jvm.Cond.and given_1 narrow_1).before args0 about1 = true := by decide +kernel
theorem w_applies : (headSpec (Jvm.Cond.code x code maxLocals ret :: tables_1) room_1).applies x e0.platform about1 = true :=
  (Spec.applies_iff w_frames).mpr ⟨w_running, w_runnable, w_alone, w_named, w_hears, w_ripe, w_room, w_tables⟩
theorem atStart : AtStart classFile x code maxLocals ret World_1 tables_1 room_1 Calls_1 rest_1 Pre_1 launch0 p0 e0 about1 theMethod args0 below0 :=
  ⟨lists_1, trivial, launch0.admits_env _ _ _, launch0.least_env, fairChoices_fair.cas, fairChoices_fair.clock, w_frames, w_args, w_heap, w_applies, trivial, w_rest, w_case⟩
end start1
theorem witness_1 : WitnessClaimed_1 := ⟨start1.p0, start1.e0, start1.about1, start1.theMethod, start1.args0, start1.below0, start1.atStart⟩
end Jvm.Pilot.@@N@@
