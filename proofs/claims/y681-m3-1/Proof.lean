import JvmDerived
import JvmDerived.Pilot.@@N@@Statement
import JvmDerived.Pilot.@@N@@Code
set_option linter.unusedVariables false
set_option linter.unusedSimpArgs false
namespace Jvm.RoadKit
open Sem ClassFile Op Lib Jvm.Stand Jvm.Free Jvm.LawKit
section OwnKit
variable {p : Program} {l : Launch} {e : Env} {R : Room} {s : State} {m : MethodId} {args : Array Value} {below : List Frame} {meth : Method} {c : Code} {T : State} {locs : List Loc} {cells slots : Nat} {rc rs : Nat} {Q : Option Value → Heap → List Loc → Prop} {S S' : State}
/-- from S on the invocation ends, it returns, and Q holds of what it returns, of the heap and of the places written -/
def OEnds (p : Program) (e : Env) (below : List Frame) (s : State) (rc rs : Nat) (Q : Option Value → Heap → List Loc → Prop) (S : State) : Prop :=
  ∃ s₂ o, Steps p.tables e below S s₂ ∧ s₂.status = .running ∧ Ended s₂ below o ∧ ∃ v L, o = .returned v ∧ Q v s₂.heap L ∧ FrameEnd s o s₂ L rc rs
theorem OEnds.via (h : ∀ t, Steps p.tables e below S' t → Steps p.tables e below S t) (k : OEnds p e below s rc rs Q S') : OEnds p e below s rc rs Q S := by
  obtain ⟨t, o, h1, r⟩ := k
  exact ⟨t, o, h _ h1, r⟩
theorem OEnds.retN (X : Stand p l e R s m args below meth c T locs cells slots) (hx : p.tables.exec = Jvm.exec) (hlk : meth.locks = false) {pc : Nat} {Ls : Array Slot} {z : Int32} {t : FieldType} {rest : List Value} (hret : meth.sig.returnType = some t) (ht : t = .boolean ∨ t = .byte ∨ t = .char ∨ t = .short)
    (hd : decode c.code pc = .ok (.ireturn, 1)) (q : Q (some (.int (nar t z))) T.heap locs) (hc : cells ≤ rc) (hs : slots ≤ rs) : OEnds p e below s rc rs Q (T.setTop (mkF m pc Ls (.int z :: rest))) := by
  obtain ⟨fs, hr, hrun, hended, hW, hsame⟩ := X.leave (v := some (.int (nar t z))) (fun h => by rw [hret] at h; cases h) hlk
  exact ⟨_, _, Jvm.RoadKit.retN X hx hret ht hd hr, hrun, hended, _, _, rfl, q, ⟨_, rfl⟩, hW, hsame.mono hc hs⟩
theorem OEnds.retI (X : Stand p l e R s m args below meth c T locs cells slots) (hx : p.tables.exec = Jvm.exec) (hlk : meth.locks = false) {pc : Nat} {Ls : Array Slot} {z : Int32} {rest : List Value} (hret : meth.sig.returnType = some .int)
    (hd : decode c.code pc = .ok (.ireturn, 1)) (q : Q (some (.int z)) T.heap locs) (hc : cells ≤ rc) (hs : slots ≤ rs) : OEnds p e below s rc rs Q (T.setTop (mkF m pc Ls (.int z :: rest))) := by
  obtain ⟨fs, hr, hrun, hended, hW, hsame⟩ := X.leave (v := some (.int z)) (fun h => by rw [hret] at h; cases h) hlk
  exact ⟨_, _, retOut X hx hret rfl (Or.inl ⟨rfl, Or.inl rfl, z, rfl⟩) hd hr, hrun, hended, _, _, rfl, q, ⟨_, rfl⟩, hW, hsame.mono hc hs⟩
theorem OEnds.retJ (X : Stand p l e R s m args below meth c T locs cells slots) (hx : p.tables.exec = Jvm.exec) (hlk : meth.locks = false) {pc : Nat} {Ls : Array Slot} {z : Int64} {rest : List Value} (hret : meth.sig.returnType = some .long)
    (hd : decode c.code pc = .ok (.lreturn, 1)) (q : Q (some (.long z)) T.heap locs) (hc : cells ≤ rc) (hs : slots ≤ rs) : OEnds p e below s rc rs Q (T.setTop (mkF m pc Ls (.long z :: rest))) := by
  obtain ⟨fs, hr, hrun, hended, hW, hsame⟩ := X.leave (v := some (.long z)) (fun h => by rw [hret] at h; cases h) hlk
  exact ⟨_, _, retOut X hx hret rfl (Or.inr (Or.inl ⟨rfl, rfl, z, rfl⟩)) hd hr, hrun, hended, _, _, rfl, q, ⟨_, rfl⟩, hW, hsame.mono hc hs⟩
theorem OEnds.retR (X : Stand p l e R s m args below meth c T locs cells slots) (hx : p.tables.exec = Jvm.exec) (hlk : meth.locks = false) {pc : Nat} {Ls : Array Slot} {w : Value} {t : FieldType} {rest : List Value} (hret : meth.sig.returnType = some t) (ht : t.isReference = true) (hw : w.isRef = true)
    (hd : decode c.code pc = .ok (.areturn, 1)) (q : Q (some w) T.heap locs) (hc : cells ≤ rc) (hs : slots ≤ rs) : OEnds p e below s rc rs Q (T.setTop (mkF m pc Ls (w :: rest))) := by
  obtain ⟨fs, hr, hrun, hended, hW, hsame⟩ := X.leave (v := some w) (fun h => by rw [hret] at h; cases h) hlk
  have hn : narrow t w = w := by rcases ref_cases hw with rfl | ⟨a, rfl⟩ <;> cases t <;> rfl
  exact ⟨_, _, retOut X hx hret hn (Or.inr (Or.inr (Or.inr (Or.inr ⟨rfl, ht, hw⟩)))) hd hr, hrun, hended, _, _, rfl, q, ⟨_, rfl⟩, hW, hsame.mono hc hs⟩
theorem OEnds.retV (X : Stand p l e R s m args below meth c T locs cells slots) (hx : p.tables.exec = Jvm.exec) (hlk : meth.locks = false) {pc : Nat} {Ls : Array Slot} (hret : meth.sig.returnType = none)
    (hd : decode c.code pc = .ok (.return_, 1)) (q : Q none T.heap locs) (hc : cells ≤ rc) (hs : slots ≤ rs) : OEnds p e below s rc rs Q (T.setTop (mkF m pc Ls [])) := by
  obtain ⟨fs, hr, hrun, hended, hW, hsame⟩ := X.leave (v := none) (fun _ => rfl) hlk
  exact ⟨_, _, X.returnOut hx hret hd hr, hrun, hended, _, _, rfl, q, ⟨_, rfl⟩, hW, hsame.mono hc hs⟩
/-- the call answers r, writes nothing that was there, makes nothing -/
def QA (r : Option Value) (h0 : Heap) (n0 : Nat) : Option Value → Heap → List Loc → Prop := fun v h L => v = r ∧ Fr n0 L ∧ h = h0
/-- the law's own answer -/
def QL (n0 : Nat) : Option Value → Heap → List Loc → Prop := fun v _ L => v = some (.int 1) ∧ Fr n0 L
theorem own_lc0 (x : Int64) : lcmpW x x = 0 := by rw [lcW]; exact (lc_eq _ _).mpr rfl
theorem own_lcpos {x y : Int64} (h : y < x) : 0 < lcmpW x y := by rw [lcW]; exact (lc_gt _ _).mpr h
theorem own_lcnpos {x y : Int64} (h : ¬ y < x) : ¬ 0 < lcmpW x y := by rw [lcW]; exact fun q => h ((lc_gt _ _).mp q)
theorem own_narrow {t : String} {w : Value} (h : w.isRef = true) : narrow (.object t) w = w := by rcases ref_cases h with rfl | ⟨_, rfl⟩ <;> rfl
theorem own_fits {t : String} {w : Value} (h : w.isRef = true) : fits (.object t) w = true := by rcases ref_cases h with rfl | ⟨_, rfl⟩ <;> rfl
/-- a method's class is no interface, by a selects word that lands in it -/
theorem own_nfs {a0 : Array Value} {C : String} {y' z y : MethodName} (hsel : (Cond.selects C y' z).before a0 s = true) (e : y.cls = z.cls) : NotFace s y := fun r0 h0 => by
  obtain ⟨c2, r2, m2, q1, q2, q3, q4, kP, hkP, hkPi⟩ := Cond.selects_spec hsel
  have f1 := findClass_of_methodNamed h0
  have f2 := findClass_of_methodNamed q3
  rw [e, f2] at f1
  rw [← Option.some.inj f1]
  exact ⟨kP, hkP, hkPi⟩
end OwnKit
section OwnWords
variable {args : Array Value} {s : State} {t u : Term} {a : Addr} {cl : Cell} {ty : FieldType} {j k : Int32}
theorem own_eqint (h : (Jvm.Cond.eq t (.int k)).value args s none s [] = some true) : t.eval args s none [] s = some (.int k) := by
  obtain ⟨x, y, e1, e2, -, k2⟩ := cmp_v (Or.inl h)
  obtain rfl : Value.int k = y := Option.some.inj ((Term.int_eval k).symm.trans e2)
  obtain ⟨z, rfl⟩ : ∃ z, x = .int z := k2
  have q := gotT (Cond.eq_ints e1 (Term.int_eval k)) h
  rw [e1, q]
theorem own_len (h : (Jvm.Cond.eq (.length t) (.int k)).value args s none s [] = some true) (ev : t.eval args s none [] s = some (.ref a)) (A : Arr s s.heap a cl ty) : cl.slots.size < 2 ^ 31 ∧ cl.slots.size.toInt32 = k := by
  have e1 := own_eqint h
  have e2 : s.arrayAt? a = some cl := A.fin (Vm.Alike.refl _)
  have e3 : cl.slots.size < 2 ^ 31 := by
    refine Classical.byContradiction fun q => ?_
    simp [Term.eval, ev, e2, q] at e1
  have e4 := len_f ev e2 e3
  rw [e1] at e4
  exact ⟨e3, (Value.int.inj (Option.some.inj e4)).symm⟩
theorem own_elem (h : (Jvm.Cond.eq (.elem t (.int j)) (.int k)).value args s none s [] = some true) (ev : t.eval args s none [] s = some (.ref a)) (A : Arr s s.heap a cl ty) : cl.slots[j.toNatClampNeg]? = some (.int k) :=
  (elem_in (own_eqint h) ev (Term.int_eval j) A.1).2
theorem own_eqref (h : (Jvm.Cond.eq t u).value args s none s [] = some true) (eu : u.eval args s none [] s = some (.ref a)) : t.eval args s none [] s = some (.ref a) := by
  obtain ⟨x, y, e1, e2, -, k2⟩ := cmp_v (Or.inl h)
  obtain rfl : Value.ref a = y := Option.some.inj (eu.symm.trans e2)
  have hx : x.isRef = true := k2.2
  have q := gotT (eq_R e1 eu hx rfl) h
  rw [e1, q]
theorem own_elemR (h : (Jvm.Cond.eq (.elem t (.int j)) u).value args s none s [] = some true) {b : Addr} (eu : u.eval args s none [] s = some (.ref b)) (ev : t.eval args s none [] s = some (.ref a)) (A : Arr s s.heap a cl ty) : cl.slots[j.toNatClampNeg]? = some (.ref b) :=
  (elem_in (own_eqref h eu) ev (Term.int_eval j) A.1).2
theorem own_arrkeep {Z : State} {h h' : Heap} {a : Addr} {c : Cell} {ty : FieldType} {ws : List Addr} (A : Arr Z h a c ty) (K : Keep h h' ws) (q : a ∉ ws) : Arr Z h' a c ty := ⟨K.2.1 a c A.1 q, A.2⟩
end OwnWords
end Jvm.RoadKit
/- laws to paste: Road.backV (cut by pick.py; bodies as the Statement names them) -/
namespace Jvm.Pilot.@@N@@
namespace StrChars
open Jvm Sem ClassFile Op Lib Jvm.Stand Jvm.Free.XT Jvm.Free.ALB Jvm.Free.JM Jvm.Free
open Jvm.Lib.Cold (StaticIs)
/-- a char array whose places are chars -/
def Ch (a : Addr) (A : Cell) (U : State) : Prop := Arr .char a A U ∧ Typed .char A
theorem Ch.mv {a : Addr} {A : Cell} {U U' : State} (h : Ch a A U) (hal : U.vm.Alike U'.vm) (hh : U'.heap = U.heap) : Ch a A U' := ⟨h.1.mv hal hh, h.2⟩
theorem Ch.keep {a : Addr} {A : Cell} {U U' : State} (h : Ch a A U) (hal : U.vm.Alike U'.vm) (hk : U'.heap[a]? = some A) : Ch a A U' := ⟨h.1.keep hal hk, h.2⟩
/-- what place i of a char[]'s cell holds -/
def cv (A : Cell) (i : Nat) : Int32 := match A.slots[i]? with | some (.int x) => x | _ => 0
theorem Ch.get {a : Addr} {A : Cell} {U : State} (h : Ch a A U) {i : Nat} (hi : i < A.slots.size) : A.slots[i]? = some (.int (cv A i)) := by
  have e := Array.getElem?_eq_getElem hi
  have f := h.2 i _ e
  unfold cv; rw [e]
  generalize A.slots[i] = v at f
  cases v <;> simp [fits] at f ⊢
/-- the byte that i2b leaves of a char -/
def lo8 (x : Int32) : Int32 := x.toInt8.toInt32
theorem fits_lo8 (y : Int32) : fits .byte (.int (lo8 y)) = true := by
  have h1 := y.toInt8.le_toInt
  have h2 := y.toInt8.toInt_lt
  simp only [lo8, fits, Bool.and_eq_true, decide_eq_true_eq, Int32.le_iff_toInt_le, Int8.toInt_toInt32, show (-128 : Int32).toInt = -128 from by decide, show (127 : Int32).toInt = 127 from by decide]
  omega
/-- A' is A but that each place j of lo .. hi - 1 holds f j -/
def Laid (A A' : Cell) (lo hi : Nat) (f : Nat → Value) : Prop := A'.cls = A.cls ∧ A'.vm = A.vm ∧ A'.slots.size = A.slots.size ∧ ∀ i, A'.slots[i]? = if lo ≤ i ∧ i < hi then some (f i) else A.slots[i]?
theorem Laid.zero (A : Cell) (lo : Nat) (f : Nat → Value) : Laid A A lo (lo + 0) f := ⟨rfl, rfl, rfl, fun i => by rw [if_neg (by omega)]⟩
theorem Laid.step {A Ak : Cell} {lo k : Nat} {f : Nat → Value} {v : Value} (h : Laid A Ak lo k f) (hlo : lo ≤ k) (hk : k < Ak.slots.size) (hv : v = f k) : Laid A (Ak.setSlot k v) lo (k + 1) f := by
  refine ⟨h.1, h.2.1, by simpa [Cell.setSlot] using h.2.2.1, fun i => ?_⟩
  by_cases e : k = i
  · subst e; rw [Cell.slots_setSlot_self v hk, if_pos (by omega), hv]
  · rw [Cell.slots_setSlot_ne v e, h.2.2.2 i]
    by_cases q : lo ≤ i ∧ i < k
    · rw [if_pos q, if_pos (by omega)]
    · rw [if_neg q, if_neg (by omega)]
def U16 : String := "java/lang/StringUTF16"
namespace Cmp5
def yN : MethodName := ⟨"java/lang/StringUTF16", "compress", "([CI[BII)I"⟩
abbrev yB : ByteArray := jdk_52_method_21_code
theorem d0 : decode yB 0 = .ok (.iconst 0, 1) := by decide +kernel
theorem d1 : decode yB 1 = .ok (.istore 5, 2) := by decide +kernel
theorem d3 : decode yB 3 = .ok (.iload 5, 2) := by decide +kernel
theorem d5 : decode yB 5 = .ok (.iload 4, 2) := by decide +kernel
theorem d7 : decode yB 7 = .ok (.if_icmp (.ge) 37, 3) := by decide +kernel
theorem d10 : decode yB 10 = .ok (.aload_n 0, 1) := by decide +kernel
theorem d11 : decode yB 11 = .ok (.iload_n 1, 1) := by decide +kernel
theorem d12 : decode yB 12 = .ok (.caload, 1) := by decide +kernel
theorem d13 : decode yB 13 = .ok (.istore 6, 2) := by decide +kernel
theorem d15 : decode yB 15 = .ok (.iload 6, 2) := by decide +kernel
theorem d17 : decode yB 17 = .ok (.sipush 255, 3) := by decide +kernel
theorem d20 : decode yB 20 = .ok (.if_icmp (.le) 6, 3) := by decide +kernel
theorem d26 : decode yB 26 = .ok (.aload_n 2, 1) := by decide +kernel
theorem d27 : decode yB 27 = .ok (.iload_n 3, 1) := by decide +kernel
theorem d28 : decode yB 28 = .ok (.iload 6, 2) := by decide +kernel
theorem d30 : decode yB 30 = .ok (.i2b, 1) := by decide +kernel
theorem d31 : decode yB 31 = .ok (.bastore, 1) := by decide +kernel
theorem d32 : decode yB 32 = .ok (.iinc 1 1, 3) := by decide +kernel
theorem d35 : decode yB 35 = .ok (.iinc 3 1, 3) := by decide +kernel
theorem d38 : decode yB 38 = .ok (.iinc 5 1, 3) := by decide +kernel
theorem d41 : decode yB 41 = .ok (.goto (-38), 3) := by decide +kernel
theorem d44 : decode yB 44 = .ok (.iload 4, 2) := by decide +kernel
theorem d46 : decode yB 46 = .ok (.ireturn, 1) := by decide +kernel
def site : List Cond := []
def tab : Cond := tabOf yN yB 7 (some .int) site
def P (b : Addr) (A : Cell) (d : Addr) (B : Cell) (o q len : Nat) (args : Array Value) (s : State) : Prop := args = #[.ref b, .int (Int32.ofNat o), .ref d, .int (Int32.ofNat q), .int (Int32.ofNat len)] ∧ Ch b A s ∧ Arr .byte d B s ∧ b ≠ d ∧ o + len ≤ A.slots.size ∧ q + len ≤ B.slots.size ∧ ∀ i, i < len → ¬ 255 < cv A (o + i)
def E (b : Addr) (A : Cell) (d : Addr) (B : Cell) (o q len : Nat) (r : Option Value) (s u : State) : Prop := r = some (.int (Int32.ofNat len)) ∧ ∃ B', Put d B' s u ∧ Laid B B' q (q + len) (fun j => Value.int (lo8 (cv A (o + (j - q)))))
/-- no char of the range above 255: len; the places written hold each char's low byte -/
theorem law (l : Launch) (b : Addr) (A : Cell) (d : Addr) (B : Cell) (o q len : Nat) : Law l yN 5 5 0 0 yB 7 (some .int) site (P b A d B o q len) (E b A d B o q len) (copyLocs d q len) 0 0 := by
  refine Law.of_walk (plainFor_of_name (by decide +kernel)) (by decide +kernel) (by decide +kernel) (by decide) (fun _ _ h => by rw [h.1]; rfl) (fun _ U U' hal hh h => ⟨h.1, h.2.1.mv hal hh, h.2.2.1.mv hal hh, h.2.2.2⟩) (fun r U U' V V' h1 hal h2 h => ⟨h.1, h.2.elim fun B' q => ⟨B', q.1.mv h1 h2, q.2⟩⟩) ?_
  intro p e s m args below meth c s₁ X0 hexec hbytes hml hret hlk hnm hown hh0 W hP
  obtain ⟨rfl, hA, hB, hne, l1, l2, hp⟩ := hP
  have c1 : Steps p.tables e below (s₁.setTop (entryFrame m #[.ref b, .int (Int32.ofNat o), .ref d, .int (Int32.ofNat q), .int (Int32.ofNat len)] 7)) (s₁.setTop (mkF m 0 #[.val (.ref b), .val (.int (Int32.ofNat o)), .val (.ref d), .val (.int (Int32.ofNat q)), .val (.int (Int32.ofNat len)), .unset, .unset] [])) := entry rfl
  have hA0 := hA.1.mv X0.warmed.alike hh0
  have hB0 := hB.mv X0.warmed.alike hh0
  have a31 := hA.1.2.2.2
  have c2 : Steps p.tables e below (s₁.setTop (entryFrame m #[.ref b, .int (Int32.ofNat o), .ref d, .int (Int32.ofNat q), .int (Int32.ofNat len)] 7)) (s₁.setTop (mkF m 3 #[.val (.ref b), .val (.int (Int32.ofNat o)), .val (.ref d), .val (.int (Int32.ofNat q)), .val (.int (Int32.ofNat len)), .val (.int 0), .unset] [])) := c1.trans (by
    refine iconstV X0.here hexec rfl 0 (hb hbytes d0) (by decide) ?_
    refine XS.istore X0.here hexec rfl (hb hbytes d1) rfl rfl ?_
    exact Steps.refl _)
  have loop : ∀ (r i : Nat), i + r = len → ∀ (z : Slot), (z = .unset ∨ ∃ w, z = .val w ∧ w.category = 1) → ∀ (Tl : State) (Bk : Cell), Stand p l e { frames := 0, locals := 0, cells := 0, slots := 0 } s m #[.ref b, .int (Int32.ofNat o), .ref d, .int (Int32.ofNat q), .int (Int32.ofNat len)] below meth c Tl ([] ++ copyLocs d q i) 0 0 → Put d Bk s₁ Tl → Laid B Bk q (q + i) (fun j => Value.int (lo8 (cv A (o + (j - q))))) →
      Steps p.tables e below (s₁.setTop (entryFrame m #[.ref b, .int (Int32.ofNat o), .ref d, .int (Int32.ofNat q), .int (Int32.ofNat len)] 7)) (Tl.setTop (mkF m 3 #[.val (.ref b), .val (.int (Int32.ofNat (o + i))), .val (.ref d), .val (.int (Int32.ofNat (q + i))), .val (.int (Int32.ofNat len)), .val (.int (Int32.ofNat i)), z] [])) → ∃ (T' : State) (B' : Cell) (z' : Slot), Stand p l e { frames := 0, locals := 0, cells := 0, slots := 0 } s m #[.ref b, .int (Int32.ofNat o), .ref d, .int (Int32.ofNat q), .int (Int32.ofNat len)] below meth c T' ([] ++ copyLocs d q len) 0 0 ∧ Put d B' s₁ T' ∧ Laid B B' q (q + len) (fun j => Value.int (lo8 (cv A (o + (j - q))))) ∧
      Steps p.tables e below (s₁.setTop (entryFrame m #[.ref b, .int (Int32.ofNat o), .ref d, .int (Int32.ofNat q), .int (Int32.ofNat len)] 7)) (T'.setTop (mkF m 3 #[.val (.ref b), .val (.int (Int32.ofNat (o + len))), .val (.ref d), .val (.int (Int32.ofNat (q + len))), .val (.int (Int32.ofNat len)), .val (.int (Int32.ofNat len)), z'] [])) := by
    intro r
    induction r with
    | zero =>
      intro i hi z hz Tl Bk Xl pl fl cl
      have hil : i = len := by omega
      rw [hil] at Xl fl cl
      exact ⟨Tl, Bk, z, Xl, pl, fl, cl⟩
    | succ r ih =>
      intro i hi z hz Tl Bk Xl pl fl cl
      have all := X0.warmed.alike.symm.trans Xl.warmed.alike
      have hAl := hA0.keep all (pl.other hne hA0.1)
      have hBk := hB0.like all pl.1 fl.1 fl.2.1 fl.2.2.1
      have hlt : q + i < Bk.slots.size := by rw [fl.2.2.1]; omega
      have c3 : Steps p.tables e below (s₁.setTop (entryFrame m #[.ref b, .int (Int32.ofNat o), .ref d, .int (Int32.ofNat q), .int (Int32.ofNat len)] 7)) (Tl.setTop (mkF m 12 #[.val (.ref b), .val (.int (Int32.ofNat (o + i))), .val (.ref d), .val (.int (Int32.ofNat (q + i))), .val (.int (Int32.ofNat len)), .val (.int (Int32.ofNat i)), z] [.int (Int32.ofNat (o + i)), .ref b])) := cl.trans (by
        refine XS.iload Xl.here hexec rfl (hb hbytes d3) rfl ?_
        refine XS.iload Xl.here hexec rfl (hb hbytes d5) rfl ?_
        refine XS.icmpNo Xl.here hexec rfl (hb hbytes d7) rfl (ii_ge_f (lt32 (by omega) (by omega))) ?_
        refine XS.aloadN Xl.here hexec rfl (hb hbytes d10) rfl rfl ?_
        refine XS.iloadN Xl.here hexec rfl (hb hbytes d11) rfl ?_
        exact Steps.refl _)
      have c4 : Steps p.tables e below (s₁.setTop (entryFrame m #[.ref b, .int (Int32.ofNat o), .ref d, .int (Int32.ofNat q), .int (Int32.ofNat len)] 7)) (Tl.setTop (mkF m 13 #[.val (.ref b), .val (.int (Int32.ofNat (o + i))), .val (.ref d), .val (.int (Int32.ofNat (q + i))), .val (.int (Int32.ofNat len)), .val (.int (Int32.ofNat i)), z] [.int (cv A (o + i))])) := c3.trans (by
        refine Xl.aget hexec hAl rfl (hA.get (i := o + i) (by omega)) rfl rfl (hb hbytes d12) ?_
        exact Steps.refl _)
      have c5 : Steps p.tables e below (s₁.setTop (entryFrame m #[.ref b, .int (Int32.ofNat o), .ref d, .int (Int32.ofNat q), .int (Int32.ofNat len)] 7)) (Tl.setTop (mkF m 15 #[.val (.ref b), .val (.int (Int32.ofNat (o + i))), .val (.ref d), .val (.int (Int32.ofNat (q + i))), .val (.int (Int32.ofNat len)), .val (.int (Int32.ofNat i)), .val (.int (cv A (o + i)))] [])) := c4.trans (by
        refine XS.istoreS Xl.here hexec rfl (hb hbytes d13) rfl rfl hz ?_
        exact Steps.refl _)
      have c6 : Steps p.tables e below (s₁.setTop (entryFrame m #[.ref b, .int (Int32.ofNat o), .ref d, .int (Int32.ofNat q), .int (Int32.ofNat len)] 7)) (Tl.setTop (mkF m 31 #[.val (.ref b), .val (.int (Int32.ofNat (o + i))), .val (.ref d), .val (.int (Int32.ofNat (q + i))), .val (.int (Int32.ofNat len)), .val (.int (Int32.ofNat i)), .val (.int (cv A (o + i)))] [.int (lo8 (cv A (o + i))), .int (Int32.ofNat (q + i)), .ref d])) := c5.trans (by
        refine XS.iload Xl.here hexec rfl (hb hbytes d15) rfl ?_
        refine sipushV Xl.here hexec rfl 255 (hb hbytes d17) (by decide) ?_
        refine XS.icmpYes Xl.here hexec rfl (pc0 := 20) rfl (hb hbytes d20) rfl (ii_le_t (hp i (by omega))) (by decide) rfl ?_
        refine XS.aloadN Xl.here hexec rfl (hb hbytes d26) rfl rfl ?_
        refine XS.iloadN Xl.here hexec rfl (hb hbytes d27) rfl ?_
        refine XS.iload Xl.here hexec rfl (hb hbytes d28) rfl ?_
        refine i2b Xl.here hexec rfl (hb hbytes d30) rfl ?_
        exact Steps.refl _)
      obtain ⟨T7, X7, p7, st7⟩ := Xl.aput hexec hBk rfl hlt rfl (fits_lo8 (cv A (o + i))) (g := (mkF m 31 #[.val (.ref b), .val (.int (Int32.ofNat (o + i))), .val (.ref d), .val (.int (Int32.ofNat (q + i))), .val (.int (Int32.ofNat len)), .val (.int (Int32.ofNat i)), .val (.int (cv A (o + i)))] [.int (lo8 (cv A (o + i))), .int (Int32.ofNat (q + i)), .ref d])) rfl (rest := []) rfl (hb hbytes d31)
      have c8 : Steps p.tables e below (s₁.setTop (entryFrame m #[.ref b, .int (Int32.ofNat o), .ref d, .int (Int32.ofNat q), .int (Int32.ofNat len)] 7)) (T7.setTop (mkF m 32 #[.val (.ref b), .val (.int (Int32.ofNat (o + i))), .val (.ref d), .val (.int (Int32.ofNat (q + i))), .val (.int (Int32.ofNat len)), .val (.int (Int32.ofNat i)), .val (.int (cv A (o + i)))] [])) := c6.trans (st7 _ (Steps.refl _))
      have c9 : Steps p.tables e below (s₁.setTop (entryFrame m #[.ref b, .int (Int32.ofNat o), .ref d, .int (Int32.ofNat q), .int (Int32.ofNat len)] 7)) (T7.setTop (mkF m 3 #[.val (.ref b), .val (.int (Int32.ofNat (o + i) + 1)), .val (.ref d), .val (.int (Int32.ofNat (q + i) + 1)), .val (.int (Int32.ofNat len)), .val (.int (Int32.ofNat i + 1)), .val (.int (cv A (o + i)))] [])) := c8.trans (by
        refine iincV X7.here hexec rfl 1 (hb hbytes d32) (by decide) rfl rfl ?_
        refine iincV X7.here hexec rfl 1 (hb hbytes d35) (by decide) rfl rfl ?_
        refine iincV X7.here hexec rfl 1 (hb hbytes d38) (by decide) rfl rfl ?_
        refine XS.goto X7.here hexec rfl (pc0 := 41) rfl (hb hbytes d41) (by decide) rfl ?_
        exact Steps.refl _)
      have c10 : Steps p.tables e below (s₁.setTop (entryFrame m #[.ref b, .int (Int32.ofNat o), .ref d, .int (Int32.ofNat q), .int (Int32.ofNat len)] 7)) (T7.setTop (mkF m 3 #[.val (.ref b), .val (.int (Int32.ofNat (o + (i + 1)))), .val (.ref d), .val (.int (Int32.ofNat (q + (i + 1)))), .val (.int (Int32.ofNat len)), .val (.int (Int32.ofNat (i + 1))), .val (.int (cv A (o + i)))] [])) := by
        have := c9
        rw [succ32, succ32, succ32] at this
        exact this
      exact ih (i + 1) (by omega) _ (Or.inr ⟨_, rfl, rfl⟩) T7 _ (by rw [copyLocs_step, ← List.append_assoc]; exact X7) (pl.trans p7) (fl.step (by omega) hlt (by simp)) c10
  obtain ⟨T9, B9, z9, X9, p9, f9, g9⟩ := loop len 0 (by omega) .unset (Or.inl rfl) s₁ B (by simpa [copyLocs] using X0) ⟨hB0.1, fun _ _ => rfl, rfl⟩ (Laid.zero _ _ _) c2
  have c11 : Steps p.tables e below (s₁.setTop (entryFrame m #[.ref b, .int (Int32.ofNat o), .ref d, .int (Int32.ofNat q), .int (Int32.ofNat len)] 7)) (T9.setTop (mkF m 46 #[.val (.ref b), .val (.int (Int32.ofNat (o + len))), .val (.ref d), .val (.int (Int32.ofNat (q + len))), .val (.int (Int32.ofNat len)), .val (.int (Int32.ofNat len)), z9] [.int (Int32.ofNat len)])) := g9.trans (by
    refine XS.iload X9.here hexec rfl (hb hbytes d3) rfl ?_
    refine XS.iload X9.here hexec rfl (hb hbytes d5) rfl ?_
    refine XS.icmpYes X9.here hexec rfl (pc0 := 7) rfl (hb hbytes d7) rfl (ii_ge_t (nlt32 (by omega) (Nat.le_refl _))) (by decide) rfl ?_
    refine XS.iload X9.here hexec rfl (hb hbytes d44) rfl ?_
    exact Steps.refl _)
  exact ⟨T9, some (.int (Int32.ofNat len)), _, _, _, X9, by simp, rfl, rfl, (fun h => by cases h), ⟨rfl, B9, p9.from hh0, f9⟩, fun fs hl => c11.trans (X9.ireturnOut hexec hret rfl (Or.inl rfl) (hb hbytes d46) hl)⟩
end Cmp5
namespace Cmp3
def yN : MethodName := ⟨"java/lang/StringUTF16", "compress", "([CII)[B"⟩
abbrev yB : ByteArray := jdk_52_method_16_code
theorem d0 : decode yB 0 = .ok (.iload_n 2, 1) := by decide +kernel
theorem d1 : decode yB 1 = .ok (.newarray .byte, 2) := by decide +kernel
theorem d3 : decode yB 3 = .ok (.astore_n 3, 1) := by decide +kernel
theorem d4 : decode yB 4 = .ok (.aload_n 0, 1) := by decide +kernel
theorem d5 : decode yB 5 = .ok (.iload_n 1, 1) := by decide +kernel
theorem d6 : decode yB 6 = .ok (.aload_n 3, 1) := by decide +kernel
theorem d7 : decode yB 7 = .ok (.iconst 0, 1) := by decide +kernel
theorem d8 : decode yB 8 = .ok (.iload_n 2, 1) := by decide +kernel
theorem d9 : decode yB 9 = .ok (.invokestatic 115, 3) := by decide +kernel
theorem d12 : decode yB 12 = .ok (.istore 4, 2) := by decide +kernel
theorem d14 : decode yB 14 = .ok (.iload 4, 2) := by decide +kernel
theorem d16 : decode yB 16 = .ok (.iload_n 2, 1) := by decide +kernel
theorem d17 : decode yB 17 = .ok (.if_icmp (.eq) 40, 3) := by decide +kernel
theorem d57 : decode yB 57 = .ok (.aload_n 3, 1) := by decide +kernel
theorem d58 : decode yB 58 = .ok (.areturn, 1) := by decide +kernel
def site : List Cond := [.arrayClass .byte, Cmp5.tab] ++ staticW U16 115 Cmp5.yN
def tab : Cond := tabOf yN yB 6 (some (.array .byte)) site
def P (b : Addr) (A : Cell) (o len : Nat) (args : Array Value) (s : State) : Prop := args = #[.ref b, .int (Int32.ofNat o), .int (Int32.ofNat len)] ∧ Ch b A s ∧ o + len ≤ A.slots.size ∧ len ≤ 536870912 ∧ ∀ i, i < len → ¬ 255 < cv A (o + i)
def E (b : Addr) (A : Cell) (o len : Nat) (r : Option Value) (s u : State) : Prop := NewArr .byte "[B" len (fun j => .int (lo8 (cv A (o + j)))) r s u ∧ u.heap.size = s.heap.size + 1
/-- no char of the range above 255: a new byte[] of their low bytes -/
theorem law (l : Launch) (b : Addr) (A : Cell) (o len : Nat) : Law l yN 3 3 1 18 yB 6 (some (.array .byte)) site (P b A o len) (E b A o len) [] 1 len := by
  refine Law.of_walk (plainFor_of_name (by decide +kernel)) (by decide +kernel) (by decide +kernel) (by decide) (fun _ _ h => by rw [h.1]; rfl) (fun _ U U' hal hh h => ⟨h.1, h.2.1.mv hal hh, h.2.2⟩) (fun r U U' V V' h1 hal h2 h => ⟨NewArr.mv r U U' V V' h1 hal h2 h.1, by rw [h1, h2]; exact h.2⟩) ?_
  intro p e s m args below meth c s₁ X0 hexec hbytes hml hret hlk hnm hown hh0 W hP
  obtain ⟨rfl, hA, l1, l2, hp⟩ := hP
  have a31 := hA.1.2.2.2
  have c1 : Steps p.tables e below (s₁.setTop (entryFrame m #[.ref b, .int (Int32.ofNat o), .int (Int32.ofNat len)] 6)) (s₁.setTop (mkF m 0 #[.val (.ref b), .val (.int (Int32.ofNat o)), .val (.int (Int32.ofNat len)), .unset, .unset, .unset] [])) := entry rfl
  have c2 : Steps p.tables e below (s₁.setTop (entryFrame m #[.ref b, .int (Int32.ofNat o), .int (Int32.ofNat len)] 6)) (s₁.setTop (mkF m 1 #[.val (.ref b), .val (.int (Int32.ofNat o)), .val (.int (Int32.ofNat len)), .unset, .unset, .unset] [.int (Int32.ofNat len)])) := c1.trans (by
    refine XS.iloadN X0.here hexec rfl (hb hbytes d0) rfl ?_
    exact Steps.refl _)
  obtain ⟨T3, B3, X3, ba3, bs3, bv3, bh3, bf3, st3⟩ := X0.anew hexec (atype := .byte) (wk W (.arrayClass .byte)) rfl (by show len * 1 ≤ _; omega) (by omega) (g := (mkF m 1 #[.val (.ref b), .val (.int (Int32.ofNat o)), .val (.int (Int32.ofNat len)), .unset, .unset, .unset] [.int (Int32.ofNat len)])) rfl (hb hbytes d1) (rest := []) rfl (Nat.le_refl _) (by show 0 + len ≤ len; omega)
  rw [hh0] at ba3 st3
  have kp3 : XT.Kept s T3 := (XT.Kept.of_eq hh0).push bh3
  have hA3 := hA.keep X3.warmed.alike (kp3 _ _ hA.1.1)
  have hne : b ≠ s.heap.size := hA.1.ne
  have c4 : Steps p.tables e below (s₁.setTop (entryFrame m #[.ref b, .int (Int32.ofNat o), .int (Int32.ofNat len)] 6)) (T3.setTop (mkF m 3 #[.val (.ref b), .val (.int (Int32.ofNat o)), .val (.int (Int32.ofNat len)), .unset, .unset, .unset] [.ref s.heap.size])) := c2.trans (st3 _ (Steps.refl _))
  have c5 : Steps p.tables e below (s₁.setTop (entryFrame m #[.ref b, .int (Int32.ofNat o), .int (Int32.ofNat len)] 6)) (T3.setTop (mkF m 9 #[.val (.ref b), .val (.int (Int32.ofNat o)), .val (.int (Int32.ofNat len)), .val (.ref s.heap.size), .unset, .unset] [.int (Int32.ofNat len), .int 0, .ref s.heap.size, .int (Int32.ofNat o), .ref b])) := c4.trans (by
    refine XS.astoreN X3.here hexec rfl (hb hbytes d3) rfl rfl rfl ?_
    refine XS.aloadN X3.here hexec rfl (hb hbytes d4) rfl rfl ?_
    refine XS.iloadN X3.here hexec rfl (hb hbytes d5) rfl ?_
    refine XS.aloadN X3.here hexec rfl (hb hbytes d6) rfl rfl ?_
    refine iconstV X3.here hexec rfl 0 (hb hbytes d7) (by decide) ?_
    refine XS.iloadN X3.here hexec rfl (hb hbytes d8) rfl ?_
    exact Steps.refl _)
  obtain ⟨v6, T6, X6, E6, g6⟩ := X3.callS hexec (Cmp5.law l b A s.heap.size B3 o 0 len) hown (wks W (staticW U16 115 Cmp5.yN)) (wk W Cmp5.tab) (W := 0) (Nat.le_of_ble_eq_true rfl) (Nat.le_of_ble_eq_true rfl) (Nat.le_refl _) (by show 0 + len + 0 ≤ len; omega) (g := (mkF m 9 #[.val (.ref b), .val (.int (Int32.ofNat o)), .val (.int (Int32.ofNat len)), .val (.ref s.heap.size), .unset, .unset] [.int (Int32.ofNat len), .int (Int32.ofNat 0), .ref s.heap.size, .int (Int32.ofNat o), .ref b])) rfl (by rw [hml]; rfl) c5 (argsL := [.ref b, .int (Int32.ofNat o), .ref s.heap.size, .int (Int32.ofNat 0), .int (Int32.ofNat len)]) (rest := []) rfl rfl (by show 2 * 0 + 0 ≤ _; decide) (hb hbytes d9) (⟨rfl, hA3, ba3, hne, l1, by rw [bs3]; simp, hp⟩)
  obtain ⟨rfl, B6, p6, f6⟩ := E6
  have c7 : Steps p.tables e below (s₁.setTop (entryFrame m #[.ref b, .int (Int32.ofNat o), .int (Int32.ofNat len)] 6)) (T6.setTop (mkF m 12 #[.val (.ref b), .val (.int (Int32.ofNat o)), .val (.int (Int32.ofNat len)), .val (.ref s.heap.size), .unset, .unset] [.int (Int32.ofNat len)])) := g6
  have c8 : Steps p.tables e below (s₁.setTop (entryFrame m #[.ref b, .int (Int32.ofNat o), .int (Int32.ofNat len)] 6)) (T6.setTop (mkF m 58 #[.val (.ref b), .val (.int (Int32.ofNat o)), .val (.int (Int32.ofNat len)), .val (.ref s.heap.size), .val (.int (Int32.ofNat len)), .unset] [.ref s.heap.size])) := c7.trans (by
    refine XS.istore X6.here hexec rfl (hb hbytes d12) rfl rfl ?_
    refine XS.iload X6.here hexec rfl (hb hbytes d14) rfl ?_
    refine XS.iloadN X6.here hexec rfl (hb hbytes d16) rfl ?_
    refine XS.icmpYes X6.here hexec rfl (pc0 := 17) rfl (hb hbytes d17) rfl (ii_eq_t rfl) (by decide) rfl ?_
    refine XS.aloadN X6.here hexec rfl (hb hbytes d57) rfl rfl ?_
    exact Steps.refl _)
  have X8 := X6.wide (L' := []) (cells' := 1) (slots' := len) (fun x hx hlt => by
    simp only [List.nil_append, copyLocs, List.mem_map, List.mem_range] at hx
    obtain ⟨i, -, rfl⟩ := hx
    exact absurd hlt (Nat.lt_irrefl _)) (Nat.le_refl _) (by omega)
  exact ⟨T6, some (.ref s.heap.size), _, _, _, X8, rfl, rfl, rfl, (fun h => by cases h), ⟨⟨rfl, B6, ba3.like (X3.warmed.alike.symm.trans X6.warmed.alike) p6.1 f6.1 f6.2.1 f6.2.2.1, f6.2.1.trans bv3, by rw [X6.warmed.alike.findClass, f6.1]; exact bf3, by rw [f6.2.2.1, bs3]; simp, fun j hj => by rw [f6.2.2.2 j, if_pos (by omega)]; rfl, kp3.put p6 (Nat.le_refl _)⟩, by rw [p6.2.2, bh3, hh0]; simp⟩, fun fs hl => c8.trans (X8.areturnOut hexec rfl hret rfl (hb hbytes d58) hl)⟩
end Cmp3
namespace CodL
def yN : MethodName := ⟨"java/lang/StringUTF16", "coderFromArrayLen", "([BI)B"⟩
abbrev yB : ByteArray := jdk_52_method_15_code
theorem d0 : decode yB 0 = .ok (.iload_n 1, 1) := by decide +kernel
theorem d1 : decode yB 1 = .ok (.aload_n 0, 1) := by decide +kernel
theorem d2 : decode yB 2 = .ok (.arraylength, 1) := by decide +kernel
theorem d3 : decode yB 3 = .ok (.isub, 1) := by decide +kernel
theorem d4 : decode yB 4 = .ok (.bipush 31, 2) := by decide +kernel
theorem d6 : decode yB 6 = .ok (.iushr, 1) := by decide +kernel
theorem d7 : decode yB 7 = .ok (.i2b, 1) := by decide +kernel
theorem d8 : decode yB 8 = .ok (.ireturn, 1) := by decide +kernel
def site : List Cond := []
def tab : Cond := tabOf yN yB 2 (some .byte) site
def P (d : Addr) (B : Cell) (args : Array Value) (s : State) : Prop := args = #[.ref d, .int (Int32.ofNat B.slots.size)] ∧ Arr .byte d B s
def E (r : Option Value) (s u : State) : Prop := XT.PureE (some (.int 0)) r s u
/-- an array as long as the number of chars: LATIN1 -/
theorem law (l : Launch) (d : Addr) (B : Cell) : Law l yN 2 2 0 0 yB 2 (some .byte) site (P d B) E [] 0 0 := by
  refine Law.of_walk (plainFor_of_name (by decide +kernel)) (by decide +kernel) (by decide +kernel) (by decide) (fun _ _ h => by rw [h.1]; rfl) (fun _ U U' hal hh h => ⟨h.1, h.2.mv hal hh⟩) (fun r U U' V V' h1 hal h2 h => XT.PureE.mv r U U' V V' h1 hal h2 h) ?_
  intro p e s m args below meth c s₁ X0 hexec hbytes hml hret hlk hnm hown hh0 W hP
  obtain ⟨rfl, hB⟩ := hP
  have hB0 := hB.mv X0.warmed.alike hh0
  have c1 : Steps p.tables e below (s₁.setTop (entryFrame m #[.ref d, .int (Int32.ofNat B.slots.size)] 2)) (s₁.setTop (mkF m 0 #[.val (.ref d), .val (.int (Int32.ofNat B.slots.size))] [])) := entry rfl
  have c2 : Steps p.tables e below (s₁.setTop (entryFrame m #[.ref d, .int (Int32.ofNat B.slots.size)] 2)) (s₁.setTop (mkF m 2 #[.val (.ref d), .val (.int (Int32.ofNat B.slots.size))] [.ref d, .int (Int32.ofNat B.slots.size)])) := c1.trans (by
    refine XS.iloadN X0.here hexec rfl (hb hbytes d0) rfl ?_
    refine XS.aloadN X0.here hexec rfl (hb hbytes d1) rfl rfl ?_
    exact Steps.refl _)
  have c3 : Steps p.tables e below (s₁.setTop (entryFrame m #[.ref d, .int (Int32.ofNat B.slots.size)] 2)) (s₁.setTop (mkF m 8 #[.val (.ref d), .val (.int (Int32.ofNat B.slots.size))] [.int (lo8 (ushr (Int32.ofNat B.slots.size - Int32.ofNat B.slots.size) 31))])) := c2.trans (by
    refine X0.alen hexec hB0 rfl rfl (hb hbytes d2) ?_
    refine XS.isub X0.here hexec rfl (hb hbytes d3) rfl ?_
    refine bipushV X0.here hexec rfl 31 (hb hbytes d4) (by decide) ?_
    refine iushr X0.here hexec rfl (hb hbytes d6) rfl ?_
    refine i2b X0.here hexec rfl (hb hbytes d7) rfl ?_
    exact Steps.refl _)
  have e0 : lo8 (ushr (Int32.ofNat B.slots.size - Int32.ofNat B.slots.size) 31) = 0 := by rw [Int32.sub_self]; decide
  rw [e0] at c3
  exact ⟨s₁, some (.int 0), _, _, _, X0, rfl, rfl, rfl, (fun h => by cases h), ⟨rfl, hh0⟩, fun fs hl => c3.trans (X0.ireturnOut hexec hret rfl (Or.inr (Or.inr (Or.inl rfl))) (hb hbytes d8) hl)⟩
end CodL
/-- the String at a is Latin-1 over a new byte[] (the heap's one new cell): the low bytes of the len chars of A from o on; every cell but a is kept -/
def Got (a : Addr) (D : Cell) (fV fC : Field) (A : Cell) (o len : Nat) (r : Option Value) (s u : State) : Prop := r = none ∧ ∃ D' V : Cell, Blank "java/lang/String" a D' u ∧ Same D D' [fV.slot, fC.slot] ∧ D'.slots[fV.slot]? = some (.ref s.heap.size) ∧ D'.slots[fC.slot]? = some (.int 0) ∧ Arr .byte s.heap.size V u ∧ V.vm = .none ∧ u.vm.findClass "[B" = some V.cls ∧ V.slots.size = len ∧ (∀ j, j < len → V.slots[j]? = some (.int (lo8 (cv A (o + j))))) ∧ (∀ (y : Addr) (c : Cell), y ≠ a → s.heap[y]? = some c → u.heap[y]? = some c) ∧ u.heap.size = s.heap.size + 1
theorem Got.mv {a : Addr} {D A : Cell} {fV fC : Field} {o len : Nat} : ∀ r (U U' V V' : State), U'.heap = U.heap → V.vm.Alike V'.vm → V'.heap = V.heap → Got a D fV fC A o len r U V → Got a D fV fC A o len r U' V' :=
  fun r U U' V V' h1 hal h2 ⟨e0, D', X, a1, a2, a3, a4, a5, a6, a7, a8, a9, a10, a11⟩ => ⟨e0, D', X, a1.mv hal h2, a2, by rw [h1]; exact a3, a4, by rw [h1]; exact a5.mv hal h2, a6, by rw [hal.findClass]; exact a7, a8, a9, by rw [h1, h2]; exact a10, by rw [h1, h2]; exact a11⟩
namespace New4
def yN : MethodName := ⟨"java/lang/String", "<init>", "([CIILjava/lang/Void;)V"⟩
abbrev yB : ByteArray := jdk_42_method_149_code
theorem d0 : decode yB 0 = .ok (.aload_n 0, 1) := by decide +kernel
theorem d1 : decode yB 1 = .ok (.invokespecial 1, 3) := by decide +kernel
theorem d4 : decode yB 4 = .ok (.iload_n 3, 1) := by decide +kernel
theorem d5 : decode yB 5 = .ok (.ifCond (.ne) 22, 3) := by decide +kernel
theorem d27 : decode yB 27 = .ok (.getstatic 38, 3) := by decide +kernel
theorem d30 : decode yB 30 = .ok (.ifCond (.eq) 28, 3) := by decide +kernel
theorem d33 : decode yB 33 = .ok (.aload_n 1, 1) := by decide +kernel
theorem d34 : decode yB 34 = .ok (.iload_n 2, 1) := by decide +kernel
theorem d35 : decode yB 35 = .ok (.iload_n 3, 1) := by decide +kernel
theorem d36 : decode yB 36 = .ok (.invokestatic 177, 3) := by decide +kernel
theorem d39 : decode yB 39 = .ok (.astore 5, 2) := by decide +kernel
theorem d41 : decode yB 41 = .ok (.aload_n 0, 1) := by decide +kernel
theorem d42 : decode yB 42 = .ok (.aload 5, 2) := by decide +kernel
theorem d44 : decode yB 44 = .ok (.iload_n 3, 1) := by decide +kernel
theorem d45 : decode yB 45 = .ok (.invokestatic 47, 3) := by decide +kernel
theorem d48 : decode yB 48 = .ok (.putfield 15, 3) := by decide +kernel
theorem d51 : decode yB 51 = .ok (.aload_n 0, 1) := by decide +kernel
theorem d52 : decode yB 52 = .ok (.aload 5, 2) := by decide +kernel
theorem d54 : decode yB 54 = .ok (.putfield 9, 3) := by decide +kernel
theorem d57 : decode yB 57 = .ok (.return_, 1) := by decide +kernel
def site : List Cond := [.fieldLink "java/lang/String" 38 "java/lang/String" "COMPACT_STRINGS" "Z", Cmp3.tab, CodL.tab, .laysFinal "java/lang/String" "java/lang/String" "value" "[B", .fieldLink "java/lang/String" 9 "java/lang/String" "value" "[B", .laysFinal "java/lang/String" "java/lang/String" "coder" "B", .fieldLink "java/lang/String" 15 "java/lang/String" "coder" "B"] ++ objW "java/lang/String" 1 ++ staticW "java/lang/String" 177 Cmp3.yN ++ staticW "java/lang/String" 47 CodL.yN
def tab : Cond := tabOf yN yB 6 none site
def P (a : Addr) (D : Cell) (fV fC : Field) (b : Addr) (A : Cell) (z : Int32) (o len : Nat) (args : Array Value) (s : State) : Prop := args = #[.ref a, .ref b, .int (Int32.ofNat o), .int (Int32.ofNat len), .null] ∧ Blank "java/lang/String" a D s ∧ Found "java/lang/String" "value" "[B" fV s ∧ Found "java/lang/String" "coder" "B" fC s ∧ Ch b A s ∧ StaticIs s "java/lang/String" "COMPACT_STRINGS" "Z" (.int z) ∧ ¬ z = 0 ∧ 0 < len ∧ o + len ≤ A.slots.size ∧ len ≤ 536870912 ∧ ∀ i, i < len → ¬ 255 < cv A (o + i)
def E (a : Addr) (D : Cell) (fV fC : Field) (A : Cell) (o len : Nat) (r : Option Value) (s u : State) : Prop := Got a D fV fC A o len r s u
/-- len > 0, no char of the range above 255: a Latin-1 String of their low bytes -/
theorem law (l : Launch) (a : Addr) (D : Cell) (fV fC : Field) (b : Addr) (A : Cell) (z : Int32) (o len : Nat) : Law l yN 5 4 2 35 yB 6 none site (P a D fV fC b A z o len) (E a D fV fC A o len) [⟨a, fC.slot⟩, ⟨a, fV.slot⟩] 1 len := by
  refine Law.of_walk (plainFor_of_name (by decide +kernel)) (by decide +kernel) (by decide +kernel) (by decide) (fun _ _ h => by rw [h.1]; rfl) (fun _ U U' hal hh h => ⟨h.1, h.2.1.mv hal hh, h.2.2.1.al hal, h.2.2.2.1.al hal, h.2.2.2.2.1.mv hal hh, h.2.2.2.2.2.1.there hal hh, h.2.2.2.2.2.2⟩) (fun r U U' V V' h1 hal h2 h => Got.mv r U U' V V' h1 hal h2 h) ?_
  intro p e s m args below meth c s₁ X0 hexec hbytes hml hret hlk hnm hown hh0 W hP
  obtain ⟨rfl, hB, f1, f2, hA, s1, hz, l0, l1, l2, hp⟩ := hP
  have a31 := hA.1.2.2.2
  have c1 : Steps p.tables e below (s₁.setTop (entryFrame m #[.ref a, .ref b, .int (Int32.ofNat o), .int (Int32.ofNat len), .null] 6)) (s₁.setTop (mkF m 0 #[.val (.ref a), .val (.ref b), .val (.int (Int32.ofNat o)), .val (.int (Int32.ofNat len)), .val .null, .unset] [])) := entry rfl
  have c2 : Steps p.tables e below (s₁.setTop (entryFrame m #[.ref a, .ref b, .int (Int32.ofNat o), .int (Int32.ofNat len), .null] 6)) (s₁.setTop (mkF m 1 #[.val (.ref a), .val (.ref b), .val (.int (Int32.ofNat o)), .val (.int (Int32.ofNat len)), .val .null, .unset] [.ref a])) := c1.trans (by
    refine XS.aloadN X0.here hexec rfl (hb hbytes d0) rfl rfl ?_
    exact Steps.refl _)
  obtain ⟨T3, X3, q3, st3⟩ := X0.oinit hexec hown (wks W (objW "java/lang/String" 1)) (g := (mkF m 1 #[.val (.ref a), .val (.ref b), .val (.int (Int32.ofNat o)), .val (.int (Int32.ofNat len)), .val .null, .unset] [.ref a])) rfl (by rw [hml]; rfl) (rest := []) rfl (hb hbytes d1) (W := 0) (by show 2 * 0 + 0 ≤ _; decide) (Nat.le_of_ble_eq_true rfl) (Nat.le_of_ble_eq_true rfl)
  have hh3 := q3.trans hh0
  have c4 : Steps p.tables e below (s₁.setTop (entryFrame m #[.ref a, .ref b, .int (Int32.ofNat o), .int (Int32.ofNat len), .null] 6)) (T3.setTop (mkF m 27 #[.val (.ref a), .val (.ref b), .val (.int (Int32.ofNat o)), .val (.int (Int32.ofNat len)), .val .null, .unset] [])) := (c2.trans (st3 _ (Steps.refl _))).trans (by
    refine XS.iloadN X3.here hexec rfl (hb hbytes d4) rfl ?_
    refine XS.ifYes X3.here hexec rfl (pc0 := 5) rfl (hb hbytes d5) rfl (i0_ne_t (nz32 (by omega) l0)) (by decide) rfl ?_
    exact Steps.refl _)
  obtain ⟨T5, X5, q5, st5⟩ := X3.sget hexec hown (wk W (.fieldLink "java/lang/String" 38 "java/lang/String" "COMPACT_STRINGS" "Z")) s1 (fun _ _ h => by rw [hh3]; exact h) (g := (mkF m 27 #[.val (.ref a), .val (.ref b), .val (.int (Int32.ofNat o)), .val (.int (Int32.ofNat len)), .val .null, .unset] [])) rfl (hb hbytes d27)
  have hh5 := q5.trans hh3
  have c6 : Steps p.tables e below (s₁.setTop (entryFrame m #[.ref a, .ref b, .int (Int32.ofNat o), .int (Int32.ofNat len), .null] 6)) (T5.setTop (mkF m 30 #[.val (.ref a), .val (.ref b), .val (.int (Int32.ofNat o)), .val (.int (Int32.ofNat len)), .val .null, .unset] [.int z])) := c4.trans (st5 _ (Steps.refl _))
  have c7 : Steps p.tables e below (s₁.setTop (entryFrame m #[.ref a, .ref b, .int (Int32.ofNat o), .int (Int32.ofNat len), .null] 6)) (T5.setTop (mkF m 36 #[.val (.ref a), .val (.ref b), .val (.int (Int32.ofNat o)), .val (.int (Int32.ofNat len)), .val .null, .unset] [.int (Int32.ofNat len), .int (Int32.ofNat o), .ref b])) := c6.trans (by
    refine XS.ifNo X5.here hexec rfl (hb hbytes d30) rfl (i0_eq_f hz) ?_
    refine XS.aloadN X5.here hexec rfl (hb hbytes d33) rfl rfl ?_
    refine XS.iloadN X5.here hexec rfl (hb hbytes d34) rfl ?_
    refine XS.iloadN X5.here hexec rfl (hb hbytes d35) rfl ?_
    exact Steps.refl _)
  obtain ⟨v8, T8, X8, E8, g8⟩ := X5.callS hexec (Cmp3.law l b A o len) hown (wks W (staticW "java/lang/String" 177 Cmp3.yN)) (wk W Cmp3.tab) (W := 0) (Nat.le_of_ble_eq_true rfl) (Nat.le_of_ble_eq_true rfl) (Nat.le_refl _) (by show 0 + len ≤ len; omega) (g := (mkF m 36 #[.val (.ref a), .val (.ref b), .val (.int (Int32.ofNat o)), .val (.int (Int32.ofNat len)), .val .null, .unset] [.int (Int32.ofNat len), .int (Int32.ofNat o), .ref b])) rfl (by rw [hml]; rfl) c7 (argsL := [.ref b, .int (Int32.ofNat o), .int (Int32.ofNat len)]) (rest := []) rfl rfl (by show 2 * 0 + 0 ≤ _; decide) (hb hbytes d36) (⟨rfl, hA.mv X5.warmed.alike hh5, l1, l2, hp⟩)
  obtain ⟨e8, z8⟩ := E8
  obtain ⟨rfl, N, n1, n2, n3, n4, n5, n6⟩ := NewArr.mv _ T5 s _ _ hh5.symm (Vm.Alike.refl _) rfl e8
  rw [hh5] at z8
  have hB1 := hB.keep X8.warmed.alike (n6 _ _ hB.1)
  have hne : s.heap.size ≠ a := (Nat.ne_of_lt (Array.getElem?_eq_some_iff.mp hB.1).1).symm
  have c9 : Steps p.tables e below (s₁.setTop (entryFrame m #[.ref a, .ref b, .int (Int32.ofNat o), .int (Int32.ofNat len), .null] 6)) (T8.setTop (mkF m 39 #[.val (.ref a), .val (.ref b), .val (.int (Int32.ofNat o)), .val (.int (Int32.ofNat len)), .val .null, .unset] [.ref s.heap.size])) := g8
  have c10 : Steps p.tables e below (s₁.setTop (entryFrame m #[.ref a, .ref b, .int (Int32.ofNat o), .int (Int32.ofNat len), .null] 6)) (T8.setTop (mkF m 45 #[.val (.ref a), .val (.ref b), .val (.int (Int32.ofNat o)), .val (.int (Int32.ofNat len)), .val .null, .val (.ref s.heap.size)] [.int (Int32.ofNat N.slots.size), .ref s.heap.size, .ref a])) := by
    have hc : Steps p.tables e below (s₁.setTop (entryFrame m #[.ref a, .ref b, .int (Int32.ofNat o), .int (Int32.ofNat len), .null] 6)) (T8.setTop (mkF m 45 #[.val (.ref a), .val (.ref b), .val (.int (Int32.ofNat o)), .val (.int (Int32.ofNat len)), .val .null, .val (.ref s.heap.size)] [.int (Int32.ofNat len), .ref s.heap.size, .ref a])) := c9.trans (by
      refine XS.astore X8.here hexec rfl (hb hbytes d39) rfl rfl rfl ?_
      refine XS.aloadN X8.here hexec rfl (hb hbytes d41) rfl rfl ?_
      refine XS.aload X8.here hexec rfl (hb hbytes d42) rfl rfl ?_
      refine XS.iloadN X8.here hexec rfl (hb hbytes d44) rfl ?_
      exact Steps.refl _)
    rw [n4]; exact hc
  obtain ⟨v11, T11, X11, E11, g11⟩ := X8.callS hexec (CodL.law l s.heap.size N) hown (wks W (staticW "java/lang/String" 47 CodL.yN)) (wk W CodL.tab) (W := 1) (Nat.le_of_ble_eq_true rfl) (Nat.le_of_ble_eq_true rfl) (Nat.le_refl _) (by show 0 + len + 0 ≤ len; omega) (g := (mkF m 45 #[.val (.ref a), .val (.ref b), .val (.int (Int32.ofNat o)), .val (.int (Int32.ofNat len)), .val .null, .val (.ref s.heap.size)] [.int (Int32.ofNat N.slots.size), .ref s.heap.size, .ref a])) rfl (by rw [hml]; rfl) c10 (argsL := [.ref s.heap.size, .int (Int32.ofNat N.slots.size)]) (rest := [.ref a]) rfl rfl (by show 2 * 0 + (1 + 0) ≤ _; decide) (hb hbytes d45) (⟨rfl, n1⟩)
  obtain ⟨rfl, q11⟩ := E11
  have hB11 := hB1.mv (X8.warmed.alike.symm.trans X11.warmed.alike) q11
  have c12 : Steps p.tables e below (s₁.setTop (entryFrame m #[.ref a, .ref b, .int (Int32.ofNat o), .int (Int32.ofNat len), .null] 6)) (T11.setTop (mkF m 48 #[.val (.ref a), .val (.ref b), .val (.int (Int32.ofNat o)), .val (.int (Int32.ofNat len)), .val .null, .val (.ref s.heap.size)] [.int 0, .ref a])) := g11
  obtain ⟨T13, X13, p13, bl13, sl13, st13⟩ := X11.finit hexec hown (wk W (.fieldLink "java/lang/String" 15 "java/lang/String" "coder" "B")) (Or.inr ⟨_, (wk W (.laysFinal "java/lang/String" "java/lang/String" "coder" "B"))⟩) (Or.inl ⟨rfl, hnm⟩) f2 (Or.inl rfl) hB11 (t := .byte) (by decide +kernel) rfl (g := (mkF m 48 #[.val (.ref a), .val (.ref b), .val (.int (Int32.ofNat o)), .val (.int (Int32.ofNat len)), .val .null, .val (.ref s.heap.size)] [.int 0, .ref a])) rfl (rest := []) rfl (hb hbytes d48)
  have c14 : Steps p.tables e below (s₁.setTop (entryFrame m #[.ref a, .ref b, .int (Int32.ofNat o), .int (Int32.ofNat len), .null] 6)) (T13.setTop (mkF m 54 #[.val (.ref a), .val (.ref b), .val (.int (Int32.ofNat o)), .val (.int (Int32.ofNat len)), .val .null, .val (.ref s.heap.size)] [.ref s.heap.size, .ref a])) := (c12.trans (st13 _ (Steps.refl _))).trans (by
    refine XS.aloadN X13.here hexec rfl (hb hbytes d51) rfl rfl ?_
    refine XS.aload X13.here hexec rfl (hb hbytes d52) rfl rfl ?_
    exact Steps.refl _)
  obtain ⟨T15, X15, p15, bl15, sl15, st15⟩ := X13.finit hexec hown (wk W (.fieldLink "java/lang/String" 9 "java/lang/String" "value" "[B")) (Or.inr ⟨_, (wk W (.laysFinal "java/lang/String" "java/lang/String" "value" "[B"))⟩) (Or.inl ⟨rfl, hnm⟩) f1 (Or.inl rfl) bl13 (t := (.array .byte)) (by decide +kernel) rfl (g := (mkF m 54 #[.val (.ref a), .val (.ref b), .val (.int (Int32.ofNat o)), .val (.int (Int32.ofNat len)), .val .null, .val (.ref s.heap.size)] [.ref s.heap.size, .ref a])) rfl (rest := []) rfl (hb hbytes d54)
  have c16 : Steps p.tables e below (s₁.setTop (entryFrame m #[.ref a, .ref b, .int (Int32.ofNat o), .int (Int32.ofNat len), .null] 6)) (T15.setTop (mkF m 57 #[.val (.ref a), .val (.ref b), .val (.int (Int32.ofNat o)), .val (.int (Int32.ofNat len)), .val .null, .val (.ref s.heap.size)] [])) := c14.trans (st15 _ (Steps.refl _))
  have ap := apart (Or.inr ⟨_, (wk W (.laysFinal "java/lang/String" "java/lang/String" "value" "[B"))⟩) (Or.inr ⟨_, (wk W (.laysFinal "java/lang/String" "java/lang/String" "coder" "B"))⟩) f1 f2 (t₁ := .array .byte) (t₂ := .byte) (by decide +kernel) (by decide +kernel) (by decide)
  have al := X8.warmed.alike.symm.trans X15.warmed.alike
  have n7 : T11.heap[s.heap.size]? = some N := by rw [q11]; exact n1.1
  exact ⟨T15, none, _, _, _, X15, by simp, rfl, by omega, (fun _ => rfl), ⟨rfl, _, N, bl15, ((Same.refl D _).set _ (by simp)).set _ (by simp), sl15, (Cell.slots_setSlot_ne _ ap).trans sl13, n1.keep al (p15.other hne (p13.other hne n7)), n2, by rw [al.findClass]; exact n3, n4, n5, fun y c h1 h2 => p15.other h1 (p13.other h1 (by rw [q11]; exact n6 y c h2)), by rw [p15.2.2, p13.2.2, q11]; exact z8⟩, fun fs hl => c16.trans (X15.returnOut hexec hret (hb hbytes d57) hl)⟩
end New4
namespace New1
def yN : MethodName := ⟨"java/lang/String", "<init>", "([C)V"⟩
abbrev yB : ByteArray := jdk_42_method_3_code
theorem d0 : decode yB 0 = .ok (.aload_n 0, 1) := by decide +kernel
theorem d1 : decode yB 1 = .ok (.aload_n 1, 1) := by decide +kernel
theorem d2 : decode yB 2 = .ok (.iconst 0, 1) := by decide +kernel
theorem d3 : decode yB 3 = .ok (.aload_n 1, 1) := by decide +kernel
theorem d4 : decode yB 4 = .ok (.arraylength, 1) := by decide +kernel
theorem d5 : decode yB 5 = .ok (.aconst_null, 1) := by decide +kernel
theorem d6 : decode yB 6 = .ok (.invokespecial 27, 3) := by decide +kernel
theorem d9 : decode yB 9 = .ok (.return_, 1) := by decide +kernel
def site : List Cond := [New4.tab] ++ initW "java/lang/String" 27 New4.yN
def tab : Cond := tabOf yN yB 2 none site
def P (a : Addr) (D : Cell) (fV fC : Field) (b : Addr) (A : Cell) (z : Int32) (args : Array Value) (s : State) : Prop := args = #[.ref a, .ref b] ∧ Blank "java/lang/String" a D s ∧ Found "java/lang/String" "value" "[B" fV s ∧ Found "java/lang/String" "coder" "B" fC s ∧ Ch b A s ∧ StaticIs s "java/lang/String" "COMPACT_STRINGS" "Z" (.int z) ∧ ¬ z = 0 ∧ 0 < A.slots.size ∧ A.slots.size ≤ 536870912 ∧ ∀ i, i < A.slots.size → ¬ 255 < cv A i
def E (a : Addr) (D : Cell) (fV fC : Field) (A : Cell) (r : Option Value) (s u : State) : Prop := Got a D fV fC A 0 A.slots.size r s u
/-- new String(chars), not empty, no char above 255: a Latin-1 String of their low bytes -/
theorem law (l : Launch) (a : Addr) (D : Cell) (fV fC : Field) (b : Addr) (A : Cell) (z : Int32) : Law l yN 2 1 3 52 yB 2 none site (P a D fV fC b A z) (E a D fV fC A) [⟨a, fC.slot⟩, ⟨a, fV.slot⟩] 1 A.slots.size := by
  refine Law.of_walk (plainFor_of_name (by decide +kernel)) (by decide +kernel) (by decide +kernel) (by decide) (fun _ _ h => by rw [h.1]; rfl) (fun _ U U' hal hh h => ⟨h.1, h.2.1.mv hal hh, h.2.2.1.al hal, h.2.2.2.1.al hal, h.2.2.2.2.1.mv hal hh, h.2.2.2.2.2.1.there hal hh, h.2.2.2.2.2.2⟩) (fun r U U' V V' h1 hal h2 h => Got.mv r U U' V V' h1 hal h2 h) ?_
  intro p e s m args below meth c s₁ X0 hexec hbytes hml hret hlk hnm hown hh0 W hP
  obtain ⟨rfl, hB, f1, f2, hA, s1, hz, l0, l2, hp⟩ := hP
  have c1 : Steps p.tables e below (s₁.setTop (entryFrame m #[.ref a, .ref b] 2)) (s₁.setTop (mkF m 0 #[.val (.ref a), .val (.ref b)] [])) := entry rfl
  have c2 : Steps p.tables e below (s₁.setTop (entryFrame m #[.ref a, .ref b] 2)) (s₁.setTop (mkF m 6 #[.val (.ref a), .val (.ref b)] [.null, .int (Int32.ofNat A.slots.size), .int 0, .ref b, .ref a])) := c1.trans (by
    refine XS.aloadN X0.here hexec rfl (hb hbytes d0) rfl rfl ?_
    refine XS.aloadN X0.here hexec rfl (hb hbytes d1) rfl rfl ?_
    refine iconstV X0.here hexec rfl 0 (hb hbytes d2) (by decide) ?_
    refine XS.aloadN X0.here hexec rfl (hb hbytes d3) rfl rfl ?_
    refine X0.alen hexec (hA.1.mv X0.warmed.alike hh0) rfl rfl (hb hbytes d4) ?_
    refine XS.aconstNull X0.here hexec rfl (hb hbytes d5) ?_
    exact Steps.refl _)
  obtain ⟨v3, T3, X3, E3, g3⟩ := X0.callN hexec (New4.law l a D fV fC b A z 0 A.slots.size) rfl hown (wks W (initW "java/lang/String" 27 New4.yN)) (W New4.tab (by simp only [site, List.mem_cons, List.mem_append, true_or, or_true])) (W := 0) (Nat.le_of_ble_eq_true rfl) (Nat.le_of_ble_eq_true rfl) (Nat.le_refl _) (by show 0 + A.slots.size ≤ A.slots.size; omega) (g := (mkF m 6 #[.val (.ref a), .val (.ref b)] [.null, .int (Int32.ofNat A.slots.size), .int (Int32.ofNat 0), .ref b, .ref a])) rfl (by rw [hml]; rfl) c2 (argsL := [.ref b, .int (Int32.ofNat 0), .int (Int32.ofNat A.slots.size), .null]) (rest := []) rfl rfl (by show 2 * 0 + 0 ≤ _; decide) (hb hbytes d6) (⟨rfl, hB.mv X0.warmed.alike hh0, f1.al X0.warmed.alike, f2.al X0.warmed.alike, hA.mv X0.warmed.alike hh0, s1.there X0.warmed.alike hh0, hz, l0, by omega, l2, fun i hi => by rw [Nat.zero_add]; exact hp i hi⟩)
  have e0 := Got.mv _ s₁ s _ _ hh0.symm (Vm.Alike.refl _) rfl E3
  obtain rfl := e0.1
  have c4 : Steps p.tables e below (s₁.setTop (entryFrame m #[.ref a, .ref b] 2)) (T3.setTop (mkF m 9 #[.val (.ref a), .val (.ref b)] [])) := g3
  exact ⟨T3, none, _, _, _, X3, by simp, rfl, by omega, (fun _ => rfl), e0, fun fs hl => c4.trans (X3.returnOut hexec hret (hb hbytes d9) hl)⟩
theorem pays {l : Launch} {R : Room} {p : Program} {e : Env} {below : List Frame} {s : State} {sargs : Array Value} {len W : Nat} (a : Addr) (D : Cell) (fV fC : Field) (b : Addr) (A : Cell) (z : Int32) (htab : tab.before sargs s = true) (hfr : 4 ≤ R.frames) (hlo : W + 65 ≤ R.locals) :
    Back l R p e below s sargs yN len W (fun A₁ a₁ => A₁.cells + 1 ≤ R.cells ∧ A₁.slots + A.slots.size ≤ R.slots ∧ P a D fV fC b A z a₁ A₁.U) (fun A₁ _ v₁ B₁ => E a D fV fC A v₁ A₁.U B₁.U ∧ B₁.locs = A₁.locs ++ [⟨a, fC.slot⟩, ⟨a, fV.slot⟩] ∧ B₁.cells = A₁.cells + 1 ∧ B₁.slots = A₁.slots + A.slots.size) :=
  (law l a D fV fC b A z).pays htab hfr (by omega)
end New1
end StrChars
namespace StrChars.Road
open Jvm Sem ClassFile Op Lib Jvm.Stand Jvm.Free Jvm.Free.XT
open Jvm.Lib.Cold (StaticIs)
abbrev ST : String := "java/lang/String"
/-- every table word that New1's law asks, flat -/
abbrev words : List Jvm.Cond := [.code New1.yN New1.yB 2 none, .initialized ST, .methodLink ST 27 New4.yN, .instanceMethod New4.yN,
  .code New4.yN New4.yB 6 none, .fieldLink ST 38 ST "COMPACT_STRINGS" "Z", .laysFinal ST ST "value" "[B", .fieldLink ST 9 ST "value" "[B", .laysFinal ST ST "coder" "B", .fieldLink ST 15 ST "coder" "B",
  .methodLink ST 1 Lib.objectInit, .instanceMethod Lib.objectInit, .code Lib.objectInit ⟨#[0xb1]⟩ 1 none, .methodLink ST 177 Cmp3.yN, .static Cmp3.yN, .methodLink ST 47 CodL.yN, .static CodL.yN,
  .code Cmp3.yN Cmp3.yB 6 (some (.array .byte)), .initialized U16, .arrayClass .byte, .methodLink U16 115 Cmp5.yN, .static Cmp5.yN, .code Cmp5.yN Cmp5.yB 7 (some .int), .code CodL.yN CodL.yB 2 (some .byte)]
theorem tab_of {a : Array Value} {s : State} (h : ∀ w ∈ words, w.before a s = true) : New1.tab.before a s = true := by
  have h5 : Cmp5.tab.before a s = true := unparts (wk h (.code Cmp5.yN Cmp5.yB 7 (some .int))) (wks h (.initialized Cmp5.yN.cls :: Cmp5.site))
  have hc : CodL.tab.before a s = true := unparts (wk h (.code CodL.yN CodL.yB 2 (some .byte))) (wks h (.initialized CodL.yN.cls :: CodL.site))
  have q5 : ∀ w ∈ Cmp5.tab :: words, w.before a s = true := fun w hw => (List.mem_cons.mp hw).elim (fun e => e ▸ h5) (h w)
  have h3 : Cmp3.tab.before a s = true := unparts (wk q5 (.code Cmp3.yN Cmp3.yB 6 (some (.array .byte)))) (wks q5 (.initialized Cmp3.yN.cls :: Cmp3.site))
  have q3 : ∀ w ∈ Cmp3.tab :: CodL.tab :: words, w.before a s = true := fun w hw => (List.mem_cons.mp hw).elim (fun e => e ▸ h3) fun hw => (List.mem_cons.mp hw).elim (fun e => e ▸ hc) (h w)
  have h4 : New4.tab.before a s = true := unparts (wk q3 (.code New4.yN New4.yB 6 none)) (wks q3 (.initialized New4.yN.cls :: New4.site))
  have q4 : ∀ w ∈ New4.tab :: words, w.before a s = true := fun w hw => (List.mem_cons.mp hw).elim (fun e => e ▸ h4) (h w)
  exact unparts (wk q4 (.code New1.yN New1.yB 2 none)) (wks q4 (.initialized New1.yN.cls :: New1.site))
/-- the words ride from the start Z to the walk's own state -/
theorem moved {Z s : State} {a0 args : Array Value} (hZ : Z.Warmed39 s.vm) (hw : ∀ d ∈ words, d.before a0 Z = true) : ∀ d ∈ words, d.before args s = true := fun d hd => by
  have q := hw d hd
  have t : ∀ d ∈ words, d = .arrayClass .byte ∨ (d.onTables && d.keepsFace) = true := by decide +kernel
  rcases t d hd with rfl | t
  · exact RoadKit.mvA hZ q
  · exact RoadKit.mv hZ q t
/-- WHAT COMES BACK, over the tables of the start Z: h the heap at the call, h' behind it -/
def Q (Z : State) (x : Addr) (A : Cell) (h : Heap) (v : Option Value) (h' : Heap) (L : List Loc) : Prop := v = none ∧ (∀ y ∈ L, y.base = x) ∧ RoadKit.Keep h h' [x] ∧ h'.size = h.size + 1 ∧ RoadKit.Exa Z h' x ST ∧ RoadKit.Fld Z h' x ST "value" "[B" (.ref h.size) ∧ RoadKit.Fld Z h' x ST "coder" "B" (.int 0) ∧
  (∃ V : Cell, RoadKit.Arr Z h' h.size V .byte ∧ V.vm = .none ∧ Z.vm.findClass "[B" = some V.cls ∧ V.slots.size = A.slots.size ∧ ∀ j, j < A.slots.size → V.slots[j]? = some (.int (lo8 (cv A j)))) ∧
  ∀ (O n d : String) (w : Value), RoadKit.Fld Z h x O n d w → RoadKit.slotOf Z O n d ≠ RoadKit.slotOf Z ST "value" "[B" → RoadKit.slotOf Z O n d ≠ RoadKit.slotOf Z ST "coder" "B" → RoadKit.Fld Z h' x O n d w
/-- **new String(chars) AT A CALL, IN THE ROAD'S FORM**: for specialBack behind newO: x the fresh String, b the char[] with the cell A -/
theorem back {p : Program} {l : Launch} {e : Env} {R : Room} {s : State} {args : Array Value} {below : List Frame} {len W : Nat} {Z : State} {a0 : Array Value} {h : Heap} (hZ : Z.Warmed39 s.vm) (hw : ∀ d ∈ words, d.before a0 Z = true) {kI : Nat} (wi : (Jvm.Cond.instantiable ST kI).before a0 Z = true)
    {x b : Addr} {A : Cell} {z : Int32} {v0 c0 : Value} (E : RoadKit.Exa Z h x ST) (V : RoadKit.Fld Z h x ST "value" "[B" v0) (C : RoadKit.Fld Z h x ST "coder" "B" c0) (K : RoadKit.Arr Z h b A .char) (hty : Typed .char A) (S : RoadKit.Sta Z h ST "COMPACT_STRINGS" "Z" (.int z)) (hz : ¬ z = 0)
    (l0 : 0 < A.slots.size) (l2 : A.slots.size ≤ 536870912) (hp : ∀ i, i < A.slots.size → ¬ 255 < cv A i) (hfr : 4 ≤ R.frames) (hlo : W + 65 ≤ R.locals) :
    Back l R p e below s args New1.yN len W (fun P a => a = #[.ref x, .ref b] ∧ P.U.heap = h ∧ P.cells + 1 ≤ R.cells ∧ P.slots + A.slots.size ≤ R.slots)
      (fun P _ v B => ∃ L, Q Z x A h v B.U.heap L ∧ B.locs = P.locs ++ L ∧ B.cells = P.cells + 1 ∧ B.slots = P.slots + A.slots.size) := by
  intro m meth c P g ig mk a X hg hsize hdg hW hn hp'
  obtain ⟨rfl, rfl, r1, r2⟩ := hp'
  have al : Z.vm.Alike P.U.vm := hZ.alike.trans X.warmed.alike
  obtain ⟨D, cfV, kV, iV, fV, hD, gV, stV, knV, obV, asV, slV⟩ := id V
  obtain ⟨D', cfC, kC, iC, fC, hD', gC, stC, -, -, asC, slC⟩ := id C
  cases hD.symm.trans hD'
  obtain ⟨D2, kD, e1, e2, e3, e4, e5⟩ := id E
  cases hD.symm.trans e1
  obtain ⟨c2, k2, i1, i2, i3, -⟩ := Cond.instantiable_spec wi
  cases e2.symm.trans i1
  cases e3.symm.trans i2
  obtain ⟨kU, u1, u2⟩ := al.2.2 _ _ e3
  have hB : Blank ST x D P.U := ⟨hD, ⟨knV, fun q hq => by rw [hq] at obV; cases obV⟩, by rw [al.findClass]; exact e2, kU, u1, by rw [u2]; exact i3, by rw [u2]; exact e5 i3⟩
  have F1 : Found ST "value" "[B" fV P.U := ⟨SBG.found_only al ⟨cfV, kV, iV, gV⟩, stV⟩
  have F2 : Found ST "coder" "B" fC P.U := ⟨SBG.found_only al ⟨cfC, kC, iC, gC⟩, stC⟩
  have hA : Ch b A P.U := ⟨⟨K.1, State.isArrayOf_alike al K.2.1, K.2.2, by omega⟩, hty⟩
  have hS : StaticIs P.U ST "COMPACT_STRINGS" "Z" (.int z) := by
    obtain ⟨cfS, iS, kS, fS, st, cS, t1, t2, t3, t4, t5, t6, t7⟩ := S
    exact StaticIs.there (s := { Z with heap := P.U.heap }) ⟨cfS, iS, kS, fS, st, cS, t1, t2, t3, t4, t5, (fun q => by rw [q] at t6; cases t6), t7⟩ al rfl
  obtain ⟨v, B, X', ⟨⟨hv, E', V', q1, q2, q3, q4, q5, q6, q7, q8, q9, q10, q11⟩, hl, hc, hs⟩, st⟩ := New1.pays x D fV fC b A z (tab_of (moved hZ hw)) hfr hlo m meth c P g ig mk _ X hg hsize hdg hW hn ⟨r1, r2, rfl, hB, F1, F2, hA, hS, hz, l0, l2, hp⟩
  have al' : Z.vm.Alike B.U.vm := hZ.alike.trans X'.warmed.alike
  have hsz : E'.slots.size = D.slots.size := by
    obtain ⟨-, -, -, kB, w1, w2, w3⟩ := q1
    obtain ⟨kB', y1, y2⟩ := al'.2.2 _ _ e3
    rw [q2.2.1] at w1
    cases w1.symm.trans y1
    rw [w3, e5 i3, y2]
  refine ⟨v, B, X', ⟨_, ⟨hv, ?_, ⟨by omega, fun y cy hy hn' => q10 y cy (by simpa using hn') hy, fun y cy hy => ?_⟩, q11, ⟨E', _, q1.1, by rw [q2.2.1]; exact e2, by rw [q2.2.1]; exact e3, by rw [q2.1]; exact obV, fun _ => by rw [hsz]; exact e5 i3⟩,
    ⟨E', cfV, kV, iV, fV, q1.1, gV, stV, by rw [q2.1]; exact knV, by rw [q2.1]; exact obV, by rw [q2.2.1]; exact asV, q3⟩, ⟨E', cfC, kC, iC, fC, q1.1, gC, stC, by rw [q2.1]; exact knV, by rw [q2.1]; exact obV, by rw [q2.2.1]; exact asC, q4⟩,
    ⟨V', ⟨q5.1, State.isArrayOf_alike al'.symm q5.2.1, q5.2.2.1⟩, q6, by rw [← al'.findClass]; exact q7, q8, fun j hj => by have := q9 j hj; rwa [Nat.zero_add] at this⟩, fun O n d w F n1 n2 => ?_⟩, hl, hc, hs⟩, st⟩
  · intro y hy
    simp only [List.mem_cons, List.not_mem_nil, or_false] at hy
    rcases hy with rfl | rfl <;> rfl
  · by_cases q : y = x
    · subst q
      cases hD.symm.trans hy
      exact ⟨E', q1.1, q2.2.1, q2.1, hsz⟩
    · exact ⟨cy, q10 y cy q hy, rfl, rfl, rfl⟩
  · obtain ⟨D3, cf, k, i, f, g1, g2, g3, g4, g5, g6, g7⟩ := F
    cases hD.symm.trans g1
    simp only [RoadKit.slotOf, g2, gV, gC, Option.map_some, Option.getD_some] at n1 n2
    exact ⟨E', cf, k, i, f, q1.1, g2, g3, by rw [q2.1]; exact g4, by rw [q2.1]; exact g5, by rw [q2.2.1]; exact g6, by rw [q2.2.2 f.slot (by simp [n1, n2])]; exact g7⟩
end StrChars.Road
namespace StrChars.Road
open Jvm Sem ClassFile Op Lib Jvm.Stand Jvm.Free Jvm.Free.XT
/-- WHAT COMES BACK, the byte[] as a list of values -/
def QA (Z : State) (x : Addr) (zn : Int32) (cs : List Int32) (h : Heap) (v : Option Value) (h' : Heap) (L : List Loc) : Prop := v = none ∧ (∀ y ∈ L, y.base = x) ∧ RoadKit.Keep h h' [x] ∧ h'.size = h.size + 1 ∧ RoadKit.Exa Z h' x ST ∧ RoadKit.Fld Z h' x ST "value" "[B" (.ref h.size) ∧ RoadKit.Fld Z h' x ST "coder" "B" (.int 0) ∧
  (∃ kb, Z.vm.findClass "[B" = some kb ∧ RoadKit.Arv Z h' h.size kb .byte zn (cs.map fun c => .int (lo8 c)) (.int 0)) ∧
  ∀ (O n d : String) (w : Value), RoadKit.Fld Z h x O n d w → RoadKit.slotOf Z O n d ≠ RoadKit.slotOf Z ST "value" "[B" → RoadKit.slotOf Z O n d ≠ RoadKit.slotOf Z ST "coder" "B" → RoadKit.Fld Z h' x O n d w
/-- **new String(chars) AT A CALL, THE ARRAYS AS LISTS**: the char[] at b holds cs, not empty, no char above 255 -/
theorem backArv {p : Program} {l : Launch} {e : Env} {R : Room} {s : State} {args : Array Value} {below : List Frame} {len W : Nat} {Z : State} {a0 : Array Value} {h : Heap} (hZ : Z.Warmed39 s.vm) (hw : ∀ d ∈ words, d.before a0 Z = true) {kI : Nat} (wi : (Jvm.Cond.instantiable ST kI).before a0 Z = true)
    {x b : Addr} {k : ClassId} {zn z : Int32} {cs : List Int32} {dv v0 c0 : Value} (E : RoadKit.Exa Z h x ST) (V : RoadKit.Fld Z h x ST "value" "[B" v0) (C : RoadKit.Fld Z h x ST "coder" "B" c0) (K : RoadKit.Arv Z h b k .char zn (cs.map Value.int) dv) (S : RoadKit.Sta Z h ST "COMPACT_STRINGS" "Z" (.int z)) (hz : ¬ z = 0)
    (hlen : zn.toNatClampNeg = cs.length) (h0 : 0 < cs.length) (hbig : cs.length ≤ 536870912) (hall : ∀ c ∈ cs, ¬ 255 < c) (hfr : 4 ≤ R.frames) (hlo : W + 65 ≤ R.locals) :
    Back l R p e below s args New1.yN len W (fun P a => a = #[.ref x, .ref b] ∧ P.U.heap = h ∧ P.cells + 1 ≤ R.cells ∧ P.slots + cs.length ≤ R.slots)
      (fun P _ v B => ∃ L, QA Z x zn cs h v B.U.heap L ∧ B.locs = P.locs ++ L ∧ B.cells = P.cells + 1 ∧ B.slots = P.slots + cs.length) := by
  obtain ⟨A, K1, K2, K3, K4, K5, K6⟩ := K
  have e : A.slots.size = cs.length := K3.trans hlen
  have hat : ∀ (i : Nat) (hi : i < cs.length), A.slots[i]? = some (.int cs[i]) := fun i hi => by rw [K5 i (by omega)]; simp [List.getD_eq_getElem?_getD, hi]
  have hcv : ∀ (i : Nat) (hi : i < cs.length), cv A i = cs[i] := fun i hi => by unfold cv; rw [hat i hi]
  have hty : Typed .char A := fun i v hv => by
    have hi : i < A.slots.size := (Array.getElem?_eq_some_iff.mp hv).1
    have q := K5 i hi
    rw [hv] at q
    rw [Option.some.inj q]
    exact K6 i hi
  refine Back.mono (back hZ hw wi E V C K1 hty S hz (by omega) (by omega) (fun i hi => by rw [hcv i (by omega)]; exact hall _ (List.getElem_mem _)) hfr hlo) (fun P a hp => ⟨hp.1, hp.2.1, hp.2.2.1, by rw [e]; exact hp.2.2.2⟩) (fun P a v B hp hq => ?_)
  obtain ⟨L, ⟨q1, q2, q3, q4, q5, q6, q7, ⟨V', v1, v2, v3, v4, v5⟩, q9⟩, hl, hc, hs⟩ := hq
  refine ⟨L, ⟨q1, q2, q3, q4, q5, q6, q7, ⟨V'.cls, v3, V', v1, rfl, by rw [v4, e, hlen], K4, fun i hi => ?_, fun i hi => ?_⟩, q9⟩, hl, hc, by rw [hs, e]⟩
  · have hi' : i < cs.length := by omega
    rw [v5 i (by omega), hcv i hi']; simp [List.getD_eq_getElem?_getD, hi']
  · have hi' : i < cs.length := by omega
    simp only [List.getD_eq_getElem?_getD, List.getElem?_map, List.getElem?_eq_getElem hi', Option.map_some, Option.getD_some]
    exact fits_lo8 _
end StrChars.Road
namespace StrChars.Road
open Jvm Sem ClassFile Op Lib Jvm.Stand Jvm.Free Jvm.Free.XT
/-- WHAT COMES BACK, in the writer's own shape -/
def QV (Z : State) (x : Addr) (N : Int32) (bs : List Int32) (h : Heap) (n0 : Nat) (v : Option Value) (h' : Heap) (L : List Loc) : Prop := v = none ∧ RoadKit.Fr n0 L ∧ RoadKit.Keep h h' [x] ∧ RoadKit.Exa Z h' x ST ∧ RoadKit.Fld Z h' x ST "coder" "B" (.int 0) ∧
  ∃ (t : Addr) (kb : ClassId), n0 ≤ t ∧ h.size ≤ t ∧ ¬ t = x ∧ RoadKit.Fld Z h' x ST "value" "[B" (.ref t) ∧ RoadKit.Arv Z h' t kb .byte N (bs.map Value.int) (.int 0)
/-- **new String(chars) AT A CALL, FOR THE WRITER**: a char[] of n known ints, each 0 to 255 -/
theorem backV {p : Program} {l : Launch} {e : Env} {R : Room} {s : State} {args : Array Value} {below : List Frame} {len W : Nat} {Z : State} {a0 : Array Value} {h : Heap} (hZ : Z.Warmed39 s.vm) (hw : ∀ d ∈ words, d.before a0 Z = true) {kI : Nat} (wi : (Jvm.Cond.instantiable ST kI).before a0 Z = true)
    {x b : Addr} {kC : ClassId} {cs bs : List Int32} {d v0 c0 : Value} {z N : Int32} {n n0 : Nat} (hx0 : n0 ≤ x) (hh0 : n0 ≤ h.size) (E : RoadKit.Exa Z h x ST) (V : RoadKit.Fld Z h x ST "value" "[B" v0) (C : RoadKit.Fld Z h x ST "coder" "B" c0) (K : RoadKit.Arv Z h b kC .char N (cs.map Value.int) d) (S : RoadKit.Sta Z h ST "COMPACT_STRINGS" "Z" (.int z)) (hz : ¬ z = 0)
    (hn : cs.length = n) (hN : N = Int32.ofNat n) (l0 : 0 < n) (l2 : n ≤ 4000) (hp : ∀ c ∈ cs, ¬ c < 0 ∧ ¬ (255 : Int32) < c) (hb : bs = cs.map (fun c => c.toInt8.toInt32)) (hfr : 4 ≤ R.frames) (hlo : W + 65 ≤ R.locals) :
    Back l R p e below s args (⟨"java/lang/String", "<init>", "([C)V"⟩ : MethodName) len W (fun P a => a = #[.ref x, .ref b] ∧ P.U.heap = h ∧ P.cells + 1 ≤ R.cells ∧ P.slots + n ≤ R.slots)
      (fun P _ v B => ∃ L, QV Z x N bs h n0 v B.U.heap L ∧ B.locs = P.locs ++ L ∧ B.cells = P.cells + 1 ∧ B.slots = P.slots + n) := by
  subst hn hN hb
  refine Back.mono (backArv hZ hw wi E V C K S hz (n32 (by omega)) l0 (by omega) (fun c hc => (hp c hc).2) hfr hlo) (fun P a hp => hp) (fun P a v B hp hq => ?_)
  obtain ⟨L, ⟨q1, q2, q3, q4, q5, q6, q7, ⟨kb, v1, v2⟩, q9⟩, hl, hc, hs⟩ := hq
  exact ⟨L, ⟨q1, fun y hy => by rw [q2 y hy]; exact hx0, q3, q5, q7, h.size, kb, hh0, Nat.le_refl _, Nat.ne_of_gt E.lt, q6, by rw [List.map_map]; exact v2⟩, hl, hc, hs⟩
end StrChars.Road
end Jvm.Pilot.@@N@@
@@BLOCK:NumsL.lean.txt@@
namespace Jvm.Pilot.@@N@@
open Jvm Jvm.ClassFile Sem Op Lib Jvm.Free Jvm.Stand Jvm.LawKit Jvm.RoadKit Bundle Jvm.Pilot.@@N@@.Jvm.D
theorem own_up (cs : List Int32) (h : ∀ c ∈ cs, ¬ c < 0 ∧ ¬ (255 : Int32) < c) : ∀ c ∈ cs, ¬ c < 0 ∧ ¬ (65535 : Int32) < c := fun c hc => ⟨(h c hc).1, fun q => (h c hc).2 (by rw [Int32.lt_iff_toInt_lt] at q ⊢; have e1 : (65535 : Int32).toInt = 65535 := rfl; have e2 : (255 : Int32).toInt = 255 := rfl; omega)⟩
theorem own_all0 {P : Int32 → Prop} : ∀ c ∈ ([] : List Int32), P c := fun _ h => nomatch h
theorem own_allS {P : Int32 → Prop} {a : Int32} {L : List Int32} (h : P a) (r : ∀ c ∈ L, P c) : ∀ c ∈ a :: L, P c := fun c hc => (List.mem_cons.mp hc).elim (fun e => e ▸ h) (r c)
theorem own_and255 (x : Int32) : ¬ ((x &&& (255 : Int32)).toUInt32.toUInt16.toUInt32.toInt32) < 0 ∧ ¬ (255 : Int32) < ((x &&& (255 : Int32)).toUInt32.toUInt16.toUInt32.toInt32) := by
  have t : ∀ k : Fin 256, ¬ ((Int32.ofNat k.val).toUInt32.toUInt16.toUInt32.toInt32) < 0 ∧ ¬ (255 : Int32) < ((Int32.ofNat k.val).toUInt32.toUInt16.toUInt32.toInt32) := by decide +kernel
  have h : (x &&& 255).toBitVec.toNat < 256 := by
    simp only [Int32.toBitVec_and, BitVec.toNat_and]
    exact Nat.lt_succ_of_le Nat.and_le_right
  have e : (x &&& 255) = Int32.ofNat (x &&& 255).toBitVec.toNat := by
    apply Int32.toBitVec_inj.mp
    show _ = BitVec.ofNat 32 _
    rw [BitVec.ofNat_toNat]; simp
  rw [e]
  exact t ⟨_, h⟩
theorem own_and3 (x : Int32) : (x &&& (3 : Int32)) = 0 ∨ (x &&& (3 : Int32)) = 1 ∨ (x &&& (3 : Int32)) = 2 ∨ (x &&& (3 : Int32)) = 3 := by
  have t : ∀ k : Fin 4, (Int32.ofNat k.val) = 0 ∨ (Int32.ofNat k.val) = 1 ∨ (Int32.ofNat k.val) = 2 ∨ (Int32.ofNat k.val) = 3 := by decide +kernel
  have h : (x &&& 3).toBitVec.toNat < 4 := by
    simp only [Int32.toBitVec_and, BitVec.toNat_and]
    exact Nat.lt_succ_of_le Nat.and_le_right
  have e : (x &&& 3) = Int32.ofNat (x &&& 3).toBitVec.toNat := by
    apply Int32.toBitVec_inj.mp
    show _ = BitVec.ofNat 32 _
    rw [BitVec.ofNat_toNat]; simp
  rw [e]
  exact t ⟨_, h⟩
theorem own_narc {x : Int32} (h : ¬ x < 0 ∧ ¬ (255 : Int32) < x) : nar .char x = x := by
  have h1 := h.1
  have h2 := h.2
  rw [Int32.lt_iff_toInt_lt, show (0 : Int32).toInt = 0 from rfl] at h1
  rw [Int32.lt_iff_toInt_lt, show (255 : Int32).toInt = 255 from rfl] at h2
  obtain ⟨k, rfl⟩ : ∃ k : Fin 256, x = Int32.ofNat k.val := ⟨⟨x.toInt.toNat, by omega⟩, by
    rw [← Int32.toInt_inj, Int32.toInt_ofNat_of_lt (by omega)]
    show x.toInt = ((x.toInt.toNat : Nat) : Int)
    omega⟩
  clear h h1 h2
  revert k
  decide +kernel
theorem own_selp {Z : State} {a0 : Array Value} {y : MethodName} {n : Nat} (wp : (Cond.privateMethod y).before a0 Z = true) (wi : (Cond.instanceMethod y).before a0 Z = true) (wn : (Cond.instantiable y.cls n).before a0 Z = true) (hy : y.cls ≠ "java/lang/invoke/MethodHandle" ∧ y.cls ≠ "java/lang/invoke/VarHandle") : (Cond.selects y.cls y y).before a0 Z = true := by
  obtain ⟨c, k, h1, h2, h3, h4, -⟩ := Cond.instantiable_spec wn
  simp only [Bool.or_eq_false_iff] at h4
  exact selects_self_of_private h1 h2 h4.1 (Cond.privateMethod_at wp) wi hy
theorem own_NSroot {Z : State} {a0 : Array Value} {O K : String} {t : ClassId} (w : (Cond.noSuperclass O).before a0 Z = true) (g1 : Z.vm.findClass K = some t) (hn : O ≠ K) : NS Z O K := by
  obtain ⟨c, k, h1, h2, h3, -, -⟩ := Cond.noSuperclass_spec w
  have ne := ids_ne h1 g1 hn
  refine ⟨c, t, h1, g1, fun fuel => ?_⟩
  cases fuel with
  | zero => rfl
  | succ f => simp [Vm.isSubclassAux, ne, h2, h3]
theorem own_NSno {Z : State} {a0 : Array Value} {C S K : String} (w : (Cond.superclass C S).before a0 Z = true) (n : NS Z C K) (hn : C ≠ K) (f : ∃ t k, Z.vm.findClass K = some t ∧ Z.vm.classes[t]? = some k ∧ k.isInterface = false) : ∃ c t, Z.vm.findClass C = some c ∧ Z.vm.findClass K = some t ∧ Z.vm.assignable c t = false := by
  obtain ⟨t, k', g0, g2, g7⟩ := f
  obtain ⟨c, t', h0, g0', n3⟩ := n
  cases g0.symm.trans g0'
  obtain ⟨p, k, kp, h1, h2, h3, h4, h5, -, h7⟩ := Cond.superclass_spec h0 w
  have ne := ids_ne h0 g0 hn
  refine ⟨c, t, h0, g0, ?_⟩
  show Z.vm.assignableAux (255 + 1) c t = false
  cases e : k'.kind <;> simp [Vm.assignableAux, ne, h2, g2, h5, g7, Vm.isSubclass, n3, e]
theorem own_nfSel {Z : State} {a0 : Array Value} {C K n d : String} {x : MethodName} (w : (Cond.selects C x ⟨K, n, d⟩).before a0 Z = true) : ∃ t k, Z.vm.findClass K = some t ∧ Z.vm.classes[t]? = some k ∧ k.isInterface = false := by
  obtain ⟨c, r, m, h1, h2, h3, h4, mk, h5, h6⟩ := Cond.selects_spec w
  exact ⟨m.cls, mk, findClass_of_methodNamed h3, h5, h6⟩
theorem own_mirE {Z s : State} {C : String} {mr : Addr} {args : Array Value} (hZ : Z.Warmed39 s.vm) (M : Mir Z C mr) : (Term.mirror C).eval args s none [] s = some (.ref mr) := by
  obtain ⟨c, k, h1, h2, h3, -⟩ := M
  obtain ⟨k', q, ek⟩ := hZ.alike.2.2 _ _ h2
  have e3 : k'.mirror = some mr := by rw [ek]; exact h3
  simp [Term.eval, hZ.alike.findClass, h1, q, e3]
theorem own_ldcM {p : Program} {l : Launch} {e : Env} {R : Room} {s : State} {m : MethodId} {args : Array Value} {below : List Frame} {meth : Method} {c : Code} {T : State} {locs : List Loc} {cells slots : Nat} {Z : State} {h : Heap} {a0 : Array Value}
    (X : Stand p l e R s m args below meth c T locs cells slots) (hx : p.tables.exec = Jvm.exec) (hZ : Z.Warmed39 s.vm) {own C : String} {index : Nat} (hown : s.vm.findClass own = some m.cls) (w : (Cond.classLink own index C).before a0 Z = true) {mr : Addr} (M : Mir Z C mr) (eT : T.heap = h)
    {g : JFrame} (hg : g.method = m) (hd : decode c.code g.pc = .ok (.ldc index, 2)) : ∃ T', Stand p l e R s m args below meth c T' locs cells slots ∧ T'.heap = h ∧ ∀ target, Steps p.tables e below (T'.setTop { g with pc := g.pc + 2, stack := .ref mr :: g.stack }) target → Steps p.tables e below (T.setTop g) target := by
  obtain ⟨vm', X', st⟩ := X.ldcMirror hx hown (mv hZ w) (own_mirE hZ M) hg hd
  exact ⟨_, X', eT, st⟩
theorem own_cnt (x : Int32) : ((x.toUInt32 >>> ((1 : Int32) &&& 31).toUInt32).toInt32 % (3 : Int32)) = 0 ∨ ((x.toUInt32 >>> ((1 : Int32) &&& 31).toUInt32).toInt32 % (3 : Int32)) = 1 ∨ ((x.toUInt32 >>> ((1 : Int32) &&& 31).toUInt32).toInt32 % (3 : Int32)) = 2 := by
  have e0 : ((1 : Int32) &&& 31).toUInt32 = 1 := by decide
  rw [e0]
  have h1 : (x.toUInt32 >>> (1 : UInt32)).toNat < 2 ^ 31 := by
    rw [UInt32.toNat_shiftRight]
    have := x.toUInt32.toNat_lt
    have e : (1 : UInt32).toNat % 32 = 1 := by decide
    rw [e, Nat.shiftRight_eq_div_pow]; omega
  have e1 : (x.toUInt32 >>> (1 : UInt32)).toInt32.toInt = ((x.toUInt32 >>> (1 : UInt32)).toNat : Int) := by
    show (x.toUInt32 >>> (1 : UInt32)).toBitVec.toInt = _
    rw [BitVec.toInt_eq_toNat_of_lt (by show 2 * (x.toUInt32 >>> (1 : UInt32)).toNat < 2 ^ 32; omega)]; rfl
  generalize (x.toUInt32 >>> (1 : UInt32)).toInt32 = y at e1 ⊢
  have e2 : (y % (3 : Int32)).toInt = y.toInt % (3 : Int32).toInt := Jvm.Kit.i32_rem_nonneg (by omega)
  rw [show (3 : Int32).toInt = 3 from rfl] at e2
  rw [← Int32.toInt_inj, ← Int32.toInt_inj, ← Int32.toInt_inj, show (0 : Int32).toInt = 0 from rfl, show (1 : Int32).toInt = 1 from rfl, show (2 : Int32).toInt = 2 from rfl]
  omega
theorem d10_0 : decode jdk_22_method_1_code 0 = .ok (.aload_n 0, 1) := by decide +kernel
theorem d10_1 : decode jdk_22_method_1_code 1 = .ok (.invokespecial 1, 3) := by decide +kernel
theorem d10_4 : decode jdk_22_method_1_code 4 = .ok (.return_, 1) := by decide +kernel
theorem pn_java_util_AbstractCollection : plainName "java/util/AbstractCollection" = true := by first | (simp [plainName, overriddenIn]; done) | decide +kernel
theorem pd_2829V : parseMethodDescriptor "()V" = some ⟨[], none⟩ := by decide +kernel
set_option maxRecDepth 65536 in
set_option maxHeartbeats 40000000 in
theorem rmAC (l : Launch) (Z : State) (a0 : Array Value) (hw : ∀ d ∈ tables_1, d.before a0 Z = true) (ws : List Jvm.Cond) (r : Addr) (h0 : Heap) (n0 : Nat) (O0 : Old Z n0 h0) :
    MetFree l (⟨"java/util/AbstractCollection", "<init>", "()V"⟩ : MethodName) (head1 (Jvm.Cond.code (⟨"java/util/AbstractCollection", "<init>", "()V"⟩ : MethodName) jdk_22_method_1_code 1 none :: ws) ({ frames := 1, cells := 0, slots := 0, locals := 12 } : Room)) (fun ar' U => ar' = #[(.ref r)] ∧ Z.Warmed39 U.vm ∧ U.heap = h0) (fun _ _ _ _ _ => True) (fun _ U o U' => ∃ v L, o = .returned v ∧ (QA none h0 n0) v U'.heap L ∧ FrameEnd U o U' L ({ frames := 1, cells := 0, slots := 0, locals := 12 } : Room).cells ({ frames := 1, cells := 0, slots := 0, locals := 12 } : Room).slots) := by
  refine MetFree.of_bodySF (plainFor_of_name pn_java_util_AbstractCollection) hisR ?_
  intro p e s m args below meth c s₁ Bd hml0 hP hK
  obtain ⟨rfl, hZ, hh⟩ := hP
  have hx := Bd.exec
  have hby := Bd.bytes
  have hlk := BodyLoose.notSynchronized Bd
  have hml : c.maxLocals = 1 := hml0
  have hown : s.vm.findClass "java/util/AbstractCollection" = some m.cls := findClass_of_methodNamed Bd.named
  have hnm := (name_of_methodNamed Bd.named Bd.method).1
  have X0 : Stand p l e ({ frames := 1, cells := 0, slots := 0, locals := 12 } : Room) s m #[(.ref r)] below meth c s₁ [] 0 0 := Stand.of_body Bd
  have e0 : s₁.heap = h0 := by rw [← hh, Bd.state]; rfl
  have N0 := Fr.nil n0
  have Z0 : n0 ≤ h0.size := O0.1 ▸ O0.2.1
  show OEnds p e below s ({ frames := 1, cells := 0, slots := 0, locals := 12 } : Room).cells ({ frames := 1, cells := 0, slots := 0, locals := 12 } : Room).slots (QA none h0 n0) (s₁.setTop (entryFrame m #[(.ref r)] 1))
  refine OEnds.via (fun _ k_ => castTop (show entryFrame m #[(.ref r)] 1 = (mkF m 0 #[.val (.ref r)] []) by first | (simp [entryFrame, mkF, argsToLocals, Value.category, maxLocals]; done) | rfl) k_) ?_
  refine OEnds.via (fun _ k_ => XS.aloadN X0.here hx rfl (hb hby d10_0) rfl rfl k_) ?_
  show OEnds p e below s _ _ _ (s₁.setTop (mkF m 1 #[.val (.ref r)] [(.ref r)]))
  obtain ⟨T1, X1, e1, st1⟩ := initO X0 hx hZ hown (hw _ (List.mem_of_getElem? (i := 59) rfl)) (hw _ (List.mem_of_getElem? (i := 12) rfl)) (hw _ (List.mem_of_getElem? (i := 13) rfl)) e0 (g := (mkF m 1 #[.val (.ref r)] [(.ref r)])) rfl (by rw [hml]; rfl) rfl (hb hby d10_1) (by decide) (W := 0) (by show 2 * 0 + _ ≤ _; exact Nat.le_of_eq rfl) (by decide)
  refine OEnds.via (fun _ k_ => st1 _ k_) ?_
  show OEnds p e below s _ _ _ (T1.setTop (mkF m 4 #[.val (.ref r)] []))
  refine OEnds.retV X1 hx hlk Bd.returns (hb hby d10_4) ?_ (by decide) (by decide)
  exact ⟨rfl, N0, e1⟩
theorem d9_0 : decode jdk_39_method_1_code 0 = .ok (.aload_n 0, 1) := by decide +kernel
theorem d9_1 : decode jdk_39_method_1_code 1 = .ok (.invokespecial 1, 3) := by decide +kernel
theorem d9_4 : decode jdk_39_method_1_code 4 = .ok (.aload_n 0, 1) := by decide +kernel
theorem d9_5 : decode jdk_39_method_1_code 5 = .ok (.iconst 0, 1) := by decide +kernel
theorem d9_6 : decode jdk_39_method_1_code 6 = .ok (.putfield 7, 3) := by decide +kernel
theorem d9_9 : decode jdk_39_method_1_code 9 = .ok (.return_, 1) := by decide +kernel
theorem pn_java_util_AbstractList : plainName "java/util/AbstractList" = true := by first | (simp [plainName, overriddenIn]; done) | decide +kernel
def Q_rmAL (Z : State) (r : Addr) (h0 : Heap) (n0 : Nat) (v : Option Value) (h : Heap) (L : List Loc) : Prop := v = none ∧ Fr n0 L ∧ Keep h0 h [r] ∧ Exa Z h r "java/util/ArrayList" ∧ Fld Z h r "java/util/AbstractList" "modCount" "I" (.int (0 : Int32)) ∧ Fld Z h r "java/util/ArrayList" "elementData" "[Ljava/lang/Object;" .null ∧ Fld Z h r "java/util/ArrayList" "size" "I" (.int (0 : Int32))
set_option maxRecDepth 65536 in
set_option maxHeartbeats 40000000 in
theorem rmAL (l : Launch) (Z : State) (a0 : Array Value) (hw : ∀ d ∈ tables_1, d.before a0 Z = true) (ws : List Jvm.Cond) (r : Addr) (h0 : Heap) (n0 : Nat) (O0 : Old Z n0 h0) (F_modCount_r : Fld Z h0 r "java/util/AbstractList" "modCount" "I" (.int (0 : Int32))) (F_elementData_r : Fld Z h0 r "java/util/ArrayList" "elementData" "[Ljava/lang/Object;" .null) (F_size_r : Fld Z h0 r "java/util/ArrayList" "size" "I" (.int (0 : Int32))) (E_r : Exa Z h0 r "java/util/ArrayList") (ge_r : n0 ≤ r) :
    MetFree l (⟨"java/util/AbstractList", "<init>", "()V"⟩ : MethodName) (head1 (Jvm.Cond.code (⟨"java/util/AbstractList", "<init>", "()V"⟩ : MethodName) jdk_39_method_1_code 1 none :: ws) ({ frames := 2, cells := 0, slots := 0, locals := 30 } : Room)) (fun ar' U => ar' = #[(.ref r)] ∧ Z.Warmed39 U.vm ∧ U.heap = h0) (fun _ _ _ _ _ => True) (fun _ U o U' => ∃ v L, o = .returned v ∧ (Q_rmAL Z r h0 n0) v U'.heap L ∧ FrameEnd U o U' L ({ frames := 2, cells := 0, slots := 0, locals := 30 } : Room).cells ({ frames := 2, cells := 0, slots := 0, locals := 30 } : Room).slots) := by
  refine MetFree.of_bodySF (plainFor_of_name pn_java_util_AbstractList) hisR ?_
  intro p e s m args below meth c s₁ Bd hml0 hP hK
  obtain ⟨rfl, hZ, hh⟩ := hP
  have hx := Bd.exec
  have hby := Bd.bytes
  have hlk := BodyLoose.notSynchronized Bd
  have hml : c.maxLocals = 1 := hml0
  have hown : s.vm.findClass "java/util/AbstractList" = some m.cls := findClass_of_methodNamed Bd.named
  have hnm := (name_of_methodNamed Bd.named Bd.method).1
  have X0 : Stand p l e ({ frames := 2, cells := 0, slots := 0, locals := 30 } : Room) s m #[(.ref r)] below meth c s₁ [] 0 0 := Stand.of_body Bd
  have e0 : s₁.heap = h0 := by rw [← hh, Bd.state]; rfl
  have N0 := Fr.nil n0
  have Z0 : n0 ≤ h0.size := O0.1 ▸ O0.2.1
  show OEnds p e below s ({ frames := 2, cells := 0, slots := 0, locals := 30 } : Room).cells ({ frames := 2, cells := 0, slots := 0, locals := 30 } : Room).slots (Q_rmAL Z r h0 n0) (s₁.setTop (entryFrame m #[(.ref r)] 1))
  refine OEnds.via (fun _ k_ => castTop (show entryFrame m #[(.ref r)] 1 = (mkF m 0 #[.val (.ref r)] []) by first | (simp [entryFrame, mkF, argsToLocals, Value.category, maxLocals]; done) | rfl) k_) ?_
  have Kp := Keep.refl h0 [r]
  show OEnds p e below s _ _ _ (s₁.setTop (mkF m 0 #[.val (.ref r)] []))
  refine OEnds.via (fun _ k_ => XS.aloadN X0.here hx rfl (hb hby d9_0) rfl rfl k_) ?_
  show OEnds p e below s _ _ _ (s₁.setTop (mkF m 1 #[.val (.ref r)] [(.ref r)]))
  obtain ⟨_, _, ⟨T1, L1, k1, n1⟩, -, X1, ⟨Lc1, hQ1, l1, y1, z1⟩, st1⟩ := X0.specialBack hx (y := (⟨"java/util/AbstractCollection", "<init>", "()V"⟩ : MethodName)) rfl hown (mvT hZ (hw _ (List.mem_of_getElem? (i := 53) rfl))) (mvT hZ (hw _ (List.mem_of_getElem? (i := 54) rfl))) (mvT hZ (hw _ (List.mem_of_getElem? (i := 58) rfl))) (by decide) (backOf (W := 0) (rmAC l Z a0 hw [] r h0 n0 O0 ) hZ (hw _ (List.mem_of_getElem? (i := 58) rfl)) (hw _ (List.mem_of_getElem? (i := 57) rfl)) (by decide) (by decide)) (g := (mkF m 1 #[.val (.ref r)] [(.ref r)])) rfl (by rw [hml]; rfl) (Steps.refl _) (a := r) (argsL := []) (rest := []) (lenOf pd_2829V rfl) rfl (by show 2 * 0 + _ ≤ _; exact Nat.le_of_eq rfl) (hb hby d9_1) (fun _ _ => ⟨rfl, e0, Nat.le_of_ble_eq_true rfl, Nat.le_of_ble_eq_true rfl⟩)
  dsimp only [Pt.U, Pt.locs, Pt.cells, Pt.slots] at X1 l1 y1 z1 st1 hQ1
  subst l1 y1 z1
  obtain ⟨rfl, N1q, e1⟩ := hQ1
  have N1 := Fr.app N0 N1q
  refine OEnds.via (fun _ k_ => st1.trans k_) ?_
  show OEnds p e below s _ _ _ (T1.setTop (mkF m 4 #[.val (.ref r)] []))
  refine OEnds.via (fun _ k_ => XS.aloadN X1.here hx rfl (hb hby d9_4) rfl rfl k_) ?_
  show OEnds p e below s _ _ _ (T1.setTop (mkF m 5 #[.val (.ref r)] [(.ref r)]))
  refine OEnds.via (fun _ k_ => XS.iconst X1.here hx rfl (hb hby d9_5) k_) ?_
  show OEnds p e below s _ _ _ (T1.setTop (mkF m 6 #[.val (.ref r)] [(.int (0 : Int32)), (.ref r)]))
  obtain ⟨T2, h2, X2, e2, W2, st2⟩ := putF X1 hx hZ hown (host := "") (Or.inl (hw _ (List.mem_of_getElem? (i := 60) rfl))) Via.refl e1 F_modCount_r E_r (Or.inl (hw _ (List.mem_of_getElem? (i := 61) rfl))) (hw _ (List.mem_of_getElem? (i := 42) rfl)) (ty := .int) (by decide) rfl rfl (g := (mkF m 6 #[.val (.ref r)] [(.int (0 : Int32)), (.ref r)])) rfl rfl (hb hby d9_6)
  have N2 := Fr.snoc X2 N1 ge_r
  replace F_modCount_r := Fld.same W2 F_modCount_r
  replace F_elementData_r := Fld.other W2 F_elementData_r (Or.inr (slot_ne (Or.inl (hw _ (List.mem_of_getElem? (i := 64) rfl))) (Or.inl (hw _ (List.mem_of_getElem? (i := 61) rfl))) (by decide) (t := (.array (.object "java/lang/Object"))) (t' := .int) (by decide) (by decide)))
  replace F_size_r := Fld.other W2 F_size_r (Or.inr (slot_ne (Or.inl (hw _ (List.mem_of_getElem? (i := 73) rfl))) (Or.inl (hw _ (List.mem_of_getElem? (i := 61) rfl))) (by decide) (t := .int) (t' := .int) (by decide) (by decide)))
  replace E_r := Exa.wr W2 E_r
  replace Kp := Kp.wr W2 (Or.inl (by simp))
  refine OEnds.via (fun _ k_ => st2 _ k_) ?_
  show OEnds p e below s _ _ _ (T2.setTop (mkF m 9 #[.val (.ref r)] []))
  refine OEnds.retV X2 hx hlk Bd.returns (hb hby d9_9) ?_ (by decide) (by decide)
  rw [e2]
  exact ⟨rfl, N2, Kp, E_r, F_modCount_r, F_elementData_r, F_size_r⟩
theorem d8_0 : decode jdk_38_method_2_code 0 = .ok (.aload_n 0, 1) := by decide +kernel
theorem d8_1 : decode jdk_38_method_2_code 1 = .ok (.invokespecial 1, 3) := by decide +kernel
theorem d8_4 : decode jdk_38_method_2_code 4 = .ok (.aload_n 0, 1) := by decide +kernel
theorem d8_5 : decode jdk_38_method_2_code 5 = .ok (.getstatic 39, 3) := by decide +kernel
theorem d8_8 : decode jdk_38_method_2_code 8 = .ok (.putfield 9, 3) := by decide +kernel
theorem d8_11 : decode jdk_38_method_2_code 11 = .ok (.return_, 1) := by decide +kernel
theorem pn_java_util_ArrayList : plainName "java/util/ArrayList" = true := by first | (simp [plainName, overriddenIn]; done) | decide +kernel
def Q_rmNew (Z : State) (r : Addr) (dc : Addr) (h0 : Heap) (n0 : Nat) (v : Option Value) (h : Heap) (L : List Loc) : Prop := v = none ∧ Fr n0 L ∧ Keep h0 h [r] ∧ Exa Z h r "java/util/ArrayList" ∧ Fld Z h r "java/util/AbstractList" "modCount" "I" (.int (0 : Int32)) ∧ Fld Z h r "java/util/ArrayList" "elementData" "[Ljava/lang/Object;" (.ref dc) ∧ Fld Z h r "java/util/ArrayList" "size" "I" (.int (0 : Int32))
set_option maxRecDepth 65536 in
set_option maxHeartbeats 40000000 in
theorem rmNew (l : Launch) (Z : State) (a0 : Array Value) (hw : ∀ d ∈ tables_1, d.before a0 Z = true) (ws : List Jvm.Cond) (r : Addr) (dc : Addr) (h0 : Heap) (n0 : Nat) (O0 : Old Z n0 h0) (F_modCount_r : Fld Z h0 r "java/util/AbstractList" "modCount" "I" (.int (0 : Int32))) (F_elementData_r : Fld Z h0 r "java/util/ArrayList" "elementData" "[Ljava/lang/Object;" .null) (F_size_r : Fld Z h0 r "java/util/ArrayList" "size" "I" (.int (0 : Int32))) (E_r : Exa Z h0 r "java/util/ArrayList") (ge_r : n0 ≤ r) (S_dc : Sta Z Z.heap "java/util/ArrayList" "DEFAULTCAPACITY_EMPTY_ELEMENTDATA" "[Ljava/lang/Object;" (.ref dc)) :
    MetFree l (⟨"java/util/ArrayList", "<init>", "()V"⟩ : MethodName) (head1 (Jvm.Cond.code (⟨"java/util/ArrayList", "<init>", "()V"⟩ : MethodName) jdk_38_method_2_code 1 none :: ws) ({ frames := 3, cells := 0, slots := 0, locals := 44 } : Room)) (fun ar' U => ar' = #[(.ref r)] ∧ Z.Warmed39 U.vm ∧ U.heap = h0) (fun _ _ _ _ _ => True) (fun _ U o U' => ∃ v L, o = .returned v ∧ (Q_rmNew Z r dc h0 n0) v U'.heap L ∧ FrameEnd U o U' L ({ frames := 3, cells := 0, slots := 0, locals := 44 } : Room).cells ({ frames := 3, cells := 0, slots := 0, locals := 44 } : Room).slots) := by
  refine MetFree.of_bodySF (plainFor_of_name pn_java_util_ArrayList) hisR ?_
  intro p e s m args below meth c s₁ Bd hml0 hP hK
  obtain ⟨rfl, hZ, hh⟩ := hP
  have hx := Bd.exec
  have hby := Bd.bytes
  have hlk := BodyLoose.notSynchronized Bd
  have hml : c.maxLocals = 1 := hml0
  have hown : s.vm.findClass "java/util/ArrayList" = some m.cls := findClass_of_methodNamed Bd.named
  have hnm := (name_of_methodNamed Bd.named Bd.method).1
  have X0 : Stand p l e ({ frames := 3, cells := 0, slots := 0, locals := 44 } : Room) s m #[(.ref r)] below meth c s₁ [] 0 0 := Stand.of_body Bd
  have e0 : s₁.heap = h0 := by rw [← hh, Bd.state]; rfl
  have N0 := Fr.nil n0
  have Z0 : n0 ≤ h0.size := O0.1 ▸ O0.2.1
  show OEnds p e below s ({ frames := 3, cells := 0, slots := 0, locals := 44 } : Room).cells ({ frames := 3, cells := 0, slots := 0, locals := 44 } : Room).slots (Q_rmNew Z r dc h0 n0) (s₁.setTop (entryFrame m #[(.ref r)] 1))
  refine OEnds.via (fun _ k_ => castTop (show entryFrame m #[(.ref r)] 1 = (mkF m 0 #[.val (.ref r)] []) by first | (simp [entryFrame, mkF, argsToLocals, Value.category, maxLocals]; done) | rfl) k_) ?_
  have Od := O0
  have Kp := Keep.refl h0 [r]
  show OEnds p e below s _ _ _ (s₁.setTop (mkF m 0 #[.val (.ref r)] []))
  refine OEnds.via (fun _ k_ => XS.aloadN X0.here hx rfl (hb hby d8_0) rfl rfl k_) ?_
  show OEnds p e below s _ _ _ (s₁.setTop (mkF m 1 #[.val (.ref r)] [(.ref r)]))
  obtain ⟨_, _, ⟨T1, L1, k1, n1⟩, -, X1, ⟨Lc1, hQ1, l1, y1, z1⟩, st1⟩ := X0.specialBack hx (y := (⟨"java/util/AbstractList", "<init>", "()V"⟩ : MethodName)) rfl hown (mvT hZ (hw _ (List.mem_of_getElem? (i := 47) rfl))) (mvT hZ (hw _ (List.mem_of_getElem? (i := 48) rfl))) (mvT hZ (hw _ (List.mem_of_getElem? (i := 52) rfl))) (by decide) (backOf (W := 0) (rmAL l Z a0 hw [] r h0 n0 Od F_modCount_r F_elementData_r F_size_r E_r ge_r) hZ (hw _ (List.mem_of_getElem? (i := 52) rfl)) (hw _ (List.mem_of_getElem? (i := 51) rfl)) (by decide) (by decide)) (g := (mkF m 1 #[.val (.ref r)] [(.ref r)])) rfl (by rw [hml]; rfl) (Steps.refl _) (a := r) (argsL := []) (rest := []) (lenOf pd_2829V rfl) rfl (by show 2 * 0 + _ ≤ _; exact Nat.le_of_eq rfl) (hb hby d8_1) (fun _ _ => ⟨rfl, e0, Nat.le_of_ble_eq_true rfl, Nat.le_of_ble_eq_true rfl⟩)
  dsimp only [Pt.U, Pt.locs, Pt.cells, Pt.slots] at X1 l1 y1 z1 st1 hQ1
  subst l1 y1 z1
  obtain ⟨rfl, N1q, K1, G_E, F_modCount_r, F_elementData_r, F_size_r⟩ := hQ1
  have N1 := Fr.app N0 N1q
  replace Od := Od.keep K1 (allS ge_r all0)
  replace E_r := G_E
  replace Kp := Kp.trans K1 (allS (Or.inl (by simp)) all0)
  refine OEnds.via (fun _ k_ => st1.trans k_) ?_
  show OEnds p e below s _ _ _ (T1.setTop (mkF m 4 #[.val (.ref r)] []))
  refine OEnds.via (fun _ k_ => XS.aloadN X1.here hx rfl (hb hby d8_4) rfl rfl k_) ?_
  show OEnds p e below s _ _ _ (T1.setTop (mkF m 5 #[.val (.ref r)] [(.ref r)]))
  obtain ⟨T2, X2, e2, st2⟩ := getS2 X1 hx hZ hown (host := "") (Or.inl (hw _ (List.mem_of_getElem? (i := 62) rfl))) Via.refl rfl (Sta.ext Od.2 S_dc) (g := (mkF m 5 #[.val (.ref r)] [(.ref r)])) rfl (hb hby d8_5)
  refine OEnds.via (fun _ k_ => st2 _ k_) ?_
  show OEnds p e below s _ _ _ (T2.setTop (mkF m 8 #[.val (.ref r)] [(.ref dc), (.ref r)]))
  obtain ⟨T3, h3, X3, e3, W3, st3⟩ := putF X2 hx hZ hown (host := "") (Or.inl (hw _ (List.mem_of_getElem? (i := 63) rfl))) Via.refl e2 F_elementData_r E_r (Or.inl (hw _ (List.mem_of_getElem? (i := 64) rfl))) (hw _ (List.mem_of_getElem? (i := 42) rfl)) (ty := (.array (.object "java/lang/Object"))) (by decide) rfl rfl (g := (mkF m 8 #[.val (.ref r)] [(.ref dc), (.ref r)])) rfl rfl (hb hby d8_8)
  have N3 := Fr.snoc X3 N1 ge_r
  replace Od := Od.wr W3 ge_r
  replace E_r := Exa.wr W3 E_r
  replace Kp := Kp.wr W3 (Or.inl (by simp))
  replace F_modCount_r := Fld.other W3 F_modCount_r (Or.inr (slot_ne (Or.inl (hw _ (List.mem_of_getElem? (i := 61) rfl))) (Or.inl (hw _ (List.mem_of_getElem? (i := 64) rfl))) (by decide) (t := .int) (t' := (.array (.object "java/lang/Object"))) (by decide) (by decide)))
  replace F_elementData_r := Fld.same W3 F_elementData_r
  replace F_size_r := Fld.other W3 F_size_r (Or.inr (slot_ne (Or.inl (hw _ (List.mem_of_getElem? (i := 73) rfl))) (Or.inl (hw _ (List.mem_of_getElem? (i := 64) rfl))) (by decide) (t := .int) (t' := (.array (.object "java/lang/Object"))) (by decide) (by decide)))
  refine OEnds.via (fun _ k_ => st3 _ k_) ?_
  show OEnds p e below s _ _ _ (T3.setTop (mkF m 11 #[.val (.ref r)] []))
  refine OEnds.retV X3 hx hlk Bd.returns (hb hby d8_11) ?_ (by decide) (by decide)
  rw [e3]
  exact ⟨rfl, N3, Kp, E_r, F_modCount_r, F_elementData_r, F_size_r⟩
theorem d15_0 : decode jdk_29_method_65_code 0 = .ok (.iload_n 0, 1) := by decide +kernel
theorem d15_1 : decode jdk_29_method_65_code 1 = .ok (.iload_n 1, 1) := by decide +kernel
theorem d15_2 : decode jdk_29_method_65_code 2 = .ok (.if_icmp .lt 7, 3) := by decide +kernel
theorem d15_5 : decode jdk_29_method_65_code 5 = .ok (.iload_n 0, 1) := by decide +kernel
theorem d15_6 : decode jdk_29_method_65_code 6 = .ok (.goto 4, 3) := by decide +kernel
theorem d15_9 : decode jdk_29_method_65_code 9 = .ok (.iload_n 1, 1) := by decide +kernel
theorem d15_10 : decode jdk_29_method_65_code 10 = .ok (.ireturn, 1) := by decide +kernel
set_option maxRecDepth 65536 in
set_option maxHeartbeats 40000000 in
theorem rmMx (l : Launch) (Z : State) (a0 : Array Value) (hw : ∀ d ∈ tables_1, d.before a0 Z = true) (ws : List Jvm.Cond) (h0 : Heap) (n0 : Nat) (O0 : Old Z n0 h0) :
    MetFree l (⟨"java/lang/Math", "max", "(II)I"⟩ : MethodName) (head1 (Jvm.Cond.code (⟨"java/lang/Math", "max", "(II)I"⟩ : MethodName) jdk_29_method_65_code 2 (some .int) :: ws) ({ frames := 0, cells := 0, slots := 0, locals := 0 } : Room)) (fun ar' U => ar' = #[(.int (10 : Int32)), (.int (1 : Int32))] ∧ Z.Warmed39 U.vm ∧ U.heap = h0) (fun _ _ _ _ _ => True) (fun _ U o U' => ∃ v L, o = .returned v ∧ (QA (some (.int 10)) h0 n0) v U'.heap L ∧ FrameEnd U o U' L ({ frames := 0, cells := 0, slots := 0, locals := 0 } : Room).cells ({ frames := 0, cells := 0, slots := 0, locals := 0 } : Room).slots) := by
  refine MetFree.of_bodySF (Jvm.Free.JP.mathPlain rfl (by decide +kernel)) hisR ?_
  intro p e s m args below meth c s₁ Bd hml0 hP hK
  obtain ⟨rfl, hZ, hh⟩ := hP
  have hx := Bd.exec
  have hby := Bd.bytes
  have hlk := BodyLoose.notSynchronized Bd
  have hml : c.maxLocals = 2 := hml0
  have hown : s.vm.findClass "java/lang/Math" = some m.cls := findClass_of_methodNamed Bd.named
  have hnm := (name_of_methodNamed Bd.named Bd.method).1
  have X0 : Stand p l e ({ frames := 0, cells := 0, slots := 0, locals := 0 } : Room) s m #[(.int (10 : Int32)), (.int (1 : Int32))] below meth c s₁ [] 0 0 := Stand.of_body Bd
  have e0 : s₁.heap = h0 := by rw [← hh, Bd.state]; rfl
  have N0 := Fr.nil n0
  have Z0 : n0 ≤ h0.size := O0.1 ▸ O0.2.1
  show OEnds p e below s ({ frames := 0, cells := 0, slots := 0, locals := 0 } : Room).cells ({ frames := 0, cells := 0, slots := 0, locals := 0 } : Room).slots (QA (some (.int 10)) h0 n0) (s₁.setTop (entryFrame m #[(.int (10 : Int32)), (.int (1 : Int32))] 2))
  refine OEnds.via (fun _ k_ => castTop (show entryFrame m #[(.int (10 : Int32)), (.int (1 : Int32))] 2 = (mkF m 0 #[.val (.int (10 : Int32)), .val (.int (1 : Int32))] []) by first | (simp [entryFrame, mkF, argsToLocals, Value.category, maxLocals]; done) | rfl) k_) ?_
  refine OEnds.via (fun _ k_ => XS.iloadN X0.here hx rfl (hb hby d15_0) rfl k_) ?_
  show OEnds p e below s _ _ _ (s₁.setTop (mkF m 1 #[.val (.int (10 : Int32)), .val (.int (1 : Int32))] [(.int (10 : Int32))]))
  refine OEnds.via (fun _ k_ => XS.iloadN X0.here hx rfl (hb hby d15_1) rfl k_) ?_
  show OEnds p e below s _ _ _ (s₁.setTop (mkF m 2 #[.val (.int (10 : Int32)), .val (.int (1 : Int32))] [(.int (1 : Int32)), (.int (10 : Int32))]))
  refine OEnds.via (fun _ k_ => XS.icmpNo X0.here hx rfl (hb hby d15_2) rfl (flt (by decide : ¬ ((10 : Int32) < (1 : Int32)))).1 k_) ?_
  show OEnds p e below s _ _ _ (s₁.setTop (mkF m 5 #[.val (.int (10 : Int32)), .val (.int (1 : Int32))] []))
  refine OEnds.via (fun _ k_ => XS.iloadN X0.here hx rfl (hb hby d15_5) rfl k_) ?_
  show OEnds p e below s _ _ _ (s₁.setTop (mkF m 6 #[.val (.int (10 : Int32)), .val (.int (1 : Int32))] [(.int (10 : Int32))]))
  refine OEnds.via (fun _ k_ => XS.goto X0.here hx rfl (pc0 := 6) (pc' := 10) rfl (hb hby d15_6) (by decide) (by decide) k_) ?_
  show OEnds p e below s _ _ _ (s₁.setTop (mkF m 10 #[.val (.int (10 : Int32)), .val (.int (1 : Int32))] [(.int (10 : Int32))]))
  refine OEnds.retI X0 hx hlk Bd.returns (hb hby d15_10) ?_ (by decide) (by decide)
  exact ⟨rfl, N0, e0⟩
theorem d14_0 : decode jdk_38_method_6_code 0 = .ok (.aload_n 0, 1) := by decide +kernel
theorem d14_1 : decode jdk_38_method_6_code 1 = .ok (.getfield 9, 3) := by decide +kernel
theorem d14_4 : decode jdk_38_method_6_code 4 = .ok (.arraylength, 1) := by decide +kernel
theorem d14_5 : decode jdk_38_method_6_code 5 = .ok (.istore_n 2, 1) := by decide +kernel
theorem d14_6 : decode jdk_38_method_6_code 6 = .ok (.iload_n 2, 1) := by decide +kernel
theorem d14_7 : decode jdk_38_method_6_code 7 = .ok (.ifCond .gt 13, 3) := by decide +kernel
theorem d14_10 : decode jdk_38_method_6_code 10 = .ok (.aload_n 0, 1) := by decide +kernel
theorem d14_11 : decode jdk_38_method_6_code 11 = .ok (.getfield 9, 3) := by decide +kernel
theorem d14_14 : decode jdk_38_method_6_code 14 = .ok (.getstatic 39, 3) := by decide +kernel
theorem d14_17 : decode jdk_38_method_6_code 17 = .ok (.if_acmp .eq 28, 3) := by decide +kernel
theorem d14_20 : decode jdk_38_method_6_code 20 = .ok (.iload_n 2, 1) := by decide +kernel
theorem d14_21 : decode jdk_38_method_6_code 21 = .ok (.iload_n 1, 1) := by decide +kernel
theorem d14_22 : decode jdk_38_method_6_code 22 = .ok (.iload_n 2, 1) := by decide +kernel
theorem d14_23 : decode jdk_38_method_6_code 23 = .ok (.isub, 1) := by decide +kernel
theorem d14_24 : decode jdk_38_method_6_code 24 = .ok (.iload_n 2, 1) := by decide +kernel
theorem d14_25 : decode jdk_38_method_6_code 25 = .ok (.iconst 1, 1) := by decide +kernel
theorem d14_26 : decode jdk_38_method_6_code 26 = .ok (.ishr, 1) := by decide +kernel
theorem d14_27 : decode jdk_38_method_6_code 27 = .ok (.invokestatic 73, 3) := by decide +kernel
theorem d14_30 : decode jdk_38_method_6_code 30 = .ok (.istore_n 3, 1) := by decide +kernel
theorem d14_31 : decode jdk_38_method_6_code 31 = .ok (.aload_n 0, 1) := by decide +kernel
theorem d14_32 : decode jdk_38_method_6_code 32 = .ok (.aload_n 0, 1) := by decide +kernel
theorem d14_33 : decode jdk_38_method_6_code 33 = .ok (.getfield 9, 3) := by decide +kernel
theorem d14_36 : decode jdk_38_method_6_code 36 = .ok (.iload_n 3, 1) := by decide +kernel
theorem d14_37 : decode jdk_38_method_6_code 37 = .ok (.invokestatic 66, 3) := by decide +kernel
theorem d14_40 : decode jdk_38_method_6_code 40 = .ok (.dup_x1, 1) := by decide +kernel
theorem d14_41 : decode jdk_38_method_6_code 41 = .ok (.putfield 9, 3) := by decide +kernel
theorem d14_44 : decode jdk_38_method_6_code 44 = .ok (.areturn, 1) := by decide +kernel
theorem d14_45 : decode jdk_38_method_6_code 45 = .ok (.aload_n 0, 1) := by decide +kernel
theorem d14_46 : decode jdk_38_method_6_code 46 = .ok (.bipush 10, 2) := by decide +kernel
theorem d14_48 : decode jdk_38_method_6_code 48 = .ok (.iload_n 1, 1) := by decide +kernel
theorem d14_49 : decode jdk_38_method_6_code 49 = .ok (.invokestatic 79, 3) := by decide +kernel
theorem d14_52 : decode jdk_38_method_6_code 52 = .ok (.anewarray 7, 3) := by decide +kernel
theorem d14_55 : decode jdk_38_method_6_code 55 = .ok (.dup_x1, 1) := by decide +kernel
theorem d14_56 : decode jdk_38_method_6_code 56 = .ok (.putfield 9, 3) := by decide +kernel
theorem d14_59 : decode jdk_38_method_6_code 59 = .ok (.areturn, 1) := by decide +kernel
def Q_rmG1 (Z : State) (r : Addr) (mc : Int32) (dc : Addr) (kdc : ClassId) (h0 : Heap) (n0 : Nat) (v : Option Value) (h : Heap) (L : List Loc) : Prop := ∃ d kd, v = some (.ref d) ∧ Fr n0 L ∧ Keep h0 h [r] ∧ Exa Z h r "java/util/ArrayList" ∧ Fld Z h r "java/util/AbstractList" "modCount" "I" (.int mc) ∧ Fld Z h r "java/util/ArrayList" "elementData" "[Ljava/lang/Object;" (.ref d) ∧ Fld Z h r "java/util/ArrayList" "size" "I" (.int (0 : Int32)) ∧ n0 ≤ d ∧ h0.size ≤ d ∧ Ovr Z kd "java/lang/Object" ∧ Arv Z h d kd (.object "java/lang/Object") (10 : Int32) [.null, .null, .null, .null, .null, .null, .null, .null, .null, .null] .null ∧ Exa Z h d "[Ljava/lang/Object;"
theorem pd_28II29I : parseMethodDescriptor "(II)I" = some ⟨[.int, .int], some .int⟩ := by decide +kernel
theorem pd_285bLjava2flang2fObject3bI295bLjava2flang2fObject3b : parseMethodDescriptor "([Ljava/lang/Object;I)[Ljava/lang/Object;" = some ⟨[(.array (.object "java/lang/Object")), .int], some (.array (.object "java/lang/Object"))⟩ := by decide +kernel
set_option maxRecDepth 65536 in
set_option maxHeartbeats 40000000 in
theorem rmG1 (l : Launch) (Z : State) (a0 : Array Value) (hw : ∀ d ∈ tables_1, d.before a0 Z = true) (ws : List Jvm.Cond) (r : Addr) (mc : Int32) (dc : Addr) (kdc : ClassId) (h0 : Heap) (n0 : Nat) (O0 : Old Z n0 h0) (F_modCount_r : Fld Z h0 r "java/util/AbstractList" "modCount" "I" (.int mc)) (F_elementData_r : Fld Z h0 r "java/util/ArrayList" "elementData" "[Ljava/lang/Object;" (.ref dc)) (F_size_r : Fld Z h0 r "java/util/ArrayList" "size" "I" (.int (0 : Int32))) (E_r : Exa Z h0 r "java/util/ArrayList") (ge_r : n0 ≤ r) (S_dc : Sta Z Z.heap "java/util/ArrayList" "DEFAULTCAPACITY_EMPTY_ELEMENTDATA" "[Ljava/lang/Object;" (.ref dc)) (V_dc : Arv Z Z.heap dc kdc (.object "java/lang/Object") (0 : Int32) [] .null) :
    MetFree l (⟨"java/util/ArrayList", "grow", "(I)[Ljava/lang/Object;"⟩ : MethodName) (head1 (Jvm.Cond.code (⟨"java/util/ArrayList", "grow", "(I)[Ljava/lang/Object;"⟩ : MethodName) jdk_38_method_6_code 4 (some (.array (.object "java/lang/Object"))) :: ws) ({ frames := 1, cells := 1, slots := 10, locals := 20 } : Room)) (fun ar' U => ar' = #[(.ref r), (.int (1 : Int32))] ∧ Z.Warmed39 U.vm ∧ U.heap = h0) (fun _ _ _ _ _ => True) (fun _ U o U' => ∃ v L, o = .returned v ∧ (Q_rmG1 Z r mc dc kdc h0 n0) v U'.heap L ∧ FrameEnd U o U' L ({ frames := 1, cells := 1, slots := 10, locals := 20 } : Room).cells ({ frames := 1, cells := 1, slots := 10, locals := 20 } : Room).slots) := by
  refine MetFree.of_bodySF (plainFor_of_name pn_java_util_ArrayList) hisR ?_
  intro p e s m args below meth c s₁ Bd hml0 hP hK
  obtain ⟨rfl, hZ, hh⟩ := hP
  have hx := Bd.exec
  have hby := Bd.bytes
  have hlk := BodyLoose.notSynchronized Bd
  have hml : c.maxLocals = 4 := hml0
  have hown : s.vm.findClass "java/util/ArrayList" = some m.cls := findClass_of_methodNamed Bd.named
  have hnm := (name_of_methodNamed Bd.named Bd.method).1
  have X0 : Stand p l e ({ frames := 1, cells := 1, slots := 10, locals := 20 } : Room) s m #[(.ref r), (.int (1 : Int32))] below meth c s₁ [] 0 0 := Stand.of_body Bd
  have e0 : s₁.heap = h0 := by rw [← hh, Bd.state]; rfl
  have N0 := Fr.nil n0
  have Z0 : n0 ≤ h0.size := O0.1 ▸ O0.2.1
  show OEnds p e below s ({ frames := 1, cells := 1, slots := 10, locals := 20 } : Room).cells ({ frames := 1, cells := 1, slots := 10, locals := 20 } : Room).slots (Q_rmG1 Z r mc dc kdc h0 n0) (s₁.setTop (entryFrame m #[(.ref r), (.int (1 : Int32))] 4))
  refine OEnds.via (fun _ k_ => castTop (show entryFrame m #[(.ref r), (.int (1 : Int32))] 4 = (mkF m 0 #[.val (.ref r), .val (.int (1 : Int32)), .unset, .unset] []) by first | (simp [entryFrame, mkF, argsToLocals, Value.category, maxLocals]; done) | rfl) k_) ?_
  have Od := O0
  have Kp := Keep.refl h0 [r]
  obtain ⟨cdc, Adc, qdc, Sdc, Mdc, -, -⟩ := V_dc
  show OEnds p e below s _ _ _ (s₁.setTop (mkF m 0 #[.val (.ref r), .val (.int (1 : Int32)), .unset, .unset] []))
  refine OEnds.via (fun _ k_ => XS.aloadN X0.here hx rfl (hb hby d14_0) rfl rfl k_) ?_
  show OEnds p e below s _ _ _ (s₁.setTop (mkF m 1 #[.val (.ref r), .val (.int (1 : Int32)), .unset, .unset] [(.ref r)]))
  obtain ⟨T1, X1, e1, st1⟩ := getF X0 hx hZ hown (host := "") (Or.inl (hw _ (List.mem_of_getElem? (i := 63) rfl))) Via.refl e0 F_elementData_r (g := (mkF m 1 #[.val (.ref r), .val (.int (1 : Int32)), .unset, .unset] [(.ref r)])) rfl rfl (hb hby d14_1)
  refine OEnds.via (fun _ k_ => st1 _ k_) ?_
  show OEnds p e below s _ _ _ (T1.setTop (mkF m 4 #[.val (.ref r), .val (.int (1 : Int32)), .unset, .unset] [(.ref dc)]))
  refine OEnds.via (fun _ k_ => X1.arraylength hx (by rw [e1]; exact (Arr.ext Od.2 Adc).1) (State.isArrayOf_alike hZ.alike (Arr.ext Od.2 Adc).2.1) (g := (mkF m 4 #[.val (.ref r), .val (.int (1 : Int32)), .unset, .unset] [(.ref dc)])) rfl rfl (hb hby d14_4) _ k_) ?_
  rw [len_of Sdc Mdc]
  show OEnds p e below s _ _ _ (T1.setTop (mkF m 5 #[.val (.ref r), .val (.int (1 : Int32)), .unset, .unset] [(.int (0 : Int32))]))
  refine OEnds.via (fun _ k_ => XS.istoreN X1.here hx rfl (hb hby d14_5) rfl (l' := #[.val (.ref r), .val (.int (1 : Int32)), .val (.int (0 : Int32)), .unset]) rfl k_) ?_
  show OEnds p e below s _ _ _ (T1.setTop (mkF m 6 #[.val (.ref r), .val (.int (1 : Int32)), .val (.int (0 : Int32)), .unset] []))
  refine OEnds.via (fun _ k_ => XS.iloadN X1.here hx rfl (hb hby d14_6) rfl k_) ?_
  show OEnds p e below s _ _ _ (T1.setTop (mkF m 7 #[.val (.ref r), .val (.int (1 : Int32)), .val (.int (0 : Int32)), .unset] [(.int (0 : Int32))]))
  refine OEnds.via (fun _ k_ => XS.ifNo X1.here hx rfl (hb hby d14_7) rfl ((if0 _ _).trans (flt (by decide : ¬ ((0 : Int32) < (0 : Int32)))).2.2.1) k_) ?_
  show OEnds p e below s _ _ _ (T1.setTop (mkF m 10 #[.val (.ref r), .val (.int (1 : Int32)), .val (.int (0 : Int32)), .unset] []))
  refine OEnds.via (fun _ k_ => XS.aloadN X1.here hx rfl (hb hby d14_10) rfl rfl k_) ?_
  show OEnds p e below s _ _ _ (T1.setTop (mkF m 11 #[.val (.ref r), .val (.int (1 : Int32)), .val (.int (0 : Int32)), .unset] [(.ref r)]))
  obtain ⟨T2, X2, e2, st2⟩ := getF X1 hx hZ hown (host := "") (Or.inl (hw _ (List.mem_of_getElem? (i := 63) rfl))) Via.refl e1 F_elementData_r (g := (mkF m 11 #[.val (.ref r), .val (.int (1 : Int32)), .val (.int (0 : Int32)), .unset] [(.ref r)])) rfl rfl (hb hby d14_11)
  refine OEnds.via (fun _ k_ => st2 _ k_) ?_
  show OEnds p e below s _ _ _ (T2.setTop (mkF m 14 #[.val (.ref r), .val (.int (1 : Int32)), .val (.int (0 : Int32)), .unset] [(.ref dc)]))
  obtain ⟨T3, X3, e3, st3⟩ := getS2 X2 hx hZ hown (host := "") (Or.inl (hw _ (List.mem_of_getElem? (i := 62) rfl))) Via.refl e2 (Sta.ext Od.2 S_dc) (g := (mkF m 14 #[.val (.ref r), .val (.int (1 : Int32)), .val (.int (0 : Int32)), .unset] [(.ref dc)])) rfl (hb hby d14_14)
  refine OEnds.via (fun _ k_ => st3 _ k_) ?_
  show OEnds p e below s _ _ _ (T3.setTop (mkF m 17 #[.val (.ref r), .val (.int (1 : Int32)), .val (.int (0 : Int32)), .unset] [(.ref dc), (.ref dc)]))
  refine OEnds.via (fun _ k_ => Jvm.RoadKit.acmp (g := (mkF m 17 #[.val (.ref r), .val (.int (1 : Int32)), .val (.int (0 : Int32)), .unset] [(.ref dc), (.ref dc)])) X3 hx rfl rfl rfl (pc0 := 17) (pc' := 45) (same := true) rfl (hb hby d14_17) rfl (decide_eq_true rfl) (by decide) (by decide) k_) ?_
  show OEnds p e below s _ _ _ (T3.setTop (mkF m 45 #[.val (.ref r), .val (.int (1 : Int32)), .val (.int (0 : Int32)), .unset] []))
  refine OEnds.via (fun _ k_ => XS.aloadN X3.here hx rfl (hb hby d14_45) rfl rfl k_) ?_
  show OEnds p e below s _ _ _ (T3.setTop (mkF m 46 #[.val (.ref r), .val (.int (1 : Int32)), .val (.int (0 : Int32)), .unset] [(.ref r)]))
  refine OEnds.via (fun _ k_ => XS.bipush X3.here hx rfl (hb hby d14_46) k_) ?_
  show OEnds p e below s _ _ _ (T3.setTop (mkF m 48 #[.val (.ref r), .val (.int (1 : Int32)), .val (.int (0 : Int32)), .unset] [(.int (10 : Int32)), (.ref r)]))
  refine OEnds.via (fun _ k_ => XS.iloadN X3.here hx rfl (hb hby d14_48) rfl k_) ?_
  show OEnds p e below s _ _ _ (T3.setTop (mkF m 49 #[.val (.ref r), .val (.int (1 : Int32)), .val (.int (0 : Int32)), .unset] [(.int (1 : Int32)), (.int (10 : Int32)), (.ref r)]))
  obtain ⟨_, _, ⟨T4, L4, k4, n4⟩, -, X4, ⟨Lc4, hQ4, l4, y4, z4⟩, st4⟩ := Jvm.LawKit.callS X3 hx (y := (⟨"java/lang/Math", "max", "(II)I"⟩ : MethodName)) hown (mvT hZ (hw _ (List.mem_of_getElem? (i := 89) rfl))) (mvT hZ (hw _ (List.mem_of_getElem? (i := 90) rfl))) (mvT hZ (hw _ (List.mem_of_getElem? (i := 91) rfl))) (mvT hZ (hw _ (List.mem_of_getElem? (i := 92) rfl))) (by decide) (backOf (W := 1) (rmMx l Z a0 hw []  h0 n0 Od ) hZ (hw _ (List.mem_of_getElem? (i := 92) rfl)) (hw _ (List.mem_of_getElem? (i := 91) rfl)) (by decide) (by decide)) (g := (mkF m 49 #[.val (.ref r), .val (.int (1 : Int32)), .val (.int (0 : Int32)), .unset] [(.int (1 : Int32)), (.int (10 : Int32)), (.ref r)])) rfl (by rw [hml]; rfl) (argsL := [(.int (10 : Int32)), (.int (1 : Int32))]) (rest := [(.ref r)]) (lenOf pd_28II29I rfl) rfl (by show 2 * 0 + _ ≤ _; exact Nat.le_of_eq rfl) (hb hby d14_49) (fun _ _ => ⟨rfl, e3, Nat.le_of_ble_eq_true rfl, Nat.le_of_ble_eq_true rfl⟩)
  dsimp only [Pt.U, Pt.locs, Pt.cells, Pt.slots] at X4 l4 y4 z4 st4 hQ4
  subst l4 y4 z4
  obtain ⟨rfl, N4q, e4⟩ := hQ4
  have N4 := Fr.app N0 N4q
  refine OEnds.via (fun _ k_ => st4 _ k_) ?_
  show OEnds p e below s _ _ _ (T4.setTop (mkF m 52 #[.val (.ref r), .val (.int (1 : Int32)), .val (.int (0 : Int32)), .unset] [(.int (10 : Int32)), (.ref r)]))
  obtain ⟨T5, h5, k5, X5, e5, E5, A5, EX5, O5, st5⟩ := newRE X4 hx hZ hown (hw _ (List.mem_of_getElem? (i := 93) rfl)) (hw _ (List.mem_of_getElem? (i := 94) rfl)) e4 (g := (mkF m 52 #[.val (.ref r), .val (.int (1 : Int32)), .val (.int (0 : Int32)), .unset] [(.int (10 : Int32)), (.ref r)])) rfl (hb hby d14_52) rfl (by decide) (cap := 10) (by decide) (by decide) (by decide) (by decide) (ad := "[Ljava/lang/Object;") rfl
  obtain ⟨b5, g5⟩ : ∃ z, z = h0.size := ⟨_, rfl⟩
  have ne_r_b5 : r ≠ b5 := Nat.ne_of_lt (Nat.lt_of_lt_of_le F_modCount_r.lt (Nat.le_of_eq g5.symm))
  have ge_b5 : n0 ≤ b5 := Nat.le_trans (Od.1 ▸ Od.2.1) (Nat.le_of_eq g5.symm)
  have sz_b5 : h0.size ≤ b5 := Nat.le_trans Kp.1 (Nat.le_of_eq g5.symm)
  rw [← g5] at A5 st5 EX5
  replace Od := Od.ext E5
  replace F_modCount_r := Fld.ext E5 F_modCount_r
  replace F_elementData_r := Fld.ext E5 F_elementData_r
  replace F_size_r := Fld.ext E5 F_size_r
  replace E_r := Exa.ext E5 E_r
  replace Kp := Kp.ext E5
  have E_b5 : Exa Z h5 b5 "[Ljava/lang/Object;" := EX5
  have V_b5 : Arv Z h5 b5 k5 (.object "java/lang/Object") (10 : Int32) [.null, .null, .null, .null, .null, .null, .null, .null, .null, .null] .null := (Arv.new A5 (by decide)).pad (pad_rep [] .null 10)
  refine OEnds.via (fun _ k_ => st5 _ k_) ?_
  show OEnds p e below s _ _ _ (T5.setTop (mkF m 55 #[.val (.ref r), .val (.int (1 : Int32)), .val (.int (0 : Int32)), .unset] [(.ref b5), (.ref r)]))
  refine OEnds.via (fun _ k_ => XS.dupX1 X5.here hx rfl (hb hby d14_55) rfl rfl rfl k_) ?_
  show OEnds p e below s _ _ _ (T5.setTop (mkF m 56 #[.val (.ref r), .val (.int (1 : Int32)), .val (.int (0 : Int32)), .unset] [(.ref b5), (.ref r), (.ref b5)]))
  obtain ⟨T6, h6, X6, e6, W6, st6⟩ := putF X5 hx hZ hown (host := "") (Or.inl (hw _ (List.mem_of_getElem? (i := 63) rfl))) Via.refl e5 F_elementData_r E_r (Or.inl (hw _ (List.mem_of_getElem? (i := 64) rfl))) (hw _ (List.mem_of_getElem? (i := 42) rfl)) (ty := (.array (.object "java/lang/Object"))) (by decide) rfl rfl (g := (mkF m 56 #[.val (.ref r), .val (.int (1 : Int32)), .val (.int (0 : Int32)), .unset] [(.ref b5), (.ref r), (.ref b5)])) rfl rfl (hb hby d14_56)
  have N6 := Fr.snoc X6 N4 ge_r
  replace Od := Od.wr W6 ge_r
  replace F_modCount_r := Fld.other W6 F_modCount_r (Or.inr (slot_ne (Or.inl (hw _ (List.mem_of_getElem? (i := 61) rfl))) (Or.inl (hw _ (List.mem_of_getElem? (i := 64) rfl))) (by decide) (t := .int) (t' := (.array (.object "java/lang/Object"))) (by decide) (by decide)))
  replace F_elementData_r := Fld.same W6 F_elementData_r
  replace F_size_r := Fld.other W6 F_size_r (Or.inr (slot_ne (Or.inl (hw _ (List.mem_of_getElem? (i := 73) rfl))) (Or.inl (hw _ (List.mem_of_getElem? (i := 64) rfl))) (by decide) (t := .int) (t' := (.array (.object "java/lang/Object"))) (by decide) (by decide)))
  replace E_r := Exa.wr W6 E_r
  replace Kp := Kp.wr W6 (Or.inl (by simp))
  replace E_b5 := Exa.wr W6 E_b5
  replace V_b5 := V_b5.other W6 (Ne.symm ne_r_b5)
  refine OEnds.via (fun _ k_ => st6 _ k_) ?_
  show OEnds p e below s _ _ _ (T6.setTop (mkF m 59 #[.val (.ref r), .val (.int (1 : Int32)), .val (.int (0 : Int32)), .unset] [(.ref b5)]))
  refine OEnds.retR X6 hx hlk Bd.returns rfl rfl (hb hby d14_59) ?_ (by decide) (by decide)
  rw [e6]
  exact ⟨_, _, rfl, N6, Kp, E_r, F_modCount_r, F_elementData_r, F_size_r, ge_b5, sz_b5, O5, V_b5, E_b5⟩
theorem d13_0 : decode jdk_38_method_7_code 0 = .ok (.aload_n 0, 1) := by decide +kernel
theorem d13_1 : decode jdk_38_method_7_code 1 = .ok (.aload_n 0, 1) := by decide +kernel
theorem d13_2 : decode jdk_38_method_7_code 2 = .ok (.getfield 48, 3) := by decide +kernel
theorem d13_5 : decode jdk_38_method_7_code 5 = .ok (.iconst 1, 1) := by decide +kernel
theorem d13_6 : decode jdk_38_method_7_code 6 = .ok (.iadd, 1) := by decide +kernel
theorem d13_7 : decode jdk_38_method_7_code 7 = .ok (.invokevirtual 69, 3) := by decide +kernel
theorem d13_10 : decode jdk_38_method_7_code 10 = .ok (.areturn, 1) := by decide +kernel
def Q_rmG0 (Z : State) (r : Addr) (mc : Int32) (dc : Addr) (kdc : ClassId) (h0 : Heap) (n0 : Nat) (v : Option Value) (h : Heap) (L : List Loc) : Prop := ∃ d kd, v = some (.ref d) ∧ Fr n0 L ∧ Keep h0 h [r] ∧ Exa Z h r "java/util/ArrayList" ∧ Fld Z h r "java/util/AbstractList" "modCount" "I" (.int mc) ∧ Fld Z h r "java/util/ArrayList" "elementData" "[Ljava/lang/Object;" (.ref d) ∧ Fld Z h r "java/util/ArrayList" "size" "I" (.int (0 : Int32)) ∧ n0 ≤ d ∧ h0.size ≤ d ∧ Ovr Z kd "java/lang/Object" ∧ Arv Z h d kd (.object "java/lang/Object") (10 : Int32) [.null, .null, .null, .null, .null, .null, .null, .null, .null, .null] .null ∧ Exa Z h d "[Ljava/lang/Object;"
theorem pd_28I295bLjava2flang2fObject3b : parseMethodDescriptor "(I)[Ljava/lang/Object;" = some ⟨[.int], some (.array (.object "java/lang/Object"))⟩ := by decide +kernel
set_option maxRecDepth 65536 in
set_option maxHeartbeats 40000000 in
theorem rmG0 (l : Launch) (Z : State) (a0 : Array Value) (hw : ∀ d ∈ tables_1, d.before a0 Z = true) (ws : List Jvm.Cond) (r : Addr) (mc : Int32) (dc : Addr) (kdc : ClassId) (h0 : Heap) (n0 : Nat) (O0 : Old Z n0 h0) (F_modCount_r : Fld Z h0 r "java/util/AbstractList" "modCount" "I" (.int mc)) (F_elementData_r : Fld Z h0 r "java/util/ArrayList" "elementData" "[Ljava/lang/Object;" (.ref dc)) (F_size_r : Fld Z h0 r "java/util/ArrayList" "size" "I" (.int (0 : Int32))) (E_r : Exa Z h0 r "java/util/ArrayList") (ge_r : n0 ≤ r) (S_dc : Sta Z Z.heap "java/util/ArrayList" "DEFAULTCAPACITY_EMPTY_ELEMENTDATA" "[Ljava/lang/Object;" (.ref dc)) (V_dc : Arv Z Z.heap dc kdc (.object "java/lang/Object") (0 : Int32) [] .null) :
    MetFree l (⟨"java/util/ArrayList", "grow", "()[Ljava/lang/Object;"⟩ : MethodName) (head1 (Jvm.Cond.code (⟨"java/util/ArrayList", "grow", "()[Ljava/lang/Object;"⟩ : MethodName) jdk_38_method_7_code 1 (some (.array (.object "java/lang/Object"))) :: ws) ({ frames := 2, cells := 1, slots := 10, locals := 40 } : Room)) (fun ar' U => ar' = #[(.ref r)] ∧ Z.Warmed39 U.vm ∧ U.heap = h0) (fun _ _ _ _ _ => True) (fun _ U o U' => ∃ v L, o = .returned v ∧ (Q_rmG0 Z r mc dc kdc h0 n0) v U'.heap L ∧ FrameEnd U o U' L ({ frames := 2, cells := 1, slots := 10, locals := 40 } : Room).cells ({ frames := 2, cells := 1, slots := 10, locals := 40 } : Room).slots) := by
  refine MetFree.of_bodySF (plainFor_of_name pn_java_util_ArrayList) hisR ?_
  intro p e s m args below meth c s₁ Bd hml0 hP hK
  obtain ⟨rfl, hZ, hh⟩ := hP
  have hx := Bd.exec
  have hby := Bd.bytes
  have hlk := BodyLoose.notSynchronized Bd
  have hml : c.maxLocals = 1 := hml0
  have hown : s.vm.findClass "java/util/ArrayList" = some m.cls := findClass_of_methodNamed Bd.named
  have hnm := (name_of_methodNamed Bd.named Bd.method).1
  have X0 : Stand p l e ({ frames := 2, cells := 1, slots := 10, locals := 40 } : Room) s m #[(.ref r)] below meth c s₁ [] 0 0 := Stand.of_body Bd
  have e0 : s₁.heap = h0 := by rw [← hh, Bd.state]; rfl
  have N0 := Fr.nil n0
  have Z0 : n0 ≤ h0.size := O0.1 ▸ O0.2.1
  show OEnds p e below s ({ frames := 2, cells := 1, slots := 10, locals := 40 } : Room).cells ({ frames := 2, cells := 1, slots := 10, locals := 40 } : Room).slots (Q_rmG0 Z r mc dc kdc h0 n0) (s₁.setTop (entryFrame m #[(.ref r)] 1))
  refine OEnds.via (fun _ k_ => castTop (show entryFrame m #[(.ref r)] 1 = (mkF m 0 #[.val (.ref r)] []) by first | (simp [entryFrame, mkF, argsToLocals, Value.category, maxLocals]; done) | rfl) k_) ?_
  have Od := O0
  show OEnds p e below s _ _ _ (s₁.setTop (mkF m 0 #[.val (.ref r)] []))
  refine OEnds.via (fun _ k_ => XS.aloadN X0.here hx rfl (hb hby d13_0) rfl rfl k_) ?_
  show OEnds p e below s _ _ _ (s₁.setTop (mkF m 1 #[.val (.ref r)] [(.ref r)]))
  refine OEnds.via (fun _ k_ => XS.aloadN X0.here hx rfl (hb hby d13_1) rfl rfl k_) ?_
  show OEnds p e below s _ _ _ (s₁.setTop (mkF m 2 #[.val (.ref r)] [(.ref r), (.ref r)]))
  obtain ⟨T1, X1, e1, st1⟩ := getF X0 hx hZ hown (host := "") (Or.inl (hw _ (List.mem_of_getElem? (i := 72) rfl))) Via.refl e0 F_size_r (g := (mkF m 2 #[.val (.ref r)] [(.ref r), (.ref r)])) rfl rfl (hb hby d13_2)
  refine OEnds.via (fun _ k_ => st1 _ k_) ?_
  show OEnds p e below s _ _ _ (T1.setTop (mkF m 5 #[.val (.ref r)] [(.int (0 : Int32)), (.ref r)]))
  refine OEnds.via (fun _ k_ => XS.iconst X1.here hx rfl (hb hby d13_5) k_) ?_
  show OEnds p e below s _ _ _ (T1.setTop (mkF m 6 #[.val (.ref r)] [(.int (1 : Int32)), (.int (0 : Int32)), (.ref r)]))
  refine OEnds.via (fun _ k_ => XS.iadd X1.here hx rfl (hb hby d13_6) rfl k_) ?_
  show OEnds p e below s _ _ _ (T1.setTop (mkF m 7 #[.val (.ref r)] [(.int (1 : Int32)), (.ref r)]))
  obtain ⟨cq2, q2, q2'⟩ := E_r.cell
  obtain ⟨_, _, ⟨T2, L2, k2, n2⟩, -, X2, ⟨Lc2, hQ2, l2, y2, z2⟩, st2⟩ := X1.privateBack hx (y := (⟨"java/util/ArrayList", "grow", "(I)[Ljava/lang/Object;"⟩ : MethodName)) hown (mvT hZ (hw _ (List.mem_of_getElem? (i := 84) rfl))) (mvT hZ (hw _ (List.mem_of_getElem? (i := 85) rfl))) (mvT hZ (hw _ (List.mem_of_getElem? (i := 87) rfl))) (Cond.privateMethod_at (mvP hZ (hw _ (List.mem_of_getElem? (i := 86) rfl)) (args := #[]))) (mvT hZ (hw _ (List.mem_of_getElem? (i := 88) rfl))) (by decide) (backOf (W := 0) (rmG1 l Z a0 hw [] r mc dc kdc h0 n0 Od F_modCount_r F_elementData_r F_size_r E_r ge_r S_dc V_dc) hZ (hw _ (List.mem_of_getElem? (i := 88) rfl)) (hw _ (List.mem_of_getElem? (i := 43) rfl)) (by decide) (by decide)) (g := (mkF m 7 #[.val (.ref r)] [(.int (1 : Int32)), (.ref r)])) rfl (by rw [hml]; rfl) (Steps.refl _) (a := r) (by rw [e1]; exact q2) q2' (argsL := [(.int (1 : Int32))]) (rest := []) (lenOf pd_28I295bLjava2flang2fObject3b rfl) rfl (by show 2 * 0 + _ ≤ _; exact Nat.le_of_eq rfl) (hb hby d13_7) (fun _ _ => ⟨rfl, e1, Nat.le_of_ble_eq_true rfl, Nat.le_of_ble_eq_true rfl⟩)
  dsimp only [Pt.U, Pt.locs, Pt.cells, Pt.slots] at X2 l2 y2 z2 st2 hQ2
  subst l2 y2 z2
  obtain ⟨d, kd, rfl, N2q, R2⟩ := hQ2
  have N2 := Fr.app N0 N2q
  refine OEnds.via (fun _ k_ => st2.trans k_) ?_
  show OEnds p e below s _ _ _ (T2.setTop (mkF m 10 #[.val (.ref r)] [(.ref d)]))
  refine OEnds.retR X2 hx hlk Bd.returns rfl rfl (hb hby d13_10) ?_ (by decide) (by decide)
  exact ⟨_, _, rfl, N2, R2⟩
theorem d12_0 : decode jdk_38_method_24_code 0 = .ok (.iload_n 3, 1) := by decide +kernel
theorem d12_1 : decode jdk_38_method_24_code 1 = .ok (.aload_n 2, 1) := by decide +kernel
theorem d12_2 : decode jdk_38_method_24_code 2 = .ok (.arraylength, 1) := by decide +kernel
theorem d12_3 : decode jdk_38_method_24_code 3 = .ok (.if_icmp .ne 8, 3) := by decide +kernel
theorem d12_6 : decode jdk_38_method_24_code 6 = .ok (.aload_n 0, 1) := by decide +kernel
theorem d12_7 : decode jdk_38_method_24_code 7 = .ok (.invokevirtual 129, 3) := by decide +kernel
theorem d12_10 : decode jdk_38_method_24_code 10 = .ok (.astore_n 2, 1) := by decide +kernel
theorem d12_11 : decode jdk_38_method_24_code 11 = .ok (.aload_n 2, 1) := by decide +kernel
theorem d12_12 : decode jdk_38_method_24_code 12 = .ok (.iload_n 3, 1) := by decide +kernel
theorem d12_13 : decode jdk_38_method_24_code 13 = .ok (.aload_n 1, 1) := by decide +kernel
theorem d12_14 : decode jdk_38_method_24_code 14 = .ok (.aastore, 1) := by decide +kernel
theorem d12_15 : decode jdk_38_method_24_code 15 = .ok (.aload_n 0, 1) := by decide +kernel
theorem d12_16 : decode jdk_38_method_24_code 16 = .ok (.iload_n 3, 1) := by decide +kernel
theorem d12_17 : decode jdk_38_method_24_code 17 = .ok (.iconst 1, 1) := by decide +kernel
theorem d12_18 : decode jdk_38_method_24_code 18 = .ok (.iadd, 1) := by decide +kernel
theorem d12_19 : decode jdk_38_method_24_code 19 = .ok (.putfield 48, 3) := by decide +kernel
theorem d12_22 : decode jdk_38_method_24_code 22 = .ok (.return_, 1) := by decide +kernel
def Q_rmP1 (Z : State) (r : Addr) (y : Addr) (mc : Int32) (dc : Addr) (kdc : ClassId) (h0 : Heap) (n0 : Nat) (v : Option Value) (h : Heap) (L : List Loc) : Prop := ∃ d kd, v = none ∧ Fr n0 L ∧ Keep h0 h [r] ∧ Exa Z h r "java/util/ArrayList" ∧ Fld Z h r "java/util/AbstractList" "modCount" "I" (.int mc) ∧ Fld Z h r "java/util/ArrayList" "elementData" "[Ljava/lang/Object;" (.ref d) ∧ Fld Z h r "java/util/ArrayList" "size" "I" (.int (1 : Int32)) ∧ n0 ≤ d ∧ h0.size ≤ d ∧ Ovr Z kd "java/lang/Object" ∧ Arv Z h d kd (.object "java/lang/Object") (10 : Int32) [(.ref y), .null, .null, .null, .null, .null, .null, .null, .null, .null] .null ∧ Exa Z h d "[Ljava/lang/Object;"
theorem pd_28295bLjava2flang2fObject3b : parseMethodDescriptor "()[Ljava/lang/Object;" = some ⟨[], some (.array (.object "java/lang/Object"))⟩ := by decide +kernel
set_option maxRecDepth 65536 in
set_option maxHeartbeats 40000000 in
theorem rmP1 (l : Launch) (Z : State) (a0 : Array Value) (hw : ∀ d ∈ tables_1, d.before a0 Z = true) (ws : List Jvm.Cond) (r : Addr) (y : Addr) (mc : Int32) (dc : Addr) (kdc : ClassId) (h0 : Heap) (n0 : Nat) (O0 : Old Z n0 h0) (F_modCount_r : Fld Z h0 r "java/util/AbstractList" "modCount" "I" (.int mc)) (F_elementData_r : Fld Z h0 r "java/util/ArrayList" "elementData" "[Ljava/lang/Object;" (.ref dc)) (F_size_r : Fld Z h0 r "java/util/ArrayList" "size" "I" (.int (0 : Int32))) (E_r : Exa Z h0 r "java/util/ArrayList") (ge_r : n0 ≤ r) (S_dc : Sta Z Z.heap "java/util/ArrayList" "DEFAULTCAPACITY_EMPTY_ELEMENTDATA" "[Ljava/lang/Object;" (.ref dc)) (V_dc : Arv Z Z.heap dc kdc (.object "java/lang/Object") (0 : Int32) [] .null) (E_y : Exa Z h0 y "com/example/holdfast/holdfast/LockInfo$Reader") (hyr : y ≠ r) :
    MetFree l (⟨"java/util/ArrayList", "add", "(Ljava/lang/Object;[Ljava/lang/Object;I)V"⟩ : MethodName) (head1 (Jvm.Cond.code (⟨"java/util/ArrayList", "add", "(Ljava/lang/Object;[Ljava/lang/Object;I)V"⟩ : MethodName) jdk_38_method_24_code 4 none :: ws) ({ frames := 3, cells := 1, slots := 10, locals := 60 } : Room)) (fun ar' U => ar' = #[(.ref r), (.ref y), (.ref dc), (.int (0 : Int32))] ∧ Z.Warmed39 U.vm ∧ U.heap = h0) (fun _ _ _ _ _ => True) (fun _ U o U' => ∃ v L, o = .returned v ∧ (Q_rmP1 Z r y mc dc kdc h0 n0) v U'.heap L ∧ FrameEnd U o U' L ({ frames := 3, cells := 1, slots := 10, locals := 60 } : Room).cells ({ frames := 3, cells := 1, slots := 10, locals := 60 } : Room).slots) := by
  refine MetFree.of_bodySF (plainFor_of_name pn_java_util_ArrayList) hisR ?_
  intro p e s m args below meth c s₁ Bd hml0 hP hK
  obtain ⟨rfl, hZ, hh⟩ := hP
  have hx := Bd.exec
  have hby := Bd.bytes
  have hlk := BodyLoose.notSynchronized Bd
  have hml : c.maxLocals = 4 := hml0
  have hown : s.vm.findClass "java/util/ArrayList" = some m.cls := findClass_of_methodNamed Bd.named
  have hnm := (name_of_methodNamed Bd.named Bd.method).1
  have X0 : Stand p l e ({ frames := 3, cells := 1, slots := 10, locals := 60 } : Room) s m #[(.ref r), (.ref y), (.ref dc), (.int (0 : Int32))] below meth c s₁ [] 0 0 := Stand.of_body Bd
  have e0 : s₁.heap = h0 := by rw [← hh, Bd.state]; rfl
  have N0 := Fr.nil n0
  have Z0 : n0 ≤ h0.size := O0.1 ▸ O0.2.1
  show OEnds p e below s ({ frames := 3, cells := 1, slots := 10, locals := 60 } : Room).cells ({ frames := 3, cells := 1, slots := 10, locals := 60 } : Room).slots (Q_rmP1 Z r y mc dc kdc h0 n0) (s₁.setTop (entryFrame m #[(.ref r), (.ref y), (.ref dc), (.int (0 : Int32))] 4))
  refine OEnds.via (fun _ k_ => castTop (show entryFrame m #[(.ref r), (.ref y), (.ref dc), (.int (0 : Int32))] 4 = (mkF m 0 #[.val (.ref r), .val (.ref y), .val (.ref dc), .val (.int (0 : Int32))] []) by first | (simp [entryFrame, mkF, argsToLocals, Value.category, maxLocals]; done) | rfl) k_) ?_
  have Od := O0
  have Kp := Keep.refl h0 [r]
  have V_dc' := V_dc
  obtain ⟨cdc, Adc, qdc, Sdc, Mdc, -, -⟩ := V_dc'
  show OEnds p e below s _ _ _ (s₁.setTop (mkF m 0 #[.val (.ref r), .val (.ref y), .val (.ref dc), .val (.int (0 : Int32))] []))
  refine OEnds.via (fun _ k_ => XS.iloadN X0.here hx rfl (hb hby d12_0) rfl k_) ?_
  show OEnds p e below s _ _ _ (s₁.setTop (mkF m 1 #[.val (.ref r), .val (.ref y), .val (.ref dc), .val (.int (0 : Int32))] [(.int (0 : Int32))]))
  refine OEnds.via (fun _ k_ => XS.aloadN X0.here hx rfl (hb hby d12_1) rfl rfl k_) ?_
  show OEnds p e below s _ _ _ (s₁.setTop (mkF m 2 #[.val (.ref r), .val (.ref y), .val (.ref dc), .val (.int (0 : Int32))] [(.ref dc), (.int (0 : Int32))]))
  refine OEnds.via (fun _ k_ => X0.arraylength hx (by rw [e0]; exact (Arr.ext Od.2 Adc).1) (State.isArrayOf_alike hZ.alike (Arr.ext Od.2 Adc).2.1) (g := (mkF m 2 #[.val (.ref r), .val (.ref y), .val (.ref dc), .val (.int (0 : Int32))] [(.ref dc), (.int (0 : Int32))])) rfl rfl (hb hby d12_2) _ k_) ?_
  rw [len_of Sdc Mdc]
  show OEnds p e below s _ _ _ (s₁.setTop (mkF m 3 #[.val (.ref r), .val (.ref y), .val (.ref dc), .val (.int (0 : Int32))] [(.int (0 : Int32)), (.int (0 : Int32))]))
  refine OEnds.via (fun _ k_ => XS.icmpNo X0.here hx rfl (hb hby d12_3) rfl (teq (by decide : (0 : Int32) = (0 : Int32))).2 k_) ?_
  show OEnds p e below s _ _ _ (s₁.setTop (mkF m 6 #[.val (.ref r), .val (.ref y), .val (.ref dc), .val (.int (0 : Int32))] []))
  refine OEnds.via (fun _ k_ => XS.aloadN X0.here hx rfl (hb hby d12_6) rfl rfl k_) ?_
  show OEnds p e below s _ _ _ (s₁.setTop (mkF m 7 #[.val (.ref r), .val (.ref y), .val (.ref dc), .val (.int (0 : Int32))] [(.ref r)]))
  obtain ⟨cq1, q1, q1'⟩ := E_r.cell
  obtain ⟨_, _, ⟨T1, L1, k1, n1⟩, -, X1, ⟨Lc1, hQ1, l1, y1, z1⟩, st1⟩ := X0.privateBack hx (y := (⟨"java/util/ArrayList", "grow", "()[Ljava/lang/Object;"⟩ : MethodName)) hown (mvT hZ (hw _ (List.mem_of_getElem? (i := 79) rfl))) (mvT hZ (hw _ (List.mem_of_getElem? (i := 80) rfl))) (mvT hZ (hw _ (List.mem_of_getElem? (i := 82) rfl))) (Cond.privateMethod_at (mvP hZ (hw _ (List.mem_of_getElem? (i := 81) rfl)) (args := #[]))) (mvT hZ (hw _ (List.mem_of_getElem? (i := 83) rfl))) (by decide) (backOf (W := 0) (rmG0 l Z a0 hw [] r mc dc kdc h0 n0 Od F_modCount_r F_elementData_r F_size_r E_r ge_r S_dc V_dc) hZ (hw _ (List.mem_of_getElem? (i := 83) rfl)) (hw _ (List.mem_of_getElem? (i := 43) rfl)) (by decide) (by decide)) (g := (mkF m 7 #[.val (.ref r), .val (.ref y), .val (.ref dc), .val (.int (0 : Int32))] [(.ref r)])) rfl (by rw [hml]; rfl) (Steps.refl _) (a := r) (by rw [e0]; exact q1) q1' (argsL := []) (rest := []) (lenOf pd_28295bLjava2flang2fObject3b rfl) rfl (by show 2 * 0 + _ ≤ _; exact Nat.le_of_eq rfl) (hb hby d12_7) (fun _ _ => ⟨rfl, e0, Nat.le_of_ble_eq_true rfl, Nat.le_of_ble_eq_true rfl⟩)
  dsimp only [Pt.U, Pt.locs, Pt.cells, Pt.slots] at X1 l1 y1 z1 st1 hQ1
  subst l1 y1 z1
  obtain ⟨d, kd, rfl, N1q, K1, -, G_mc, G_ed, G_sz, ge_d, sz_d, O_d, V_d, E_d⟩ := hQ1
  have ne_r_d : r ≠ d := Nat.ne_of_lt (Nat.lt_of_lt_of_le F_modCount_r.lt sz_d)
  have ne_y_d : y ≠ d := Nat.ne_of_lt (Nat.lt_of_lt_of_le E_y.lt sz_d)
  have N1 := Fr.app N0 N1q
  have szd : h0.size ≤ d := Nat.le_trans Kp.1 sz_d
  replace Od := Od.keep K1 (allS ge_r all0)
  replace E_r := E_r.keep K1
  replace E_y := E_y.keep K1
  replace Kp := Kp.trans K1 (allS (Or.inl (by simp)) all0)
  have F_modCount_r := G_mc
  have F_elementData_r := G_ed
  have F_size_r := G_sz
  refine OEnds.via (fun _ k_ => st1.trans k_) ?_
  show OEnds p e below s _ _ _ (T1.setTop (mkF m 10 #[.val (.ref r), .val (.ref y), .val (.ref dc), .val (.int (0 : Int32))] [(.ref d)]))
  refine OEnds.via (fun _ k_ => XS.astoreN X1.here hx rfl (hb hby d12_10) rfl rfl (l' := #[.val (.ref r), .val (.ref y), .val (.ref d), .val (.int (0 : Int32))]) rfl k_) ?_
  show OEnds p e below s _ _ _ (T1.setTop (mkF m 11 #[.val (.ref r), .val (.ref y), .val (.ref d), .val (.int (0 : Int32))] []))
  refine OEnds.via (fun _ k_ => XS.aloadN X1.here hx rfl (hb hby d12_11) rfl rfl k_) ?_
  show OEnds p e below s _ _ _ (T1.setTop (mkF m 12 #[.val (.ref r), .val (.ref y), .val (.ref d), .val (.int (0 : Int32))] [(.ref d)]))
  refine OEnds.via (fun _ k_ => XS.iloadN X1.here hx rfl (hb hby d12_12) rfl k_) ?_
  show OEnds p e below s _ _ _ (T1.setTop (mkF m 13 #[.val (.ref r), .val (.ref y), .val (.ref d), .val (.int (0 : Int32))] [(.int (0 : Int32)), (.ref d)]))
  refine OEnds.via (fun _ k_ => XS.aloadN X1.here hx rfl (hb hby d12_13) rfl rfl k_) ?_
  show OEnds p e below s _ _ _ (T1.setTop (mkF m 14 #[.val (.ref r), .val (.ref y), .val (.ref d), .val (.int (0 : Int32))] [(.ref y), (.int (0 : Int32)), (.ref d)]))
  obtain ⟨cl2, Ar2, q2, S2, M2, H2, G2⟩ := V_d
  obtain ⟨T2, h2, X2, e2, W2, st2⟩ := stR X1 hx hZ rfl Ar2 (j := (0 : Int32)) (inb_of S2 ⟨by decide, by decide⟩) rfl (Sto.ofV Ar2 q2 O_d (Ins.of_exa E_y (hw _ (List.mem_of_getElem? (i := 95) rfl)))) (g := (mkF m 14 #[.val (.ref r), .val (.ref y), .val (.ref d), .val (.int (0 : Int32))] [(.ref y), (.int (0 : Int32)), (.ref d)])) rfl rfl (hb hby d12_14)
  have V_d : Arv Z h2 d kd (.object "java/lang/Object") (10 : Int32) [(.ref y), .null, .null, .null, .null, .null, .null, .null, .null, .null] .null := Arv.set Ar2 q2 S2 M2 H2 G2 rfl W2 0 rfl (Nat.le_of_ble_eq_true rfl)
  have N2 := Fr.snoc X2 N1 ge_d
  replace Od := Od.wr W2 ge_d
  replace E_r := Exa.wr W2 E_r
  replace E_y := Exa.wr W2 E_y
  replace Kp := Kp.wr W2 (Or.inr szd)
  replace F_modCount_r := Fld.other W2 F_modCount_r (Or.inl ne_r_d)
  replace F_elementData_r := Fld.other W2 F_elementData_r (Or.inl ne_r_d)
  replace F_size_r := Fld.other W2 F_size_r (Or.inl ne_r_d)
  replace E_d := Exa.wr W2 E_d
  refine OEnds.via (fun _ k_ => st2 _ k_) ?_
  show OEnds p e below s _ _ _ (T2.setTop (mkF m 15 #[.val (.ref r), .val (.ref y), .val (.ref d), .val (.int (0 : Int32))] []))
  refine OEnds.via (fun _ k_ => XS.aloadN X2.here hx rfl (hb hby d12_15) rfl rfl k_) ?_
  show OEnds p e below s _ _ _ (T2.setTop (mkF m 16 #[.val (.ref r), .val (.ref y), .val (.ref d), .val (.int (0 : Int32))] [(.ref r)]))
  refine OEnds.via (fun _ k_ => XS.iloadN X2.here hx rfl (hb hby d12_16) rfl k_) ?_
  show OEnds p e below s _ _ _ (T2.setTop (mkF m 17 #[.val (.ref r), .val (.ref y), .val (.ref d), .val (.int (0 : Int32))] [(.int (0 : Int32)), (.ref r)]))
  refine OEnds.via (fun _ k_ => XS.iconst X2.here hx rfl (hb hby d12_17) k_) ?_
  show OEnds p e below s _ _ _ (T2.setTop (mkF m 18 #[.val (.ref r), .val (.ref y), .val (.ref d), .val (.int (0 : Int32))] [(.int (1 : Int32)), (.int (0 : Int32)), (.ref r)]))
  refine OEnds.via (fun _ k_ => XS.iadd X2.here hx rfl (hb hby d12_18) rfl k_) ?_
  show OEnds p e below s _ _ _ (T2.setTop (mkF m 19 #[.val (.ref r), .val (.ref y), .val (.ref d), .val (.int (0 : Int32))] [(.int (1 : Int32)), (.ref r)]))
  obtain ⟨T3, h3, X3, e3, W3, st3⟩ := putF X2 hx hZ hown (host := "") (Or.inl (hw _ (List.mem_of_getElem? (i := 72) rfl))) Via.refl e2 F_size_r E_r (Or.inl (hw _ (List.mem_of_getElem? (i := 73) rfl))) (hw _ (List.mem_of_getElem? (i := 42) rfl)) (ty := .int) (by decide) rfl rfl (g := (mkF m 19 #[.val (.ref r), .val (.ref y), .val (.ref d), .val (.int (0 : Int32))] [(.int (1 : Int32)), (.ref r)])) rfl rfl (hb hby d12_19)
  have N3 := Fr.snoc X3 N2 ge_r
  replace Od := Od.wr W3 ge_r
  replace E_r := Exa.wr W3 E_r
  replace E_y := Exa.wr W3 E_y
  replace Kp := Kp.wr W3 (Or.inl (by simp))
  replace F_modCount_r := Fld.other W3 F_modCount_r (Or.inr (slot_ne (Or.inl (hw _ (List.mem_of_getElem? (i := 61) rfl))) (Or.inl (hw _ (List.mem_of_getElem? (i := 73) rfl))) (by decide) (t := .int) (t' := .int) (by decide) (by decide)))
  replace F_elementData_r := Fld.other W3 F_elementData_r (Or.inr (slot_ne (Or.inl (hw _ (List.mem_of_getElem? (i := 64) rfl))) (Or.inl (hw _ (List.mem_of_getElem? (i := 73) rfl))) (by decide) (t := (.array (.object "java/lang/Object"))) (t' := .int) (by decide) (by decide)))
  replace F_size_r := Fld.same W3 F_size_r
  replace E_d := Exa.wr W3 E_d
  replace V_d := V_d.other W3 (Ne.symm ne_r_d)
  refine OEnds.via (fun _ k_ => st3 _ k_) ?_
  show OEnds p e below s _ _ _ (T3.setTop (mkF m 22 #[.val (.ref r), .val (.ref y), .val (.ref d), .val (.int (0 : Int32))] []))
  refine OEnds.retV X3 hx hlk Bd.returns (hb hby d12_22) ?_ (by decide) (by decide)
  rw [e3]
  exact ⟨_, _, rfl, N3, Kp, E_r, F_modCount_r, F_elementData_r, F_size_r, ge_d, szd, O_d, V_d, E_d⟩
theorem d11_0 : decode jdk_38_method_25_code 0 = .ok (.aload_n 0, 1) := by decide +kernel
theorem d11_1 : decode jdk_38_method_25_code 1 = .ok (.dup, 1) := by decide +kernel
theorem d11_2 : decode jdk_38_method_25_code 2 = .ok (.getfield 63, 3) := by decide +kernel
theorem d11_5 : decode jdk_38_method_25_code 5 = .ok (.iconst 1, 1) := by decide +kernel
theorem d11_6 : decode jdk_38_method_25_code 6 = .ok (.iadd, 1) := by decide +kernel
theorem d11_7 : decode jdk_38_method_25_code 7 = .ok (.putfield 63, 3) := by decide +kernel
theorem d11_10 : decode jdk_38_method_25_code 10 = .ok (.aload_n 0, 1) := by decide +kernel
theorem d11_11 : decode jdk_38_method_25_code 11 = .ok (.aload_n 1, 1) := by decide +kernel
theorem d11_12 : decode jdk_38_method_25_code 12 = .ok (.aload_n 0, 1) := by decide +kernel
theorem d11_13 : decode jdk_38_method_25_code 13 = .ok (.getfield 9, 3) := by decide +kernel
theorem d11_16 : decode jdk_38_method_25_code 16 = .ok (.aload_n 0, 1) := by decide +kernel
theorem d11_17 : decode jdk_38_method_25_code 17 = .ok (.getfield 48, 3) := by decide +kernel
theorem d11_20 : decode jdk_38_method_25_code 20 = .ok (.invokevirtual 131, 3) := by decide +kernel
theorem d11_23 : decode jdk_38_method_25_code 23 = .ok (.iconst 1, 1) := by decide +kernel
theorem d11_24 : decode jdk_38_method_25_code 24 = .ok (.ireturn, 1) := by decide +kernel
def Q_rmA0 (Z : State) (r : Addr) (y : Addr) (mc : Int32) (dc : Addr) (kdc : ClassId) (h0 : Heap) (n0 : Nat) (v : Option Value) (h : Heap) (L : List Loc) : Prop := ∃ d kd, v = some (.int 1) ∧ Fr n0 L ∧ Keep h0 h [r] ∧ Exa Z h r "java/util/ArrayList" ∧ Fld Z h r "java/util/AbstractList" "modCount" "I" (.int (mc + (1 : Int32))) ∧ Fld Z h r "java/util/ArrayList" "elementData" "[Ljava/lang/Object;" (.ref d) ∧ Fld Z h r "java/util/ArrayList" "size" "I" (.int (1 : Int32)) ∧ n0 ≤ d ∧ h0.size ≤ d ∧ Ovr Z kd "java/lang/Object" ∧ Arv Z h d kd (.object "java/lang/Object") (10 : Int32) [(.ref y), .null, .null, .null, .null, .null, .null, .null, .null, .null] .null ∧ Exa Z h d "[Ljava/lang/Object;"
theorem pd_28Ljava2flang2fObject3b5bLjava2flang2fObject3bI29V : parseMethodDescriptor "(Ljava/lang/Object;[Ljava/lang/Object;I)V" = some ⟨[(.object "java/lang/Object"), (.array (.object "java/lang/Object")), .int], none⟩ := by decide +kernel
set_option maxRecDepth 65536 in
set_option maxHeartbeats 40000000 in
theorem rmA0 (l : Launch) (Z : State) (a0 : Array Value) (hw : ∀ d ∈ tables_1, d.before a0 Z = true) (ws : List Jvm.Cond) (r : Addr) (y : Addr) (mc : Int32) (dc : Addr) (kdc : ClassId) (h0 : Heap) (n0 : Nat) (O0 : Old Z n0 h0) (F_modCount_r : Fld Z h0 r "java/util/AbstractList" "modCount" "I" (.int mc)) (F_elementData_r : Fld Z h0 r "java/util/ArrayList" "elementData" "[Ljava/lang/Object;" (.ref dc)) (F_size_r : Fld Z h0 r "java/util/ArrayList" "size" "I" (.int (0 : Int32))) (E_r : Exa Z h0 r "java/util/ArrayList") (ge_r : n0 ≤ r) (S_dc : Sta Z Z.heap "java/util/ArrayList" "DEFAULTCAPACITY_EMPTY_ELEMENTDATA" "[Ljava/lang/Object;" (.ref dc)) (V_dc : Arv Z Z.heap dc kdc (.object "java/lang/Object") (0 : Int32) [] .null) (E_y : Exa Z h0 y "com/example/holdfast/holdfast/LockInfo$Reader") (hyr : y ≠ r) :
    MetFree l (⟨"java/util/ArrayList", "add", "(Ljava/lang/Object;)Z"⟩ : MethodName) (head1 (Jvm.Cond.code (⟨"java/util/ArrayList", "add", "(Ljava/lang/Object;)Z"⟩ : MethodName) jdk_38_method_25_code 2 (some .boolean) :: ws) ({ frames := 4, cells := 1, slots := 10, locals := 90 } : Room)) (fun ar' U => ar' = #[(.ref r), (.ref y)] ∧ Z.Warmed39 U.vm ∧ U.heap = h0) (fun _ _ _ _ _ => True) (fun _ U o U' => ∃ v L, o = .returned v ∧ (Q_rmA0 Z r y mc dc kdc h0 n0) v U'.heap L ∧ FrameEnd U o U' L ({ frames := 4, cells := 1, slots := 10, locals := 90 } : Room).cells ({ frames := 4, cells := 1, slots := 10, locals := 90 } : Room).slots) := by
  refine MetFree.of_bodySF (plainFor_of_name pn_java_util_ArrayList) hisR ?_
  intro p e s m args below meth c s₁ Bd hml0 hP hK
  obtain ⟨rfl, hZ, hh⟩ := hP
  have hx := Bd.exec
  have hby := Bd.bytes
  have hlk := BodyLoose.notSynchronized Bd
  have hml : c.maxLocals = 2 := hml0
  have hown : s.vm.findClass "java/util/ArrayList" = some m.cls := findClass_of_methodNamed Bd.named
  have hnm := (name_of_methodNamed Bd.named Bd.method).1
  have X0 : Stand p l e ({ frames := 4, cells := 1, slots := 10, locals := 90 } : Room) s m #[(.ref r), (.ref y)] below meth c s₁ [] 0 0 := Stand.of_body Bd
  have e0 : s₁.heap = h0 := by rw [← hh, Bd.state]; rfl
  have N0 := Fr.nil n0
  have Z0 : n0 ≤ h0.size := O0.1 ▸ O0.2.1
  show OEnds p e below s ({ frames := 4, cells := 1, slots := 10, locals := 90 } : Room).cells ({ frames := 4, cells := 1, slots := 10, locals := 90 } : Room).slots (Q_rmA0 Z r y mc dc kdc h0 n0) (s₁.setTop (entryFrame m #[(.ref r), (.ref y)] 2))
  refine OEnds.via (fun _ k_ => castTop (show entryFrame m #[(.ref r), (.ref y)] 2 = (mkF m 0 #[.val (.ref r), .val (.ref y)] []) by first | (simp [entryFrame, mkF, argsToLocals, Value.category, maxLocals]; done) | rfl) k_) ?_
  have Od := O0
  have Kp := Keep.refl h0 [r]
  show OEnds p e below s _ _ _ (s₁.setTop (mkF m 0 #[.val (.ref r), .val (.ref y)] []))
  refine OEnds.via (fun _ k_ => XS.aloadN X0.here hx rfl (hb hby d11_0) rfl rfl k_) ?_
  show OEnds p e below s _ _ _ (s₁.setTop (mkF m 1 #[.val (.ref r), .val (.ref y)] [(.ref r)]))
  refine OEnds.via (fun _ k_ => XS.dup X0.here hx rfl (hb hby d11_1) rfl rfl k_) ?_
  show OEnds p e below s _ _ _ (s₁.setTop (mkF m 2 #[.val (.ref r), .val (.ref y)] [(.ref r), (.ref r)]))
  obtain ⟨T1, X1, e1, st1⟩ := getF X0 hx hZ hown (host := "") (Or.inl (hw _ (List.mem_of_getElem? (i := 70) rfl))) (Via.of (hw _ (List.mem_of_getElem? (i := 71) rfl))) e0 F_modCount_r (g := (mkF m 2 #[.val (.ref r), .val (.ref y)] [(.ref r), (.ref r)])) rfl rfl (hb hby d11_2)
  refine OEnds.via (fun _ k_ => st1 _ k_) ?_
  show OEnds p e below s _ _ _ (T1.setTop (mkF m 5 #[.val (.ref r), .val (.ref y)] [(.int mc), (.ref r)]))
  refine OEnds.via (fun _ k_ => XS.iconst X1.here hx rfl (hb hby d11_5) k_) ?_
  show OEnds p e below s _ _ _ (T1.setTop (mkF m 6 #[.val (.ref r), .val (.ref y)] [(.int (1 : Int32)), (.int mc), (.ref r)]))
  refine OEnds.via (fun _ k_ => XS.iadd X1.here hx rfl (hb hby d11_6) rfl k_) ?_
  show OEnds p e below s _ _ _ (T1.setTop (mkF m 7 #[.val (.ref r), .val (.ref y)] [(.int (mc + (1 : Int32))), (.ref r)]))
  obtain ⟨T2, h2, X2, e2, W2, st2⟩ := putF X1 hx hZ hown (host := "") (Or.inl (hw _ (List.mem_of_getElem? (i := 70) rfl))) (Via.of (hw _ (List.mem_of_getElem? (i := 71) rfl))) e1 F_modCount_r E_r (Or.inl (hw _ (List.mem_of_getElem? (i := 61) rfl))) (hw _ (List.mem_of_getElem? (i := 42) rfl)) (ty := .int) (by decide) rfl rfl (g := (mkF m 7 #[.val (.ref r), .val (.ref y)] [(.int (mc + (1 : Int32))), (.ref r)])) rfl rfl (hb hby d11_7)
  have N2 := Fr.snoc X2 N0 ge_r
  replace Od := Od.wr W2 ge_r
  replace F_modCount_r := Fld.same W2 F_modCount_r
  replace F_elementData_r := Fld.other W2 F_elementData_r (Or.inr (slot_ne (Or.inl (hw _ (List.mem_of_getElem? (i := 64) rfl))) (Or.inl (hw _ (List.mem_of_getElem? (i := 61) rfl))) (by decide) (t := (.array (.object "java/lang/Object"))) (t' := .int) (by decide) (by decide)))
  replace F_size_r := Fld.other W2 F_size_r (Or.inr (slot_ne (Or.inl (hw _ (List.mem_of_getElem? (i := 73) rfl))) (Or.inl (hw _ (List.mem_of_getElem? (i := 61) rfl))) (by decide) (t := .int) (t' := .int) (by decide) (by decide)))
  replace E_r := Exa.wr W2 E_r
  replace E_y := Exa.wr W2 E_y
  replace Kp := Kp.wr W2 (Or.inl (by simp))
  refine OEnds.via (fun _ k_ => st2 _ k_) ?_
  show OEnds p e below s _ _ _ (T2.setTop (mkF m 10 #[.val (.ref r), .val (.ref y)] []))
  refine OEnds.via (fun _ k_ => XS.aloadN X2.here hx rfl (hb hby d11_10) rfl rfl k_) ?_
  show OEnds p e below s _ _ _ (T2.setTop (mkF m 11 #[.val (.ref r), .val (.ref y)] [(.ref r)]))
  refine OEnds.via (fun _ k_ => XS.aloadN X2.here hx rfl (hb hby d11_11) rfl rfl k_) ?_
  show OEnds p e below s _ _ _ (T2.setTop (mkF m 12 #[.val (.ref r), .val (.ref y)] [(.ref y), (.ref r)]))
  refine OEnds.via (fun _ k_ => XS.aloadN X2.here hx rfl (hb hby d11_12) rfl rfl k_) ?_
  show OEnds p e below s _ _ _ (T2.setTop (mkF m 13 #[.val (.ref r), .val (.ref y)] [(.ref r), (.ref y), (.ref r)]))
  obtain ⟨T3, X3, e3, st3⟩ := getF X2 hx hZ hown (host := "") (Or.inl (hw _ (List.mem_of_getElem? (i := 63) rfl))) Via.refl e2 F_elementData_r (g := (mkF m 13 #[.val (.ref r), .val (.ref y)] [(.ref r), (.ref y), (.ref r)])) rfl rfl (hb hby d11_13)
  refine OEnds.via (fun _ k_ => st3 _ k_) ?_
  show OEnds p e below s _ _ _ (T3.setTop (mkF m 16 #[.val (.ref r), .val (.ref y)] [(.ref dc), (.ref y), (.ref r)]))
  refine OEnds.via (fun _ k_ => XS.aloadN X3.here hx rfl (hb hby d11_16) rfl rfl k_) ?_
  show OEnds p e below s _ _ _ (T3.setTop (mkF m 17 #[.val (.ref r), .val (.ref y)] [(.ref r), (.ref dc), (.ref y), (.ref r)]))
  obtain ⟨T4, X4, e4, st4⟩ := getF X3 hx hZ hown (host := "") (Or.inl (hw _ (List.mem_of_getElem? (i := 72) rfl))) Via.refl e3 F_size_r (g := (mkF m 17 #[.val (.ref r), .val (.ref y)] [(.ref r), (.ref dc), (.ref y), (.ref r)])) rfl rfl (hb hby d11_17)
  refine OEnds.via (fun _ k_ => st4 _ k_) ?_
  show OEnds p e below s _ _ _ (T4.setTop (mkF m 20 #[.val (.ref r), .val (.ref y)] [(.int (0 : Int32)), (.ref dc), (.ref y), (.ref r)]))
  obtain ⟨cq5, q5, q5'⟩ := E_r.cell
  obtain ⟨_, _, ⟨T5, L5, k5, n5⟩, -, X5, ⟨Lc5, hQ5, l5, y5, z5⟩, st5⟩ := X4.privateBack hx (y := (⟨"java/util/ArrayList", "add", "(Ljava/lang/Object;[Ljava/lang/Object;I)V"⟩ : MethodName)) hown (mvT hZ (hw _ (List.mem_of_getElem? (i := 74) rfl))) (mvT hZ (hw _ (List.mem_of_getElem? (i := 75) rfl))) (mvT hZ (hw _ (List.mem_of_getElem? (i := 77) rfl))) (Cond.privateMethod_at (mvP hZ (hw _ (List.mem_of_getElem? (i := 76) rfl)) (args := #[]))) (mvT hZ (hw _ (List.mem_of_getElem? (i := 78) rfl))) (by decide) (backOf (W := 0) (rmP1 l Z a0 hw [] r y (mc + (1 : Int32)) dc kdc h2 n0 Od F_modCount_r F_elementData_r F_size_r E_r ge_r S_dc V_dc E_y hyr) hZ (hw _ (List.mem_of_getElem? (i := 78) rfl)) (hw _ (List.mem_of_getElem? (i := 43) rfl)) (by decide) (by decide)) (g := (mkF m 20 #[.val (.ref r), .val (.ref y)] [(.int (0 : Int32)), (.ref dc), (.ref y), (.ref r)])) rfl (by rw [hml]; rfl) (Steps.refl _) (a := r) (by rw [e4]; exact q5) q5' (argsL := [(.ref y), (.ref dc), (.int (0 : Int32))]) (rest := []) (lenOf pd_28Ljava2flang2fObject3b5bLjava2flang2fObject3bI29V rfl) rfl (by show 2 * 0 + _ ≤ _; exact Nat.le_of_eq rfl) (hb hby d11_20) (fun _ _ => ⟨rfl, e4, Nat.le_of_ble_eq_true rfl, Nat.le_of_ble_eq_true rfl⟩)
  dsimp only [Pt.U, Pt.locs, Pt.cells, Pt.slots] at X5 l5 y5 z5 st5 hQ5
  subst l5 y5 z5
  obtain ⟨d, kd, rfl, N5q, K5, G_E, G_mc, G_ed, G_sz, ge_d, sz_d, O_d, V_d, E_d⟩ := hQ5
  have N5 := Fr.app N2 N5q
  have szd : h0.size ≤ d := Nat.le_trans Kp.1 sz_d
  replace Od := Od.keep K5 (allS ge_r all0)
  replace E_r := E_r.keep K5
  replace E_y := E_y.keep K5
  replace Kp := Kp.trans K5 (allS (Or.inl (by simp)) all0)
  refine OEnds.via (fun _ k_ => st5.trans k_) ?_
  show OEnds p e below s _ _ _ (T5.setTop (mkF m 23 #[.val (.ref r), .val (.ref y)] []))
  refine OEnds.via (fun _ k_ => XS.iconst X5.here hx rfl (hb hby d11_23) k_) ?_
  show OEnds p e below s _ _ _ (T5.setTop (mkF m 24 #[.val (.ref r), .val (.ref y)] [(.int (1 : Int32))]))
  refine OEnds.retN X5 hx hlk (t := .boolean) Bd.returns (by simp) (hb hby d11_24) ?_ (by decide) (by decide)
  exact ⟨_, _, rfl, N5, Kp, G_E, G_mc, G_ed, G_sz, ge_d, szd, O_d, V_d, E_d⟩
def Q_rmPn1 (Z : State) (r : Addr) (y : Addr) (mc : Int32) (d : Addr) (kd : ClassId) (y0 : Addr) (h0 : Heap) (n0 : Nat) (v : Option Value) (h : Heap) (L : List Loc) : Prop := v = none ∧ Fr n0 L ∧ Keep h0 h [r, d] ∧ Exa Z h r "java/util/ArrayList" ∧ Fld Z h r "java/util/AbstractList" "modCount" "I" (.int mc) ∧ Fld Z h r "java/util/ArrayList" "elementData" "[Ljava/lang/Object;" (.ref d) ∧ Fld Z h r "java/util/ArrayList" "size" "I" (.int (2 : Int32)) ∧ Arv Z h d kd (.object "java/lang/Object") (10 : Int32) [(.ref y0), (.ref y), .null, .null, .null, .null, .null, .null, .null, .null] .null
set_option maxRecDepth 65536 in
set_option maxHeartbeats 40000000 in
theorem rmPn1 (l : Launch) (Z : State) (a0 : Array Value) (hw : ∀ d ∈ tables_1, d.before a0 Z = true) (ws : List Jvm.Cond) (r : Addr) (y : Addr) (mc : Int32) (d : Addr) (kd : ClassId) (y0 : Addr) (h0 : Heap) (n0 : Nat) (O0 : Old Z n0 h0) (F_modCount_r : Fld Z h0 r "java/util/AbstractList" "modCount" "I" (.int mc)) (F_elementData_r : Fld Z h0 r "java/util/ArrayList" "elementData" "[Ljava/lang/Object;" (.ref d)) (F_size_r : Fld Z h0 r "java/util/ArrayList" "size" "I" (.int (1 : Int32))) (E_r : Exa Z h0 r "java/util/ArrayList") (ge_r : n0 ≤ r) (V_d : Arv Z h0 d kd (.object "java/lang/Object") (10 : Int32) [(.ref y0), .null, .null, .null, .null, .null, .null, .null, .null, .null] .null) (ge_d : n0 ≤ d) (O_d : Ovr Z kd "java/lang/Object") (E_y : Exa Z h0 y "com/example/holdfast/holdfast/LockInfo$Reader") (hyr : y ≠ r) (hrd : r ≠ d) :
    MetFree l (⟨"java/util/ArrayList", "add", "(Ljava/lang/Object;[Ljava/lang/Object;I)V"⟩ : MethodName) (head1 (Jvm.Cond.code (⟨"java/util/ArrayList", "add", "(Ljava/lang/Object;[Ljava/lang/Object;I)V"⟩ : MethodName) jdk_38_method_24_code 4 none :: ws) ({ frames := 1, cells := 0, slots := 0, locals := 20 } : Room)) (fun ar' U => ar' = #[(.ref r), (.ref y), (.ref d), (.int (1 : Int32))] ∧ Z.Warmed39 U.vm ∧ U.heap = h0) (fun _ _ _ _ _ => True) (fun _ U o U' => ∃ v L, o = .returned v ∧ (Q_rmPn1 Z r y mc d kd y0 h0 n0) v U'.heap L ∧ FrameEnd U o U' L ({ frames := 1, cells := 0, slots := 0, locals := 20 } : Room).cells ({ frames := 1, cells := 0, slots := 0, locals := 20 } : Room).slots) := by
  refine MetFree.of_bodySF (plainFor_of_name pn_java_util_ArrayList) hisR ?_
  intro p e s m args below meth c s₁ Bd hml0 hP hK
  obtain ⟨rfl, hZ, hh⟩ := hP
  have hx := Bd.exec
  have hby := Bd.bytes
  have hlk := BodyLoose.notSynchronized Bd
  have hml : c.maxLocals = 4 := hml0
  have hown : s.vm.findClass "java/util/ArrayList" = some m.cls := findClass_of_methodNamed Bd.named
  have hnm := (name_of_methodNamed Bd.named Bd.method).1
  have X0 : Stand p l e ({ frames := 1, cells := 0, slots := 0, locals := 20 } : Room) s m #[(.ref r), (.ref y), (.ref d), (.int (1 : Int32))] below meth c s₁ [] 0 0 := Stand.of_body Bd
  have e0 : s₁.heap = h0 := by rw [← hh, Bd.state]; rfl
  have N0 := Fr.nil n0
  have Z0 : n0 ≤ h0.size := O0.1 ▸ O0.2.1
  show OEnds p e below s ({ frames := 1, cells := 0, slots := 0, locals := 20 } : Room).cells ({ frames := 1, cells := 0, slots := 0, locals := 20 } : Room).slots (Q_rmPn1 Z r y mc d kd y0 h0 n0) (s₁.setTop (entryFrame m #[(.ref r), (.ref y), (.ref d), (.int (1 : Int32))] 4))
  refine OEnds.via (fun _ k_ => castTop (show entryFrame m #[(.ref r), (.ref y), (.ref d), (.int (1 : Int32))] 4 = (mkF m 0 #[.val (.ref r), .val (.ref y), .val (.ref d), .val (.int (1 : Int32))] []) by first | (simp [entryFrame, mkF, argsToLocals, Value.category, maxLocals]; done) | rfl) k_) ?_
  have Od := O0
  have Kp := Keep.refl h0 [r, d]
  have V_d' := V_d
  obtain ⟨cd0, Ad0, qd0, Sd0, Md0, -, -⟩ := V_d'
  show OEnds p e below s _ _ _ (s₁.setTop (mkF m 0 #[.val (.ref r), .val (.ref y), .val (.ref d), .val (.int (1 : Int32))] []))
  refine OEnds.via (fun _ k_ => XS.iloadN X0.here hx rfl (hb hby d12_0) rfl k_) ?_
  show OEnds p e below s _ _ _ (s₁.setTop (mkF m 1 #[.val (.ref r), .val (.ref y), .val (.ref d), .val (.int (1 : Int32))] [(.int (1 : Int32))]))
  refine OEnds.via (fun _ k_ => XS.aloadN X0.here hx rfl (hb hby d12_1) rfl rfl k_) ?_
  show OEnds p e below s _ _ _ (s₁.setTop (mkF m 2 #[.val (.ref r), .val (.ref y), .val (.ref d), .val (.int (1 : Int32))] [(.ref d), (.int (1 : Int32))]))
  refine OEnds.via (fun _ k_ => X0.arraylength hx (by rw [e0]; exact Ad0.1) (State.isArrayOf_alike hZ.alike Ad0.2.1) (g := (mkF m 2 #[.val (.ref r), .val (.ref y), .val (.ref d), .val (.int (1 : Int32))] [(.ref d), (.int (1 : Int32))])) rfl rfl (hb hby d12_2) _ k_) ?_
  rw [len_of Sd0 Md0]
  show OEnds p e below s _ _ _ (s₁.setTop (mkF m 3 #[.val (.ref r), .val (.ref y), .val (.ref d), .val (.int (1 : Int32))] [(.int (10 : Int32)), (.int (1 : Int32))]))
  refine OEnds.via (fun _ k_ => XS.icmpYes X0.here hx rfl (pc0 := 3) (pc' := 11) rfl (hb hby d12_3) rfl (feq (by decide : ¬ ((1 : Int32) = (10 : Int32)))).2 (by decide) (by decide) k_) ?_
  show OEnds p e below s _ _ _ (s₁.setTop (mkF m 11 #[.val (.ref r), .val (.ref y), .val (.ref d), .val (.int (1 : Int32))] []))
  refine OEnds.via (fun _ k_ => XS.aloadN X0.here hx rfl (hb hby d12_11) rfl rfl k_) ?_
  show OEnds p e below s _ _ _ (s₁.setTop (mkF m 12 #[.val (.ref r), .val (.ref y), .val (.ref d), .val (.int (1 : Int32))] [(.ref d)]))
  refine OEnds.via (fun _ k_ => XS.iloadN X0.here hx rfl (hb hby d12_12) rfl k_) ?_
  show OEnds p e below s _ _ _ (s₁.setTop (mkF m 13 #[.val (.ref r), .val (.ref y), .val (.ref d), .val (.int (1 : Int32))] [(.int (1 : Int32)), (.ref d)]))
  refine OEnds.via (fun _ k_ => XS.aloadN X0.here hx rfl (hb hby d12_13) rfl rfl k_) ?_
  show OEnds p e below s _ _ _ (s₁.setTop (mkF m 14 #[.val (.ref r), .val (.ref y), .val (.ref d), .val (.int (1 : Int32))] [(.ref y), (.int (1 : Int32)), (.ref d)]))
  obtain ⟨cl1, Ar1, q1, S1, M1, H1, G1⟩ := V_d
  obtain ⟨T1, h1, X1, e1, W1, st1⟩ := stR X0 hx hZ e0 Ar1 (j := (1 : Int32)) (inb_of S1 ⟨by decide, by decide⟩) rfl (Sto.ofV Ar1 q1 O_d (Ins.of_exa E_y (hw _ (List.mem_of_getElem? (i := 95) rfl)))) (g := (mkF m 14 #[.val (.ref r), .val (.ref y), .val (.ref d), .val (.int (1 : Int32))] [(.ref y), (.int (1 : Int32)), (.ref d)])) rfl rfl (hb hby d12_14)
  have V_d : Arv Z h1 d kd (.object "java/lang/Object") (10 : Int32) [(.ref y0), (.ref y), .null, .null, .null, .null, .null, .null, .null, .null] .null := Arv.set Ar1 q1 S1 M1 H1 G1 rfl W1 1 rfl (Nat.le_of_ble_eq_true rfl)
  have N1 := Fr.snoc X1 N0 ge_d
  replace Od := Od.wr W1 ge_d
  replace F_modCount_r := Fld.other W1 F_modCount_r (Or.inl hrd)
  replace F_elementData_r := Fld.other W1 F_elementData_r (Or.inl hrd)
  replace F_size_r := Fld.other W1 F_size_r (Or.inl hrd)
  replace E_r := Exa.wr W1 E_r
  replace E_y := Exa.wr W1 E_y
  replace Kp := Kp.wr W1 (Or.inl (by simp))
  refine OEnds.via (fun _ k_ => st1 _ k_) ?_
  show OEnds p e below s _ _ _ (T1.setTop (mkF m 15 #[.val (.ref r), .val (.ref y), .val (.ref d), .val (.int (1 : Int32))] []))
  refine OEnds.via (fun _ k_ => XS.aloadN X1.here hx rfl (hb hby d12_15) rfl rfl k_) ?_
  show OEnds p e below s _ _ _ (T1.setTop (mkF m 16 #[.val (.ref r), .val (.ref y), .val (.ref d), .val (.int (1 : Int32))] [(.ref r)]))
  refine OEnds.via (fun _ k_ => XS.iloadN X1.here hx rfl (hb hby d12_16) rfl k_) ?_
  show OEnds p e below s _ _ _ (T1.setTop (mkF m 17 #[.val (.ref r), .val (.ref y), .val (.ref d), .val (.int (1 : Int32))] [(.int (1 : Int32)), (.ref r)]))
  refine OEnds.via (fun _ k_ => XS.iconst X1.here hx rfl (hb hby d12_17) k_) ?_
  show OEnds p e below s _ _ _ (T1.setTop (mkF m 18 #[.val (.ref r), .val (.ref y), .val (.ref d), .val (.int (1 : Int32))] [(.int (1 : Int32)), (.int (1 : Int32)), (.ref r)]))
  refine OEnds.via (fun _ k_ => XS.iadd X1.here hx rfl (hb hby d12_18) rfl k_) ?_
  show OEnds p e below s _ _ _ (T1.setTop (mkF m 19 #[.val (.ref r), .val (.ref y), .val (.ref d), .val (.int (1 : Int32))] [(.int (2 : Int32)), (.ref r)]))
  obtain ⟨T2, h2, X2, e2, W2, st2⟩ := putF X1 hx hZ hown (host := "") (Or.inl (hw _ (List.mem_of_getElem? (i := 72) rfl))) Via.refl e1 F_size_r E_r (Or.inl (hw _ (List.mem_of_getElem? (i := 73) rfl))) (hw _ (List.mem_of_getElem? (i := 42) rfl)) (ty := .int) (by decide) rfl rfl (g := (mkF m 19 #[.val (.ref r), .val (.ref y), .val (.ref d), .val (.int (1 : Int32))] [(.int (2 : Int32)), (.ref r)])) rfl rfl (hb hby d12_19)
  have N2 := Fr.snoc X2 N1 ge_r
  replace Od := Od.wr W2 ge_r
  replace F_modCount_r := Fld.other W2 F_modCount_r (Or.inr (slot_ne (Or.inl (hw _ (List.mem_of_getElem? (i := 61) rfl))) (Or.inl (hw _ (List.mem_of_getElem? (i := 73) rfl))) (by decide) (t := .int) (t' := .int) (by decide) (by decide)))
  replace F_elementData_r := Fld.other W2 F_elementData_r (Or.inr (slot_ne (Or.inl (hw _ (List.mem_of_getElem? (i := 64) rfl))) (Or.inl (hw _ (List.mem_of_getElem? (i := 73) rfl))) (by decide) (t := (.array (.object "java/lang/Object"))) (t' := .int) (by decide) (by decide)))
  replace F_size_r := Fld.same W2 F_size_r
  replace E_r := Exa.wr W2 E_r
  replace E_y := Exa.wr W2 E_y
  replace Kp := Kp.wr W2 (Or.inl (by simp))
  replace V_d := V_d.other W2 (Ne.symm hrd)
  refine OEnds.via (fun _ k_ => st2 _ k_) ?_
  show OEnds p e below s _ _ _ (T2.setTop (mkF m 22 #[.val (.ref r), .val (.ref y), .val (.ref d), .val (.int (1 : Int32))] []))
  refine OEnds.retV X2 hx hlk Bd.returns (hb hby d12_22) ?_ (by decide) (by decide)
  rw [e2]
  exact ⟨rfl, N2, Kp, E_r, F_modCount_r, F_elementData_r, F_size_r, V_d⟩
def Q_rmA1 (Z : State) (r : Addr) (y : Addr) (mc : Int32) (d : Addr) (kd : ClassId) (y0 : Addr) (h0 : Heap) (n0 : Nat) (v : Option Value) (h : Heap) (L : List Loc) : Prop := v = some (.int 1) ∧ Fr n0 L ∧ Keep h0 h [r, d] ∧ Exa Z h r "java/util/ArrayList" ∧ Fld Z h r "java/util/AbstractList" "modCount" "I" (.int (mc + (1 : Int32))) ∧ Fld Z h r "java/util/ArrayList" "elementData" "[Ljava/lang/Object;" (.ref d) ∧ Fld Z h r "java/util/ArrayList" "size" "I" (.int (2 : Int32)) ∧ Arv Z h d kd (.object "java/lang/Object") (10 : Int32) [(.ref y0), (.ref y), .null, .null, .null, .null, .null, .null, .null, .null] .null
set_option maxRecDepth 65536 in
set_option maxHeartbeats 40000000 in
theorem rmA1 (l : Launch) (Z : State) (a0 : Array Value) (hw : ∀ d ∈ tables_1, d.before a0 Z = true) (ws : List Jvm.Cond) (r : Addr) (y : Addr) (mc : Int32) (d : Addr) (kd : ClassId) (y0 : Addr) (h0 : Heap) (n0 : Nat) (O0 : Old Z n0 h0) (F_modCount_r : Fld Z h0 r "java/util/AbstractList" "modCount" "I" (.int mc)) (F_elementData_r : Fld Z h0 r "java/util/ArrayList" "elementData" "[Ljava/lang/Object;" (.ref d)) (F_size_r : Fld Z h0 r "java/util/ArrayList" "size" "I" (.int (1 : Int32))) (E_r : Exa Z h0 r "java/util/ArrayList") (ge_r : n0 ≤ r) (V_d : Arv Z h0 d kd (.object "java/lang/Object") (10 : Int32) [(.ref y0), .null, .null, .null, .null, .null, .null, .null, .null, .null] .null) (ge_d : n0 ≤ d) (O_d : Ovr Z kd "java/lang/Object") (E_y : Exa Z h0 y "com/example/holdfast/holdfast/LockInfo$Reader") (hyr : y ≠ r) (hrd : r ≠ d) :
    MetFree l (⟨"java/util/ArrayList", "add", "(Ljava/lang/Object;)Z"⟩ : MethodName) (head1 (Jvm.Cond.code (⟨"java/util/ArrayList", "add", "(Ljava/lang/Object;)Z"⟩ : MethodName) jdk_38_method_25_code 2 (some .boolean) :: ws) ({ frames := 2, cells := 0, slots := 0, locals := 50 } : Room)) (fun ar' U => ar' = #[(.ref r), (.ref y)] ∧ Z.Warmed39 U.vm ∧ U.heap = h0) (fun _ _ _ _ _ => True) (fun _ U o U' => ∃ v L, o = .returned v ∧ (Q_rmA1 Z r y mc d kd y0 h0 n0) v U'.heap L ∧ FrameEnd U o U' L ({ frames := 2, cells := 0, slots := 0, locals := 50 } : Room).cells ({ frames := 2, cells := 0, slots := 0, locals := 50 } : Room).slots) := by
  refine MetFree.of_bodySF (plainFor_of_name pn_java_util_ArrayList) hisR ?_
  intro p e s m args below meth c s₁ Bd hml0 hP hK
  obtain ⟨rfl, hZ, hh⟩ := hP
  have hx := Bd.exec
  have hby := Bd.bytes
  have hlk := BodyLoose.notSynchronized Bd
  have hml : c.maxLocals = 2 := hml0
  have hown : s.vm.findClass "java/util/ArrayList" = some m.cls := findClass_of_methodNamed Bd.named
  have hnm := (name_of_methodNamed Bd.named Bd.method).1
  have X0 : Stand p l e ({ frames := 2, cells := 0, slots := 0, locals := 50 } : Room) s m #[(.ref r), (.ref y)] below meth c s₁ [] 0 0 := Stand.of_body Bd
  have e0 : s₁.heap = h0 := by rw [← hh, Bd.state]; rfl
  have N0 := Fr.nil n0
  have Z0 : n0 ≤ h0.size := O0.1 ▸ O0.2.1
  show OEnds p e below s ({ frames := 2, cells := 0, slots := 0, locals := 50 } : Room).cells ({ frames := 2, cells := 0, slots := 0, locals := 50 } : Room).slots (Q_rmA1 Z r y mc d kd y0 h0 n0) (s₁.setTop (entryFrame m #[(.ref r), (.ref y)] 2))
  refine OEnds.via (fun _ k_ => castTop (show entryFrame m #[(.ref r), (.ref y)] 2 = (mkF m 0 #[.val (.ref r), .val (.ref y)] []) by first | (simp [entryFrame, mkF, argsToLocals, Value.category, maxLocals]; done) | rfl) k_) ?_
  have Od := O0
  have Kp := Keep.refl h0 [r, d]
  show OEnds p e below s _ _ _ (s₁.setTop (mkF m 0 #[.val (.ref r), .val (.ref y)] []))
  refine OEnds.via (fun _ k_ => XS.aloadN X0.here hx rfl (hb hby d11_0) rfl rfl k_) ?_
  show OEnds p e below s _ _ _ (s₁.setTop (mkF m 1 #[.val (.ref r), .val (.ref y)] [(.ref r)]))
  refine OEnds.via (fun _ k_ => XS.dup X0.here hx rfl (hb hby d11_1) rfl rfl k_) ?_
  show OEnds p e below s _ _ _ (s₁.setTop (mkF m 2 #[.val (.ref r), .val (.ref y)] [(.ref r), (.ref r)]))
  obtain ⟨T1, X1, e1, st1⟩ := getF X0 hx hZ hown (host := "") (Or.inl (hw _ (List.mem_of_getElem? (i := 70) rfl))) (Via.of (hw _ (List.mem_of_getElem? (i := 71) rfl))) e0 F_modCount_r (g := (mkF m 2 #[.val (.ref r), .val (.ref y)] [(.ref r), (.ref r)])) rfl rfl (hb hby d11_2)
  refine OEnds.via (fun _ k_ => st1 _ k_) ?_
  show OEnds p e below s _ _ _ (T1.setTop (mkF m 5 #[.val (.ref r), .val (.ref y)] [(.int mc), (.ref r)]))
  refine OEnds.via (fun _ k_ => XS.iconst X1.here hx rfl (hb hby d11_5) k_) ?_
  show OEnds p e below s _ _ _ (T1.setTop (mkF m 6 #[.val (.ref r), .val (.ref y)] [(.int (1 : Int32)), (.int mc), (.ref r)]))
  refine OEnds.via (fun _ k_ => XS.iadd X1.here hx rfl (hb hby d11_6) rfl k_) ?_
  show OEnds p e below s _ _ _ (T1.setTop (mkF m 7 #[.val (.ref r), .val (.ref y)] [(.int (mc + (1 : Int32))), (.ref r)]))
  obtain ⟨T2, h2, X2, e2, W2, st2⟩ := putF X1 hx hZ hown (host := "") (Or.inl (hw _ (List.mem_of_getElem? (i := 70) rfl))) (Via.of (hw _ (List.mem_of_getElem? (i := 71) rfl))) e1 F_modCount_r E_r (Or.inl (hw _ (List.mem_of_getElem? (i := 61) rfl))) (hw _ (List.mem_of_getElem? (i := 42) rfl)) (ty := .int) (by decide) rfl rfl (g := (mkF m 7 #[.val (.ref r), .val (.ref y)] [(.int (mc + (1 : Int32))), (.ref r)])) rfl rfl (hb hby d11_7)
  have N2 := Fr.snoc X2 N0 ge_r
  replace Od := Od.wr W2 ge_r
  replace F_modCount_r := Fld.same W2 F_modCount_r
  replace F_elementData_r := Fld.other W2 F_elementData_r (Or.inr (slot_ne (Or.inl (hw _ (List.mem_of_getElem? (i := 64) rfl))) (Or.inl (hw _ (List.mem_of_getElem? (i := 61) rfl))) (by decide) (t := (.array (.object "java/lang/Object"))) (t' := .int) (by decide) (by decide)))
  replace F_size_r := Fld.other W2 F_size_r (Or.inr (slot_ne (Or.inl (hw _ (List.mem_of_getElem? (i := 73) rfl))) (Or.inl (hw _ (List.mem_of_getElem? (i := 61) rfl))) (by decide) (t := .int) (t' := .int) (by decide) (by decide)))
  replace E_r := Exa.wr W2 E_r
  replace E_y := Exa.wr W2 E_y
  replace V_d := V_d.other W2 (Ne.symm hrd)
  replace Kp := Kp.wr W2 (Or.inl (by simp))
  refine OEnds.via (fun _ k_ => st2 _ k_) ?_
  show OEnds p e below s _ _ _ (T2.setTop (mkF m 10 #[.val (.ref r), .val (.ref y)] []))
  refine OEnds.via (fun _ k_ => XS.aloadN X2.here hx rfl (hb hby d11_10) rfl rfl k_) ?_
  show OEnds p e below s _ _ _ (T2.setTop (mkF m 11 #[.val (.ref r), .val (.ref y)] [(.ref r)]))
  refine OEnds.via (fun _ k_ => XS.aloadN X2.here hx rfl (hb hby d11_11) rfl rfl k_) ?_
  show OEnds p e below s _ _ _ (T2.setTop (mkF m 12 #[.val (.ref r), .val (.ref y)] [(.ref y), (.ref r)]))
  refine OEnds.via (fun _ k_ => XS.aloadN X2.here hx rfl (hb hby d11_12) rfl rfl k_) ?_
  show OEnds p e below s _ _ _ (T2.setTop (mkF m 13 #[.val (.ref r), .val (.ref y)] [(.ref r), (.ref y), (.ref r)]))
  obtain ⟨T3, X3, e3, st3⟩ := getF X2 hx hZ hown (host := "") (Or.inl (hw _ (List.mem_of_getElem? (i := 63) rfl))) Via.refl e2 F_elementData_r (g := (mkF m 13 #[.val (.ref r), .val (.ref y)] [(.ref r), (.ref y), (.ref r)])) rfl rfl (hb hby d11_13)
  refine OEnds.via (fun _ k_ => st3 _ k_) ?_
  show OEnds p e below s _ _ _ (T3.setTop (mkF m 16 #[.val (.ref r), .val (.ref y)] [(.ref d), (.ref y), (.ref r)]))
  refine OEnds.via (fun _ k_ => XS.aloadN X3.here hx rfl (hb hby d11_16) rfl rfl k_) ?_
  show OEnds p e below s _ _ _ (T3.setTop (mkF m 17 #[.val (.ref r), .val (.ref y)] [(.ref r), (.ref d), (.ref y), (.ref r)]))
  obtain ⟨T4, X4, e4, st4⟩ := getF X3 hx hZ hown (host := "") (Or.inl (hw _ (List.mem_of_getElem? (i := 72) rfl))) Via.refl e3 F_size_r (g := (mkF m 17 #[.val (.ref r), .val (.ref y)] [(.ref r), (.ref d), (.ref y), (.ref r)])) rfl rfl (hb hby d11_17)
  refine OEnds.via (fun _ k_ => st4 _ k_) ?_
  show OEnds p e below s _ _ _ (T4.setTop (mkF m 20 #[.val (.ref r), .val (.ref y)] [(.int (1 : Int32)), (.ref d), (.ref y), (.ref r)]))
  obtain ⟨cq5, q5, q5'⟩ := E_r.cell
  obtain ⟨_, _, ⟨T5, L5, k5, n5⟩, -, X5, ⟨Lc5, hQ5, l5, y5, z5⟩, st5⟩ := X4.privateBack hx (y := (⟨"java/util/ArrayList", "add", "(Ljava/lang/Object;[Ljava/lang/Object;I)V"⟩ : MethodName)) hown (mvT hZ (hw _ (List.mem_of_getElem? (i := 74) rfl))) (mvT hZ (hw _ (List.mem_of_getElem? (i := 75) rfl))) (mvT hZ (hw _ (List.mem_of_getElem? (i := 77) rfl))) (Cond.privateMethod_at (mvP hZ (hw _ (List.mem_of_getElem? (i := 76) rfl)) (args := #[]))) (mvT hZ (hw _ (List.mem_of_getElem? (i := 78) rfl))) (by decide) (backOf (W := 0) (rmPn1 l Z a0 hw [] r y (mc + (1 : Int32)) d kd y0 h2 n0 Od F_modCount_r F_elementData_r F_size_r E_r ge_r V_d ge_d O_d E_y hyr hrd) hZ (hw _ (List.mem_of_getElem? (i := 78) rfl)) (hw _ (List.mem_of_getElem? (i := 43) rfl)) (by decide) (by decide)) (g := (mkF m 20 #[.val (.ref r), .val (.ref y)] [(.int (1 : Int32)), (.ref d), (.ref y), (.ref r)])) rfl (by rw [hml]; rfl) (Steps.refl _) (a := r) (by rw [e4]; exact q5) q5' (argsL := [(.ref y), (.ref d), (.int (1 : Int32))]) (rest := []) (lenOf pd_28Ljava2flang2fObject3b5bLjava2flang2fObject3bI29V rfl) rfl (by show 2 * 0 + _ ≤ _; exact Nat.le_of_eq rfl) (hb hby d11_20) (fun _ _ => ⟨rfl, e4, Nat.le_of_ble_eq_true rfl, Nat.le_of_ble_eq_true rfl⟩)
  dsimp only [Pt.U, Pt.locs, Pt.cells, Pt.slots] at X5 l5 y5 z5 st5 hQ5
  subst l5 y5 z5
  obtain ⟨rfl, N5q, K5, G_E, G_mc, G_ed, G_sz, G_V⟩ := hQ5
  have N5 := Fr.app N2 N5q
  replace Kp := Kp.trans K5 (allS (Or.inl (by simp)) (allS (Or.inl (by simp)) all0))
  refine OEnds.via (fun _ k_ => st5.trans k_) ?_
  show OEnds p e below s _ _ _ (T5.setTop (mkF m 23 #[.val (.ref r), .val (.ref y)] []))
  refine OEnds.via (fun _ k_ => XS.iconst X5.here hx rfl (hb hby d11_23) k_) ?_
  show OEnds p e below s _ _ _ (T5.setTop (mkF m 24 #[.val (.ref r), .val (.ref y)] [(.int (1 : Int32))]))
  refine OEnds.retN X5 hx hlk (t := .boolean) Bd.returns (by simp) (hb hby d11_24) ?_ (by decide) (by decide)
  exact ⟨rfl, N5, Kp, G_E, G_mc, G_ed, G_sz, G_V⟩
def Q_rmPn2 (Z : State) (r : Addr) (y : Addr) (mc : Int32) (d : Addr) (kd : ClassId) (y0 : Addr) (y1 : Addr) (h0 : Heap) (n0 : Nat) (v : Option Value) (h : Heap) (L : List Loc) : Prop := v = none ∧ Fr n0 L ∧ Keep h0 h [r, d] ∧ Exa Z h r "java/util/ArrayList" ∧ Fld Z h r "java/util/AbstractList" "modCount" "I" (.int mc) ∧ Fld Z h r "java/util/ArrayList" "elementData" "[Ljava/lang/Object;" (.ref d) ∧ Fld Z h r "java/util/ArrayList" "size" "I" (.int (3 : Int32)) ∧ Arv Z h d kd (.object "java/lang/Object") (10 : Int32) [(.ref y0), (.ref y1), (.ref y), .null, .null, .null, .null, .null, .null, .null] .null
set_option maxRecDepth 65536 in
set_option maxHeartbeats 40000000 in
theorem rmPn2 (l : Launch) (Z : State) (a0 : Array Value) (hw : ∀ d ∈ tables_1, d.before a0 Z = true) (ws : List Jvm.Cond) (r : Addr) (y : Addr) (mc : Int32) (d : Addr) (kd : ClassId) (y0 : Addr) (y1 : Addr) (h0 : Heap) (n0 : Nat) (O0 : Old Z n0 h0) (F_modCount_r : Fld Z h0 r "java/util/AbstractList" "modCount" "I" (.int mc)) (F_elementData_r : Fld Z h0 r "java/util/ArrayList" "elementData" "[Ljava/lang/Object;" (.ref d)) (F_size_r : Fld Z h0 r "java/util/ArrayList" "size" "I" (.int (2 : Int32))) (E_r : Exa Z h0 r "java/util/ArrayList") (ge_r : n0 ≤ r) (V_d : Arv Z h0 d kd (.object "java/lang/Object") (10 : Int32) [(.ref y0), (.ref y1), .null, .null, .null, .null, .null, .null, .null, .null] .null) (ge_d : n0 ≤ d) (O_d : Ovr Z kd "java/lang/Object") (E_y : Exa Z h0 y "com/example/holdfast/holdfast/LockInfo$Reader") (hyr : y ≠ r) (hrd : r ≠ d) :
    MetFree l (⟨"java/util/ArrayList", "add", "(Ljava/lang/Object;[Ljava/lang/Object;I)V"⟩ : MethodName) (head1 (Jvm.Cond.code (⟨"java/util/ArrayList", "add", "(Ljava/lang/Object;[Ljava/lang/Object;I)V"⟩ : MethodName) jdk_38_method_24_code 4 none :: ws) ({ frames := 1, cells := 0, slots := 0, locals := 20 } : Room)) (fun ar' U => ar' = #[(.ref r), (.ref y), (.ref d), (.int (2 : Int32))] ∧ Z.Warmed39 U.vm ∧ U.heap = h0) (fun _ _ _ _ _ => True) (fun _ U o U' => ∃ v L, o = .returned v ∧ (Q_rmPn2 Z r y mc d kd y0 y1 h0 n0) v U'.heap L ∧ FrameEnd U o U' L ({ frames := 1, cells := 0, slots := 0, locals := 20 } : Room).cells ({ frames := 1, cells := 0, slots := 0, locals := 20 } : Room).slots) := by
  refine MetFree.of_bodySF (plainFor_of_name pn_java_util_ArrayList) hisR ?_
  intro p e s m args below meth c s₁ Bd hml0 hP hK
  obtain ⟨rfl, hZ, hh⟩ := hP
  have hx := Bd.exec
  have hby := Bd.bytes
  have hlk := BodyLoose.notSynchronized Bd
  have hml : c.maxLocals = 4 := hml0
  have hown : s.vm.findClass "java/util/ArrayList" = some m.cls := findClass_of_methodNamed Bd.named
  have hnm := (name_of_methodNamed Bd.named Bd.method).1
  have X0 : Stand p l e ({ frames := 1, cells := 0, slots := 0, locals := 20 } : Room) s m #[(.ref r), (.ref y), (.ref d), (.int (2 : Int32))] below meth c s₁ [] 0 0 := Stand.of_body Bd
  have e0 : s₁.heap = h0 := by rw [← hh, Bd.state]; rfl
  have N0 := Fr.nil n0
  have Z0 : n0 ≤ h0.size := O0.1 ▸ O0.2.1
  show OEnds p e below s ({ frames := 1, cells := 0, slots := 0, locals := 20 } : Room).cells ({ frames := 1, cells := 0, slots := 0, locals := 20 } : Room).slots (Q_rmPn2 Z r y mc d kd y0 y1 h0 n0) (s₁.setTop (entryFrame m #[(.ref r), (.ref y), (.ref d), (.int (2 : Int32))] 4))
  refine OEnds.via (fun _ k_ => castTop (show entryFrame m #[(.ref r), (.ref y), (.ref d), (.int (2 : Int32))] 4 = (mkF m 0 #[.val (.ref r), .val (.ref y), .val (.ref d), .val (.int (2 : Int32))] []) by first | (simp [entryFrame, mkF, argsToLocals, Value.category, maxLocals]; done) | rfl) k_) ?_
  have Od := O0
  have Kp := Keep.refl h0 [r, d]
  have V_d' := V_d
  obtain ⟨cd0, Ad0, qd0, Sd0, Md0, -, -⟩ := V_d'
  show OEnds p e below s _ _ _ (s₁.setTop (mkF m 0 #[.val (.ref r), .val (.ref y), .val (.ref d), .val (.int (2 : Int32))] []))
  refine OEnds.via (fun _ k_ => XS.iloadN X0.here hx rfl (hb hby d12_0) rfl k_) ?_
  show OEnds p e below s _ _ _ (s₁.setTop (mkF m 1 #[.val (.ref r), .val (.ref y), .val (.ref d), .val (.int (2 : Int32))] [(.int (2 : Int32))]))
  refine OEnds.via (fun _ k_ => XS.aloadN X0.here hx rfl (hb hby d12_1) rfl rfl k_) ?_
  show OEnds p e below s _ _ _ (s₁.setTop (mkF m 2 #[.val (.ref r), .val (.ref y), .val (.ref d), .val (.int (2 : Int32))] [(.ref d), (.int (2 : Int32))]))
  refine OEnds.via (fun _ k_ => X0.arraylength hx (by rw [e0]; exact Ad0.1) (State.isArrayOf_alike hZ.alike Ad0.2.1) (g := (mkF m 2 #[.val (.ref r), .val (.ref y), .val (.ref d), .val (.int (2 : Int32))] [(.ref d), (.int (2 : Int32))])) rfl rfl (hb hby d12_2) _ k_) ?_
  rw [len_of Sd0 Md0]
  show OEnds p e below s _ _ _ (s₁.setTop (mkF m 3 #[.val (.ref r), .val (.ref y), .val (.ref d), .val (.int (2 : Int32))] [(.int (10 : Int32)), (.int (2 : Int32))]))
  refine OEnds.via (fun _ k_ => XS.icmpYes X0.here hx rfl (pc0 := 3) (pc' := 11) rfl (hb hby d12_3) rfl (feq (by decide : ¬ ((2 : Int32) = (10 : Int32)))).2 (by decide) (by decide) k_) ?_
  show OEnds p e below s _ _ _ (s₁.setTop (mkF m 11 #[.val (.ref r), .val (.ref y), .val (.ref d), .val (.int (2 : Int32))] []))
  refine OEnds.via (fun _ k_ => XS.aloadN X0.here hx rfl (hb hby d12_11) rfl rfl k_) ?_
  show OEnds p e below s _ _ _ (s₁.setTop (mkF m 12 #[.val (.ref r), .val (.ref y), .val (.ref d), .val (.int (2 : Int32))] [(.ref d)]))
  refine OEnds.via (fun _ k_ => XS.iloadN X0.here hx rfl (hb hby d12_12) rfl k_) ?_
  show OEnds p e below s _ _ _ (s₁.setTop (mkF m 13 #[.val (.ref r), .val (.ref y), .val (.ref d), .val (.int (2 : Int32))] [(.int (2 : Int32)), (.ref d)]))
  refine OEnds.via (fun _ k_ => XS.aloadN X0.here hx rfl (hb hby d12_13) rfl rfl k_) ?_
  show OEnds p e below s _ _ _ (s₁.setTop (mkF m 14 #[.val (.ref r), .val (.ref y), .val (.ref d), .val (.int (2 : Int32))] [(.ref y), (.int (2 : Int32)), (.ref d)]))
  obtain ⟨cl1, Ar1, q1, S1, M1, H1, G1⟩ := V_d
  obtain ⟨T1, h1, X1, e1, W1, st1⟩ := stR X0 hx hZ e0 Ar1 (j := (2 : Int32)) (inb_of S1 ⟨by decide, by decide⟩) rfl (Sto.ofV Ar1 q1 O_d (Ins.of_exa E_y (hw _ (List.mem_of_getElem? (i := 95) rfl)))) (g := (mkF m 14 #[.val (.ref r), .val (.ref y), .val (.ref d), .val (.int (2 : Int32))] [(.ref y), (.int (2 : Int32)), (.ref d)])) rfl rfl (hb hby d12_14)
  have V_d : Arv Z h1 d kd (.object "java/lang/Object") (10 : Int32) [(.ref y0), (.ref y1), (.ref y), .null, .null, .null, .null, .null, .null, .null] .null := Arv.set Ar1 q1 S1 M1 H1 G1 rfl W1 2 rfl (Nat.le_of_ble_eq_true rfl)
  have N1 := Fr.snoc X1 N0 ge_d
  replace Od := Od.wr W1 ge_d
  replace F_modCount_r := Fld.other W1 F_modCount_r (Or.inl hrd)
  replace F_elementData_r := Fld.other W1 F_elementData_r (Or.inl hrd)
  replace F_size_r := Fld.other W1 F_size_r (Or.inl hrd)
  replace E_r := Exa.wr W1 E_r
  replace E_y := Exa.wr W1 E_y
  replace Kp := Kp.wr W1 (Or.inl (by simp))
  refine OEnds.via (fun _ k_ => st1 _ k_) ?_
  show OEnds p e below s _ _ _ (T1.setTop (mkF m 15 #[.val (.ref r), .val (.ref y), .val (.ref d), .val (.int (2 : Int32))] []))
  refine OEnds.via (fun _ k_ => XS.aloadN X1.here hx rfl (hb hby d12_15) rfl rfl k_) ?_
  show OEnds p e below s _ _ _ (T1.setTop (mkF m 16 #[.val (.ref r), .val (.ref y), .val (.ref d), .val (.int (2 : Int32))] [(.ref r)]))
  refine OEnds.via (fun _ k_ => XS.iloadN X1.here hx rfl (hb hby d12_16) rfl k_) ?_
  show OEnds p e below s _ _ _ (T1.setTop (mkF m 17 #[.val (.ref r), .val (.ref y), .val (.ref d), .val (.int (2 : Int32))] [(.int (2 : Int32)), (.ref r)]))
  refine OEnds.via (fun _ k_ => XS.iconst X1.here hx rfl (hb hby d12_17) k_) ?_
  show OEnds p e below s _ _ _ (T1.setTop (mkF m 18 #[.val (.ref r), .val (.ref y), .val (.ref d), .val (.int (2 : Int32))] [(.int (1 : Int32)), (.int (2 : Int32)), (.ref r)]))
  refine OEnds.via (fun _ k_ => XS.iadd X1.here hx rfl (hb hby d12_18) rfl k_) ?_
  show OEnds p e below s _ _ _ (T1.setTop (mkF m 19 #[.val (.ref r), .val (.ref y), .val (.ref d), .val (.int (2 : Int32))] [(.int (3 : Int32)), (.ref r)]))
  obtain ⟨T2, h2, X2, e2, W2, st2⟩ := putF X1 hx hZ hown (host := "") (Or.inl (hw _ (List.mem_of_getElem? (i := 72) rfl))) Via.refl e1 F_size_r E_r (Or.inl (hw _ (List.mem_of_getElem? (i := 73) rfl))) (hw _ (List.mem_of_getElem? (i := 42) rfl)) (ty := .int) (by decide) rfl rfl (g := (mkF m 19 #[.val (.ref r), .val (.ref y), .val (.ref d), .val (.int (2 : Int32))] [(.int (3 : Int32)), (.ref r)])) rfl rfl (hb hby d12_19)
  have N2 := Fr.snoc X2 N1 ge_r
  replace Od := Od.wr W2 ge_r
  replace F_modCount_r := Fld.other W2 F_modCount_r (Or.inr (slot_ne (Or.inl (hw _ (List.mem_of_getElem? (i := 61) rfl))) (Or.inl (hw _ (List.mem_of_getElem? (i := 73) rfl))) (by decide) (t := .int) (t' := .int) (by decide) (by decide)))
  replace F_elementData_r := Fld.other W2 F_elementData_r (Or.inr (slot_ne (Or.inl (hw _ (List.mem_of_getElem? (i := 64) rfl))) (Or.inl (hw _ (List.mem_of_getElem? (i := 73) rfl))) (by decide) (t := (.array (.object "java/lang/Object"))) (t' := .int) (by decide) (by decide)))
  replace F_size_r := Fld.same W2 F_size_r
  replace E_r := Exa.wr W2 E_r
  replace E_y := Exa.wr W2 E_y
  replace Kp := Kp.wr W2 (Or.inl (by simp))
  replace V_d := V_d.other W2 (Ne.symm hrd)
  refine OEnds.via (fun _ k_ => st2 _ k_) ?_
  show OEnds p e below s _ _ _ (T2.setTop (mkF m 22 #[.val (.ref r), .val (.ref y), .val (.ref d), .val (.int (2 : Int32))] []))
  refine OEnds.retV X2 hx hlk Bd.returns (hb hby d12_22) ?_ (by decide) (by decide)
  rw [e2]
  exact ⟨rfl, N2, Kp, E_r, F_modCount_r, F_elementData_r, F_size_r, V_d⟩
def Q_rmA2 (Z : State) (r : Addr) (y : Addr) (mc : Int32) (d : Addr) (kd : ClassId) (y0 : Addr) (y1 : Addr) (h0 : Heap) (n0 : Nat) (v : Option Value) (h : Heap) (L : List Loc) : Prop := v = some (.int 1) ∧ Fr n0 L ∧ Keep h0 h [r, d] ∧ Exa Z h r "java/util/ArrayList" ∧ Fld Z h r "java/util/AbstractList" "modCount" "I" (.int (mc + (1 : Int32))) ∧ Fld Z h r "java/util/ArrayList" "elementData" "[Ljava/lang/Object;" (.ref d) ∧ Fld Z h r "java/util/ArrayList" "size" "I" (.int (3 : Int32)) ∧ Arv Z h d kd (.object "java/lang/Object") (10 : Int32) [(.ref y0), (.ref y1), (.ref y), .null, .null, .null, .null, .null, .null, .null] .null
set_option maxRecDepth 65536 in
set_option maxHeartbeats 40000000 in
theorem rmA2 (l : Launch) (Z : State) (a0 : Array Value) (hw : ∀ d ∈ tables_1, d.before a0 Z = true) (ws : List Jvm.Cond) (r : Addr) (y : Addr) (mc : Int32) (d : Addr) (kd : ClassId) (y0 : Addr) (y1 : Addr) (h0 : Heap) (n0 : Nat) (O0 : Old Z n0 h0) (F_modCount_r : Fld Z h0 r "java/util/AbstractList" "modCount" "I" (.int mc)) (F_elementData_r : Fld Z h0 r "java/util/ArrayList" "elementData" "[Ljava/lang/Object;" (.ref d)) (F_size_r : Fld Z h0 r "java/util/ArrayList" "size" "I" (.int (2 : Int32))) (E_r : Exa Z h0 r "java/util/ArrayList") (ge_r : n0 ≤ r) (V_d : Arv Z h0 d kd (.object "java/lang/Object") (10 : Int32) [(.ref y0), (.ref y1), .null, .null, .null, .null, .null, .null, .null, .null] .null) (ge_d : n0 ≤ d) (O_d : Ovr Z kd "java/lang/Object") (E_y : Exa Z h0 y "com/example/holdfast/holdfast/LockInfo$Reader") (hyr : y ≠ r) (hrd : r ≠ d) :
    MetFree l (⟨"java/util/ArrayList", "add", "(Ljava/lang/Object;)Z"⟩ : MethodName) (head1 (Jvm.Cond.code (⟨"java/util/ArrayList", "add", "(Ljava/lang/Object;)Z"⟩ : MethodName) jdk_38_method_25_code 2 (some .boolean) :: ws) ({ frames := 2, cells := 0, slots := 0, locals := 50 } : Room)) (fun ar' U => ar' = #[(.ref r), (.ref y)] ∧ Z.Warmed39 U.vm ∧ U.heap = h0) (fun _ _ _ _ _ => True) (fun _ U o U' => ∃ v L, o = .returned v ∧ (Q_rmA2 Z r y mc d kd y0 y1 h0 n0) v U'.heap L ∧ FrameEnd U o U' L ({ frames := 2, cells := 0, slots := 0, locals := 50 } : Room).cells ({ frames := 2, cells := 0, slots := 0, locals := 50 } : Room).slots) := by
  refine MetFree.of_bodySF (plainFor_of_name pn_java_util_ArrayList) hisR ?_
  intro p e s m args below meth c s₁ Bd hml0 hP hK
  obtain ⟨rfl, hZ, hh⟩ := hP
  have hx := Bd.exec
  have hby := Bd.bytes
  have hlk := BodyLoose.notSynchronized Bd
  have hml : c.maxLocals = 2 := hml0
  have hown : s.vm.findClass "java/util/ArrayList" = some m.cls := findClass_of_methodNamed Bd.named
  have hnm := (name_of_methodNamed Bd.named Bd.method).1
  have X0 : Stand p l e ({ frames := 2, cells := 0, slots := 0, locals := 50 } : Room) s m #[(.ref r), (.ref y)] below meth c s₁ [] 0 0 := Stand.of_body Bd
  have e0 : s₁.heap = h0 := by rw [← hh, Bd.state]; rfl
  have N0 := Fr.nil n0
  have Z0 : n0 ≤ h0.size := O0.1 ▸ O0.2.1
  show OEnds p e below s ({ frames := 2, cells := 0, slots := 0, locals := 50 } : Room).cells ({ frames := 2, cells := 0, slots := 0, locals := 50 } : Room).slots (Q_rmA2 Z r y mc d kd y0 y1 h0 n0) (s₁.setTop (entryFrame m #[(.ref r), (.ref y)] 2))
  refine OEnds.via (fun _ k_ => castTop (show entryFrame m #[(.ref r), (.ref y)] 2 = (mkF m 0 #[.val (.ref r), .val (.ref y)] []) by first | (simp [entryFrame, mkF, argsToLocals, Value.category, maxLocals]; done) | rfl) k_) ?_
  have Od := O0
  have Kp := Keep.refl h0 [r, d]
  show OEnds p e below s _ _ _ (s₁.setTop (mkF m 0 #[.val (.ref r), .val (.ref y)] []))
  refine OEnds.via (fun _ k_ => XS.aloadN X0.here hx rfl (hb hby d11_0) rfl rfl k_) ?_
  show OEnds p e below s _ _ _ (s₁.setTop (mkF m 1 #[.val (.ref r), .val (.ref y)] [(.ref r)]))
  refine OEnds.via (fun _ k_ => XS.dup X0.here hx rfl (hb hby d11_1) rfl rfl k_) ?_
  show OEnds p e below s _ _ _ (s₁.setTop (mkF m 2 #[.val (.ref r), .val (.ref y)] [(.ref r), (.ref r)]))
  obtain ⟨T1, X1, e1, st1⟩ := getF X0 hx hZ hown (host := "") (Or.inl (hw _ (List.mem_of_getElem? (i := 70) rfl))) (Via.of (hw _ (List.mem_of_getElem? (i := 71) rfl))) e0 F_modCount_r (g := (mkF m 2 #[.val (.ref r), .val (.ref y)] [(.ref r), (.ref r)])) rfl rfl (hb hby d11_2)
  refine OEnds.via (fun _ k_ => st1 _ k_) ?_
  show OEnds p e below s _ _ _ (T1.setTop (mkF m 5 #[.val (.ref r), .val (.ref y)] [(.int mc), (.ref r)]))
  refine OEnds.via (fun _ k_ => XS.iconst X1.here hx rfl (hb hby d11_5) k_) ?_
  show OEnds p e below s _ _ _ (T1.setTop (mkF m 6 #[.val (.ref r), .val (.ref y)] [(.int (1 : Int32)), (.int mc), (.ref r)]))
  refine OEnds.via (fun _ k_ => XS.iadd X1.here hx rfl (hb hby d11_6) rfl k_) ?_
  show OEnds p e below s _ _ _ (T1.setTop (mkF m 7 #[.val (.ref r), .val (.ref y)] [(.int (mc + (1 : Int32))), (.ref r)]))
  obtain ⟨T2, h2, X2, e2, W2, st2⟩ := putF X1 hx hZ hown (host := "") (Or.inl (hw _ (List.mem_of_getElem? (i := 70) rfl))) (Via.of (hw _ (List.mem_of_getElem? (i := 71) rfl))) e1 F_modCount_r E_r (Or.inl (hw _ (List.mem_of_getElem? (i := 61) rfl))) (hw _ (List.mem_of_getElem? (i := 42) rfl)) (ty := .int) (by decide) rfl rfl (g := (mkF m 7 #[.val (.ref r), .val (.ref y)] [(.int (mc + (1 : Int32))), (.ref r)])) rfl rfl (hb hby d11_7)
  have N2 := Fr.snoc X2 N0 ge_r
  replace Od := Od.wr W2 ge_r
  replace F_modCount_r := Fld.same W2 F_modCount_r
  replace F_elementData_r := Fld.other W2 F_elementData_r (Or.inr (slot_ne (Or.inl (hw _ (List.mem_of_getElem? (i := 64) rfl))) (Or.inl (hw _ (List.mem_of_getElem? (i := 61) rfl))) (by decide) (t := (.array (.object "java/lang/Object"))) (t' := .int) (by decide) (by decide)))
  replace F_size_r := Fld.other W2 F_size_r (Or.inr (slot_ne (Or.inl (hw _ (List.mem_of_getElem? (i := 73) rfl))) (Or.inl (hw _ (List.mem_of_getElem? (i := 61) rfl))) (by decide) (t := .int) (t' := .int) (by decide) (by decide)))
  replace E_r := Exa.wr W2 E_r
  replace E_y := Exa.wr W2 E_y
  replace V_d := V_d.other W2 (Ne.symm hrd)
  replace Kp := Kp.wr W2 (Or.inl (by simp))
  refine OEnds.via (fun _ k_ => st2 _ k_) ?_
  show OEnds p e below s _ _ _ (T2.setTop (mkF m 10 #[.val (.ref r), .val (.ref y)] []))
  refine OEnds.via (fun _ k_ => XS.aloadN X2.here hx rfl (hb hby d11_10) rfl rfl k_) ?_
  show OEnds p e below s _ _ _ (T2.setTop (mkF m 11 #[.val (.ref r), .val (.ref y)] [(.ref r)]))
  refine OEnds.via (fun _ k_ => XS.aloadN X2.here hx rfl (hb hby d11_11) rfl rfl k_) ?_
  show OEnds p e below s _ _ _ (T2.setTop (mkF m 12 #[.val (.ref r), .val (.ref y)] [(.ref y), (.ref r)]))
  refine OEnds.via (fun _ k_ => XS.aloadN X2.here hx rfl (hb hby d11_12) rfl rfl k_) ?_
  show OEnds p e below s _ _ _ (T2.setTop (mkF m 13 #[.val (.ref r), .val (.ref y)] [(.ref r), (.ref y), (.ref r)]))
  obtain ⟨T3, X3, e3, st3⟩ := getF X2 hx hZ hown (host := "") (Or.inl (hw _ (List.mem_of_getElem? (i := 63) rfl))) Via.refl e2 F_elementData_r (g := (mkF m 13 #[.val (.ref r), .val (.ref y)] [(.ref r), (.ref y), (.ref r)])) rfl rfl (hb hby d11_13)
  refine OEnds.via (fun _ k_ => st3 _ k_) ?_
  show OEnds p e below s _ _ _ (T3.setTop (mkF m 16 #[.val (.ref r), .val (.ref y)] [(.ref d), (.ref y), (.ref r)]))
  refine OEnds.via (fun _ k_ => XS.aloadN X3.here hx rfl (hb hby d11_16) rfl rfl k_) ?_
  show OEnds p e below s _ _ _ (T3.setTop (mkF m 17 #[.val (.ref r), .val (.ref y)] [(.ref r), (.ref d), (.ref y), (.ref r)]))
  obtain ⟨T4, X4, e4, st4⟩ := getF X3 hx hZ hown (host := "") (Or.inl (hw _ (List.mem_of_getElem? (i := 72) rfl))) Via.refl e3 F_size_r (g := (mkF m 17 #[.val (.ref r), .val (.ref y)] [(.ref r), (.ref d), (.ref y), (.ref r)])) rfl rfl (hb hby d11_17)
  refine OEnds.via (fun _ k_ => st4 _ k_) ?_
  show OEnds p e below s _ _ _ (T4.setTop (mkF m 20 #[.val (.ref r), .val (.ref y)] [(.int (2 : Int32)), (.ref d), (.ref y), (.ref r)]))
  obtain ⟨cq5, q5, q5'⟩ := E_r.cell
  obtain ⟨_, _, ⟨T5, L5, k5, n5⟩, -, X5, ⟨Lc5, hQ5, l5, y5, z5⟩, st5⟩ := X4.privateBack hx (y := (⟨"java/util/ArrayList", "add", "(Ljava/lang/Object;[Ljava/lang/Object;I)V"⟩ : MethodName)) hown (mvT hZ (hw _ (List.mem_of_getElem? (i := 74) rfl))) (mvT hZ (hw _ (List.mem_of_getElem? (i := 75) rfl))) (mvT hZ (hw _ (List.mem_of_getElem? (i := 77) rfl))) (Cond.privateMethod_at (mvP hZ (hw _ (List.mem_of_getElem? (i := 76) rfl)) (args := #[]))) (mvT hZ (hw _ (List.mem_of_getElem? (i := 78) rfl))) (by decide) (backOf (W := 0) (rmPn2 l Z a0 hw [] r y (mc + (1 : Int32)) d kd y0 y1 h2 n0 Od F_modCount_r F_elementData_r F_size_r E_r ge_r V_d ge_d O_d E_y hyr hrd) hZ (hw _ (List.mem_of_getElem? (i := 78) rfl)) (hw _ (List.mem_of_getElem? (i := 43) rfl)) (by decide) (by decide)) (g := (mkF m 20 #[.val (.ref r), .val (.ref y)] [(.int (2 : Int32)), (.ref d), (.ref y), (.ref r)])) rfl (by rw [hml]; rfl) (Steps.refl _) (a := r) (by rw [e4]; exact q5) q5' (argsL := [(.ref y), (.ref d), (.int (2 : Int32))]) (rest := []) (lenOf pd_28Ljava2flang2fObject3b5bLjava2flang2fObject3bI29V rfl) rfl (by show 2 * 0 + _ ≤ _; exact Nat.le_of_eq rfl) (hb hby d11_20) (fun _ _ => ⟨rfl, e4, Nat.le_of_ble_eq_true rfl, Nat.le_of_ble_eq_true rfl⟩)
  dsimp only [Pt.U, Pt.locs, Pt.cells, Pt.slots] at X5 l5 y5 z5 st5 hQ5
  subst l5 y5 z5
  obtain ⟨rfl, N5q, K5, G_E, G_mc, G_ed, G_sz, G_V⟩ := hQ5
  have N5 := Fr.app N2 N5q
  replace Kp := Kp.trans K5 (allS (Or.inl (by simp)) (allS (Or.inl (by simp)) all0))
  refine OEnds.via (fun _ k_ => st5.trans k_) ?_
  show OEnds p e below s _ _ _ (T5.setTop (mkF m 23 #[.val (.ref r), .val (.ref y)] []))
  refine OEnds.via (fun _ k_ => XS.iconst X5.here hx rfl (hb hby d11_23) k_) ?_
  show OEnds p e below s _ _ _ (T5.setTop (mkF m 24 #[.val (.ref r), .val (.ref y)] [(.int (1 : Int32))]))
  refine OEnds.retN X5 hx hlk (t := .boolean) Bd.returns (by simp) (hb hby d11_24) ?_ (by decide) (by decide)
  exact ⟨rfl, N5, Kp, G_E, G_mc, G_ed, G_sz, G_V⟩
theorem own_not_t12 {Z : State} {a0 : Array Value} (hw : ∀ d ∈ tables_1, d.before a0 Z = true) : ∃ c t, Z.vm.findClass "java/util/ArrayList" = some c ∧ Z.vm.findClass "java/util/ImmutableCollections$List12" = some t ∧ Z.vm.assignable c t = false := by
  have f := (own_nfSel (hw _ (List.mem_of_getElem? (i := 252) rfl)))
  obtain ⟨t, k, g0, g2, g7⟩ := f
  exact own_NSno (hw _ (List.mem_of_getElem? (i := 125) rfl)) (NS.step (hw _ (List.mem_of_getElem? (i := 125) rfl)) (NS.step (hw _ (List.mem_of_getElem? (i := 126) rfl)) (NS.step (hw _ (List.mem_of_getElem? (i := 127) rfl)) (own_NSroot (hw _ (List.mem_of_getElem? (i := 128) rfl)) g0 (by decide)) (by decide)) (by decide)) (by decide)) (by decide) ⟨t, k, g0, g2, g7⟩
theorem own_not_stN {Z : State} {a0 : Array Value} (hw : ∀ d ∈ tables_1, d.before a0 Z = true) : ∃ c t, Z.vm.findClass "java/util/ArrayList" = some c ∧ Z.vm.findClass "java/util/ImmutableCollections$ListN" = some t ∧ Z.vm.assignable c t = false := by
  have f := (own_nfSel (hw _ (List.mem_of_getElem? (i := 270) rfl)))
  obtain ⟨t, k, g0, g2, g7⟩ := f
  exact own_NSno (hw _ (List.mem_of_getElem? (i := 125) rfl)) (NS.step (hw _ (List.mem_of_getElem? (i := 125) rfl)) (NS.step (hw _ (List.mem_of_getElem? (i := 126) rfl)) (NS.step (hw _ (List.mem_of_getElem? (i := 127) rfl)) (own_NSroot (hw _ (List.mem_of_getElem? (i := 128) rfl)) g0 (by decide)) (by decide)) (by decide)) (by decide)) (by decide) ⟨t, k, g0, g2, g7⟩
theorem d28_0 : decode jdk_47_method_1_code 0 = .ok (.aload_n 0, 1) := by decide +kernel
theorem d28_1 : decode jdk_47_method_1_code 1 = .ok (.invokespecial 1, 3) := by decide +kernel
theorem d28_4 : decode jdk_47_method_1_code 4 = .ok (.return_, 1) := by decide +kernel
theorem pn_java_util_ImmutableCollections_AbstractImmutableCollection : plainName "java/util/ImmutableCollections$AbstractImmutableCollection" = true := by first | (simp [plainName, overriddenIn]; done) | decide +kernel
set_option maxRecDepth 65536 in
set_option maxHeartbeats 40000000 in
theorem rmAIC (l : Launch) (Z : State) (a0 : Array Value) (hw : ∀ d ∈ tables_1, d.before a0 Z = true) (ws : List Jvm.Cond) (r : Addr) (h0 : Heap) (n0 : Nat) (O0 : Old Z n0 h0) :
    MetFree l (⟨"java/util/ImmutableCollections$AbstractImmutableCollection", "<init>", "()V"⟩ : MethodName) (head1 (Jvm.Cond.code (⟨"java/util/ImmutableCollections$AbstractImmutableCollection", "<init>", "()V"⟩ : MethodName) jdk_47_method_1_code 1 none :: ws) ({ frames := 2, cells := 0, slots := 0, locals := 26 } : Room)) (fun ar' U => ar' = #[(.ref r)] ∧ Z.Warmed39 U.vm ∧ U.heap = h0) (fun _ _ _ _ _ => True) (fun _ U o U' => ∃ v L, o = .returned v ∧ (QA none h0 n0) v U'.heap L ∧ FrameEnd U o U' L ({ frames := 2, cells := 0, slots := 0, locals := 26 } : Room).cells ({ frames := 2, cells := 0, slots := 0, locals := 26 } : Room).slots) := by
  refine MetFree.of_bodySF (plainFor_of_name pn_java_util_ImmutableCollections_AbstractImmutableCollection) hisR ?_
  intro p e s m args below meth c s₁ Bd hml0 hP hK
  obtain ⟨rfl, hZ, hh⟩ := hP
  have hx := Bd.exec
  have hby := Bd.bytes
  have hlk := BodyLoose.notSynchronized Bd
  have hml : c.maxLocals = 1 := hml0
  have hown : s.vm.findClass "java/util/ImmutableCollections$AbstractImmutableCollection" = some m.cls := findClass_of_methodNamed Bd.named
  have hnm := (name_of_methodNamed Bd.named Bd.method).1
  have X0 : Stand p l e ({ frames := 2, cells := 0, slots := 0, locals := 26 } : Room) s m #[(.ref r)] below meth c s₁ [] 0 0 := Stand.of_body Bd
  have e0 : s₁.heap = h0 := by rw [← hh, Bd.state]; rfl
  have N0 := Fr.nil n0
  have Z0 : n0 ≤ h0.size := O0.1 ▸ O0.2.1
  show OEnds p e below s ({ frames := 2, cells := 0, slots := 0, locals := 26 } : Room).cells ({ frames := 2, cells := 0, slots := 0, locals := 26 } : Room).slots (QA none h0 n0) (s₁.setTop (entryFrame m #[(.ref r)] 1))
  refine OEnds.via (fun _ k_ => castTop (show entryFrame m #[(.ref r)] 1 = (mkF m 0 #[.val (.ref r)] []) by first | (simp [entryFrame, mkF, argsToLocals, Value.category, maxLocals]; done) | rfl) k_) ?_
  refine OEnds.via (fun _ k_ => XS.aloadN X0.here hx rfl (hb hby d28_0) rfl rfl k_) ?_
  show OEnds p e below s _ _ _ (s₁.setTop (mkF m 1 #[.val (.ref r)] [(.ref r)]))
  obtain ⟨_, _, ⟨T1, L1, k1, n1⟩, -, X1, ⟨Lc1, hQ1, l1, y1, z1⟩, st1⟩ := X0.specialBack hx (y := (⟨"java/util/AbstractCollection", "<init>", "()V"⟩ : MethodName)) rfl hown (mvT hZ (hw _ (List.mem_of_getElem? (i := 191) rfl))) (mvT hZ (hw _ (List.mem_of_getElem? (i := 54) rfl))) (mvT hZ (hw _ (List.mem_of_getElem? (i := 58) rfl))) (by decide) (backOf (W := 0) (rmAC l Z a0 hw [] r h0 n0 O0 ) hZ (hw _ (List.mem_of_getElem? (i := 58) rfl)) (hw _ (List.mem_of_getElem? (i := 57) rfl)) (by decide) (by decide)) (g := (mkF m 1 #[.val (.ref r)] [(.ref r)])) rfl (by rw [hml]; rfl) (Steps.refl _) (a := r) (argsL := []) (rest := []) (lenOf pd_2829V rfl) rfl (by show 2 * 0 + _ ≤ _; exact Nat.le_of_eq rfl) (hb hby d28_1) (fun _ _ => ⟨rfl, e0, Nat.le_of_ble_eq_true rfl, Nat.le_of_ble_eq_true rfl⟩)
  dsimp only [Pt.U, Pt.locs, Pt.cells, Pt.slots] at X1 l1 y1 z1 st1 hQ1
  subst l1 y1 z1
  obtain ⟨rfl, N1q, e1⟩ := hQ1
  have N1 := Fr.app N0 N1q
  refine OEnds.via (fun _ k_ => st1.trans k_) ?_
  show OEnds p e below s _ _ _ (T1.setTop (mkF m 4 #[.val (.ref r)] []))
  refine OEnds.retV X1 hx hlk Bd.returns (hb hby d28_4) ?_ (by decide) (by decide)
  exact ⟨rfl, N1, e1⟩
theorem d27_0 : decode jdk_46_method_1_code 0 = .ok (.aload_n 0, 1) := by decide +kernel
theorem d27_1 : decode jdk_46_method_1_code 1 = .ok (.invokespecial 1, 3) := by decide +kernel
theorem d27_4 : decode jdk_46_method_1_code 4 = .ok (.return_, 1) := by decide +kernel
theorem pn_java_util_ImmutableCollections_AbstractImmutableList : plainName "java/util/ImmutableCollections$AbstractImmutableList" = true := by first | (simp [plainName, overriddenIn]; done) | decide +kernel
set_option maxRecDepth 65536 in
set_option maxHeartbeats 40000000 in
theorem rmAIL (l : Launch) (Z : State) (a0 : Array Value) (hw : ∀ d ∈ tables_1, d.before a0 Z = true) (ws : List Jvm.Cond) (r : Addr) (h0 : Heap) (n0 : Nat) (O0 : Old Z n0 h0) :
    MetFree l (⟨"java/util/ImmutableCollections$AbstractImmutableList", "<init>", "()V"⟩ : MethodName) (head1 (Jvm.Cond.code (⟨"java/util/ImmutableCollections$AbstractImmutableList", "<init>", "()V"⟩ : MethodName) jdk_46_method_1_code 1 none :: ws) ({ frames := 3, cells := 0, slots := 0, locals := 40 } : Room)) (fun ar' U => ar' = #[(.ref r)] ∧ Z.Warmed39 U.vm ∧ U.heap = h0) (fun _ _ _ _ _ => True) (fun _ U o U' => ∃ v L, o = .returned v ∧ (QA none h0 n0) v U'.heap L ∧ FrameEnd U o U' L ({ frames := 3, cells := 0, slots := 0, locals := 40 } : Room).cells ({ frames := 3, cells := 0, slots := 0, locals := 40 } : Room).slots) := by
  refine MetFree.of_bodySF (plainFor_of_name pn_java_util_ImmutableCollections_AbstractImmutableList) hisR ?_
  intro p e s m args below meth c s₁ Bd hml0 hP hK
  obtain ⟨rfl, hZ, hh⟩ := hP
  have hx := Bd.exec
  have hby := Bd.bytes
  have hlk := BodyLoose.notSynchronized Bd
  have hml : c.maxLocals = 1 := hml0
  have hown : s.vm.findClass "java/util/ImmutableCollections$AbstractImmutableList" = some m.cls := findClass_of_methodNamed Bd.named
  have hnm := (name_of_methodNamed Bd.named Bd.method).1
  have X0 : Stand p l e ({ frames := 3, cells := 0, slots := 0, locals := 40 } : Room) s m #[(.ref r)] below meth c s₁ [] 0 0 := Stand.of_body Bd
  have e0 : s₁.heap = h0 := by rw [← hh, Bd.state]; rfl
  have N0 := Fr.nil n0
  have Z0 : n0 ≤ h0.size := O0.1 ▸ O0.2.1
  show OEnds p e below s ({ frames := 3, cells := 0, slots := 0, locals := 40 } : Room).cells ({ frames := 3, cells := 0, slots := 0, locals := 40 } : Room).slots (QA none h0 n0) (s₁.setTop (entryFrame m #[(.ref r)] 1))
  refine OEnds.via (fun _ k_ => castTop (show entryFrame m #[(.ref r)] 1 = (mkF m 0 #[.val (.ref r)] []) by first | (simp [entryFrame, mkF, argsToLocals, Value.category, maxLocals]; done) | rfl) k_) ?_
  refine OEnds.via (fun _ k_ => XS.aloadN X0.here hx rfl (hb hby d27_0) rfl rfl k_) ?_
  show OEnds p e below s _ _ _ (s₁.setTop (mkF m 1 #[.val (.ref r)] [(.ref r)]))
  obtain ⟨_, _, ⟨T1, L1, k1, n1⟩, -, X1, ⟨Lc1, hQ1, l1, y1, z1⟩, st1⟩ := X0.specialBack hx (y := (⟨"java/util/ImmutableCollections$AbstractImmutableCollection", "<init>", "()V"⟩ : MethodName)) rfl hown (mvT hZ (hw _ (List.mem_of_getElem? (i := 185) rfl))) (mvT hZ (hw _ (List.mem_of_getElem? (i := 186) rfl))) (mvT hZ (hw _ (List.mem_of_getElem? (i := 190) rfl))) (by decide) (backOf (W := 0) (rmAIC l Z a0 hw [] r h0 n0 O0 ) hZ (hw _ (List.mem_of_getElem? (i := 190) rfl)) (hw _ (List.mem_of_getElem? (i := 189) rfl)) (by decide) (by decide)) (g := (mkF m 1 #[.val (.ref r)] [(.ref r)])) rfl (by rw [hml]; rfl) (Steps.refl _) (a := r) (argsL := []) (rest := []) (lenOf pd_2829V rfl) rfl (by show 2 * 0 + _ ≤ _; exact Nat.le_of_eq rfl) (hb hby d27_1) (fun _ _ => ⟨rfl, e0, Nat.le_of_ble_eq_true rfl, Nat.le_of_ble_eq_true rfl⟩)
  dsimp only [Pt.U, Pt.locs, Pt.cells, Pt.slots] at X1 l1 y1 z1 st1 hQ1
  subst l1 y1 z1
  obtain ⟨rfl, N1q, e1⟩ := hQ1
  have N1 := Fr.app N0 N1q
  refine OEnds.via (fun _ k_ => st1.trans k_) ?_
  show OEnds p e below s _ _ _ (T1.setTop (mkF m 4 #[.val (.ref r)] []))
  refine OEnds.retV X1 hx hlk Bd.returns (hb hby d27_4) ?_ (by decide) (by decide)
  exact ⟨rfl, N1, e1⟩
theorem d29_0 : decode jdk_31_method_10_code 0 = .ok (.aload_n 0, 1) := by decide +kernel
theorem d29_1 : decode jdk_31_method_10_code 1 = .ok (.ifnonnull 11, 3) := by decide +kernel
theorem d29_4 : decode jdk_31_method_10_code 4 = .ok (.new 84, 3) := by decide +kernel
theorem d29_7 : decode jdk_31_method_10_code 7 = .ok (.dup, 1) := by decide +kernel
theorem d29_8 : decode jdk_31_method_10_code 8 = .ok (.invokespecial 86, 3) := by decide +kernel
theorem d29_11 : decode jdk_31_method_10_code 11 = .ok (.athrow, 1) := by decide +kernel
theorem d29_12 : decode jdk_31_method_10_code 12 = .ok (.aload_n 0, 1) := by decide +kernel
theorem d29_13 : decode jdk_31_method_10_code 13 = .ok (.areturn, 1) := by decide +kernel
theorem pn_java_util_Objects : plainName "java/util/Objects" = true := by first | (simp [plainName, overriddenIn]; done) | decide +kernel
set_option maxRecDepth 65536 in
set_option maxHeartbeats 40000000 in
theorem rmRN (l : Launch) (Z : State) (a0 : Array Value) (hw : ∀ d ∈ tables_1, d.before a0 Z = true) (ws : List Jvm.Cond) (y : Addr) (h0 : Heap) (n0 : Nat) (O0 : Old Z n0 h0) :
    MetFree l (⟨"java/util/Objects", "requireNonNull", "(Ljava/lang/Object;)Ljava/lang/Object;"⟩ : MethodName) (head1 (Jvm.Cond.code (⟨"java/util/Objects", "requireNonNull", "(Ljava/lang/Object;)Ljava/lang/Object;"⟩ : MethodName) jdk_31_method_10_code 1 (some (.object "java/lang/Object")) :: ws) ({ frames := 0, cells := 0, slots := 0, locals := 0 } : Room)) (fun ar' U => ar' = #[(.ref y)] ∧ Z.Warmed39 U.vm ∧ U.heap = h0) (fun _ _ _ _ _ => True) (fun _ U o U' => ∃ v L, o = .returned v ∧ (QA (some (.ref y)) h0 n0) v U'.heap L ∧ FrameEnd U o U' L ({ frames := 0, cells := 0, slots := 0, locals := 0 } : Room).cells ({ frames := 0, cells := 0, slots := 0, locals := 0 } : Room).slots) := by
  refine MetFree.of_bodySF (plainFor_of_name pn_java_util_Objects) hisR ?_
  intro p e s m args below meth c s₁ Bd hml0 hP hK
  obtain ⟨rfl, hZ, hh⟩ := hP
  have hx := Bd.exec
  have hby := Bd.bytes
  have hlk := BodyLoose.notSynchronized Bd
  have hml : c.maxLocals = 1 := hml0
  have hown : s.vm.findClass "java/util/Objects" = some m.cls := findClass_of_methodNamed Bd.named
  have hnm := (name_of_methodNamed Bd.named Bd.method).1
  have X0 : Stand p l e ({ frames := 0, cells := 0, slots := 0, locals := 0 } : Room) s m #[(.ref y)] below meth c s₁ [] 0 0 := Stand.of_body Bd
  have e0 : s₁.heap = h0 := by rw [← hh, Bd.state]; rfl
  have N0 := Fr.nil n0
  have Z0 : n0 ≤ h0.size := O0.1 ▸ O0.2.1
  show OEnds p e below s ({ frames := 0, cells := 0, slots := 0, locals := 0 } : Room).cells ({ frames := 0, cells := 0, slots := 0, locals := 0 } : Room).slots (QA (some (.ref y)) h0 n0) (s₁.setTop (entryFrame m #[(.ref y)] 1))
  refine OEnds.via (fun _ k_ => castTop (show entryFrame m #[(.ref y)] 1 = (mkF m 0 #[.val (.ref y)] []) by first | (simp [entryFrame, mkF, argsToLocals, Value.category, maxLocals]; done) | rfl) k_) ?_
  refine OEnds.via (fun _ k_ => XS.aloadN X0.here hx rfl (hb hby d29_0) rfl rfl k_) ?_
  show OEnds p e below s _ _ _ (s₁.setTop (mkF m 1 #[.val (.ref y)] [(.ref y)]))
  refine OEnds.via (fun _ k_ => XS.ifnonnullYes X0.here hx rfl (pc0 := 1) (pc' := 12) rfl (hb hby d29_1) rfl (by decide) (by decide) k_) ?_
  show OEnds p e below s _ _ _ (s₁.setTop (mkF m 12 #[.val (.ref y)] []))
  refine OEnds.via (fun _ k_ => XS.aloadN X0.here hx rfl (hb hby d29_12) rfl rfl k_) ?_
  show OEnds p e below s _ _ _ (s₁.setTop (mkF m 13 #[.val (.ref y)] [(.ref y)]))
  refine OEnds.retR X0 hx hlk Bd.returns rfl rfl (hb hby d29_13) ?_ (by decide) (by decide)
  exact ⟨rfl, N0, e0⟩
theorem d26_0 : decode jdk_44_method_1_code 0 = .ok (.aload_n 0, 1) := by decide +kernel
theorem d26_1 : decode jdk_44_method_1_code 1 = .ok (.invokespecial 1, 3) := by decide +kernel
theorem d26_4 : decode jdk_44_method_1_code 4 = .ok (.aload_n 0, 1) := by decide +kernel
theorem d26_5 : decode jdk_44_method_1_code 5 = .ok (.aload_n 1, 1) := by decide +kernel
theorem d26_6 : decode jdk_44_method_1_code 6 = .ok (.invokestatic 7, 3) := by decide +kernel
theorem d26_9 : decode jdk_44_method_1_code 9 = .ok (.putfield 13, 3) := by decide +kernel
theorem d26_12 : decode jdk_44_method_1_code 12 = .ok (.aload_n 0, 1) := by decide +kernel
theorem d26_13 : decode jdk_44_method_1_code 13 = .ok (.getstatic 19, 3) := by decide +kernel
theorem d26_16 : decode jdk_44_method_1_code 16 = .ok (.putfield 24, 3) := by decide +kernel
theorem d26_19 : decode jdk_44_method_1_code 19 = .ok (.return_, 1) := by decide +kernel
theorem pn_java_util_ImmutableCollections_List12 : plainName "java/util/ImmutableCollections$List12" = true := by first | (simp [plainName, overriddenIn]; done) | decide +kernel
def Q_rmI12_1 (Z : State) (r : Addr) (y0 : Addr) (em : Addr) (h0 : Heap) (n0 : Nat) (v : Option Value) (h : Heap) (L : List Loc) : Prop := v = none ∧ Fr n0 L ∧ Keep h0 h [r] ∧ Exa Z h r "java/util/ImmutableCollections$List12" ∧ Fld Z h r "java/util/ImmutableCollections$List12" "e0" "Ljava/lang/Object;" (.ref y0) ∧ Fld Z h r "java/util/ImmutableCollections$List12" "e1" "Ljava/lang/Object;" (.ref em)
theorem pd_28Ljava2flang2fObject3b29Ljava2flang2fObject3b : parseMethodDescriptor "(Ljava/lang/Object;)Ljava/lang/Object;" = some ⟨[(.object "java/lang/Object")], some (.object "java/lang/Object")⟩ := by decide +kernel
set_option maxRecDepth 65536 in
set_option maxHeartbeats 40000000 in
theorem rmI12_1 (l : Launch) (Z : State) (a0 : Array Value) (hw : ∀ d ∈ tables_1, d.before a0 Z = true) (ws : List Jvm.Cond) (r : Addr) (y0 : Addr) (em : Addr) (h0 : Heap) (n0 : Nat) (O0 : Old Z n0 h0) (F_e0_r : Fld Z h0 r "java/util/ImmutableCollections$List12" "e0" "Ljava/lang/Object;" .null) (F_e1_r : Fld Z h0 r "java/util/ImmutableCollections$List12" "e1" "Ljava/lang/Object;" .null) (E_r : Exa Z h0 r "java/util/ImmutableCollections$List12") (ge_r : n0 ≤ r) (S_em : Sta Z Z.heap "java/util/ImmutableCollections" "EMPTY" "Ljava/lang/Object;" (.ref em)) :
    MetFree l (⟨"java/util/ImmutableCollections$List12", "<init>", "(Ljava/lang/Object;)V"⟩ : MethodName) (head1 (Jvm.Cond.code (⟨"java/util/ImmutableCollections$List12", "<init>", "(Ljava/lang/Object;)V"⟩ : MethodName) jdk_44_method_1_code 2 none :: ws) ({ frames := 4, cells := 0, slots := 0, locals := 54 } : Room)) (fun ar' U => ar' = #[(.ref r), (.ref y0)] ∧ Z.Warmed39 U.vm ∧ U.heap = h0) (fun _ _ _ _ _ => True) (fun _ U o U' => ∃ v L, o = .returned v ∧ (Q_rmI12_1 Z r y0 em h0 n0) v U'.heap L ∧ FrameEnd U o U' L ({ frames := 4, cells := 0, slots := 0, locals := 54 } : Room).cells ({ frames := 4, cells := 0, slots := 0, locals := 54 } : Room).slots) := by
  refine MetFree.of_bodySF (plainFor_of_name pn_java_util_ImmutableCollections_List12) hisR ?_
  intro p e s m args below meth c s₁ Bd hml0 hP hK
  obtain ⟨rfl, hZ, hh⟩ := hP
  have hx := Bd.exec
  have hby := Bd.bytes
  have hlk := BodyLoose.notSynchronized Bd
  have hml : c.maxLocals = 2 := hml0
  have hown : s.vm.findClass "java/util/ImmutableCollections$List12" = some m.cls := findClass_of_methodNamed Bd.named
  have hnm := (name_of_methodNamed Bd.named Bd.method).1
  have X0 : Stand p l e ({ frames := 4, cells := 0, slots := 0, locals := 54 } : Room) s m #[(.ref r), (.ref y0)] below meth c s₁ [] 0 0 := Stand.of_body Bd
  have e0 : s₁.heap = h0 := by rw [← hh, Bd.state]; rfl
  have N0 := Fr.nil n0
  have Z0 : n0 ≤ h0.size := O0.1 ▸ O0.2.1
  show OEnds p e below s ({ frames := 4, cells := 0, slots := 0, locals := 54 } : Room).cells ({ frames := 4, cells := 0, slots := 0, locals := 54 } : Room).slots (Q_rmI12_1 Z r y0 em h0 n0) (s₁.setTop (entryFrame m #[(.ref r), (.ref y0)] 2))
  refine OEnds.via (fun _ k_ => castTop (show entryFrame m #[(.ref r), (.ref y0)] 2 = (mkF m 0 #[.val (.ref r), .val (.ref y0)] []) by first | (simp [entryFrame, mkF, argsToLocals, Value.category, maxLocals]; done) | rfl) k_) ?_
  have Od := O0
  have Kp := Keep.refl h0 [r]
  show OEnds p e below s _ _ _ (s₁.setTop (mkF m 0 #[.val (.ref r), .val (.ref y0)] []))
  refine OEnds.via (fun _ k_ => XS.aloadN X0.here hx rfl (hb hby d26_0) rfl rfl k_) ?_
  show OEnds p e below s _ _ _ (s₁.setTop (mkF m 1 #[.val (.ref r), .val (.ref y0)] [(.ref r)]))
  obtain ⟨_, _, ⟨T1, L1, k1, n1⟩, -, X1, ⟨Lc1, hQ1, l1, y1, z1⟩, st1⟩ := X0.specialBack hx (y := (⟨"java/util/ImmutableCollections$AbstractImmutableList", "<init>", "()V"⟩ : MethodName)) rfl hown (mvT hZ (hw _ (List.mem_of_getElem? (i := 179) rfl))) (mvT hZ (hw _ (List.mem_of_getElem? (i := 180) rfl))) (mvT hZ (hw _ (List.mem_of_getElem? (i := 184) rfl))) (by decide) (backOf (W := 0) (rmAIL l Z a0 hw [] r h0 n0 Od ) hZ (hw _ (List.mem_of_getElem? (i := 184) rfl)) (hw _ (List.mem_of_getElem? (i := 183) rfl)) (by decide) (by decide)) (g := (mkF m 1 #[.val (.ref r), .val (.ref y0)] [(.ref r)])) rfl (by rw [hml]; rfl) (Steps.refl _) (a := r) (argsL := []) (rest := []) (lenOf pd_2829V rfl) rfl (by show 2 * 0 + _ ≤ _; exact Nat.le_of_eq rfl) (hb hby d26_1) (fun _ _ => ⟨rfl, e0, Nat.le_of_ble_eq_true rfl, Nat.le_of_ble_eq_true rfl⟩)
  dsimp only [Pt.U, Pt.locs, Pt.cells, Pt.slots] at X1 l1 y1 z1 st1 hQ1
  subst l1 y1 z1
  obtain ⟨rfl, N1q, e1⟩ := hQ1
  have N1 := Fr.app N0 N1q
  refine OEnds.via (fun _ k_ => st1.trans k_) ?_
  show OEnds p e below s _ _ _ (T1.setTop (mkF m 4 #[.val (.ref r), .val (.ref y0)] []))
  refine OEnds.via (fun _ k_ => XS.aloadN X1.here hx rfl (hb hby d26_4) rfl rfl k_) ?_
  show OEnds p e below s _ _ _ (T1.setTop (mkF m 5 #[.val (.ref r), .val (.ref y0)] [(.ref r)]))
  refine OEnds.via (fun _ k_ => XS.aloadN X1.here hx rfl (hb hby d26_5) rfl rfl k_) ?_
  show OEnds p e below s _ _ _ (T1.setTop (mkF m 6 #[.val (.ref r), .val (.ref y0)] [(.ref y0), (.ref r)]))
  obtain ⟨_, _, ⟨T2, L2, k2, n2⟩, -, X2, ⟨Lc2, hQ2, l2, y2, z2⟩, st2⟩ := Jvm.LawKit.callS X1 hx (y := (⟨"java/util/Objects", "requireNonNull", "(Ljava/lang/Object;)Ljava/lang/Object;"⟩ : MethodName)) hown (mvT hZ (hw _ (List.mem_of_getElem? (i := 193) rfl))) (mvT hZ (hw _ (List.mem_of_getElem? (i := 194) rfl))) (mvT hZ (hw _ (List.mem_of_getElem? (i := 195) rfl))) (mvT hZ (hw _ (List.mem_of_getElem? (i := 196) rfl))) (by decide) (backOf (W := 1) (rmRN l Z a0 hw [] y0 h0 n0 Od ) hZ (hw _ (List.mem_of_getElem? (i := 196) rfl)) (hw _ (List.mem_of_getElem? (i := 195) rfl)) (by decide) (by decide)) (g := (mkF m 6 #[.val (.ref r), .val (.ref y0)] [(.ref y0), (.ref r)])) rfl (by rw [hml]; rfl) (argsL := [(.ref y0)]) (rest := [(.ref r)]) (lenOf pd_28Ljava2flang2fObject3b29Ljava2flang2fObject3b rfl) rfl (by show 2 * 0 + _ ≤ _; exact Nat.le_of_eq rfl) (hb hby d26_6) (fun _ _ => ⟨rfl, e1, Nat.le_of_ble_eq_true rfl, Nat.le_of_ble_eq_true rfl⟩)
  dsimp only [Pt.U, Pt.locs, Pt.cells, Pt.slots] at X2 l2 y2 z2 st2 hQ2
  subst l2 y2 z2
  obtain ⟨rfl, N2q, e2⟩ := hQ2
  have N2 := Fr.app N1 N2q
  refine OEnds.via (fun _ k_ => st2 _ k_) ?_
  show OEnds p e below s _ _ _ (T2.setTop (mkF m 9 #[.val (.ref r), .val (.ref y0)] [(.ref y0), (.ref r)]))
  obtain ⟨T3, h3, X3, e3, W3, st3⟩ := putF X2 hx hZ hown (host := "") (Or.inl (hw _ (List.mem_of_getElem? (i := 197) rfl))) Via.refl e2 F_e0_r E_r (Or.inr ⟨(hw _ (List.mem_of_getElem? (i := 198) rfl)), rfl, hnm⟩) (hw _ (List.mem_of_getElem? (i := 173) rfl)) (ty := (.object "java/lang/Object")) (by decide) rfl rfl (g := (mkF m 9 #[.val (.ref r), .val (.ref y0)] [(.ref y0), (.ref r)])) rfl rfl (hb hby d26_9)
  have N3 := Fr.snoc X3 N2 ge_r
  replace Od := Od.wr W3 ge_r
  replace F_e0_r := Fld.same W3 F_e0_r
  replace F_e1_r := Fld.other W3 F_e1_r (Or.inr (slot_ne (Or.inr (hw _ (List.mem_of_getElem? (i := 201) rfl))) (Or.inr (hw _ (List.mem_of_getElem? (i := 198) rfl))) (by decide) (t := (.object "java/lang/Object")) (t' := (.object "java/lang/Object")) (by decide) (by decide)))
  replace E_r := Exa.wr W3 E_r
  replace Kp := Kp.wr W3 (Or.inl (by simp))
  refine OEnds.via (fun _ k_ => st3 _ k_) ?_
  show OEnds p e below s _ _ _ (T3.setTop (mkF m 12 #[.val (.ref r), .val (.ref y0)] []))
  refine OEnds.via (fun _ k_ => XS.aloadN X3.here hx rfl (hb hby d26_12) rfl rfl k_) ?_
  show OEnds p e below s _ _ _ (T3.setTop (mkF m 13 #[.val (.ref r), .val (.ref y0)] [(.ref r)]))
  obtain ⟨T4, X4, e4, st4⟩ := getS2 X3 hx hZ hown (Or.inr (hw _ (List.mem_of_getElem? (i := 199) rfl))) Via.refl e3 (Sta.ext Od.2 S_em) (g := (mkF m 13 #[.val (.ref r), .val (.ref y0)] [(.ref r)])) rfl (hb hby d26_13)
  refine OEnds.via (fun _ k_ => st4 _ k_) ?_
  show OEnds p e below s _ _ _ (T4.setTop (mkF m 16 #[.val (.ref r), .val (.ref y0)] [(.ref em), (.ref r)]))
  obtain ⟨T5, h5, X5, e5, W5, st5⟩ := putF X4 hx hZ hown (host := "") (Or.inl (hw _ (List.mem_of_getElem? (i := 200) rfl))) Via.refl e4 F_e1_r E_r (Or.inr ⟨(hw _ (List.mem_of_getElem? (i := 201) rfl)), rfl, hnm⟩) (hw _ (List.mem_of_getElem? (i := 173) rfl)) (ty := (.object "java/lang/Object")) (by decide) rfl rfl (g := (mkF m 16 #[.val (.ref r), .val (.ref y0)] [(.ref em), (.ref r)])) rfl rfl (hb hby d26_16)
  have N5 := Fr.snoc X5 N3 ge_r
  replace Od := Od.wr W5 ge_r
  replace F_e0_r := Fld.other W5 F_e0_r (Or.inr (slot_ne (Or.inr (hw _ (List.mem_of_getElem? (i := 198) rfl))) (Or.inr (hw _ (List.mem_of_getElem? (i := 201) rfl))) (by decide) (t := (.object "java/lang/Object")) (t' := (.object "java/lang/Object")) (by decide) (by decide)))
  replace F_e1_r := Fld.same W5 F_e1_r
  replace E_r := Exa.wr W5 E_r
  replace Kp := Kp.wr W5 (Or.inl (by simp))
  refine OEnds.via (fun _ k_ => st5 _ k_) ?_
  show OEnds p e below s _ _ _ (T5.setTop (mkF m 19 #[.val (.ref r), .val (.ref y0)] []))
  refine OEnds.retV X5 hx hlk Bd.returns (hb hby d26_19) ?_ (by decide) (by decide)
  rw [e5]
  exact ⟨rfl, N5, Kp, E_r, F_e0_r, F_e1_r⟩
theorem d43_0 : decode jdk_44_method_2_code 0 = .ok (.aload_n 0, 1) := by decide +kernel
theorem d43_1 : decode jdk_44_method_2_code 1 = .ok (.invokespecial 1, 3) := by decide +kernel
theorem d43_4 : decode jdk_44_method_2_code 4 = .ok (.aload_n 0, 1) := by decide +kernel
theorem d43_5 : decode jdk_44_method_2_code 5 = .ok (.aload_n 1, 1) := by decide +kernel
theorem d43_6 : decode jdk_44_method_2_code 6 = .ok (.invokestatic 7, 3) := by decide +kernel
theorem d43_9 : decode jdk_44_method_2_code 9 = .ok (.putfield 13, 3) := by decide +kernel
theorem d43_12 : decode jdk_44_method_2_code 12 = .ok (.aload_n 0, 1) := by decide +kernel
theorem d43_13 : decode jdk_44_method_2_code 13 = .ok (.aload_n 2, 1) := by decide +kernel
theorem d43_14 : decode jdk_44_method_2_code 14 = .ok (.invokestatic 7, 3) := by decide +kernel
theorem d43_17 : decode jdk_44_method_2_code 17 = .ok (.putfield 24, 3) := by decide +kernel
theorem d43_20 : decode jdk_44_method_2_code 20 = .ok (.return_, 1) := by decide +kernel
def Q_rmI12_2 (Z : State) (r : Addr) (y0 : Addr) (y1 : Addr) (h0 : Heap) (n0 : Nat) (v : Option Value) (h : Heap) (L : List Loc) : Prop := v = none ∧ Fr n0 L ∧ Keep h0 h [r] ∧ Exa Z h r "java/util/ImmutableCollections$List12" ∧ Fld Z h r "java/util/ImmutableCollections$List12" "e0" "Ljava/lang/Object;" (.ref y0) ∧ Fld Z h r "java/util/ImmutableCollections$List12" "e1" "Ljava/lang/Object;" (.ref y1)
set_option maxRecDepth 65536 in
set_option maxHeartbeats 40000000 in
theorem rmI12_2 (l : Launch) (Z : State) (a0 : Array Value) (hw : ∀ d ∈ tables_1, d.before a0 Z = true) (ws : List Jvm.Cond) (r : Addr) (y0 : Addr) (y1 : Addr) (h0 : Heap) (n0 : Nat) (O0 : Old Z n0 h0) (F_e0_r : Fld Z h0 r "java/util/ImmutableCollections$List12" "e0" "Ljava/lang/Object;" .null) (F_e1_r : Fld Z h0 r "java/util/ImmutableCollections$List12" "e1" "Ljava/lang/Object;" .null) (E_r : Exa Z h0 r "java/util/ImmutableCollections$List12") (ge_r : n0 ≤ r) :
    MetFree l (⟨"java/util/ImmutableCollections$List12", "<init>", "(Ljava/lang/Object;Ljava/lang/Object;)V"⟩ : MethodName) (head1 (Jvm.Cond.code (⟨"java/util/ImmutableCollections$List12", "<init>", "(Ljava/lang/Object;Ljava/lang/Object;)V"⟩ : MethodName) jdk_44_method_2_code 3 none :: ws) ({ frames := 4, cells := 0, slots := 0, locals := 54 } : Room)) (fun ar' U => ar' = #[(.ref r), (.ref y0), (.ref y1)] ∧ Z.Warmed39 U.vm ∧ U.heap = h0) (fun _ _ _ _ _ => True) (fun _ U o U' => ∃ v L, o = .returned v ∧ (Q_rmI12_2 Z r y0 y1 h0 n0) v U'.heap L ∧ FrameEnd U o U' L ({ frames := 4, cells := 0, slots := 0, locals := 54 } : Room).cells ({ frames := 4, cells := 0, slots := 0, locals := 54 } : Room).slots) := by
  refine MetFree.of_bodySF (plainFor_of_name pn_java_util_ImmutableCollections_List12) hisR ?_
  intro p e s m args below meth c s₁ Bd hml0 hP hK
  obtain ⟨rfl, hZ, hh⟩ := hP
  have hx := Bd.exec
  have hby := Bd.bytes
  have hlk := BodyLoose.notSynchronized Bd
  have hml : c.maxLocals = 3 := hml0
  have hown : s.vm.findClass "java/util/ImmutableCollections$List12" = some m.cls := findClass_of_methodNamed Bd.named
  have hnm := (name_of_methodNamed Bd.named Bd.method).1
  have X0 : Stand p l e ({ frames := 4, cells := 0, slots := 0, locals := 54 } : Room) s m #[(.ref r), (.ref y0), (.ref y1)] below meth c s₁ [] 0 0 := Stand.of_body Bd
  have e0 : s₁.heap = h0 := by rw [← hh, Bd.state]; rfl
  have N0 := Fr.nil n0
  have Z0 : n0 ≤ h0.size := O0.1 ▸ O0.2.1
  show OEnds p e below s ({ frames := 4, cells := 0, slots := 0, locals := 54 } : Room).cells ({ frames := 4, cells := 0, slots := 0, locals := 54 } : Room).slots (Q_rmI12_2 Z r y0 y1 h0 n0) (s₁.setTop (entryFrame m #[(.ref r), (.ref y0), (.ref y1)] 3))
  refine OEnds.via (fun _ k_ => castTop (show entryFrame m #[(.ref r), (.ref y0), (.ref y1)] 3 = (mkF m 0 #[.val (.ref r), .val (.ref y0), .val (.ref y1)] []) by first | (simp [entryFrame, mkF, argsToLocals, Value.category, maxLocals]; done) | rfl) k_) ?_
  have Od := O0
  have Kp := Keep.refl h0 [r]
  show OEnds p e below s _ _ _ (s₁.setTop (mkF m 0 #[.val (.ref r), .val (.ref y0), .val (.ref y1)] []))
  refine OEnds.via (fun _ k_ => XS.aloadN X0.here hx rfl (hb hby d43_0) rfl rfl k_) ?_
  show OEnds p e below s _ _ _ (s₁.setTop (mkF m 1 #[.val (.ref r), .val (.ref y0), .val (.ref y1)] [(.ref r)]))
  obtain ⟨_, _, ⟨T1, L1, k1, n1⟩, -, X1, ⟨Lc1, hQ1, l1, y1, z1⟩, st1⟩ := X0.specialBack hx (y := (⟨"java/util/ImmutableCollections$AbstractImmutableList", "<init>", "()V"⟩ : MethodName)) rfl hown (mvT hZ (hw _ (List.mem_of_getElem? (i := 179) rfl))) (mvT hZ (hw _ (List.mem_of_getElem? (i := 180) rfl))) (mvT hZ (hw _ (List.mem_of_getElem? (i := 184) rfl))) (by decide) (backOf (W := 0) (rmAIL l Z a0 hw [] r h0 n0 Od ) hZ (hw _ (List.mem_of_getElem? (i := 184) rfl)) (hw _ (List.mem_of_getElem? (i := 183) rfl)) (by decide) (by decide)) (g := (mkF m 1 #[.val (.ref r), .val (.ref y0), .val (.ref y1)] [(.ref r)])) rfl (by rw [hml]; rfl) (Steps.refl _) (a := r) (argsL := []) (rest := []) (lenOf pd_2829V rfl) rfl (by show 2 * 0 + _ ≤ _; exact Nat.le_of_eq rfl) (hb hby d43_1) (fun _ _ => ⟨rfl, e0, Nat.le_of_ble_eq_true rfl, Nat.le_of_ble_eq_true rfl⟩)
  dsimp only [Pt.U, Pt.locs, Pt.cells, Pt.slots] at X1 l1 y1 z1 st1 hQ1
  subst l1 y1 z1
  obtain ⟨rfl, N1q, e1⟩ := hQ1
  have N1 := Fr.app N0 N1q
  refine OEnds.via (fun _ k_ => st1.trans k_) ?_
  show OEnds p e below s _ _ _ (T1.setTop (mkF m 4 #[.val (.ref r), .val (.ref y0), .val (.ref y1)] []))
  refine OEnds.via (fun _ k_ => XS.aloadN X1.here hx rfl (hb hby d43_4) rfl rfl k_) ?_
  show OEnds p e below s _ _ _ (T1.setTop (mkF m 5 #[.val (.ref r), .val (.ref y0), .val (.ref y1)] [(.ref r)]))
  refine OEnds.via (fun _ k_ => XS.aloadN X1.here hx rfl (hb hby d43_5) rfl rfl k_) ?_
  show OEnds p e below s _ _ _ (T1.setTop (mkF m 6 #[.val (.ref r), .val (.ref y0), .val (.ref y1)] [(.ref y0), (.ref r)]))
  obtain ⟨_, _, ⟨T2, L2, k2, n2⟩, -, X2, ⟨Lc2, hQ2, l2, y2, z2⟩, st2⟩ := Jvm.LawKit.callS X1 hx (y := (⟨"java/util/Objects", "requireNonNull", "(Ljava/lang/Object;)Ljava/lang/Object;"⟩ : MethodName)) hown (mvT hZ (hw _ (List.mem_of_getElem? (i := 193) rfl))) (mvT hZ (hw _ (List.mem_of_getElem? (i := 194) rfl))) (mvT hZ (hw _ (List.mem_of_getElem? (i := 195) rfl))) (mvT hZ (hw _ (List.mem_of_getElem? (i := 196) rfl))) (by decide) (backOf (W := 1) (rmRN l Z a0 hw [] y0 h0 n0 Od ) hZ (hw _ (List.mem_of_getElem? (i := 196) rfl)) (hw _ (List.mem_of_getElem? (i := 195) rfl)) (by decide) (by decide)) (g := (mkF m 6 #[.val (.ref r), .val (.ref y0), .val (.ref y1)] [(.ref y0), (.ref r)])) rfl (by rw [hml]; rfl) (argsL := [(.ref y0)]) (rest := [(.ref r)]) (lenOf pd_28Ljava2flang2fObject3b29Ljava2flang2fObject3b rfl) rfl (by show 2 * 0 + _ ≤ _; exact Nat.le_of_eq rfl) (hb hby d43_6) (fun _ _ => ⟨rfl, e1, Nat.le_of_ble_eq_true rfl, Nat.le_of_ble_eq_true rfl⟩)
  dsimp only [Pt.U, Pt.locs, Pt.cells, Pt.slots] at X2 l2 y2 z2 st2 hQ2
  subst l2 y2 z2
  obtain ⟨rfl, N2q, e2⟩ := hQ2
  have N2 := Fr.app N1 N2q
  refine OEnds.via (fun _ k_ => st2 _ k_) ?_
  show OEnds p e below s _ _ _ (T2.setTop (mkF m 9 #[.val (.ref r), .val (.ref y0), .val (.ref y1)] [(.ref y0), (.ref r)]))
  obtain ⟨T3, h3, X3, e3, W3, st3⟩ := putF X2 hx hZ hown (host := "") (Or.inl (hw _ (List.mem_of_getElem? (i := 197) rfl))) Via.refl e2 F_e0_r E_r (Or.inr ⟨(hw _ (List.mem_of_getElem? (i := 198) rfl)), rfl, hnm⟩) (hw _ (List.mem_of_getElem? (i := 173) rfl)) (ty := (.object "java/lang/Object")) (by decide) rfl rfl (g := (mkF m 9 #[.val (.ref r), .val (.ref y0), .val (.ref y1)] [(.ref y0), (.ref r)])) rfl rfl (hb hby d43_9)
  have N3 := Fr.snoc X3 N2 ge_r
  replace Od := Od.wr W3 ge_r
  replace F_e0_r := Fld.same W3 F_e0_r
  replace F_e1_r := Fld.other W3 F_e1_r (Or.inr (slot_ne (Or.inr (hw _ (List.mem_of_getElem? (i := 201) rfl))) (Or.inr (hw _ (List.mem_of_getElem? (i := 198) rfl))) (by decide) (t := (.object "java/lang/Object")) (t' := (.object "java/lang/Object")) (by decide) (by decide)))
  replace E_r := Exa.wr W3 E_r
  replace Kp := Kp.wr W3 (Or.inl (by simp))
  refine OEnds.via (fun _ k_ => st3 _ k_) ?_
  show OEnds p e below s _ _ _ (T3.setTop (mkF m 12 #[.val (.ref r), .val (.ref y0), .val (.ref y1)] []))
  refine OEnds.via (fun _ k_ => XS.aloadN X3.here hx rfl (hb hby d43_12) rfl rfl k_) ?_
  show OEnds p e below s _ _ _ (T3.setTop (mkF m 13 #[.val (.ref r), .val (.ref y0), .val (.ref y1)] [(.ref r)]))
  refine OEnds.via (fun _ k_ => XS.aloadN X3.here hx rfl (hb hby d43_13) rfl rfl k_) ?_
  show OEnds p e below s _ _ _ (T3.setTop (mkF m 14 #[.val (.ref r), .val (.ref y0), .val (.ref y1)] [(.ref y1), (.ref r)]))
  obtain ⟨_, _, ⟨T4, L4, k4, n4⟩, -, X4, ⟨Lc4, hQ4, l4, y4, z4⟩, st4⟩ := Jvm.LawKit.callS X3 hx (y := (⟨"java/util/Objects", "requireNonNull", "(Ljava/lang/Object;)Ljava/lang/Object;"⟩ : MethodName)) hown (mvT hZ (hw _ (List.mem_of_getElem? (i := 193) rfl))) (mvT hZ (hw _ (List.mem_of_getElem? (i := 194) rfl))) (mvT hZ (hw _ (List.mem_of_getElem? (i := 195) rfl))) (mvT hZ (hw _ (List.mem_of_getElem? (i := 196) rfl))) (by decide) (backOf (W := 1) (rmRN l Z a0 hw [] y1 h3 n0 Od ) hZ (hw _ (List.mem_of_getElem? (i := 196) rfl)) (hw _ (List.mem_of_getElem? (i := 195) rfl)) (by decide) (by decide)) (g := (mkF m 14 #[.val (.ref r), .val (.ref y0), .val (.ref y1)] [(.ref y1), (.ref r)])) rfl (by rw [hml]; rfl) (argsL := [(.ref y1)]) (rest := [(.ref r)]) (lenOf pd_28Ljava2flang2fObject3b29Ljava2flang2fObject3b rfl) rfl (by show 2 * 0 + _ ≤ _; exact Nat.le_of_eq rfl) (hb hby d43_14) (fun _ _ => ⟨rfl, e3, Nat.le_of_ble_eq_true rfl, Nat.le_of_ble_eq_true rfl⟩)
  dsimp only [Pt.U, Pt.locs, Pt.cells, Pt.slots] at X4 l4 y4 z4 st4 hQ4
  subst l4 y4 z4
  obtain ⟨rfl, N4q, e4⟩ := hQ4
  have N4 := Fr.app N3 N4q
  refine OEnds.via (fun _ k_ => st4 _ k_) ?_
  show OEnds p e below s _ _ _ (T4.setTop (mkF m 17 #[.val (.ref r), .val (.ref y0), .val (.ref y1)] [(.ref y1), (.ref r)]))
  obtain ⟨T5, h5, X5, e5, W5, st5⟩ := putF X4 hx hZ hown (host := "") (Or.inl (hw _ (List.mem_of_getElem? (i := 200) rfl))) Via.refl e4 F_e1_r E_r (Or.inr ⟨(hw _ (List.mem_of_getElem? (i := 201) rfl)), rfl, hnm⟩) (hw _ (List.mem_of_getElem? (i := 173) rfl)) (ty := (.object "java/lang/Object")) (by decide) rfl rfl (g := (mkF m 17 #[.val (.ref r), .val (.ref y0), .val (.ref y1)] [(.ref y1), (.ref r)])) rfl rfl (hb hby d43_17)
  have N5 := Fr.snoc X5 N4 ge_r
  replace Od := Od.wr W5 ge_r
  replace F_e0_r := Fld.other W5 F_e0_r (Or.inr (slot_ne (Or.inr (hw _ (List.mem_of_getElem? (i := 198) rfl))) (Or.inr (hw _ (List.mem_of_getElem? (i := 201) rfl))) (by decide) (t := (.object "java/lang/Object")) (t' := (.object "java/lang/Object")) (by decide) (by decide)))
  replace F_e1_r := Fld.same W5 F_e1_r
  replace E_r := Exa.wr W5 E_r
  replace Kp := Kp.wr W5 (Or.inl (by simp))
  refine OEnds.via (fun _ k_ => st5 _ k_) ?_
  show OEnds p e below s _ _ _ (T5.setTop (mkF m 20 #[.val (.ref r), .val (.ref y0), .val (.ref y1)] []))
  refine OEnds.retV X5 hx hlk Bd.returns (hb hby d43_20) ?_ (by decide) (by decide)
  rw [e5]
  exact ⟨rfl, N5, Kp, E_r, F_e0_r, F_e1_r⟩
theorem d41_0 : decode jdk_40_method_36_code 0 = .ok (.getstatic 90, 3) := by decide +kernel
theorem d41_3 : decode jdk_40_method_36_code 3 = .ok (.areturn, 1) := by decide +kernel
theorem pn_java_util_List : plainName "java/util/List" = true := by first | (simp [plainName, overriddenIn]; done) | decide +kernel
set_option maxRecDepth 65536 in
set_option maxHeartbeats 40000000 in
theorem rmOf0 (l : Launch) (Z : State) (a0 : Array Value) (hw : ∀ d ∈ tables_1, d.before a0 Z = true) (ws : List Jvm.Cond) (el : Addr) (h0 : Heap) (n0 : Nat) (O0 : Old Z n0 h0) (S_el : Sta Z Z.heap "java/util/ImmutableCollections" "EMPTY_LIST" "Ljava/util/ImmutableCollections$ListN;" (.ref el)) :
    MetFree l (⟨"java/util/List", "of", "()Ljava/util/List;"⟩ : MethodName) (head1 (Jvm.Cond.code (⟨"java/util/List", "of", "()Ljava/util/List;"⟩ : MethodName) jdk_40_method_36_code 0 (some (.object "java/util/List")) :: ws) ({ frames := 0, cells := 0, slots := 0, locals := 0 } : Room)) (fun ar' U => ar' = #[] ∧ Z.Warmed39 U.vm ∧ U.heap = h0) (fun _ _ _ _ _ => True) (fun _ U o U' => ∃ v L, o = .returned v ∧ (QA (some (.ref el)) h0 n0) v U'.heap L ∧ FrameEnd U o U' L ({ frames := 0, cells := 0, slots := 0, locals := 0 } : Room).cells ({ frames := 0, cells := 0, slots := 0, locals := 0 } : Room).slots) := by
  refine MetFree.of_bodySF (plainFor_of_name pn_java_util_List) hisR ?_
  intro p e s m args below meth c s₁ Bd hml0 hP hK
  obtain ⟨rfl, hZ, hh⟩ := hP
  have hx := Bd.exec
  have hby := Bd.bytes
  have hlk := BodyLoose.notSynchronized Bd
  have hml : c.maxLocals = 0 := hml0
  have hown : s.vm.findClass "java/util/List" = some m.cls := findClass_of_methodNamed Bd.named
  have hnm := (name_of_methodNamed Bd.named Bd.method).1
  have X0 : Stand p l e ({ frames := 0, cells := 0, slots := 0, locals := 0 } : Room) s m #[] below meth c s₁ [] 0 0 := Stand.of_body Bd
  have e0 : s₁.heap = h0 := by rw [← hh, Bd.state]; rfl
  have N0 := Fr.nil n0
  have Z0 : n0 ≤ h0.size := O0.1 ▸ O0.2.1
  show OEnds p e below s ({ frames := 0, cells := 0, slots := 0, locals := 0 } : Room).cells ({ frames := 0, cells := 0, slots := 0, locals := 0 } : Room).slots (QA (some (.ref el)) h0 n0) (s₁.setTop (entryFrame m #[] 0))
  refine OEnds.via (fun _ k_ => castTop (show entryFrame m #[] 0 = (mkF m 0 #[] []) by first | (simp [entryFrame, mkF, argsToLocals, Value.category, maxLocals]; done) | rfl) k_) ?_
  obtain ⟨T1, X1, e1, st1⟩ := getS2 X0 hx hZ hown (host := "") (Or.inl (hw _ (List.mem_of_getElem? (i := 269) rfl))) Via.refl e0 (Sta.ext O0.2 S_el) (g := (mkF m 0 #[] [])) rfl (hb hby d41_0)
  refine OEnds.via (fun _ k_ => st1 _ k_) ?_
  show OEnds p e below s _ _ _ (T1.setTop (mkF m 3 #[] [(.ref el)]))
  refine OEnds.retR X1 hx hlk Bd.returns rfl rfl (hb hby d41_3) ?_ (by decide) (by decide)
  exact ⟨rfl, N0, e1⟩
theorem d20_0 : decode jdk_38_method_9_code 0 = .ok (.aload_n 0, 1) := by decide +kernel
theorem d20_1 : decode jdk_38_method_9_code 1 = .ok (.getfield 48, 3) := by decide +kernel
theorem d20_4 : decode jdk_38_method_9_code 4 = .ok (.ifCond .ne 7, 3) := by decide +kernel
theorem d20_7 : decode jdk_38_method_9_code 7 = .ok (.iconst 1, 1) := by decide +kernel
theorem d20_8 : decode jdk_38_method_9_code 8 = .ok (.goto 4, 3) := by decide +kernel
theorem d20_11 : decode jdk_38_method_9_code 11 = .ok (.iconst 0, 1) := by decide +kernel
theorem d20_12 : decode jdk_38_method_9_code 12 = .ok (.ireturn, 1) := by decide +kernel
set_option maxRecDepth 65536 in
set_option maxHeartbeats 40000000 in
theorem rmIE0 (l : Launch) (Z : State) (a0 : Array Value) (hw : ∀ d ∈ tables_1, d.before a0 Z = true) (ws : List Jvm.Cond) (r : Addr) (h0 : Heap) (n0 : Nat) (O0 : Old Z n0 h0) (F : Fld Z h0 r "java/util/ArrayList" "size" "I" (.int (0 : Int32))) :
    MetFree l (⟨"java/util/ArrayList", "isEmpty", "()Z"⟩ : MethodName) (head1 (Jvm.Cond.code (⟨"java/util/ArrayList", "isEmpty", "()Z"⟩ : MethodName) jdk_38_method_9_code 1 (some .boolean) :: ws) ({ frames := 0, cells := 0, slots := 0, locals := 0 } : Room)) (fun ar' U => ar' = #[(.ref r)] ∧ Z.Warmed39 U.vm ∧ U.heap = h0) (fun _ _ _ _ _ => True) (fun _ U o U' => ∃ v L, o = .returned v ∧ (QA (some (.int 1)) h0 n0) v U'.heap L ∧ FrameEnd U o U' L ({ frames := 0, cells := 0, slots := 0, locals := 0 } : Room).cells ({ frames := 0, cells := 0, slots := 0, locals := 0 } : Room).slots) := by
  refine MetFree.of_bodySF (plainFor_of_name pn_java_util_ArrayList) hisR ?_
  intro p e s m args below meth c s₁ Bd hml0 hP hK
  obtain ⟨rfl, hZ, hh⟩ := hP
  have hx := Bd.exec
  have hby := Bd.bytes
  have hlk := BodyLoose.notSynchronized Bd
  have hml : c.maxLocals = 1 := hml0
  have hown : s.vm.findClass "java/util/ArrayList" = some m.cls := findClass_of_methodNamed Bd.named
  have hnm := (name_of_methodNamed Bd.named Bd.method).1
  have X0 : Stand p l e ({ frames := 0, cells := 0, slots := 0, locals := 0 } : Room) s m #[(.ref r)] below meth c s₁ [] 0 0 := Stand.of_body Bd
  have e0 : s₁.heap = h0 := by rw [← hh, Bd.state]; rfl
  have N0 := Fr.nil n0
  have Z0 : n0 ≤ h0.size := O0.1 ▸ O0.2.1
  show OEnds p e below s ({ frames := 0, cells := 0, slots := 0, locals := 0 } : Room).cells ({ frames := 0, cells := 0, slots := 0, locals := 0 } : Room).slots (QA (some (.int 1)) h0 n0) (s₁.setTop (entryFrame m #[(.ref r)] 1))
  refine OEnds.via (fun _ k_ => castTop (show entryFrame m #[(.ref r)] 1 = (mkF m 0 #[.val (.ref r)] []) by first | (simp [entryFrame, mkF, argsToLocals, Value.category, maxLocals]; done) | rfl) k_) ?_
  refine OEnds.via (fun _ k_ => XS.aloadN X0.here hx rfl (hb hby d20_0) rfl rfl k_) ?_
  show OEnds p e below s _ _ _ (s₁.setTop (mkF m 1 #[.val (.ref r)] [(.ref r)]))
  obtain ⟨T1, X1, e1, st1⟩ := getF X0 hx hZ hown (host := "") (Or.inl (hw _ (List.mem_of_getElem? (i := 72) rfl))) Via.refl e0 F (g := (mkF m 1 #[.val (.ref r)] [(.ref r)])) rfl rfl (hb hby d20_1)
  refine OEnds.via (fun _ k_ => st1 _ k_) ?_
  show OEnds p e below s _ _ _ (T1.setTop (mkF m 4 #[.val (.ref r)] [(.int (0 : Int32))]))
  refine OEnds.via (fun _ k_ => XS.ifNo X1.here hx rfl (hb hby d20_4) rfl ((if0 _ _).trans (teq (by decide : (0 : Int32) = (0 : Int32))).2) k_) ?_
  show OEnds p e below s _ _ _ (T1.setTop (mkF m 7 #[.val (.ref r)] []))
  refine OEnds.via (fun _ k_ => XS.iconst X1.here hx rfl (hb hby d20_7) k_) ?_
  show OEnds p e below s _ _ _ (T1.setTop (mkF m 8 #[.val (.ref r)] [(.int (1 : Int32))]))
  refine OEnds.via (fun _ k_ => XS.goto X1.here hx rfl (pc0 := 8) (pc' := 12) rfl (hb hby d20_8) (by decide) (by decide) k_) ?_
  show OEnds p e below s _ _ _ (T1.setTop (mkF m 12 #[.val (.ref r)] [(.int (1 : Int32))]))
  refine OEnds.retN X1 hx hlk (t := .boolean) Bd.returns (by simp) (hb hby d20_12) ?_ (by decide) (by decide)
  exact ⟨rfl, N0, e1⟩
set_option maxRecDepth 65536 in
set_option maxHeartbeats 40000000 in
theorem rmIE1 (l : Launch) (Z : State) (a0 : Array Value) (hw : ∀ d ∈ tables_1, d.before a0 Z = true) (ws : List Jvm.Cond) (r : Addr) (h0 : Heap) (n0 : Nat) (O0 : Old Z n0 h0) (F : Fld Z h0 r "java/util/ArrayList" "size" "I" (.int (1 : Int32))) :
    MetFree l (⟨"java/util/ArrayList", "isEmpty", "()Z"⟩ : MethodName) (head1 (Jvm.Cond.code (⟨"java/util/ArrayList", "isEmpty", "()Z"⟩ : MethodName) jdk_38_method_9_code 1 (some .boolean) :: ws) ({ frames := 0, cells := 0, slots := 0, locals := 0 } : Room)) (fun ar' U => ar' = #[(.ref r)] ∧ Z.Warmed39 U.vm ∧ U.heap = h0) (fun _ _ _ _ _ => True) (fun _ U o U' => ∃ v L, o = .returned v ∧ (QA (some (.int 0)) h0 n0) v U'.heap L ∧ FrameEnd U o U' L ({ frames := 0, cells := 0, slots := 0, locals := 0 } : Room).cells ({ frames := 0, cells := 0, slots := 0, locals := 0 } : Room).slots) := by
  refine MetFree.of_bodySF (plainFor_of_name pn_java_util_ArrayList) hisR ?_
  intro p e s m args below meth c s₁ Bd hml0 hP hK
  obtain ⟨rfl, hZ, hh⟩ := hP
  have hx := Bd.exec
  have hby := Bd.bytes
  have hlk := BodyLoose.notSynchronized Bd
  have hml : c.maxLocals = 1 := hml0
  have hown : s.vm.findClass "java/util/ArrayList" = some m.cls := findClass_of_methodNamed Bd.named
  have hnm := (name_of_methodNamed Bd.named Bd.method).1
  have X0 : Stand p l e ({ frames := 0, cells := 0, slots := 0, locals := 0 } : Room) s m #[(.ref r)] below meth c s₁ [] 0 0 := Stand.of_body Bd
  have e0 : s₁.heap = h0 := by rw [← hh, Bd.state]; rfl
  have N0 := Fr.nil n0
  have Z0 : n0 ≤ h0.size := O0.1 ▸ O0.2.1
  show OEnds p e below s ({ frames := 0, cells := 0, slots := 0, locals := 0 } : Room).cells ({ frames := 0, cells := 0, slots := 0, locals := 0 } : Room).slots (QA (some (.int 0)) h0 n0) (s₁.setTop (entryFrame m #[(.ref r)] 1))
  refine OEnds.via (fun _ k_ => castTop (show entryFrame m #[(.ref r)] 1 = (mkF m 0 #[.val (.ref r)] []) by first | (simp [entryFrame, mkF, argsToLocals, Value.category, maxLocals]; done) | rfl) k_) ?_
  refine OEnds.via (fun _ k_ => XS.aloadN X0.here hx rfl (hb hby d20_0) rfl rfl k_) ?_
  show OEnds p e below s _ _ _ (s₁.setTop (mkF m 1 #[.val (.ref r)] [(.ref r)]))
  obtain ⟨T1, X1, e1, st1⟩ := getF X0 hx hZ hown (host := "") (Or.inl (hw _ (List.mem_of_getElem? (i := 72) rfl))) Via.refl e0 F (g := (mkF m 1 #[.val (.ref r)] [(.ref r)])) rfl rfl (hb hby d20_1)
  refine OEnds.via (fun _ k_ => st1 _ k_) ?_
  show OEnds p e below s _ _ _ (T1.setTop (mkF m 4 #[.val (.ref r)] [(.int (1 : Int32))]))
  refine OEnds.via (fun _ k_ => XS.ifYes X1.here hx rfl (pc0 := 4) (pc' := 11) rfl (hb hby d20_4) rfl ((if0 _ _).trans (feq (by decide : ¬ ((1 : Int32) = (0 : Int32)))).2) (by decide) (by decide) k_) ?_
  show OEnds p e below s _ _ _ (T1.setTop (mkF m 11 #[.val (.ref r)] []))
  refine OEnds.via (fun _ k_ => XS.iconst X1.here hx rfl (hb hby d20_11) k_) ?_
  show OEnds p e below s _ _ _ (T1.setTop (mkF m 12 #[.val (.ref r)] [(.int (0 : Int32))]))
  refine OEnds.retN X1 hx hlk (t := .boolean) Bd.returns (by simp) (hb hby d20_12) ?_ (by decide) (by decide)
  exact ⟨rfl, N0, e1⟩
set_option maxRecDepth 65536 in
set_option maxHeartbeats 40000000 in
theorem rmIE2 (l : Launch) (Z : State) (a0 : Array Value) (hw : ∀ d ∈ tables_1, d.before a0 Z = true) (ws : List Jvm.Cond) (r : Addr) (h0 : Heap) (n0 : Nat) (O0 : Old Z n0 h0) (F : Fld Z h0 r "java/util/ArrayList" "size" "I" (.int (2 : Int32))) :
    MetFree l (⟨"java/util/ArrayList", "isEmpty", "()Z"⟩ : MethodName) (head1 (Jvm.Cond.code (⟨"java/util/ArrayList", "isEmpty", "()Z"⟩ : MethodName) jdk_38_method_9_code 1 (some .boolean) :: ws) ({ frames := 0, cells := 0, slots := 0, locals := 0 } : Room)) (fun ar' U => ar' = #[(.ref r)] ∧ Z.Warmed39 U.vm ∧ U.heap = h0) (fun _ _ _ _ _ => True) (fun _ U o U' => ∃ v L, o = .returned v ∧ (QA (some (.int 0)) h0 n0) v U'.heap L ∧ FrameEnd U o U' L ({ frames := 0, cells := 0, slots := 0, locals := 0 } : Room).cells ({ frames := 0, cells := 0, slots := 0, locals := 0 } : Room).slots) := by
  refine MetFree.of_bodySF (plainFor_of_name pn_java_util_ArrayList) hisR ?_
  intro p e s m args below meth c s₁ Bd hml0 hP hK
  obtain ⟨rfl, hZ, hh⟩ := hP
  have hx := Bd.exec
  have hby := Bd.bytes
  have hlk := BodyLoose.notSynchronized Bd
  have hml : c.maxLocals = 1 := hml0
  have hown : s.vm.findClass "java/util/ArrayList" = some m.cls := findClass_of_methodNamed Bd.named
  have hnm := (name_of_methodNamed Bd.named Bd.method).1
  have X0 : Stand p l e ({ frames := 0, cells := 0, slots := 0, locals := 0 } : Room) s m #[(.ref r)] below meth c s₁ [] 0 0 := Stand.of_body Bd
  have e0 : s₁.heap = h0 := by rw [← hh, Bd.state]; rfl
  have N0 := Fr.nil n0
  have Z0 : n0 ≤ h0.size := O0.1 ▸ O0.2.1
  show OEnds p e below s ({ frames := 0, cells := 0, slots := 0, locals := 0 } : Room).cells ({ frames := 0, cells := 0, slots := 0, locals := 0 } : Room).slots (QA (some (.int 0)) h0 n0) (s₁.setTop (entryFrame m #[(.ref r)] 1))
  refine OEnds.via (fun _ k_ => castTop (show entryFrame m #[(.ref r)] 1 = (mkF m 0 #[.val (.ref r)] []) by first | (simp [entryFrame, mkF, argsToLocals, Value.category, maxLocals]; done) | rfl) k_) ?_
  refine OEnds.via (fun _ k_ => XS.aloadN X0.here hx rfl (hb hby d20_0) rfl rfl k_) ?_
  show OEnds p e below s _ _ _ (s₁.setTop (mkF m 1 #[.val (.ref r)] [(.ref r)]))
  obtain ⟨T1, X1, e1, st1⟩ := getF X0 hx hZ hown (host := "") (Or.inl (hw _ (List.mem_of_getElem? (i := 72) rfl))) Via.refl e0 F (g := (mkF m 1 #[.val (.ref r)] [(.ref r)])) rfl rfl (hb hby d20_1)
  refine OEnds.via (fun _ k_ => st1 _ k_) ?_
  show OEnds p e below s _ _ _ (T1.setTop (mkF m 4 #[.val (.ref r)] [(.int (2 : Int32))]))
  refine OEnds.via (fun _ k_ => XS.ifYes X1.here hx rfl (pc0 := 4) (pc' := 11) rfl (hb hby d20_4) rfl ((if0 _ _).trans (feq (by decide : ¬ ((2 : Int32) = (0 : Int32)))).2) (by decide) (by decide) k_) ?_
  show OEnds p e below s _ _ _ (T1.setTop (mkF m 11 #[.val (.ref r)] []))
  refine OEnds.via (fun _ k_ => XS.iconst X1.here hx rfl (hb hby d20_11) k_) ?_
  show OEnds p e below s _ _ _ (T1.setTop (mkF m 12 #[.val (.ref r)] [(.int (0 : Int32))]))
  refine OEnds.retN X1 hx hlk (t := .boolean) Bd.returns (by simp) (hb hby d20_12) ?_ (by decide) (by decide)
  exact ⟨rfl, N0, e1⟩
theorem d24_0 : decode jdk_29_method_69_code 0 = .ok (.iload_n 0, 1) := by decide +kernel
theorem d24_1 : decode jdk_29_method_69_code 1 = .ok (.iload_n 1, 1) := by decide +kernel
theorem d24_2 : decode jdk_29_method_69_code 2 = .ok (.if_icmp .gt 7, 3) := by decide +kernel
theorem d24_5 : decode jdk_29_method_69_code 5 = .ok (.iload_n 0, 1) := by decide +kernel
theorem d24_6 : decode jdk_29_method_69_code 6 = .ok (.goto 4, 3) := by decide +kernel
theorem d24_9 : decode jdk_29_method_69_code 9 = .ok (.iload_n 1, 1) := by decide +kernel
theorem d24_10 : decode jdk_29_method_69_code 10 = .ok (.ireturn, 1) := by decide +kernel
set_option maxRecDepth 65536 in
set_option maxHeartbeats 40000000 in
theorem rmMin1 (l : Launch) (Z : State) (a0 : Array Value) (hw : ∀ d ∈ tables_1, d.before a0 Z = true) (ws : List Jvm.Cond) (h0 : Heap) (n0 : Nat) (O0 : Old Z n0 h0) :
    MetFree l (⟨"java/lang/Math", "min", "(II)I"⟩ : MethodName) (head1 (Jvm.Cond.code (⟨"java/lang/Math", "min", "(II)I"⟩ : MethodName) jdk_29_method_69_code 2 (some .int) :: ws) ({ frames := 0, cells := 0, slots := 0, locals := 0 } : Room)) (fun ar' U => ar' = #[(.int (10 : Int32)), (.int (1 : Int32))] ∧ Z.Warmed39 U.vm ∧ U.heap = h0) (fun _ _ _ _ _ => True) (fun _ U o U' => ∃ v L, o = .returned v ∧ (QA (some (.int 1)) h0 n0) v U'.heap L ∧ FrameEnd U o U' L ({ frames := 0, cells := 0, slots := 0, locals := 0 } : Room).cells ({ frames := 0, cells := 0, slots := 0, locals := 0 } : Room).slots) := by
  refine MetFree.of_bodySF (Jvm.Free.JP.mathPlain rfl (by decide +kernel)) hisR ?_
  intro p e s m args below meth c s₁ Bd hml0 hP hK
  obtain ⟨rfl, hZ, hh⟩ := hP
  have hx := Bd.exec
  have hby := Bd.bytes
  have hlk := BodyLoose.notSynchronized Bd
  have hml : c.maxLocals = 2 := hml0
  have hown : s.vm.findClass "java/lang/Math" = some m.cls := findClass_of_methodNamed Bd.named
  have hnm := (name_of_methodNamed Bd.named Bd.method).1
  have X0 : Stand p l e ({ frames := 0, cells := 0, slots := 0, locals := 0 } : Room) s m #[(.int (10 : Int32)), (.int (1 : Int32))] below meth c s₁ [] 0 0 := Stand.of_body Bd
  have e0 : s₁.heap = h0 := by rw [← hh, Bd.state]; rfl
  have N0 := Fr.nil n0
  have Z0 : n0 ≤ h0.size := O0.1 ▸ O0.2.1
  show OEnds p e below s ({ frames := 0, cells := 0, slots := 0, locals := 0 } : Room).cells ({ frames := 0, cells := 0, slots := 0, locals := 0 } : Room).slots (QA (some (.int 1)) h0 n0) (s₁.setTop (entryFrame m #[(.int (10 : Int32)), (.int (1 : Int32))] 2))
  refine OEnds.via (fun _ k_ => castTop (show entryFrame m #[(.int (10 : Int32)), (.int (1 : Int32))] 2 = (mkF m 0 #[.val (.int (10 : Int32)), .val (.int (1 : Int32))] []) by first | (simp [entryFrame, mkF, argsToLocals, Value.category, maxLocals]; done) | rfl) k_) ?_
  refine OEnds.via (fun _ k_ => XS.iloadN X0.here hx rfl (hb hby d24_0) rfl k_) ?_
  show OEnds p e below s _ _ _ (s₁.setTop (mkF m 1 #[.val (.int (10 : Int32)), .val (.int (1 : Int32))] [(.int (10 : Int32))]))
  refine OEnds.via (fun _ k_ => XS.iloadN X0.here hx rfl (hb hby d24_1) rfl k_) ?_
  show OEnds p e below s _ _ _ (s₁.setTop (mkF m 2 #[.val (.int (10 : Int32)), .val (.int (1 : Int32))] [(.int (1 : Int32)), (.int (10 : Int32))]))
  refine OEnds.via (fun _ k_ => XS.icmpYes X0.here hx rfl (pc0 := 2) (pc' := 9) rfl (hb hby d24_2) rfl (tlt (by decide : (1 : Int32) < (10 : Int32))).2.2.1 (by decide) (by decide) k_) ?_
  show OEnds p e below s _ _ _ (s₁.setTop (mkF m 9 #[.val (.int (10 : Int32)), .val (.int (1 : Int32))] []))
  refine OEnds.via (fun _ k_ => XS.iloadN X0.here hx rfl (hb hby d24_9) rfl k_) ?_
  show OEnds p e below s _ _ _ (s₁.setTop (mkF m 10 #[.val (.int (10 : Int32)), .val (.int (1 : Int32))] [(.int (1 : Int32))]))
  refine OEnds.retI X0 hx hlk Bd.returns (hb hby d24_10) ?_ (by decide) (by decide)
  exact ⟨rfl, N0, e0⟩
theorem d23_0 : decode jdk_65_method_120_code 0 = .ok (.aload_n 2, 1) := by decide +kernel
theorem d23_1 : decode jdk_65_method_120_code 1 = .ok (.ldc 110, 2) := by decide +kernel
theorem d23_3 : decode jdk_65_method_120_code 3 = .ok (.if_acmp .ne 10, 3) := by decide +kernel
theorem d23_6 : decode jdk_65_method_120_code 6 = .ok (.iload_n 1, 1) := by decide +kernel
theorem d23_7 : decode jdk_65_method_120_code 7 = .ok (.anewarray 2, 3) := by decide +kernel
theorem d23_10 : decode jdk_65_method_120_code 10 = .ok (.goto 14, 3) := by decide +kernel
theorem d23_13 : decode jdk_65_method_120_code 13 = .ok (.aload_n 2, 1) := by decide +kernel
theorem d23_14 : decode jdk_65_method_120_code 14 = .ok (.invokevirtual 90, 3) := by decide +kernel
theorem d23_17 : decode jdk_65_method_120_code 17 = .ok (.iload_n 1, 1) := by decide +kernel
theorem d23_18 : decode jdk_65_method_120_code 18 = .ok (.invokestatic 95, 3) := by decide +kernel
theorem d23_21 : decode jdk_65_method_120_code 21 = .ok (.checkcast 110, 3) := by decide +kernel
theorem d23_24 : decode jdk_65_method_120_code 24 = .ok (.astore_n 3, 1) := by decide +kernel
theorem d23_25 : decode jdk_65_method_120_code 25 = .ok (.aload_n 0, 1) := by decide +kernel
theorem d23_26 : decode jdk_65_method_120_code 26 = .ok (.iconst 0, 1) := by decide +kernel
theorem d23_27 : decode jdk_65_method_120_code 27 = .ok (.aload_n 3, 1) := by decide +kernel
theorem d23_28 : decode jdk_65_method_120_code 28 = .ok (.iconst 0, 1) := by decide +kernel
theorem d23_29 : decode jdk_65_method_120_code 29 = .ok (.aload_n 0, 1) := by decide +kernel
theorem d23_30 : decode jdk_65_method_120_code 30 = .ok (.arraylength, 1) := by decide +kernel
theorem d23_31 : decode jdk_65_method_120_code 31 = .ok (.iload_n 1, 1) := by decide +kernel
theorem d23_32 : decode jdk_65_method_120_code 32 = .ok (.invokestatic 304, 3) := by decide +kernel
theorem d23_35 : decode jdk_65_method_120_code 35 = .ok (.invokestatic 150, 3) := by decide +kernel
theorem d23_38 : decode jdk_65_method_120_code 38 = .ok (.aload_n 3, 1) := by decide +kernel
theorem d23_39 : decode jdk_65_method_120_code 39 = .ok (.areturn, 1) := by decide +kernel
theorem pn_java_util_Arrays : plainName "java/util/Arrays" = true := by first | (simp [plainName, overriddenIn]; done) | decide +kernel
def Q_rmC3_1 (Z : State) (d : Addr) (kd : ClassId) (mr : Addr) (y0 : Addr) (h0 : Heap) (n0 : Nat) (v : Option Value) (h : Heap) (L : List Loc) : Prop := ∃ b kb, v = some (.ref b) ∧ Fr n0 L ∧ Keep h0 h [] ∧ n0 ≤ b ∧ h0.size ≤ b ∧ Arv Z h b kb (.object "java/lang/Object") (1 : Int32) [(.ref y0)] .null
theorem pd_28Ljava2flang2fObject3bILjava2flang2fObject3bII29V : parseMethodDescriptor "(Ljava/lang/Object;ILjava/lang/Object;II)V" = some ⟨[(.object "java/lang/Object"), .int, (.object "java/lang/Object"), .int, .int], none⟩ := by decide +kernel
set_option maxRecDepth 65536 in
set_option maxHeartbeats 40000000 in
theorem rmC3_1 (l : Launch) (Z : State) (a0 : Array Value) (hw : ∀ d ∈ tables_1, d.before a0 Z = true) (ws : List Jvm.Cond) (d : Addr) (kd : ClassId) (mr : Addr) (y0 : Addr) (h0 : Heap) (n0 : Nat) (O0 : Old Z n0 h0) (V_d : Arv Z h0 d kd (.object "java/lang/Object") (10 : Int32) [(.ref y0), .null, .null, .null, .null, .null, .null, .null, .null, .null] .null) (E_y0 : Exa Z h0 y0 "com/example/holdfast/holdfast/LockInfo$Reader") (M : Mir Z "[Ljava/lang/Object;" mr) :
    MetFree l (⟨"java/util/Arrays", "copyOf", "([Ljava/lang/Object;ILjava/lang/Class;)[Ljava/lang/Object;"⟩ : MethodName) (head1 (Jvm.Cond.code (⟨"java/util/Arrays", "copyOf", "([Ljava/lang/Object;ILjava/lang/Class;)[Ljava/lang/Object;"⟩ : MethodName) jdk_65_method_120_code 4 (some (.array (.object "java/lang/Object"))) :: ws) ({ frames := 1, cells := 1, slots := 1, locals := 30 } : Room)) (fun ar' U => ar' = #[(.ref d), (.int (1 : Int32)), (.ref mr)] ∧ Z.Warmed39 U.vm ∧ U.heap = h0) (fun _ _ _ _ _ => True) (fun _ U o U' => ∃ v L, o = .returned v ∧ (Q_rmC3_1 Z d kd mr y0 h0 n0) v U'.heap L ∧ FrameEnd U o U' L ({ frames := 1, cells := 1, slots := 1, locals := 30 } : Room).cells ({ frames := 1, cells := 1, slots := 1, locals := 30 } : Room).slots) := by
  refine MetFree.of_bodySF (plainFor_of_name pn_java_util_Arrays) hisR ?_
  intro p e s m args below meth c s₁ Bd hml0 hP hK
  obtain ⟨rfl, hZ, hh⟩ := hP
  have hx := Bd.exec
  have hby := Bd.bytes
  have hlk := BodyLoose.notSynchronized Bd
  have hml : c.maxLocals = 4 := hml0
  have hown : s.vm.findClass "java/util/Arrays" = some m.cls := findClass_of_methodNamed Bd.named
  have hnm := (name_of_methodNamed Bd.named Bd.method).1
  have X0 : Stand p l e ({ frames := 1, cells := 1, slots := 1, locals := 30 } : Room) s m #[(.ref d), (.int (1 : Int32)), (.ref mr)] below meth c s₁ [] 0 0 := Stand.of_body Bd
  have e0 : s₁.heap = h0 := by rw [← hh, Bd.state]; rfl
  have N0 := Fr.nil n0
  have Z0 : n0 ≤ h0.size := O0.1 ▸ O0.2.1
  show OEnds p e below s ({ frames := 1, cells := 1, slots := 1, locals := 30 } : Room).cells ({ frames := 1, cells := 1, slots := 1, locals := 30 } : Room).slots (Q_rmC3_1 Z d kd mr y0 h0 n0) (s₁.setTop (entryFrame m #[(.ref d), (.int (1 : Int32)), (.ref mr)] 4))
  refine OEnds.via (fun _ k_ => castTop (show entryFrame m #[(.ref d), (.int (1 : Int32)), (.ref mr)] 4 = (mkF m 0 #[.val (.ref d), .val (.int (1 : Int32)), .val (.ref mr), .unset] []) by first | (simp [entryFrame, mkF, argsToLocals, Value.category, maxLocals]; done) | rfl) k_) ?_
  have Od := O0
  have Kp := Keep.refl h0 []
  show OEnds p e below s _ _ _ (s₁.setTop (mkF m 0 #[.val (.ref d), .val (.int (1 : Int32)), .val (.ref mr), .unset] []))
  refine OEnds.via (fun _ k_ => XS.aloadN X0.here hx rfl (hb hby d23_0) rfl rfl k_) ?_
  show OEnds p e below s _ _ _ (s₁.setTop (mkF m 1 #[.val (.ref d), .val (.int (1 : Int32)), .val (.ref mr), .unset] [(.ref mr)]))
  obtain ⟨T1, X1, e1, st1⟩ := own_ldcM X0 hx hZ hown (hw _ (List.mem_of_getElem? (i := 160) rfl)) M e0 (g := (mkF m 1 #[.val (.ref d), .val (.int (1 : Int32)), .val (.ref mr), .unset] [(.ref mr)])) rfl (hb hby d23_1)
  refine OEnds.via (fun _ k_ => st1 _ k_) ?_
  show OEnds p e below s _ _ _ (T1.setTop (mkF m 3 #[.val (.ref d), .val (.int (1 : Int32)), .val (.ref mr), .unset] [(.ref mr), (.ref mr)]))
  refine OEnds.via (fun _ k_ => Jvm.RoadKit.acmp (g := (mkF m 3 #[.val (.ref d), .val (.int (1 : Int32)), .val (.ref mr), .unset] [(.ref mr), (.ref mr)])) X1 hx rfl rfl rfl (pc0 := 3) (pc' := 6) (same := true) rfl (hb hby d23_3) rfl (decide_eq_true rfl) (by decide) (by decide) k_) ?_
  show OEnds p e below s _ _ _ (T1.setTop (mkF m 6 #[.val (.ref d), .val (.int (1 : Int32)), .val (.ref mr), .unset] []))
  refine OEnds.via (fun _ k_ => XS.iloadN X1.here hx rfl (hb hby d23_6) rfl k_) ?_
  show OEnds p e below s _ _ _ (T1.setTop (mkF m 7 #[.val (.ref d), .val (.int (1 : Int32)), .val (.ref mr), .unset] [(.int (1 : Int32))]))
  obtain ⟨T2, h2, k2, X2, e2, E2, A2, EX2, O2, st2⟩ := newRE X1 hx hZ hown (hw _ (List.mem_of_getElem? (i := 161) rfl)) (hw _ (List.mem_of_getElem? (i := 94) rfl)) e1 (g := (mkF m 7 #[.val (.ref d), .val (.int (1 : Int32)), .val (.ref mr), .unset] [(.int (1 : Int32))])) rfl (hb hby d23_7) rfl (by decide) (cap := 1) (by decide) (by decide) (by decide) (by decide) (ad := "[Ljava/lang/Object;") rfl
  obtain ⟨b2, g2⟩ : ∃ z, z = h0.size := ⟨_, rfl⟩
  have ne_d_b2 : d ≠ b2 := Nat.ne_of_lt (Nat.lt_of_lt_of_le V_d.lt (Nat.le_of_eq g2.symm))
  have ne_y0_b2 : y0 ≠ b2 := Nat.ne_of_lt (Nat.lt_of_lt_of_le E_y0.lt (Nat.le_of_eq g2.symm))
  have ge_b2 : n0 ≤ b2 := Nat.le_trans (Od.1 ▸ Od.2.1) (Nat.le_of_eq g2.symm)
  have sz_b2 : h0.size ≤ b2 := Nat.le_trans Kp.1 (Nat.le_of_eq g2.symm)
  rw [← g2] at A2 st2 EX2
  replace Od := Od.ext E2
  replace V_d := V_d.ext E2
  replace E_y0 := Exa.ext E2 E_y0
  replace Kp := Kp.ext E2
  have E_b2 : Exa Z h2 b2 "[Ljava/lang/Object;" := EX2
  have V_b2 : Arv Z h2 b2 k2 (.object "java/lang/Object") (1 : Int32) [.null] .null := (Arv.new A2 (by decide)).pad (pad_rep [] .null 1)
  refine OEnds.via (fun _ k_ => st2 _ k_) ?_
  show OEnds p e below s _ _ _ (T2.setTop (mkF m 10 #[.val (.ref d), .val (.int (1 : Int32)), .val (.ref mr), .unset] [(.ref b2)]))
  refine OEnds.via (fun _ k_ => XS.goto X2.here hx rfl (pc0 := 10) (pc' := 24) rfl (hb hby d23_10) (by decide) (by decide) k_) ?_
  show OEnds p e below s _ _ _ (T2.setTop (mkF m 24 #[.val (.ref d), .val (.int (1 : Int32)), .val (.ref mr), .unset] [(.ref b2)]))
  refine OEnds.via (fun _ k_ => XS.astoreN X2.here hx rfl (hb hby d23_24) rfl rfl (l' := #[.val (.ref d), .val (.int (1 : Int32)), .val (.ref mr), .val (.ref b2)]) rfl k_) ?_
  show OEnds p e below s _ _ _ (T2.setTop (mkF m 25 #[.val (.ref d), .val (.int (1 : Int32)), .val (.ref mr), .val (.ref b2)] []))
  refine OEnds.via (fun _ k_ => XS.aloadN X2.here hx rfl (hb hby d23_25) rfl rfl k_) ?_
  show OEnds p e below s _ _ _ (T2.setTop (mkF m 26 #[.val (.ref d), .val (.int (1 : Int32)), .val (.ref mr), .val (.ref b2)] [(.ref d)]))
  refine OEnds.via (fun _ k_ => XS.iconst X2.here hx rfl (hb hby d23_26) k_) ?_
  show OEnds p e below s _ _ _ (T2.setTop (mkF m 27 #[.val (.ref d), .val (.int (1 : Int32)), .val (.ref mr), .val (.ref b2)] [(.int (0 : Int32)), (.ref d)]))
  refine OEnds.via (fun _ k_ => XS.aloadN X2.here hx rfl (hb hby d23_27) rfl rfl k_) ?_
  show OEnds p e below s _ _ _ (T2.setTop (mkF m 28 #[.val (.ref d), .val (.int (1 : Int32)), .val (.ref mr), .val (.ref b2)] [(.ref b2), (.int (0 : Int32)), (.ref d)]))
  refine OEnds.via (fun _ k_ => XS.iconst X2.here hx rfl (hb hby d23_28) k_) ?_
  show OEnds p e below s _ _ _ (T2.setTop (mkF m 29 #[.val (.ref d), .val (.int (1 : Int32)), .val (.ref mr), .val (.ref b2)] [(.int (0 : Int32)), (.ref b2), (.int (0 : Int32)), (.ref d)]))
  refine OEnds.via (fun _ k_ => XS.aloadN X2.here hx rfl (hb hby d23_29) rfl rfl k_) ?_
  show OEnds p e below s _ _ _ (T2.setTop (mkF m 30 #[.val (.ref d), .val (.int (1 : Int32)), .val (.ref mr), .val (.ref b2)] [(.ref d), (.int (0 : Int32)), (.ref b2), (.int (0 : Int32)), (.ref d)]))
  have V3c := V_d
  obtain ⟨cl3, Ar3, q3, S3, M3, H3, -⟩ := V3c
  refine OEnds.via (fun _ k_ => X2.arraylength hx (by rw [e2]; exact Ar3.1) (State.isArrayOf_alike hZ.alike Ar3.2.1) (g := (mkF m 30 #[.val (.ref d), .val (.int (1 : Int32)), .val (.ref mr), .val (.ref b2)] [(.ref d), (.int (0 : Int32)), (.ref b2), (.int (0 : Int32)), (.ref d)])) rfl rfl (hb hby d23_30) _ k_) ?_
  rw [len_of S3 M3]
  show OEnds p e below s _ _ _ (T2.setTop (mkF m 31 #[.val (.ref d), .val (.int (1 : Int32)), .val (.ref mr), .val (.ref b2)] [(.int (10 : Int32)), (.int (0 : Int32)), (.ref b2), (.int (0 : Int32)), (.ref d)]))
  refine OEnds.via (fun _ k_ => XS.iloadN X2.here hx rfl (hb hby d23_31) rfl k_) ?_
  show OEnds p e below s _ _ _ (T2.setTop (mkF m 32 #[.val (.ref d), .val (.int (1 : Int32)), .val (.ref mr), .val (.ref b2)] [(.int (1 : Int32)), (.int (10 : Int32)), (.int (0 : Int32)), (.ref b2), (.int (0 : Int32)), (.ref d)]))
  obtain ⟨_, _, ⟨T4, L4, k4, n4⟩, -, X4, ⟨Lc4, hQ4, l4, y4, z4⟩, st4⟩ := Jvm.LawKit.callS X2 hx (y := (⟨"java/lang/Math", "min", "(II)I"⟩ : MethodName)) hown (mvT hZ (hw _ (List.mem_of_getElem? (i := 162) rfl))) (mvT hZ (hw _ (List.mem_of_getElem? (i := 163) rfl))) (mvT hZ (hw _ (List.mem_of_getElem? (i := 91) rfl))) (mvT hZ (hw _ (List.mem_of_getElem? (i := 164) rfl))) (by decide) (backOf (W := 4) (rmMin1 l Z a0 hw []  h2 n0 Od ) hZ (hw _ (List.mem_of_getElem? (i := 164) rfl)) (hw _ (List.mem_of_getElem? (i := 91) rfl)) (by decide) (by decide)) (g := (mkF m 32 #[.val (.ref d), .val (.int (1 : Int32)), .val (.ref mr), .val (.ref b2)] [(.int (1 : Int32)), (.int (10 : Int32)), (.int (0 : Int32)), (.ref b2), (.int (0 : Int32)), (.ref d)])) rfl (by rw [hml]; rfl) (argsL := [(.int (10 : Int32)), (.int (1 : Int32))]) (rest := [(.int (0 : Int32)), (.ref b2), (.int (0 : Int32)), (.ref d)]) (lenOf pd_28II29I rfl) rfl (by show 2 * 0 + _ ≤ _; exact Nat.le_of_eq rfl) (hb hby d23_32) (fun _ _ => ⟨rfl, e2, Nat.le_of_ble_eq_true rfl, Nat.le_of_ble_eq_true rfl⟩)
  dsimp only [Pt.U, Pt.locs, Pt.cells, Pt.slots] at X4 l4 y4 z4 st4 hQ4
  subst l4 y4 z4
  obtain ⟨rfl, N4q, e4⟩ := hQ4
  have N4 := Fr.app N0 N4q
  refine OEnds.via (fun _ k_ => st4 _ k_) ?_
  show OEnds p e below s _ _ _ (T4.setTop (mkF m 35 #[.val (.ref d), .val (.int (1 : Int32)), .val (.ref mr), .val (.ref b2)] [(.int (1 : Int32)), (.int (0 : Int32)), (.ref b2), (.int (0 : Int32)), (.ref d)]))
  have V5c := V_b2
  obtain ⟨cl5, Ar5, q5, -⟩ := V5c
  obtain ⟨T5, h5, L5, X5, e5, N5, K5, G5, st5⟩ := cpA X4 hx hZ hown (hw _ (List.mem_of_getElem? (i := 165) rfl)) (hw _ (List.mem_of_getElem? (i := 168) rfl)) (hw _ (List.mem_of_getElem? (i := 166) rfl)) (hw _ (List.mem_of_getElem? (i := 167) rfl)) e4 V_d V_b2 (us := [(.ref y0)]) (Or.inr ⟨rfl, rfl, ⟨Sto.ofV Ar5 q5 O2 (Ins.of_exa E_y0 (hw _ (List.mem_of_getElem? (i := 95) rfl))), trivial⟩⟩) (by decide) (by decide) (by decide) (by decide) (by decide) rfl (by decide) N4 ge_b2 (g := (mkF m 35 #[.val (.ref d), .val (.int (1 : Int32)), .val (.ref mr), .val (.ref b2)] [(.int (1 : Int32)), (.int (0 : Int32)), (.ref b2), (.int (0 : Int32)), (.ref d)])) rfl (by rw [hml]; rfl) rfl (hb hby d23_35) (by decide) (W := 0) (by show 2 * 0 + _ ≤ _; exact Nat.le_of_eq rfl) (by decide)
  replace Od := Od.keep K5 (allS ge_b2 all0)
  replace V_d := V_d.keep K5 (ninS ne_d_b2 nin0)
  replace E_y0 := E_y0.keep K5
  replace Kp := Kp.trans K5 (allS (Or.inr sz_b2) all0)
  replace E_b2 := E_b2.keep K5
  have V_b2 : Arv Z h5 b2 k2 (.object "java/lang/Object") (1 : Int32) [(.ref y0)] .null := G5
  refine OEnds.via (fun _ k_ => st5 _ k_) ?_
  show OEnds p e below s _ _ _ (T5.setTop (mkF m 38 #[.val (.ref d), .val (.int (1 : Int32)), .val (.ref mr), .val (.ref b2)] []))
  refine OEnds.via (fun _ k_ => XS.aloadN X5.here hx rfl (hb hby d23_38) rfl rfl k_) ?_
  show OEnds p e below s _ _ _ (T5.setTop (mkF m 39 #[.val (.ref d), .val (.int (1 : Int32)), .val (.ref mr), .val (.ref b2)] [(.ref b2)]))
  refine OEnds.retR X5 hx hlk Bd.returns rfl rfl (hb hby d23_39) ?_ (by decide) (by decide)
  rw [e5]
  exact ⟨_, _, rfl, N5, Kp, ge_b2, sz_b2, V_b2⟩
theorem d22_0 : decode jdk_65_method_119_code 0 = .ok (.aload_n 0, 1) := by decide +kernel
theorem d22_1 : decode jdk_65_method_119_code 1 = .ok (.iload_n 1, 1) := by decide +kernel
theorem d22_2 : decode jdk_65_method_119_code 2 = .ok (.aload_n 0, 1) := by decide +kernel
theorem d22_3 : decode jdk_65_method_119_code 3 = .ok (.invokevirtual 86, 3) := by decide +kernel
theorem d22_6 : decode jdk_65_method_119_code 6 = .ok (.invokestatic 300, 3) := by decide +kernel
theorem d22_9 : decode jdk_65_method_119_code 9 = .ok (.areturn, 1) := by decide +kernel
def Q_rmC2_1 (Z : State) (d : Addr) (kd : ClassId) (mr : Addr) (y0 : Addr) (h0 : Heap) (n0 : Nat) (v : Option Value) (h : Heap) (L : List Loc) : Prop := ∃ b kb, v = some (.ref b) ∧ Fr n0 L ∧ Keep h0 h [] ∧ n0 ≤ b ∧ h0.size ≤ b ∧ Arv Z h b kb (.object "java/lang/Object") (1 : Int32) [(.ref y0)] .null
theorem pd_2829Ljava2flang2fClass3b : parseMethodDescriptor "()Ljava/lang/Class;" = some ⟨[], some (.object "java/lang/Class")⟩ := by decide +kernel
theorem pd_285bLjava2flang2fObject3bILjava2flang2fClass3b295bLjava2flang2fObject3b : parseMethodDescriptor "([Ljava/lang/Object;ILjava/lang/Class;)[Ljava/lang/Object;" = some ⟨[(.array (.object "java/lang/Object")), .int, (.object "java/lang/Class")], some (.array (.object "java/lang/Object"))⟩ := by decide +kernel
set_option maxRecDepth 65536 in
set_option maxHeartbeats 40000000 in
theorem rmC2_1 (l : Launch) (Z : State) (a0 : Array Value) (hw : ∀ d ∈ tables_1, d.before a0 Z = true) (ws : List Jvm.Cond) (d : Addr) (kd : ClassId) (mr : Addr) (y0 : Addr) (h0 : Heap) (n0 : Nat) (O0 : Old Z n0 h0) (V_d : Arv Z h0 d kd (.object "java/lang/Object") (10 : Int32) [(.ref y0), .null, .null, .null, .null, .null, .null, .null, .null, .null] .null) (E_y0 : Exa Z h0 y0 "com/example/holdfast/holdfast/LockInfo$Reader") (M : Mir Z "[Ljava/lang/Object;" mr) (E_d : Exa Z h0 d "[Ljava/lang/Object;") :
    MetFree l (⟨"java/util/Arrays", "copyOf", "([Ljava/lang/Object;I)[Ljava/lang/Object;"⟩ : MethodName) (head1 (Jvm.Cond.code (⟨"java/util/Arrays", "copyOf", "([Ljava/lang/Object;I)[Ljava/lang/Object;"⟩ : MethodName) jdk_65_method_119_code 2 (some (.array (.object "java/lang/Object"))) :: ws) ({ frames := 2, cells := 1, slots := 1, locals := 48 } : Room)) (fun ar' U => ar' = #[(.ref d), (.int (1 : Int32))] ∧ Z.Warmed39 U.vm ∧ U.heap = h0) (fun _ _ _ _ _ => True) (fun _ U o U' => ∃ v L, o = .returned v ∧ (Q_rmC2_1 Z d kd mr y0 h0 n0) v U'.heap L ∧ FrameEnd U o U' L ({ frames := 2, cells := 1, slots := 1, locals := 48 } : Room).cells ({ frames := 2, cells := 1, slots := 1, locals := 48 } : Room).slots) := by
  refine MetFree.of_bodySF (plainFor_of_name pn_java_util_Arrays) hisR ?_
  intro p e s m args below meth c s₁ Bd hml0 hP hK
  obtain ⟨rfl, hZ, hh⟩ := hP
  have hx := Bd.exec
  have hby := Bd.bytes
  have hlk := BodyLoose.notSynchronized Bd
  have hml : c.maxLocals = 2 := hml0
  have hown : s.vm.findClass "java/util/Arrays" = some m.cls := findClass_of_methodNamed Bd.named
  have hnm := (name_of_methodNamed Bd.named Bd.method).1
  have X0 : Stand p l e ({ frames := 2, cells := 1, slots := 1, locals := 48 } : Room) s m #[(.ref d), (.int (1 : Int32))] below meth c s₁ [] 0 0 := Stand.of_body Bd
  have e0 : s₁.heap = h0 := by rw [← hh, Bd.state]; rfl
  have N0 := Fr.nil n0
  have Z0 : n0 ≤ h0.size := O0.1 ▸ O0.2.1
  show OEnds p e below s ({ frames := 2, cells := 1, slots := 1, locals := 48 } : Room).cells ({ frames := 2, cells := 1, slots := 1, locals := 48 } : Room).slots (Q_rmC2_1 Z d kd mr y0 h0 n0) (s₁.setTop (entryFrame m #[(.ref d), (.int (1 : Int32))] 2))
  refine OEnds.via (fun _ k_ => castTop (show entryFrame m #[(.ref d), (.int (1 : Int32))] 2 = (mkF m 0 #[.val (.ref d), .val (.int (1 : Int32))] []) by first | (simp [entryFrame, mkF, argsToLocals, Value.category, maxLocals]; done) | rfl) k_) ?_
  have Od := O0
  show OEnds p e below s _ _ _ (s₁.setTop (mkF m 0 #[.val (.ref d), .val (.int (1 : Int32))] []))
  refine OEnds.via (fun _ k_ => XS.aloadN X0.here hx rfl (hb hby d22_0) rfl rfl k_) ?_
  show OEnds p e below s _ _ _ (s₁.setTop (mkF m 1 #[.val (.ref d), .val (.int (1 : Int32))] [(.ref d)]))
  refine OEnds.via (fun _ k_ => XS.iloadN X0.here hx rfl (hb hby d22_1) rfl k_) ?_
  show OEnds p e below s _ _ _ (s₁.setTop (mkF m 2 #[.val (.ref d), .val (.int (1 : Int32))] [(.int (1 : Int32)), (.ref d)]))
  refine OEnds.via (fun _ k_ => XS.aloadN X0.here hx rfl (hb hby d22_2) rfl rfl k_) ?_
  show OEnds p e below s _ _ _ (s₁.setTop (mkF m 3 #[.val (.ref d), .val (.int (1 : Int32))] [(.ref d), (.int (1 : Int32)), (.ref d)]))
  obtain ⟨T1, X1, e1, st1⟩ := gcls X0 hx hZ hown (hw _ (List.mem_of_getElem? (i := 151) rfl)) (hw _ (List.mem_of_getElem? (i := 152) rfl)) (hw _ (List.mem_of_getElem? (i := 128) rfl)) (hw _ (List.mem_of_getElem? (i := 154) rfl)) (hw _ (List.mem_of_getElem? (i := 153) rfl)) (hw _ (List.mem_of_getElem? (i := 155) rfl)) e0 E_d M (g := (mkF m 3 #[.val (.ref d), .val (.int (1 : Int32))] [(.ref d), (.int (1 : Int32)), (.ref d)])) rfl (by rw [hml]; rfl) rfl (hb hby d22_3) (by decide) (W := 2) (by show 2 * 0 + _ ≤ _; exact Nat.le_of_eq rfl) (by decide)
  refine OEnds.via (fun _ k_ => st1 _ k_) ?_
  show OEnds p e below s _ _ _ (T1.setTop (mkF m 6 #[.val (.ref d), .val (.int (1 : Int32))] [(.ref mr), (.int (1 : Int32)), (.ref d)]))
  obtain ⟨_, _, ⟨T2, L2, k2, n2⟩, -, X2, ⟨Lc2, hQ2, l2, y2, z2⟩, st2⟩ := Jvm.LawKit.callS X1 hx (y := (⟨"java/util/Arrays", "copyOf", "([Ljava/lang/Object;ILjava/lang/Class;)[Ljava/lang/Object;"⟩ : MethodName)) hown (mvT hZ (hw _ (List.mem_of_getElem? (i := 157) rfl))) (mvT hZ (hw _ (List.mem_of_getElem? (i := 158) rfl))) (mvT hZ (hw _ (List.mem_of_getElem? (i := 149) rfl))) (mvT hZ (hw _ (List.mem_of_getElem? (i := 159) rfl))) (by decide) (backOf (W := 0) (rmC3_1 l Z a0 hw [] d kd mr y0 h0 n0 Od V_d E_y0 M) hZ (hw _ (List.mem_of_getElem? (i := 159) rfl)) (hw _ (List.mem_of_getElem? (i := 149) rfl)) (by decide) (by decide)) (g := (mkF m 6 #[.val (.ref d), .val (.int (1 : Int32))] [(.ref mr), (.int (1 : Int32)), (.ref d)])) rfl (by rw [hml]; rfl) (argsL := [(.ref d), (.int (1 : Int32)), (.ref mr)]) (rest := []) (lenOf pd_285bLjava2flang2fObject3bILjava2flang2fClass3b295bLjava2flang2fObject3b rfl) rfl (by show 2 * 0 + _ ≤ _; exact Nat.le_of_eq rfl) (hb hby d22_6) (fun _ _ => ⟨rfl, e1, Nat.le_of_ble_eq_true rfl, Nat.le_of_ble_eq_true rfl⟩)
  dsimp only [Pt.U, Pt.locs, Pt.cells, Pt.slots] at X2 l2 y2 z2 st2 hQ2
  subst l2 y2 z2
  obtain ⟨b, kb, rfl, N2q, R2⟩ := hQ2
  have N2 := Fr.app N0 N2q
  refine OEnds.via (fun _ k_ => st2 _ k_) ?_
  show OEnds p e below s _ _ _ (T2.setTop (mkF m 9 #[.val (.ref d), .val (.int (1 : Int32))] [(.ref b)]))
  refine OEnds.retR X2 hx hlk Bd.returns rfl rfl (hb hby d22_9) ?_ (by decide) (by decide)
  exact ⟨_, _, rfl, N2, R2⟩
theorem d21_0 : decode jdk_38_method_16_code 0 = .ok (.aload_n 0, 1) := by decide +kernel
theorem d21_1 : decode jdk_38_method_16_code 1 = .ok (.getfield 9, 3) := by decide +kernel
theorem d21_4 : decode jdk_38_method_16_code 4 = .ok (.aload_n 0, 1) := by decide +kernel
theorem d21_5 : decode jdk_38_method_16_code 5 = .ok (.getfield 48, 3) := by decide +kernel
theorem d21_8 : decode jdk_38_method_16_code 8 = .ok (.invokestatic 66, 3) := by decide +kernel
theorem d21_11 : decode jdk_38_method_16_code 11 = .ok (.areturn, 1) := by decide +kernel
def Q_rmTA_1 (Z : State) (r : Addr) (d : Addr) (kd : ClassId) (mr : Addr) (y0 : Addr) (h0 : Heap) (n0 : Nat) (v : Option Value) (h : Heap) (L : List Loc) : Prop := ∃ b kb, v = some (.ref b) ∧ Fr n0 L ∧ Keep h0 h [] ∧ n0 ≤ b ∧ h0.size ≤ b ∧ Arv Z h b kb (.object "java/lang/Object") (1 : Int32) [(.ref y0)] .null
set_option maxRecDepth 65536 in
set_option maxHeartbeats 40000000 in
theorem rmTA_1 (l : Launch) (Z : State) (a0 : Array Value) (hw : ∀ d ∈ tables_1, d.before a0 Z = true) (ws : List Jvm.Cond) (r : Addr) (d : Addr) (kd : ClassId) (mr : Addr) (y0 : Addr) (h0 : Heap) (n0 : Nat) (O0 : Old Z n0 h0) (F_ed : Fld Z h0 r "java/util/ArrayList" "elementData" "[Ljava/lang/Object;" (.ref d)) (F_sz : Fld Z h0 r "java/util/ArrayList" "size" "I" (.int (1 : Int32))) (V_d : Arv Z h0 d kd (.object "java/lang/Object") (10 : Int32) [(.ref y0), .null, .null, .null, .null, .null, .null, .null, .null, .null] .null) (E_y0 : Exa Z h0 y0 "com/example/holdfast/holdfast/LockInfo$Reader") (M : Mir Z "[Ljava/lang/Object;" mr) (E_d : Exa Z h0 d "[Ljava/lang/Object;") :
    MetFree l (⟨"java/util/ArrayList", "toArray", "()[Ljava/lang/Object;"⟩ : MethodName) (head1 (Jvm.Cond.code (⟨"java/util/ArrayList", "toArray", "()[Ljava/lang/Object;"⟩ : MethodName) jdk_38_method_16_code 1 (some (.array (.object "java/lang/Object"))) :: ws) ({ frames := 3, cells := 1, slots := 1, locals := 64 } : Room)) (fun ar' U => ar' = #[(.ref r)] ∧ Z.Warmed39 U.vm ∧ U.heap = h0) (fun _ _ _ _ _ => True) (fun _ U o U' => ∃ v L, o = .returned v ∧ (Q_rmTA_1 Z r d kd mr y0 h0 n0) v U'.heap L ∧ FrameEnd U o U' L ({ frames := 3, cells := 1, slots := 1, locals := 64 } : Room).cells ({ frames := 3, cells := 1, slots := 1, locals := 64 } : Room).slots) := by
  refine MetFree.of_bodySF (plainFor_of_name pn_java_util_ArrayList) hisR ?_
  intro p e s m args below meth c s₁ Bd hml0 hP hK
  obtain ⟨rfl, hZ, hh⟩ := hP
  have hx := Bd.exec
  have hby := Bd.bytes
  have hlk := BodyLoose.notSynchronized Bd
  have hml : c.maxLocals = 1 := hml0
  have hown : s.vm.findClass "java/util/ArrayList" = some m.cls := findClass_of_methodNamed Bd.named
  have hnm := (name_of_methodNamed Bd.named Bd.method).1
  have X0 : Stand p l e ({ frames := 3, cells := 1, slots := 1, locals := 64 } : Room) s m #[(.ref r)] below meth c s₁ [] 0 0 := Stand.of_body Bd
  have e0 : s₁.heap = h0 := by rw [← hh, Bd.state]; rfl
  have N0 := Fr.nil n0
  have Z0 : n0 ≤ h0.size := O0.1 ▸ O0.2.1
  show OEnds p e below s ({ frames := 3, cells := 1, slots := 1, locals := 64 } : Room).cells ({ frames := 3, cells := 1, slots := 1, locals := 64 } : Room).slots (Q_rmTA_1 Z r d kd mr y0 h0 n0) (s₁.setTop (entryFrame m #[(.ref r)] 1))
  refine OEnds.via (fun _ k_ => castTop (show entryFrame m #[(.ref r)] 1 = (mkF m 0 #[.val (.ref r)] []) by first | (simp [entryFrame, mkF, argsToLocals, Value.category, maxLocals]; done) | rfl) k_) ?_
  have Od := O0
  show OEnds p e below s _ _ _ (s₁.setTop (mkF m 0 #[.val (.ref r)] []))
  refine OEnds.via (fun _ k_ => XS.aloadN X0.here hx rfl (hb hby d21_0) rfl rfl k_) ?_
  show OEnds p e below s _ _ _ (s₁.setTop (mkF m 1 #[.val (.ref r)] [(.ref r)]))
  obtain ⟨T1, X1, e1, st1⟩ := getF X0 hx hZ hown (host := "") (Or.inl (hw _ (List.mem_of_getElem? (i := 63) rfl))) Via.refl e0 F_ed (g := (mkF m 1 #[.val (.ref r)] [(.ref r)])) rfl rfl (hb hby d21_1)
  refine OEnds.via (fun _ k_ => st1 _ k_) ?_
  show OEnds p e below s _ _ _ (T1.setTop (mkF m 4 #[.val (.ref r)] [(.ref d)]))
  refine OEnds.via (fun _ k_ => XS.aloadN X1.here hx rfl (hb hby d21_4) rfl rfl k_) ?_
  show OEnds p e below s _ _ _ (T1.setTop (mkF m 5 #[.val (.ref r)] [(.ref r), (.ref d)]))
  obtain ⟨T2, X2, e2, st2⟩ := getF X1 hx hZ hown (host := "") (Or.inl (hw _ (List.mem_of_getElem? (i := 72) rfl))) Via.refl e1 F_sz (g := (mkF m 5 #[.val (.ref r)] [(.ref r), (.ref d)])) rfl rfl (hb hby d21_5)
  refine OEnds.via (fun _ k_ => st2 _ k_) ?_
  show OEnds p e below s _ _ _ (T2.setTop (mkF m 8 #[.val (.ref r)] [(.int (1 : Int32)), (.ref d)]))
  obtain ⟨_, _, ⟨T3, L3, k3, n3⟩, -, X3, ⟨Lc3, hQ3, l3, y3, z3⟩, st3⟩ := Jvm.LawKit.callS X2 hx (y := (⟨"java/util/Arrays", "copyOf", "([Ljava/lang/Object;I)[Ljava/lang/Object;"⟩ : MethodName)) hown (mvT hZ (hw _ (List.mem_of_getElem? (i := 147) rfl))) (mvT hZ (hw _ (List.mem_of_getElem? (i := 148) rfl))) (mvT hZ (hw _ (List.mem_of_getElem? (i := 149) rfl))) (mvT hZ (hw _ (List.mem_of_getElem? (i := 150) rfl))) (by decide) (backOf (W := 0) (rmC2_1 l Z a0 hw [] d kd mr y0 h0 n0 Od V_d E_y0 M E_d) hZ (hw _ (List.mem_of_getElem? (i := 150) rfl)) (hw _ (List.mem_of_getElem? (i := 149) rfl)) (by decide) (by decide)) (g := (mkF m 8 #[.val (.ref r)] [(.int (1 : Int32)), (.ref d)])) rfl (by rw [hml]; rfl) (argsL := [(.ref d), (.int (1 : Int32))]) (rest := []) (lenOf pd_285bLjava2flang2fObject3bI295bLjava2flang2fObject3b rfl) rfl (by show 2 * 0 + _ ≤ _; exact Nat.le_of_eq rfl) (hb hby d21_8) (fun _ _ => ⟨rfl, e2, Nat.le_of_ble_eq_true rfl, Nat.le_of_ble_eq_true rfl⟩)
  dsimp only [Pt.U, Pt.locs, Pt.cells, Pt.slots] at X3 l3 y3 z3 st3 hQ3
  subst l3 y3 z3
  obtain ⟨b, kb, rfl, N3q, R3⟩ := hQ3
  have N3 := Fr.app N0 N3q
  refine OEnds.via (fun _ k_ => st3 _ k_) ?_
  show OEnds p e below s _ _ _ (T3.setTop (mkF m 11 #[.val (.ref r)] [(.ref b)]))
  refine OEnds.retR X3 hx hlk Bd.returns rfl rfl (hb hby d21_11) ?_ (by decide) (by decide)
  exact ⟨_, _, rfl, N3, R3⟩
theorem d25_0 : decode jdk_40_method_47_code 0 = .ok (.aload_n 0, 1) := by decide +kernel
theorem d25_1 : decode jdk_40_method_47_code 1 = .ok (.arraylength, 1) := by decide +kernel
theorem d25_2 : decode jdk_40_method_47_code 2 = .ok (.tableswitch 57 0 2 #[26, 32, 43], 26) := by decide +kernel
theorem d25_28 : decode jdk_40_method_47_code 28 = .ok (.getstatic 90, 3) := by decide +kernel
theorem d25_31 : decode jdk_40_method_47_code 31 = .ok (.astore_n 1, 1) := by decide +kernel
theorem d25_32 : decode jdk_40_method_47_code 32 = .ok (.aload_n 1, 1) := by decide +kernel
theorem d25_33 : decode jdk_40_method_47_code 33 = .ok (.areturn, 1) := by decide +kernel
theorem d25_34 : decode jdk_40_method_47_code 34 = .ok (.new 96, 3) := by decide +kernel
theorem d25_37 : decode jdk_40_method_47_code 37 = .ok (.dup, 1) := by decide +kernel
theorem d25_38 : decode jdk_40_method_47_code 38 = .ok (.aload_n 0, 1) := by decide +kernel
theorem d25_39 : decode jdk_40_method_47_code 39 = .ok (.iconst 0, 1) := by decide +kernel
theorem d25_40 : decode jdk_40_method_47_code 40 = .ok (.aaload, 1) := by decide +kernel
theorem d25_41 : decode jdk_40_method_47_code 41 = .ok (.invokespecial 98, 3) := by decide +kernel
theorem d25_44 : decode jdk_40_method_47_code 44 = .ok (.areturn, 1) := by decide +kernel
theorem d25_45 : decode jdk_40_method_47_code 45 = .ok (.new 96, 3) := by decide +kernel
theorem d25_48 : decode jdk_40_method_47_code 48 = .ok (.dup, 1) := by decide +kernel
theorem d25_49 : decode jdk_40_method_47_code 49 = .ok (.aload_n 0, 1) := by decide +kernel
theorem d25_50 : decode jdk_40_method_47_code 50 = .ok (.iconst 0, 1) := by decide +kernel
theorem d25_51 : decode jdk_40_method_47_code 51 = .ok (.aaload, 1) := by decide +kernel
theorem d25_52 : decode jdk_40_method_47_code 52 = .ok (.aload_n 0, 1) := by decide +kernel
theorem d25_53 : decode jdk_40_method_47_code 53 = .ok (.iconst 1, 1) := by decide +kernel
theorem d25_54 : decode jdk_40_method_47_code 54 = .ok (.aaload, 1) := by decide +kernel
theorem d25_55 : decode jdk_40_method_47_code 55 = .ok (.invokespecial 100, 3) := by decide +kernel
theorem d25_58 : decode jdk_40_method_47_code 58 = .ok (.areturn, 1) := by decide +kernel
theorem d25_59 : decode jdk_40_method_47_code 59 = .ok (.aload_n 0, 1) := by decide +kernel
theorem d25_60 : decode jdk_40_method_47_code 60 = .ok (.invokestatic 109, 3) := by decide +kernel
theorem d25_63 : decode jdk_40_method_47_code 63 = .ok (.areturn, 1) := by decide +kernel
def Q_rmOf_1 (Z : State) (b : Addr) (kb : ClassId) (em : Addr) (y0 : Addr) (h0 : Heap) (n0 : Nat) (v : Option Value) (h : Heap) (L : List Loc) : Prop := ∃ q, v = some (.ref q) ∧ Fr n0 L ∧ Keep h0 h [] ∧ n0 ≤ q ∧ h0.size ≤ q ∧ Exa Z h q "java/util/ImmutableCollections$List12" ∧ Fld Z h q "java/util/ImmutableCollections$List12" "e0" "Ljava/lang/Object;" (.ref y0) ∧ Fld Z h q "java/util/ImmutableCollections$List12" "e1" "Ljava/lang/Object;" (.ref em)
theorem pd_28Ljava2flang2fObject3b29V : parseMethodDescriptor "(Ljava/lang/Object;)V" = some ⟨[(.object "java/lang/Object")], none⟩ := by decide +kernel
theorem pd_28Ljava2flang2fObject3bLjava2flang2fObject3b29V : parseMethodDescriptor "(Ljava/lang/Object;Ljava/lang/Object;)V" = some ⟨[(.object "java/lang/Object"), (.object "java/lang/Object")], none⟩ := by decide +kernel
set_option maxRecDepth 65536 in
set_option maxHeartbeats 40000000 in
theorem rmOf_1 (l : Launch) (Z : State) (a0 : Array Value) (hw : ∀ d ∈ tables_1, d.before a0 Z = true) (ws : List Jvm.Cond) (b : Addr) (kb : ClassId) (em : Addr) (y0 : Addr) (h0 : Heap) (n0 : Nat) (O0 : Old Z n0 h0) (V_b : Arv Z h0 b kb (.object "java/lang/Object") (1 : Int32) [(.ref y0)] .null) (S_em : Sta Z Z.heap "java/util/ImmutableCollections" "EMPTY" "Ljava/lang/Object;" (.ref em)) :
    MetFree l (⟨"java/util/List", "of", "([Ljava/lang/Object;)Ljava/util/List;"⟩ : MethodName) (head1 (Jvm.Cond.code (⟨"java/util/List", "of", "([Ljava/lang/Object;)Ljava/util/List;"⟩ : MethodName) jdk_40_method_47_code 2 (some (.object "java/util/List")) :: ws) ({ frames := 5, cells := 1, slots := 2, locals := 72 } : Room)) (fun ar' U => ar' = #[(.ref b)] ∧ Z.Warmed39 U.vm ∧ U.heap = h0) (fun _ _ _ _ _ => True) (fun _ U o U' => ∃ v L, o = .returned v ∧ (Q_rmOf_1 Z b kb em y0 h0 n0) v U'.heap L ∧ FrameEnd U o U' L ({ frames := 5, cells := 1, slots := 2, locals := 72 } : Room).cells ({ frames := 5, cells := 1, slots := 2, locals := 72 } : Room).slots) := by
  refine MetFree.of_bodySF (plainFor_of_name pn_java_util_List) hisR ?_
  intro p e s m args below meth c s₁ Bd hml0 hP hK
  obtain ⟨rfl, hZ, hh⟩ := hP
  have hx := Bd.exec
  have hby := Bd.bytes
  have hlk := BodyLoose.notSynchronized Bd
  have hml : c.maxLocals = 2 := hml0
  have hown : s.vm.findClass "java/util/List" = some m.cls := findClass_of_methodNamed Bd.named
  have hnm := (name_of_methodNamed Bd.named Bd.method).1
  have X0 : Stand p l e ({ frames := 5, cells := 1, slots := 2, locals := 72 } : Room) s m #[(.ref b)] below meth c s₁ [] 0 0 := Stand.of_body Bd
  have e0 : s₁.heap = h0 := by rw [← hh, Bd.state]; rfl
  have N0 := Fr.nil n0
  have Z0 : n0 ≤ h0.size := O0.1 ▸ O0.2.1
  show OEnds p e below s ({ frames := 5, cells := 1, slots := 2, locals := 72 } : Room).cells ({ frames := 5, cells := 1, slots := 2, locals := 72 } : Room).slots (Q_rmOf_1 Z b kb em y0 h0 n0) (s₁.setTop (entryFrame m #[(.ref b)] 2))
  refine OEnds.via (fun _ k_ => castTop (show entryFrame m #[(.ref b)] 2 = (mkF m 0 #[.val (.ref b), .unset] []) by first | (simp [entryFrame, mkF, argsToLocals, Value.category, maxLocals]; done) | rfl) k_) ?_
  have Od := O0
  have Kp := Keep.refl h0 []
  show OEnds p e below s _ _ _ (s₁.setTop (mkF m 0 #[.val (.ref b), .unset] []))
  refine OEnds.via (fun _ k_ => XS.aloadN X0.here hx rfl (hb hby d25_0) rfl rfl k_) ?_
  show OEnds p e below s _ _ _ (s₁.setTop (mkF m 1 #[.val (.ref b), .unset] [(.ref b)]))
  have V1c := V_b
  obtain ⟨cl1, Ar1, q1, S1, M1, H1, -⟩ := V1c
  refine OEnds.via (fun _ k_ => X0.arraylength hx (by rw [e0]; exact Ar1.1) (State.isArrayOf_alike hZ.alike Ar1.2.1) (g := (mkF m 1 #[.val (.ref b), .unset] [(.ref b)])) rfl rfl (hb hby d25_1) _ k_) ?_
  rw [len_of S1 M1]
  show OEnds p e below s _ _ _ (s₁.setTop (mkF m 2 #[.val (.ref b), .unset] [(.int (1 : Int32))]))
  refine OEnds.via (fun _ k_ => X0.tableswitchIn hx (g := (mkF m 2 #[.val (.ref b), .unset] [(.int (1 : Int32))])) rfl rfl (hb hby d25_2) (by decide) (off := 32) rfl (show (0 : Int) ≤ 2 + 32 by decide) _ k_) ?_
  show OEnds p e below s _ _ _ (s₁.setTop (mkF m 34 #[.val (.ref b), .unset] []))
  obtain ⟨T2, h2, X2, e2, E2, A2, D2, -, st2⟩ := newO X0 hx hZ hown (hw _ (List.mem_of_getElem? (i := 172) rfl)) (hw _ (List.mem_of_getElem? (i := 173) rfl)) (hw _ (List.mem_of_getElem? (i := 174) rfl)) e0 (g := (mkF m 34 #[.val (.ref b), .unset] [])) rfl (hb hby d25_34) (by decide) (by decide)
  obtain ⟨b2, g2⟩ : ∃ z, z = h0.size := ⟨_, rfl⟩
  have ne_b_b2 : b ≠ b2 := Nat.ne_of_lt (Nat.lt_of_lt_of_le V_b.lt (Nat.le_of_eq g2.symm))
  have ge_b2 : n0 ≤ b2 := Nat.le_trans (Od.1 ▸ Od.2.1) (Nat.le_of_eq g2.symm)
  have sz_b2 : h0.size ≤ b2 := Nat.le_trans Kp.1 (Nat.le_of_eq g2.symm)
  rw [← g2] at A2 D2 st2
  replace Od := Od.ext E2
  replace V_b := V_b.ext E2
  replace Kp := Kp.ext E2
  have E_b2 : Exa Z h2 b2 "java/util/ImmutableCollections$List12" := A2
  have F_e0_b2 : Fld Z h2 b2 "java/util/ImmutableCollections$List12" "e0" "Ljava/lang/Object;" .null := D2 (Or.inr (hw _ (List.mem_of_getElem? (i := 198) rfl))) (ty := (.object "java/lang/Object")) (by decide)
  have F_e1_b2 : Fld Z h2 b2 "java/util/ImmutableCollections$List12" "e1" "Ljava/lang/Object;" .null := D2 (Or.inr (hw _ (List.mem_of_getElem? (i := 201) rfl))) (ty := (.object "java/lang/Object")) (by decide)
  refine OEnds.via (fun _ k_ => st2 _ k_) ?_
  show OEnds p e below s _ _ _ (T2.setTop (mkF m 37 #[.val (.ref b), .unset] [(.ref b2)]))
  refine OEnds.via (fun _ k_ => XS.dup X2.here hx rfl (hb hby d25_37) rfl rfl k_) ?_
  show OEnds p e below s _ _ _ (T2.setTop (mkF m 38 #[.val (.ref b), .unset] [(.ref b2), (.ref b2)]))
  refine OEnds.via (fun _ k_ => XS.aloadN X2.here hx rfl (hb hby d25_38) rfl rfl k_) ?_
  show OEnds p e below s _ _ _ (T2.setTop (mkF m 39 #[.val (.ref b), .unset] [(.ref b), (.ref b2), (.ref b2)]))
  refine OEnds.via (fun _ k_ => XS.iconst X2.here hx rfl (hb hby d25_39) k_) ?_
  show OEnds p e below s _ _ _ (T2.setTop (mkF m 40 #[.val (.ref b), .unset] [(.int (0 : Int32)), (.ref b), (.ref b2), (.ref b2)]))
  have V3c := V_b
  obtain ⟨cl3, Ar3, q3, S3, M3, H3, -⟩ := V3c
  refine OEnds.via (fun _ k_ => X2.aaload hx (j := (0 : Int32)) (v := (.ref y0)) (by rw [e2]; exact Ar3.1) (State.isArrayOf_alike hZ.alike Ar3.2.1) rfl Ar3.2.2 (inb_of S3 ⟨by decide, by decide⟩) (H3 0 (by rw [S3]; decide)) (g := (mkF m 40 #[.val (.ref b), .unset] [(.int (0 : Int32)), (.ref b), (.ref b2), (.ref b2)])) rfl rfl (hb hby d25_40) _ k_) ?_
  show OEnds p e below s _ _ _ (T2.setTop (mkF m 41 #[.val (.ref b), .unset] [(.ref y0), (.ref b2), (.ref b2)]))
  obtain ⟨_, _, ⟨T4, L4, k4, n4⟩, -, X4, ⟨Lc4, hQ4, l4, y4, z4⟩, st4⟩ := X2.specialBack hx (y := (⟨"java/util/ImmutableCollections$List12", "<init>", "(Ljava/lang/Object;)V"⟩ : MethodName)) rfl hown (mvT hZ (hw _ (List.mem_of_getElem? (i := 175) rfl))) (mvT hZ (hw _ (List.mem_of_getElem? (i := 176) rfl))) (mvT hZ (hw _ (List.mem_of_getElem? (i := 178) rfl))) (by decide) (backOf (W := 1) (rmI12_1 l Z a0 hw [] b2 y0 em h2 n0 Od F_e0_b2 F_e1_b2 E_b2 ge_b2 S_em) hZ (hw _ (List.mem_of_getElem? (i := 178) rfl)) (hw _ (List.mem_of_getElem? (i := 174) rfl)) (by decide) (by decide)) (g := (mkF m 41 #[.val (.ref b), .unset] [(.ref y0), (.ref b2), (.ref b2)])) rfl (by rw [hml]; rfl) (Steps.refl _) (a := b2) (argsL := [(.ref y0)]) (rest := [(.ref b2)]) (lenOf pd_28Ljava2flang2fObject3b29V rfl) rfl (by show 2 * 0 + _ ≤ _; exact Nat.le_of_eq rfl) (hb hby d25_41) (fun _ _ => ⟨rfl, e2, Nat.le_of_ble_eq_true rfl, Nat.le_of_ble_eq_true rfl⟩)
  dsimp only [Pt.U, Pt.locs, Pt.cells, Pt.slots] at X4 l4 y4 z4 st4 hQ4
  subst l4 y4 z4
  obtain ⟨rfl, N4q, K4, -, G0, G1⟩ := hQ4
  have N4 := Fr.app N0 N4q
  replace Od := Od.keep K4 (allS ge_b2 all0)
  replace V_b := V_b.keep K4 (ninS ne_b_b2 nin0)
  replace Kp := Kp.trans K4 (allS (Or.inr sz_b2) all0)
  replace E_b2 := E_b2.keep K4
  refine OEnds.via (fun _ k_ => st4.trans k_) ?_
  show OEnds p e below s _ _ _ (T4.setTop (mkF m 44 #[.val (.ref b), .unset] [(.ref b2)]))
  refine OEnds.retR X4 hx hlk Bd.returns rfl rfl (hb hby d25_44) ?_ (by decide) (by decide)
  exact ⟨_, rfl, N4, Kp, ge_b2, sz_b2, E_b2, G0, G1⟩
theorem d19_0 : decode jdk_56_method_3_code 0 = .ok (.aload_n 0, 1) := by decide +kernel
theorem d19_1 : decode jdk_56_method_3_code 1 = .ok (.instanceof 10, 3) := by decide +kernel
theorem d19_4 : decode jdk_56_method_3_code 4 = .ok (.ifCond .ne 22, 3) := by decide +kernel
theorem d19_7 : decode jdk_56_method_3_code 7 = .ok (.aload_n 0, 1) := by decide +kernel
theorem d19_8 : decode jdk_56_method_3_code 8 = .ok (.instanceof 12, 3) := by decide +kernel
theorem d19_11 : decode jdk_56_method_3_code 11 = .ok (.ifCond .eq 20, 3) := by decide +kernel
theorem d19_14 : decode jdk_56_method_3_code 14 = .ok (.aload_n 0, 1) := by decide +kernel
theorem d19_15 : decode jdk_56_method_3_code 15 = .ok (.checkcast 12, 3) := by decide +kernel
theorem d19_18 : decode jdk_56_method_3_code 18 = .ok (.astore_n 1, 1) := by decide +kernel
theorem d19_19 : decode jdk_56_method_3_code 19 = .ok (.aload_n 1, 1) := by decide +kernel
theorem d19_20 : decode jdk_56_method_3_code 20 = .ok (.getfield 14, 3) := by decide +kernel
theorem d19_23 : decode jdk_56_method_3_code 23 = .ok (.ifCond .ne 8, 3) := by decide +kernel
theorem d19_26 : decode jdk_56_method_3_code 26 = .ok (.aload_n 0, 1) := by decide +kernel
theorem d19_27 : decode jdk_56_method_3_code 27 = .ok (.checkcast 18, 3) := by decide +kernel
theorem d19_30 : decode jdk_56_method_3_code 30 = .ok (.areturn, 1) := by decide +kernel
theorem d19_31 : decode jdk_56_method_3_code 31 = .ok (.aload_n 0, 1) := by decide +kernel
theorem d19_32 : decode jdk_56_method_3_code 32 = .ok (.invokeinterface 20 1, 5) := by decide +kernel
theorem d19_37 : decode jdk_56_method_3_code 37 = .ok (.ifCond .eq 7, 3) := by decide +kernel
theorem d19_40 : decode jdk_56_method_3_code 40 = .ok (.invokestatic 26, 3) := by decide +kernel
theorem d19_43 : decode jdk_56_method_3_code 43 = .ok (.areturn, 1) := by decide +kernel
theorem d19_44 : decode jdk_56_method_3_code 44 = .ok (.aload_n 0, 1) := by decide +kernel
theorem d19_45 : decode jdk_56_method_3_code 45 = .ok (.invokeinterface 30 1, 5) := by decide +kernel
theorem d19_50 : decode jdk_56_method_3_code 50 = .ok (.invokestatic 34, 3) := by decide +kernel
theorem d19_53 : decode jdk_56_method_3_code 53 = .ok (.areturn, 1) := by decide +kernel
theorem pn_java_util_ImmutableCollections : plainName "java/util/ImmutableCollections" = true := by first | (simp [plainName, overriddenIn]; done) | decide +kernel
def Q_rmLC_1 (Z : State) (r : Addr) (d : Addr) (kd : ClassId) (mr : Addr) (em : Addr) (y0 : Addr) (h0 : Heap) (n0 : Nat) (v : Option Value) (h : Heap) (L : List Loc) : Prop := ∃ q, v = some (.ref q) ∧ Fr n0 L ∧ Keep h0 h [] ∧ n0 ≤ q ∧ h0.size ≤ q ∧ Exa Z h q "java/util/ImmutableCollections$List12" ∧ Fld Z h q "java/util/ImmutableCollections$List12" "e0" "Ljava/lang/Object;" (.ref y0) ∧ Fld Z h q "java/util/ImmutableCollections$List12" "e1" "Ljava/lang/Object;" (.ref em)
theorem pd_2829Ljava2futil2fList3b : parseMethodDescriptor "()Ljava/util/List;" = some ⟨[], some (.object "java/util/List")⟩ := by decide +kernel
theorem pd_2829Z : parseMethodDescriptor "()Z" = some ⟨[], some .boolean⟩ := by decide +kernel
theorem pd_285bLjava2flang2fObject3b29Ljava2futil2fList3b : parseMethodDescriptor "([Ljava/lang/Object;)Ljava/util/List;" = some ⟨[(.array (.object "java/lang/Object"))], some (.object "java/util/List")⟩ := by decide +kernel
set_option maxRecDepth 65536 in
set_option maxHeartbeats 40000000 in
theorem rmLC_1 (l : Launch) (Z : State) (a0 : Array Value) (hw : ∀ d ∈ tables_1, d.before a0 Z = true) (ws : List Jvm.Cond) (r : Addr) (d : Addr) (kd : ClassId) (mr : Addr) (em : Addr) (y0 : Addr) (h0 : Heap) (n0 : Nat) (O0 : Old Z n0 h0) (F_ed : Fld Z h0 r "java/util/ArrayList" "elementData" "[Ljava/lang/Object;" (.ref d)) (F_sz : Fld Z h0 r "java/util/ArrayList" "size" "I" (.int (1 : Int32))) (E_r : Exa Z h0 r "java/util/ArrayList") (V_d : Arv Z h0 d kd (.object "java/lang/Object") (10 : Int32) [(.ref y0), .null, .null, .null, .null, .null, .null, .null, .null, .null] .null) (E_y0 : Exa Z h0 y0 "com/example/holdfast/holdfast/LockInfo$Reader") (M : Mir Z "[Ljava/lang/Object;" mr) (E_d : Exa Z h0 d "[Ljava/lang/Object;") (S_em : Sta Z Z.heap "java/util/ImmutableCollections" "EMPTY" "Ljava/lang/Object;" (.ref em)) :
    MetFree l (⟨"java/util/ImmutableCollections", "listCopy", "(Ljava/util/Collection;)Ljava/util/List;"⟩ : MethodName) (head1 (Jvm.Cond.code (⟨"java/util/ImmutableCollections", "listCopy", "(Ljava/util/Collection;)Ljava/util/List;"⟩ : MethodName) jdk_56_method_3_code 2 (some (.object "java/util/List")) :: ws) ({ frames := 6, cells := 2, slots := 3, locals := 88 } : Room)) (fun ar' U => ar' = #[(.ref r)] ∧ Z.Warmed39 U.vm ∧ U.heap = h0) (fun _ _ _ _ _ => True) (fun _ U o U' => ∃ v L, o = .returned v ∧ (Q_rmLC_1 Z r d kd mr em y0 h0 n0) v U'.heap L ∧ FrameEnd U o U' L ({ frames := 6, cells := 2, slots := 3, locals := 88 } : Room).cells ({ frames := 6, cells := 2, slots := 3, locals := 88 } : Room).slots) := by
  refine MetFree.of_bodySF (plainFor_of_name pn_java_util_ImmutableCollections) hisR ?_
  intro p e s m args below meth c s₁ Bd hml0 hP hK
  obtain ⟨rfl, hZ, hh⟩ := hP
  have hx := Bd.exec
  have hby := Bd.bytes
  have hlk := BodyLoose.notSynchronized Bd
  have hml : c.maxLocals = 2 := hml0
  have hown : s.vm.findClass "java/util/ImmutableCollections" = some m.cls := findClass_of_methodNamed Bd.named
  have hnm := (name_of_methodNamed Bd.named Bd.method).1
  have X0 : Stand p l e ({ frames := 6, cells := 2, slots := 3, locals := 88 } : Room) s m #[(.ref r)] below meth c s₁ [] 0 0 := Stand.of_body Bd
  have e0 : s₁.heap = h0 := by rw [← hh, Bd.state]; rfl
  have N0 := Fr.nil n0
  have Z0 : n0 ≤ h0.size := O0.1 ▸ O0.2.1
  show OEnds p e below s ({ frames := 6, cells := 2, slots := 3, locals := 88 } : Room).cells ({ frames := 6, cells := 2, slots := 3, locals := 88 } : Room).slots (Q_rmLC_1 Z r d kd mr em y0 h0 n0) (s₁.setTop (entryFrame m #[(.ref r)] 2))
  refine OEnds.via (fun _ k_ => castTop (show entryFrame m #[(.ref r)] 2 = (mkF m 0 #[.val (.ref r), .unset] []) by first | (simp [entryFrame, mkF, argsToLocals, Value.category, maxLocals]; done) | rfl) k_) ?_
  have Od := O0
  have Kp := Keep.refl h0 []
  show OEnds p e below s _ _ _ (s₁.setTop (mkF m 0 #[.val (.ref r), .unset] []))
  refine OEnds.via (fun _ k_ => XS.aloadN X0.here hx rfl (hb hby d19_0) rfl rfl k_) ?_
  show OEnds p e below s _ _ _ (s₁.setTop (mkF m 1 #[.val (.ref r), .unset] [(.ref r)]))
  obtain ⟨T1, X1, e1, st1⟩ := instNo X0 hx hZ hown (hw _ (List.mem_of_getElem? (i := 124) rfl)) e0 E_r (own_not_t12 hw) (g := (mkF m 1 #[.val (.ref r), .unset] [(.ref r)])) rfl rfl (hb hby d19_1)
  refine OEnds.via (fun _ k_ => st1 _ k_) ?_
  show OEnds p e below s _ _ _ (T1.setTop (mkF m 4 #[.val (.ref r), .unset] [(.int (0 : Int32))]))
  refine OEnds.via (fun _ k_ => XS.ifNo X1.here hx rfl (hb hby d19_4) rfl ((if0 _ _).trans (teq (by decide : (0 : Int32) = (0 : Int32))).2) k_) ?_
  show OEnds p e below s _ _ _ (T1.setTop (mkF m 7 #[.val (.ref r), .unset] []))
  refine OEnds.via (fun _ k_ => XS.aloadN X1.here hx rfl (hb hby d19_7) rfl rfl k_) ?_
  show OEnds p e below s _ _ _ (T1.setTop (mkF m 8 #[.val (.ref r), .unset] [(.ref r)]))
  obtain ⟨T2, X2, e2, st2⟩ := instNo X1 hx hZ hown (hw _ (List.mem_of_getElem? (i := 129) rfl)) e1 E_r (own_not_stN hw) (g := (mkF m 8 #[.val (.ref r), .unset] [(.ref r)])) rfl rfl (hb hby d19_8)
  refine OEnds.via (fun _ k_ => st2 _ k_) ?_
  show OEnds p e below s _ _ _ (T2.setTop (mkF m 11 #[.val (.ref r), .unset] [(.int (0 : Int32))]))
  refine OEnds.via (fun _ k_ => XS.ifYes X2.here hx rfl (pc0 := 11) (pc' := 31) rfl (hb hby d19_11) rfl ((if0 _ _).trans (teq (by decide : (0 : Int32) = (0 : Int32))).1) (by decide) (by decide) k_) ?_
  show OEnds p e below s _ _ _ (T2.setTop (mkF m 31 #[.val (.ref r), .unset] []))
  refine OEnds.via (fun _ k_ => XS.aloadN X2.here hx rfl (hb hby d19_31) rfl rfl k_) ?_
  show OEnds p e below s _ _ _ (T2.setTop (mkF m 32 #[.val (.ref r), .unset] [(.ref r)]))
  obtain ⟨cq3, kq3, q3a, q3b, q3c⟩ := isOf hZ e2 E_r
  obtain ⟨_, _, ⟨T3, L3, k3, n3⟩, -, X3, ⟨Lc3, hQ3, l3, y3, z3⟩, st3⟩ := X2.interfaceBack hx (xi := (⟨"java/util/Collection", "isEmpty", "()Z"⟩ : MethodName)) (y := (⟨"java/util/ArrayList", "isEmpty", "()Z"⟩ : MethodName)) hown (mvT hZ (hw _ (List.mem_of_getElem? (i := 130) rfl))) (mvT hZ (hw _ (List.mem_of_getElem? (i := 131) rfl))) (mvT hZ (hw _ (List.mem_of_getElem? (i := 132) rfl))) (mvT hZ (hw _ (List.mem_of_getElem? (i := 133) rfl))) (mvT hZ (hw _ (List.mem_of_getElem? (i := 134) rfl))) (mvT hZ (hw _ (List.mem_of_getElem? (i := 135) rfl))) (mvT hZ (hw _ (List.mem_of_getElem? (i := 136) rfl))) (mvT hZ (hw _ (List.mem_of_getElem? (i := 137) rfl))) (by decide) (backOf (W := 0) (rmIE1 l Z a0 hw [] r h0 n0 Od F_sz) hZ (hw _ (List.mem_of_getElem? (i := 138) rfl)) (hw _ (List.mem_of_getElem? (i := 43) rfl)) (by decide) (by decide)) q3a q3b q3c (g := (mkF m 32 #[.val (.ref r), .unset] [(.ref r)])) rfl (by rw [hml]; rfl) (Steps.refl _) (argsL := []) (rest := []) (lenOf pd_2829Z rfl) rfl (by show 2 * 0 + _ ≤ _; exact Nat.le_of_eq rfl) (hb hby d19_32) (fun _ _ => ⟨rfl, e2, Nat.le_of_ble_eq_true rfl, Nat.le_of_ble_eq_true rfl⟩)
  dsimp only [Pt.U, Pt.locs, Pt.cells, Pt.slots] at X3 l3 y3 z3 st3 hQ3
  subst l3 y3 z3
  obtain ⟨rfl, N3q, e3⟩ := hQ3
  have N3 := Fr.app N0 N3q
  refine OEnds.via (fun _ k_ => st3.trans k_) ?_
  show OEnds p e below s _ _ _ (T3.setTop (mkF m 37 #[.val (.ref r), .unset] [(.int (0 : Int32))]))
  refine OEnds.via (fun _ k_ => XS.ifYes X3.here hx rfl (pc0 := 37) (pc' := 44) rfl (hb hby d19_37) rfl ((if0 _ _).trans (teq (by decide : (0 : Int32) = (0 : Int32))).1) (by decide) (by decide) k_) ?_
  show OEnds p e below s _ _ _ (T3.setTop (mkF m 44 #[.val (.ref r), .unset] []))
  refine OEnds.via (fun _ k_ => XS.aloadN X3.here hx rfl (hb hby d19_44) rfl rfl k_) ?_
  show OEnds p e below s _ _ _ (T3.setTop (mkF m 45 #[.val (.ref r), .unset] [(.ref r)]))
  obtain ⟨cq4, kq4, q4a, q4b, q4c⟩ := isOf hZ e3 E_r
  obtain ⟨_, _, ⟨T4, L4, k4, n4⟩, -, X4, ⟨Lc4, hQ4, l4, y4, z4⟩, st4⟩ := X3.interfaceBack hx (xi := (⟨"java/util/Collection", "toArray", "()[Ljava/lang/Object;"⟩ : MethodName)) (y := (⟨"java/util/ArrayList", "toArray", "()[Ljava/lang/Object;"⟩ : MethodName)) hown (mvT hZ (hw _ (List.mem_of_getElem? (i := 139) rfl))) (mvT hZ (hw _ (List.mem_of_getElem? (i := 140) rfl))) (mvT hZ (hw _ (List.mem_of_getElem? (i := 141) rfl))) (mvT hZ (hw _ (List.mem_of_getElem? (i := 142) rfl))) (mvT hZ (hw _ (List.mem_of_getElem? (i := 143) rfl))) (mvT hZ (hw _ (List.mem_of_getElem? (i := 144) rfl))) (mvT hZ (hw _ (List.mem_of_getElem? (i := 145) rfl))) (mvT hZ (hw _ (List.mem_of_getElem? (i := 137) rfl))) (by decide) (backOf (W := 0) (rmTA_1 l Z a0 hw [] r d kd mr y0 h0 n0 Od F_ed F_sz V_d E_y0 M E_d) hZ (hw _ (List.mem_of_getElem? (i := 146) rfl)) (hw _ (List.mem_of_getElem? (i := 43) rfl)) (by decide) (by decide)) q4a q4b q4c (g := (mkF m 45 #[.val (.ref r), .unset] [(.ref r)])) rfl (by rw [hml]; rfl) (Steps.refl _) (argsL := []) (rest := []) (lenOf pd_28295bLjava2flang2fObject3b rfl) rfl (by show 2 * 0 + _ ≤ _; exact Nat.le_of_eq rfl) (hb hby d19_45) (fun _ _ => ⟨rfl, e3, Nat.le_of_ble_eq_true rfl, Nat.le_of_ble_eq_true rfl⟩)
  dsimp only [Pt.U, Pt.locs, Pt.cells, Pt.slots] at X4 l4 y4 z4 st4 hQ4
  subst l4 y4 z4
  obtain ⟨b, kb, rfl, N4q, K4, ge_b, sz4, V_b⟩ := hQ4
  have N4 := Fr.app N3 N4q
  replace Od := Od.keep K4 all0
  replace E_r := E_r.keep K4
  replace Kp := Kp.trans K4 all0
  refine OEnds.via (fun _ k_ => st4.trans k_) ?_
  show OEnds p e below s _ _ _ (T4.setTop (mkF m 50 #[.val (.ref r), .unset] [(.ref b)]))
  obtain ⟨_, _, ⟨T5, L5, k5, n5⟩, -, X5, ⟨Lc5, hQ5, l5, y5, z5⟩, st5⟩ := Jvm.LawKit.callS X4 hx (y := (⟨"java/util/List", "of", "([Ljava/lang/Object;)Ljava/util/List;"⟩ : MethodName)) hown (mvT hZ (hw _ (List.mem_of_getElem? (i := 169) rfl))) (mvT hZ (hw _ (List.mem_of_getElem? (i := 170) rfl))) (mvT hZ (hw _ (List.mem_of_getElem? (i := 118) rfl))) (mvT hZ (hw _ (List.mem_of_getElem? (i := 171) rfl))) (by decide) (backOf (W := 0) (rmOf_1 l Z a0 hw [] b kb em y0 T4.heap n0 Od V_b S_em) hZ (hw _ (List.mem_of_getElem? (i := 171) rfl)) (hw _ (List.mem_of_getElem? (i := 118) rfl)) (by decide) (by decide)) (g := (mkF m 50 #[.val (.ref r), .unset] [(.ref b)])) rfl (by rw [hml]; rfl) (argsL := [(.ref b)]) (rest := []) (lenOf pd_285bLjava2flang2fObject3b29Ljava2futil2fList3b rfl) rfl (by show 2 * 0 + _ ≤ _; exact Nat.le_of_eq rfl) (hb hby d19_50) (fun _ _ => ⟨rfl, rfl, Nat.le_of_ble_eq_true rfl, Nat.le_of_ble_eq_true rfl⟩)
  dsimp only [Pt.U, Pt.locs, Pt.cells, Pt.slots] at X5 l5 y5 z5 st5 hQ5
  subst l5 y5 z5
  obtain ⟨q, rfl, N5q, K5, ge_q, sz5, E_q, G0, G1⟩ := hQ5
  have N5 := Fr.app N4 N5q
  have sz_q : h0.size ≤ q := Nat.le_trans Kp.1 sz5
  replace Od := Od.keep K5 all0
  replace E_r := E_r.keep K5
  replace Kp := Kp.trans K5 all0
  refine OEnds.via (fun _ k_ => st5 _ k_) ?_
  show OEnds p e below s _ _ _ (T5.setTop (mkF m 53 #[.val (.ref r), .unset] [(.ref q)]))
  refine OEnds.retR X5 hx hlk Bd.returns rfl rfl (hb hby d19_53) ?_ (by decide) (by decide)
  exact ⟨_, rfl, N5, Kp, ge_q, sz_q, E_q, G0, G1⟩
theorem d18_0 : decode jdk_40_method_48_code 0 = .ok (.aload_n 0, 1) := by decide +kernel
theorem d18_1 : decode jdk_40_method_48_code 1 = .ok (.invokestatic 112, 3) := by decide +kernel
theorem d18_4 : decode jdk_40_method_48_code 4 = .ok (.areturn, 1) := by decide +kernel
def Q_rmCO_1 (Z : State) (r : Addr) (d : Addr) (kd : ClassId) (mr : Addr) (em : Addr) (y0 : Addr) (h0 : Heap) (n0 : Nat) (v : Option Value) (h : Heap) (L : List Loc) : Prop := ∃ q, v = some (.ref q) ∧ Fr n0 L ∧ Keep h0 h [] ∧ n0 ≤ q ∧ h0.size ≤ q ∧ Exa Z h q "java/util/ImmutableCollections$List12" ∧ Fld Z h q "java/util/ImmutableCollections$List12" "e0" "Ljava/lang/Object;" (.ref y0) ∧ Fld Z h q "java/util/ImmutableCollections$List12" "e1" "Ljava/lang/Object;" (.ref em)
theorem pd_28Ljava2futil2fCollection3b29Ljava2futil2fList3b : parseMethodDescriptor "(Ljava/util/Collection;)Ljava/util/List;" = some ⟨[(.object "java/util/Collection")], some (.object "java/util/List")⟩ := by decide +kernel
set_option maxRecDepth 65536 in
set_option maxHeartbeats 40000000 in
theorem rmCO_1 (l : Launch) (Z : State) (a0 : Array Value) (hw : ∀ d ∈ tables_1, d.before a0 Z = true) (ws : List Jvm.Cond) (r : Addr) (d : Addr) (kd : ClassId) (mr : Addr) (em : Addr) (y0 : Addr) (h0 : Heap) (n0 : Nat) (O0 : Old Z n0 h0) (F_ed : Fld Z h0 r "java/util/ArrayList" "elementData" "[Ljava/lang/Object;" (.ref d)) (F_sz : Fld Z h0 r "java/util/ArrayList" "size" "I" (.int (1 : Int32))) (E_r : Exa Z h0 r "java/util/ArrayList") (V_d : Arv Z h0 d kd (.object "java/lang/Object") (10 : Int32) [(.ref y0), .null, .null, .null, .null, .null, .null, .null, .null, .null] .null) (E_y0 : Exa Z h0 y0 "com/example/holdfast/holdfast/LockInfo$Reader") (M : Mir Z "[Ljava/lang/Object;" mr) (E_d : Exa Z h0 d "[Ljava/lang/Object;") (S_em : Sta Z Z.heap "java/util/ImmutableCollections" "EMPTY" "Ljava/lang/Object;" (.ref em)) :
    MetFree l (⟨"java/util/List", "copyOf", "(Ljava/util/Collection;)Ljava/util/List;"⟩ : MethodName) (head1 (Jvm.Cond.code (⟨"java/util/List", "copyOf", "(Ljava/util/Collection;)Ljava/util/List;"⟩ : MethodName) jdk_40_method_48_code 1 (some (.object "java/util/List")) :: ws) ({ frames := 7, cells := 2, slots := 3, locals := 104 } : Room)) (fun ar' U => ar' = #[(.ref r)] ∧ Z.Warmed39 U.vm ∧ U.heap = h0) (fun _ _ _ _ _ => True) (fun _ U o U' => ∃ v L, o = .returned v ∧ (Q_rmCO_1 Z r d kd mr em y0 h0 n0) v U'.heap L ∧ FrameEnd U o U' L ({ frames := 7, cells := 2, slots := 3, locals := 104 } : Room).cells ({ frames := 7, cells := 2, slots := 3, locals := 104 } : Room).slots) := by
  refine MetFree.of_bodySF (plainFor_of_name pn_java_util_List) hisR ?_
  intro p e s m args below meth c s₁ Bd hml0 hP hK
  obtain ⟨rfl, hZ, hh⟩ := hP
  have hx := Bd.exec
  have hby := Bd.bytes
  have hlk := BodyLoose.notSynchronized Bd
  have hml : c.maxLocals = 1 := hml0
  have hown : s.vm.findClass "java/util/List" = some m.cls := findClass_of_methodNamed Bd.named
  have hnm := (name_of_methodNamed Bd.named Bd.method).1
  have X0 : Stand p l e ({ frames := 7, cells := 2, slots := 3, locals := 104 } : Room) s m #[(.ref r)] below meth c s₁ [] 0 0 := Stand.of_body Bd
  have e0 : s₁.heap = h0 := by rw [← hh, Bd.state]; rfl
  have N0 := Fr.nil n0
  have Z0 : n0 ≤ h0.size := O0.1 ▸ O0.2.1
  show OEnds p e below s ({ frames := 7, cells := 2, slots := 3, locals := 104 } : Room).cells ({ frames := 7, cells := 2, slots := 3, locals := 104 } : Room).slots (Q_rmCO_1 Z r d kd mr em y0 h0 n0) (s₁.setTop (entryFrame m #[(.ref r)] 1))
  refine OEnds.via (fun _ k_ => castTop (show entryFrame m #[(.ref r)] 1 = (mkF m 0 #[.val (.ref r)] []) by first | (simp [entryFrame, mkF, argsToLocals, Value.category, maxLocals]; done) | rfl) k_) ?_
  show OEnds p e below s _ _ _ (s₁.setTop (mkF m 0 #[.val (.ref r)] []))
  refine OEnds.via (fun _ k_ => XS.aloadN X0.here hx rfl (hb hby d18_0) rfl rfl k_) ?_
  show OEnds p e below s _ _ _ (s₁.setTop (mkF m 1 #[.val (.ref r)] [(.ref r)]))
  obtain ⟨_, _, ⟨T1, L1, k1, n1⟩, -, X1, ⟨Lc1, hQ1, l1, y1, z1⟩, st1⟩ := Jvm.LawKit.callS X0 hx (y := (⟨"java/util/ImmutableCollections", "listCopy", "(Ljava/util/Collection;)Ljava/util/List;"⟩ : MethodName)) hown (mvT hZ (hw _ (List.mem_of_getElem? (i := 120) rfl))) (mvT hZ (hw _ (List.mem_of_getElem? (i := 121) rfl))) (mvT hZ (hw _ (List.mem_of_getElem? (i := 122) rfl))) (mvT hZ (hw _ (List.mem_of_getElem? (i := 123) rfl))) (by decide) (backOf (W := 0) (rmLC_1 l Z a0 hw [] r d kd mr em y0 h0 n0 O0 F_ed F_sz E_r V_d E_y0 M E_d S_em) hZ (hw _ (List.mem_of_getElem? (i := 123) rfl)) (hw _ (List.mem_of_getElem? (i := 122) rfl)) (by decide) (by decide)) (g := (mkF m 1 #[.val (.ref r)] [(.ref r)])) rfl (by rw [hml]; rfl) (argsL := [(.ref r)]) (rest := []) (lenOf pd_28Ljava2futil2fCollection3b29Ljava2futil2fList3b rfl) rfl (by show 2 * 0 + _ ≤ _; exact Nat.le_of_eq rfl) (hb hby d18_1) (fun _ _ => ⟨rfl, e0, Nat.le_of_ble_eq_true rfl, Nat.le_of_ble_eq_true rfl⟩)
  dsimp only [Pt.U, Pt.locs, Pt.cells, Pt.slots] at X1 l1 y1 z1 st1 hQ1
  subst l1 y1 z1
  obtain ⟨q, rfl, N1q, R1⟩ := hQ1
  have N1 := Fr.app N0 N1q
  refine OEnds.via (fun _ k_ => st1 _ k_) ?_
  show OEnds p e below s _ _ _ (T1.setTop (mkF m 4 #[.val (.ref r)] [(.ref q)]))
  refine OEnds.retR X1 hx hlk Bd.returns rfl rfl (hb hby d18_4) ?_ (by decide) (by decide)
  exact ⟨_, rfl, N1, R1⟩
set_option maxRecDepth 65536 in
set_option maxHeartbeats 40000000 in
theorem rmMin2 (l : Launch) (Z : State) (a0 : Array Value) (hw : ∀ d ∈ tables_1, d.before a0 Z = true) (ws : List Jvm.Cond) (h0 : Heap) (n0 : Nat) (O0 : Old Z n0 h0) :
    MetFree l (⟨"java/lang/Math", "min", "(II)I"⟩ : MethodName) (head1 (Jvm.Cond.code (⟨"java/lang/Math", "min", "(II)I"⟩ : MethodName) jdk_29_method_69_code 2 (some .int) :: ws) ({ frames := 0, cells := 0, slots := 0, locals := 0 } : Room)) (fun ar' U => ar' = #[(.int (10 : Int32)), (.int (2 : Int32))] ∧ Z.Warmed39 U.vm ∧ U.heap = h0) (fun _ _ _ _ _ => True) (fun _ U o U' => ∃ v L, o = .returned v ∧ (QA (some (.int 2)) h0 n0) v U'.heap L ∧ FrameEnd U o U' L ({ frames := 0, cells := 0, slots := 0, locals := 0 } : Room).cells ({ frames := 0, cells := 0, slots := 0, locals := 0 } : Room).slots) := by
  refine MetFree.of_bodySF (Jvm.Free.JP.mathPlain rfl (by decide +kernel)) hisR ?_
  intro p e s m args below meth c s₁ Bd hml0 hP hK
  obtain ⟨rfl, hZ, hh⟩ := hP
  have hx := Bd.exec
  have hby := Bd.bytes
  have hlk := BodyLoose.notSynchronized Bd
  have hml : c.maxLocals = 2 := hml0
  have hown : s.vm.findClass "java/lang/Math" = some m.cls := findClass_of_methodNamed Bd.named
  have hnm := (name_of_methodNamed Bd.named Bd.method).1
  have X0 : Stand p l e ({ frames := 0, cells := 0, slots := 0, locals := 0 } : Room) s m #[(.int (10 : Int32)), (.int (2 : Int32))] below meth c s₁ [] 0 0 := Stand.of_body Bd
  have e0 : s₁.heap = h0 := by rw [← hh, Bd.state]; rfl
  have N0 := Fr.nil n0
  have Z0 : n0 ≤ h0.size := O0.1 ▸ O0.2.1
  show OEnds p e below s ({ frames := 0, cells := 0, slots := 0, locals := 0 } : Room).cells ({ frames := 0, cells := 0, slots := 0, locals := 0 } : Room).slots (QA (some (.int 2)) h0 n0) (s₁.setTop (entryFrame m #[(.int (10 : Int32)), (.int (2 : Int32))] 2))
  refine OEnds.via (fun _ k_ => castTop (show entryFrame m #[(.int (10 : Int32)), (.int (2 : Int32))] 2 = (mkF m 0 #[.val (.int (10 : Int32)), .val (.int (2 : Int32))] []) by first | (simp [entryFrame, mkF, argsToLocals, Value.category, maxLocals]; done) | rfl) k_) ?_
  refine OEnds.via (fun _ k_ => XS.iloadN X0.here hx rfl (hb hby d24_0) rfl k_) ?_
  show OEnds p e below s _ _ _ (s₁.setTop (mkF m 1 #[.val (.int (10 : Int32)), .val (.int (2 : Int32))] [(.int (10 : Int32))]))
  refine OEnds.via (fun _ k_ => XS.iloadN X0.here hx rfl (hb hby d24_1) rfl k_) ?_
  show OEnds p e below s _ _ _ (s₁.setTop (mkF m 2 #[.val (.int (10 : Int32)), .val (.int (2 : Int32))] [(.int (2 : Int32)), (.int (10 : Int32))]))
  refine OEnds.via (fun _ k_ => XS.icmpYes X0.here hx rfl (pc0 := 2) (pc' := 9) rfl (hb hby d24_2) rfl (tlt (by decide : (2 : Int32) < (10 : Int32))).2.2.1 (by decide) (by decide) k_) ?_
  show OEnds p e below s _ _ _ (s₁.setTop (mkF m 9 #[.val (.int (10 : Int32)), .val (.int (2 : Int32))] []))
  refine OEnds.via (fun _ k_ => XS.iloadN X0.here hx rfl (hb hby d24_9) rfl k_) ?_
  show OEnds p e below s _ _ _ (s₁.setTop (mkF m 10 #[.val (.int (10 : Int32)), .val (.int (2 : Int32))] [(.int (2 : Int32))]))
  refine OEnds.retI X0 hx hlk Bd.returns (hb hby d24_10) ?_ (by decide) (by decide)
  exact ⟨rfl, N0, e0⟩
def Q_rmC3_2 (Z : State) (d : Addr) (kd : ClassId) (mr : Addr) (y0 : Addr) (y1 : Addr) (h0 : Heap) (n0 : Nat) (v : Option Value) (h : Heap) (L : List Loc) : Prop := ∃ b kb, v = some (.ref b) ∧ Fr n0 L ∧ Keep h0 h [] ∧ n0 ≤ b ∧ h0.size ≤ b ∧ Arv Z h b kb (.object "java/lang/Object") (2 : Int32) [(.ref y0), (.ref y1)] .null
set_option maxRecDepth 65536 in
set_option maxHeartbeats 40000000 in
theorem rmC3_2 (l : Launch) (Z : State) (a0 : Array Value) (hw : ∀ d ∈ tables_1, d.before a0 Z = true) (ws : List Jvm.Cond) (d : Addr) (kd : ClassId) (mr : Addr) (y0 : Addr) (y1 : Addr) (h0 : Heap) (n0 : Nat) (O0 : Old Z n0 h0) (V_d : Arv Z h0 d kd (.object "java/lang/Object") (10 : Int32) [(.ref y0), (.ref y1), .null, .null, .null, .null, .null, .null, .null, .null] .null) (E_y0 : Exa Z h0 y0 "com/example/holdfast/holdfast/LockInfo$Reader") (E_y1 : Exa Z h0 y1 "com/example/holdfast/holdfast/LockInfo$Reader") (M : Mir Z "[Ljava/lang/Object;" mr) :
    MetFree l (⟨"java/util/Arrays", "copyOf", "([Ljava/lang/Object;ILjava/lang/Class;)[Ljava/lang/Object;"⟩ : MethodName) (head1 (Jvm.Cond.code (⟨"java/util/Arrays", "copyOf", "([Ljava/lang/Object;ILjava/lang/Class;)[Ljava/lang/Object;"⟩ : MethodName) jdk_65_method_120_code 4 (some (.array (.object "java/lang/Object"))) :: ws) ({ frames := 1, cells := 1, slots := 2, locals := 30 } : Room)) (fun ar' U => ar' = #[(.ref d), (.int (2 : Int32)), (.ref mr)] ∧ Z.Warmed39 U.vm ∧ U.heap = h0) (fun _ _ _ _ _ => True) (fun _ U o U' => ∃ v L, o = .returned v ∧ (Q_rmC3_2 Z d kd mr y0 y1 h0 n0) v U'.heap L ∧ FrameEnd U o U' L ({ frames := 1, cells := 1, slots := 2, locals := 30 } : Room).cells ({ frames := 1, cells := 1, slots := 2, locals := 30 } : Room).slots) := by
  refine MetFree.of_bodySF (plainFor_of_name pn_java_util_Arrays) hisR ?_
  intro p e s m args below meth c s₁ Bd hml0 hP hK
  obtain ⟨rfl, hZ, hh⟩ := hP
  have hx := Bd.exec
  have hby := Bd.bytes
  have hlk := BodyLoose.notSynchronized Bd
  have hml : c.maxLocals = 4 := hml0
  have hown : s.vm.findClass "java/util/Arrays" = some m.cls := findClass_of_methodNamed Bd.named
  have hnm := (name_of_methodNamed Bd.named Bd.method).1
  have X0 : Stand p l e ({ frames := 1, cells := 1, slots := 2, locals := 30 } : Room) s m #[(.ref d), (.int (2 : Int32)), (.ref mr)] below meth c s₁ [] 0 0 := Stand.of_body Bd
  have e0 : s₁.heap = h0 := by rw [← hh, Bd.state]; rfl
  have N0 := Fr.nil n0
  have Z0 : n0 ≤ h0.size := O0.1 ▸ O0.2.1
  show OEnds p e below s ({ frames := 1, cells := 1, slots := 2, locals := 30 } : Room).cells ({ frames := 1, cells := 1, slots := 2, locals := 30 } : Room).slots (Q_rmC3_2 Z d kd mr y0 y1 h0 n0) (s₁.setTop (entryFrame m #[(.ref d), (.int (2 : Int32)), (.ref mr)] 4))
  refine OEnds.via (fun _ k_ => castTop (show entryFrame m #[(.ref d), (.int (2 : Int32)), (.ref mr)] 4 = (mkF m 0 #[.val (.ref d), .val (.int (2 : Int32)), .val (.ref mr), .unset] []) by first | (simp [entryFrame, mkF, argsToLocals, Value.category, maxLocals]; done) | rfl) k_) ?_
  have Od := O0
  have Kp := Keep.refl h0 []
  show OEnds p e below s _ _ _ (s₁.setTop (mkF m 0 #[.val (.ref d), .val (.int (2 : Int32)), .val (.ref mr), .unset] []))
  refine OEnds.via (fun _ k_ => XS.aloadN X0.here hx rfl (hb hby d23_0) rfl rfl k_) ?_
  show OEnds p e below s _ _ _ (s₁.setTop (mkF m 1 #[.val (.ref d), .val (.int (2 : Int32)), .val (.ref mr), .unset] [(.ref mr)]))
  obtain ⟨T1, X1, e1, st1⟩ := own_ldcM X0 hx hZ hown (hw _ (List.mem_of_getElem? (i := 160) rfl)) M e0 (g := (mkF m 1 #[.val (.ref d), .val (.int (2 : Int32)), .val (.ref mr), .unset] [(.ref mr)])) rfl (hb hby d23_1)
  refine OEnds.via (fun _ k_ => st1 _ k_) ?_
  show OEnds p e below s _ _ _ (T1.setTop (mkF m 3 #[.val (.ref d), .val (.int (2 : Int32)), .val (.ref mr), .unset] [(.ref mr), (.ref mr)]))
  refine OEnds.via (fun _ k_ => Jvm.RoadKit.acmp (g := (mkF m 3 #[.val (.ref d), .val (.int (2 : Int32)), .val (.ref mr), .unset] [(.ref mr), (.ref mr)])) X1 hx rfl rfl rfl (pc0 := 3) (pc' := 6) (same := true) rfl (hb hby d23_3) rfl (decide_eq_true rfl) (by decide) (by decide) k_) ?_
  show OEnds p e below s _ _ _ (T1.setTop (mkF m 6 #[.val (.ref d), .val (.int (2 : Int32)), .val (.ref mr), .unset] []))
  refine OEnds.via (fun _ k_ => XS.iloadN X1.here hx rfl (hb hby d23_6) rfl k_) ?_
  show OEnds p e below s _ _ _ (T1.setTop (mkF m 7 #[.val (.ref d), .val (.int (2 : Int32)), .val (.ref mr), .unset] [(.int (2 : Int32))]))
  obtain ⟨T2, h2, k2, X2, e2, E2, A2, EX2, O2, st2⟩ := newRE X1 hx hZ hown (hw _ (List.mem_of_getElem? (i := 161) rfl)) (hw _ (List.mem_of_getElem? (i := 94) rfl)) e1 (g := (mkF m 7 #[.val (.ref d), .val (.int (2 : Int32)), .val (.ref mr), .unset] [(.int (2 : Int32))])) rfl (hb hby d23_7) rfl (by decide) (cap := 2) (by decide) (by decide) (by decide) (by decide) (ad := "[Ljava/lang/Object;") rfl
  obtain ⟨b2, g2⟩ : ∃ z, z = h0.size := ⟨_, rfl⟩
  have ne_d_b2 : d ≠ b2 := Nat.ne_of_lt (Nat.lt_of_lt_of_le V_d.lt (Nat.le_of_eq g2.symm))
  have ne_y0_b2 : y0 ≠ b2 := Nat.ne_of_lt (Nat.lt_of_lt_of_le E_y0.lt (Nat.le_of_eq g2.symm))
  have ne_y1_b2 : y1 ≠ b2 := Nat.ne_of_lt (Nat.lt_of_lt_of_le E_y1.lt (Nat.le_of_eq g2.symm))
  have ge_b2 : n0 ≤ b2 := Nat.le_trans (Od.1 ▸ Od.2.1) (Nat.le_of_eq g2.symm)
  have sz_b2 : h0.size ≤ b2 := Nat.le_trans Kp.1 (Nat.le_of_eq g2.symm)
  rw [← g2] at A2 st2 EX2
  replace Od := Od.ext E2
  replace V_d := V_d.ext E2
  replace E_y0 := Exa.ext E2 E_y0
  replace E_y1 := Exa.ext E2 E_y1
  replace Kp := Kp.ext E2
  have E_b2 : Exa Z h2 b2 "[Ljava/lang/Object;" := EX2
  have V_b2 : Arv Z h2 b2 k2 (.object "java/lang/Object") (2 : Int32) [.null, .null] .null := (Arv.new A2 (by decide)).pad (pad_rep [] .null 2)
  refine OEnds.via (fun _ k_ => st2 _ k_) ?_
  show OEnds p e below s _ _ _ (T2.setTop (mkF m 10 #[.val (.ref d), .val (.int (2 : Int32)), .val (.ref mr), .unset] [(.ref b2)]))
  refine OEnds.via (fun _ k_ => XS.goto X2.here hx rfl (pc0 := 10) (pc' := 24) rfl (hb hby d23_10) (by decide) (by decide) k_) ?_
  show OEnds p e below s _ _ _ (T2.setTop (mkF m 24 #[.val (.ref d), .val (.int (2 : Int32)), .val (.ref mr), .unset] [(.ref b2)]))
  refine OEnds.via (fun _ k_ => XS.astoreN X2.here hx rfl (hb hby d23_24) rfl rfl (l' := #[.val (.ref d), .val (.int (2 : Int32)), .val (.ref mr), .val (.ref b2)]) rfl k_) ?_
  show OEnds p e below s _ _ _ (T2.setTop (mkF m 25 #[.val (.ref d), .val (.int (2 : Int32)), .val (.ref mr), .val (.ref b2)] []))
  refine OEnds.via (fun _ k_ => XS.aloadN X2.here hx rfl (hb hby d23_25) rfl rfl k_) ?_
  show OEnds p e below s _ _ _ (T2.setTop (mkF m 26 #[.val (.ref d), .val (.int (2 : Int32)), .val (.ref mr), .val (.ref b2)] [(.ref d)]))
  refine OEnds.via (fun _ k_ => XS.iconst X2.here hx rfl (hb hby d23_26) k_) ?_
  show OEnds p e below s _ _ _ (T2.setTop (mkF m 27 #[.val (.ref d), .val (.int (2 : Int32)), .val (.ref mr), .val (.ref b2)] [(.int (0 : Int32)), (.ref d)]))
  refine OEnds.via (fun _ k_ => XS.aloadN X2.here hx rfl (hb hby d23_27) rfl rfl k_) ?_
  show OEnds p e below s _ _ _ (T2.setTop (mkF m 28 #[.val (.ref d), .val (.int (2 : Int32)), .val (.ref mr), .val (.ref b2)] [(.ref b2), (.int (0 : Int32)), (.ref d)]))
  refine OEnds.via (fun _ k_ => XS.iconst X2.here hx rfl (hb hby d23_28) k_) ?_
  show OEnds p e below s _ _ _ (T2.setTop (mkF m 29 #[.val (.ref d), .val (.int (2 : Int32)), .val (.ref mr), .val (.ref b2)] [(.int (0 : Int32)), (.ref b2), (.int (0 : Int32)), (.ref d)]))
  refine OEnds.via (fun _ k_ => XS.aloadN X2.here hx rfl (hb hby d23_29) rfl rfl k_) ?_
  show OEnds p e below s _ _ _ (T2.setTop (mkF m 30 #[.val (.ref d), .val (.int (2 : Int32)), .val (.ref mr), .val (.ref b2)] [(.ref d), (.int (0 : Int32)), (.ref b2), (.int (0 : Int32)), (.ref d)]))
  have V3c := V_d
  obtain ⟨cl3, Ar3, q3, S3, M3, H3, -⟩ := V3c
  refine OEnds.via (fun _ k_ => X2.arraylength hx (by rw [e2]; exact Ar3.1) (State.isArrayOf_alike hZ.alike Ar3.2.1) (g := (mkF m 30 #[.val (.ref d), .val (.int (2 : Int32)), .val (.ref mr), .val (.ref b2)] [(.ref d), (.int (0 : Int32)), (.ref b2), (.int (0 : Int32)), (.ref d)])) rfl rfl (hb hby d23_30) _ k_) ?_
  rw [len_of S3 M3]
  show OEnds p e below s _ _ _ (T2.setTop (mkF m 31 #[.val (.ref d), .val (.int (2 : Int32)), .val (.ref mr), .val (.ref b2)] [(.int (10 : Int32)), (.int (0 : Int32)), (.ref b2), (.int (0 : Int32)), (.ref d)]))
  refine OEnds.via (fun _ k_ => XS.iloadN X2.here hx rfl (hb hby d23_31) rfl k_) ?_
  show OEnds p e below s _ _ _ (T2.setTop (mkF m 32 #[.val (.ref d), .val (.int (2 : Int32)), .val (.ref mr), .val (.ref b2)] [(.int (2 : Int32)), (.int (10 : Int32)), (.int (0 : Int32)), (.ref b2), (.int (0 : Int32)), (.ref d)]))
  obtain ⟨_, _, ⟨T4, L4, k4, n4⟩, -, X4, ⟨Lc4, hQ4, l4, y4, z4⟩, st4⟩ := Jvm.LawKit.callS X2 hx (y := (⟨"java/lang/Math", "min", "(II)I"⟩ : MethodName)) hown (mvT hZ (hw _ (List.mem_of_getElem? (i := 162) rfl))) (mvT hZ (hw _ (List.mem_of_getElem? (i := 163) rfl))) (mvT hZ (hw _ (List.mem_of_getElem? (i := 91) rfl))) (mvT hZ (hw _ (List.mem_of_getElem? (i := 164) rfl))) (by decide) (backOf (W := 4) (rmMin2 l Z a0 hw []  h2 n0 Od ) hZ (hw _ (List.mem_of_getElem? (i := 164) rfl)) (hw _ (List.mem_of_getElem? (i := 91) rfl)) (by decide) (by decide)) (g := (mkF m 32 #[.val (.ref d), .val (.int (2 : Int32)), .val (.ref mr), .val (.ref b2)] [(.int (2 : Int32)), (.int (10 : Int32)), (.int (0 : Int32)), (.ref b2), (.int (0 : Int32)), (.ref d)])) rfl (by rw [hml]; rfl) (argsL := [(.int (10 : Int32)), (.int (2 : Int32))]) (rest := [(.int (0 : Int32)), (.ref b2), (.int (0 : Int32)), (.ref d)]) (lenOf pd_28II29I rfl) rfl (by show 2 * 0 + _ ≤ _; exact Nat.le_of_eq rfl) (hb hby d23_32) (fun _ _ => ⟨rfl, e2, Nat.le_of_ble_eq_true rfl, Nat.le_of_ble_eq_true rfl⟩)
  dsimp only [Pt.U, Pt.locs, Pt.cells, Pt.slots] at X4 l4 y4 z4 st4 hQ4
  subst l4 y4 z4
  obtain ⟨rfl, N4q, e4⟩ := hQ4
  have N4 := Fr.app N0 N4q
  refine OEnds.via (fun _ k_ => st4 _ k_) ?_
  show OEnds p e below s _ _ _ (T4.setTop (mkF m 35 #[.val (.ref d), .val (.int (2 : Int32)), .val (.ref mr), .val (.ref b2)] [(.int (2 : Int32)), (.int (0 : Int32)), (.ref b2), (.int (0 : Int32)), (.ref d)]))
  have V5c := V_b2
  obtain ⟨cl5, Ar5, q5, -⟩ := V5c
  obtain ⟨T5, h5, L5, X5, e5, N5, K5, G5, st5⟩ := cpA X4 hx hZ hown (hw _ (List.mem_of_getElem? (i := 165) rfl)) (hw _ (List.mem_of_getElem? (i := 168) rfl)) (hw _ (List.mem_of_getElem? (i := 166) rfl)) (hw _ (List.mem_of_getElem? (i := 167) rfl)) e4 V_d V_b2 (us := [(.ref y0), (.ref y1)]) (Or.inr ⟨rfl, rfl, ⟨Sto.ofV Ar5 q5 O2 (Ins.of_exa E_y0 (hw _ (List.mem_of_getElem? (i := 95) rfl))), ⟨Sto.ofV Ar5 q5 O2 (Ins.of_exa E_y1 (hw _ (List.mem_of_getElem? (i := 95) rfl))), trivial⟩⟩⟩) (by decide) (by decide) (by decide) (by decide) (by decide) rfl (by decide) N4 ge_b2 (g := (mkF m 35 #[.val (.ref d), .val (.int (2 : Int32)), .val (.ref mr), .val (.ref b2)] [(.int (2 : Int32)), (.int (0 : Int32)), (.ref b2), (.int (0 : Int32)), (.ref d)])) rfl (by rw [hml]; rfl) rfl (hb hby d23_35) (by decide) (W := 0) (by show 2 * 0 + _ ≤ _; exact Nat.le_of_eq rfl) (by decide)
  replace Od := Od.keep K5 (allS ge_b2 all0)
  replace V_d := V_d.keep K5 (ninS ne_d_b2 nin0)
  replace E_y0 := E_y0.keep K5
  replace E_y1 := E_y1.keep K5
  replace Kp := Kp.trans K5 (allS (Or.inr sz_b2) all0)
  replace E_b2 := E_b2.keep K5
  have V_b2 : Arv Z h5 b2 k2 (.object "java/lang/Object") (2 : Int32) [(.ref y0), (.ref y1)] .null := G5
  refine OEnds.via (fun _ k_ => st5 _ k_) ?_
  show OEnds p e below s _ _ _ (T5.setTop (mkF m 38 #[.val (.ref d), .val (.int (2 : Int32)), .val (.ref mr), .val (.ref b2)] []))
  refine OEnds.via (fun _ k_ => XS.aloadN X5.here hx rfl (hb hby d23_38) rfl rfl k_) ?_
  show OEnds p e below s _ _ _ (T5.setTop (mkF m 39 #[.val (.ref d), .val (.int (2 : Int32)), .val (.ref mr), .val (.ref b2)] [(.ref b2)]))
  refine OEnds.retR X5 hx hlk Bd.returns rfl rfl (hb hby d23_39) ?_ (by decide) (by decide)
  rw [e5]
  exact ⟨_, _, rfl, N5, Kp, ge_b2, sz_b2, V_b2⟩
def Q_rmC2_2 (Z : State) (d : Addr) (kd : ClassId) (mr : Addr) (y0 : Addr) (y1 : Addr) (h0 : Heap) (n0 : Nat) (v : Option Value) (h : Heap) (L : List Loc) : Prop := ∃ b kb, v = some (.ref b) ∧ Fr n0 L ∧ Keep h0 h [] ∧ n0 ≤ b ∧ h0.size ≤ b ∧ Arv Z h b kb (.object "java/lang/Object") (2 : Int32) [(.ref y0), (.ref y1)] .null
set_option maxRecDepth 65536 in
set_option maxHeartbeats 40000000 in
theorem rmC2_2 (l : Launch) (Z : State) (a0 : Array Value) (hw : ∀ d ∈ tables_1, d.before a0 Z = true) (ws : List Jvm.Cond) (d : Addr) (kd : ClassId) (mr : Addr) (y0 : Addr) (y1 : Addr) (h0 : Heap) (n0 : Nat) (O0 : Old Z n0 h0) (V_d : Arv Z h0 d kd (.object "java/lang/Object") (10 : Int32) [(.ref y0), (.ref y1), .null, .null, .null, .null, .null, .null, .null, .null] .null) (E_y0 : Exa Z h0 y0 "com/example/holdfast/holdfast/LockInfo$Reader") (E_y1 : Exa Z h0 y1 "com/example/holdfast/holdfast/LockInfo$Reader") (M : Mir Z "[Ljava/lang/Object;" mr) (E_d : Exa Z h0 d "[Ljava/lang/Object;") :
    MetFree l (⟨"java/util/Arrays", "copyOf", "([Ljava/lang/Object;I)[Ljava/lang/Object;"⟩ : MethodName) (head1 (Jvm.Cond.code (⟨"java/util/Arrays", "copyOf", "([Ljava/lang/Object;I)[Ljava/lang/Object;"⟩ : MethodName) jdk_65_method_119_code 2 (some (.array (.object "java/lang/Object"))) :: ws) ({ frames := 2, cells := 1, slots := 2, locals := 48 } : Room)) (fun ar' U => ar' = #[(.ref d), (.int (2 : Int32))] ∧ Z.Warmed39 U.vm ∧ U.heap = h0) (fun _ _ _ _ _ => True) (fun _ U o U' => ∃ v L, o = .returned v ∧ (Q_rmC2_2 Z d kd mr y0 y1 h0 n0) v U'.heap L ∧ FrameEnd U o U' L ({ frames := 2, cells := 1, slots := 2, locals := 48 } : Room).cells ({ frames := 2, cells := 1, slots := 2, locals := 48 } : Room).slots) := by
  refine MetFree.of_bodySF (plainFor_of_name pn_java_util_Arrays) hisR ?_
  intro p e s m args below meth c s₁ Bd hml0 hP hK
  obtain ⟨rfl, hZ, hh⟩ := hP
  have hx := Bd.exec
  have hby := Bd.bytes
  have hlk := BodyLoose.notSynchronized Bd
  have hml : c.maxLocals = 2 := hml0
  have hown : s.vm.findClass "java/util/Arrays" = some m.cls := findClass_of_methodNamed Bd.named
  have hnm := (name_of_methodNamed Bd.named Bd.method).1
  have X0 : Stand p l e ({ frames := 2, cells := 1, slots := 2, locals := 48 } : Room) s m #[(.ref d), (.int (2 : Int32))] below meth c s₁ [] 0 0 := Stand.of_body Bd
  have e0 : s₁.heap = h0 := by rw [← hh, Bd.state]; rfl
  have N0 := Fr.nil n0
  have Z0 : n0 ≤ h0.size := O0.1 ▸ O0.2.1
  show OEnds p e below s ({ frames := 2, cells := 1, slots := 2, locals := 48 } : Room).cells ({ frames := 2, cells := 1, slots := 2, locals := 48 } : Room).slots (Q_rmC2_2 Z d kd mr y0 y1 h0 n0) (s₁.setTop (entryFrame m #[(.ref d), (.int (2 : Int32))] 2))
  refine OEnds.via (fun _ k_ => castTop (show entryFrame m #[(.ref d), (.int (2 : Int32))] 2 = (mkF m 0 #[.val (.ref d), .val (.int (2 : Int32))] []) by first | (simp [entryFrame, mkF, argsToLocals, Value.category, maxLocals]; done) | rfl) k_) ?_
  have Od := O0
  show OEnds p e below s _ _ _ (s₁.setTop (mkF m 0 #[.val (.ref d), .val (.int (2 : Int32))] []))
  refine OEnds.via (fun _ k_ => XS.aloadN X0.here hx rfl (hb hby d22_0) rfl rfl k_) ?_
  show OEnds p e below s _ _ _ (s₁.setTop (mkF m 1 #[.val (.ref d), .val (.int (2 : Int32))] [(.ref d)]))
  refine OEnds.via (fun _ k_ => XS.iloadN X0.here hx rfl (hb hby d22_1) rfl k_) ?_
  show OEnds p e below s _ _ _ (s₁.setTop (mkF m 2 #[.val (.ref d), .val (.int (2 : Int32))] [(.int (2 : Int32)), (.ref d)]))
  refine OEnds.via (fun _ k_ => XS.aloadN X0.here hx rfl (hb hby d22_2) rfl rfl k_) ?_
  show OEnds p e below s _ _ _ (s₁.setTop (mkF m 3 #[.val (.ref d), .val (.int (2 : Int32))] [(.ref d), (.int (2 : Int32)), (.ref d)]))
  obtain ⟨T1, X1, e1, st1⟩ := gcls X0 hx hZ hown (hw _ (List.mem_of_getElem? (i := 151) rfl)) (hw _ (List.mem_of_getElem? (i := 152) rfl)) (hw _ (List.mem_of_getElem? (i := 128) rfl)) (hw _ (List.mem_of_getElem? (i := 154) rfl)) (hw _ (List.mem_of_getElem? (i := 153) rfl)) (hw _ (List.mem_of_getElem? (i := 155) rfl)) e0 E_d M (g := (mkF m 3 #[.val (.ref d), .val (.int (2 : Int32))] [(.ref d), (.int (2 : Int32)), (.ref d)])) rfl (by rw [hml]; rfl) rfl (hb hby d22_3) (by decide) (W := 2) (by show 2 * 0 + _ ≤ _; exact Nat.le_of_eq rfl) (by decide)
  refine OEnds.via (fun _ k_ => st1 _ k_) ?_
  show OEnds p e below s _ _ _ (T1.setTop (mkF m 6 #[.val (.ref d), .val (.int (2 : Int32))] [(.ref mr), (.int (2 : Int32)), (.ref d)]))
  obtain ⟨_, _, ⟨T2, L2, k2, n2⟩, -, X2, ⟨Lc2, hQ2, l2, y2, z2⟩, st2⟩ := Jvm.LawKit.callS X1 hx (y := (⟨"java/util/Arrays", "copyOf", "([Ljava/lang/Object;ILjava/lang/Class;)[Ljava/lang/Object;"⟩ : MethodName)) hown (mvT hZ (hw _ (List.mem_of_getElem? (i := 157) rfl))) (mvT hZ (hw _ (List.mem_of_getElem? (i := 158) rfl))) (mvT hZ (hw _ (List.mem_of_getElem? (i := 149) rfl))) (mvT hZ (hw _ (List.mem_of_getElem? (i := 159) rfl))) (by decide) (backOf (W := 0) (rmC3_2 l Z a0 hw [] d kd mr y0 y1 h0 n0 Od V_d E_y0 E_y1 M) hZ (hw _ (List.mem_of_getElem? (i := 159) rfl)) (hw _ (List.mem_of_getElem? (i := 149) rfl)) (by decide) (by decide)) (g := (mkF m 6 #[.val (.ref d), .val (.int (2 : Int32))] [(.ref mr), (.int (2 : Int32)), (.ref d)])) rfl (by rw [hml]; rfl) (argsL := [(.ref d), (.int (2 : Int32)), (.ref mr)]) (rest := []) (lenOf pd_285bLjava2flang2fObject3bILjava2flang2fClass3b295bLjava2flang2fObject3b rfl) rfl (by show 2 * 0 + _ ≤ _; exact Nat.le_of_eq rfl) (hb hby d22_6) (fun _ _ => ⟨rfl, e1, Nat.le_of_ble_eq_true rfl, Nat.le_of_ble_eq_true rfl⟩)
  dsimp only [Pt.U, Pt.locs, Pt.cells, Pt.slots] at X2 l2 y2 z2 st2 hQ2
  subst l2 y2 z2
  obtain ⟨b, kb, rfl, N2q, R2⟩ := hQ2
  have N2 := Fr.app N0 N2q
  refine OEnds.via (fun _ k_ => st2 _ k_) ?_
  show OEnds p e below s _ _ _ (T2.setTop (mkF m 9 #[.val (.ref d), .val (.int (2 : Int32))] [(.ref b)]))
  refine OEnds.retR X2 hx hlk Bd.returns rfl rfl (hb hby d22_9) ?_ (by decide) (by decide)
  exact ⟨_, _, rfl, N2, R2⟩
def Q_rmTA_2 (Z : State) (r : Addr) (d : Addr) (kd : ClassId) (mr : Addr) (y0 : Addr) (y1 : Addr) (h0 : Heap) (n0 : Nat) (v : Option Value) (h : Heap) (L : List Loc) : Prop := ∃ b kb, v = some (.ref b) ∧ Fr n0 L ∧ Keep h0 h [] ∧ n0 ≤ b ∧ h0.size ≤ b ∧ Arv Z h b kb (.object "java/lang/Object") (2 : Int32) [(.ref y0), (.ref y1)] .null
set_option maxRecDepth 65536 in
set_option maxHeartbeats 40000000 in
theorem rmTA_2 (l : Launch) (Z : State) (a0 : Array Value) (hw : ∀ d ∈ tables_1, d.before a0 Z = true) (ws : List Jvm.Cond) (r : Addr) (d : Addr) (kd : ClassId) (mr : Addr) (y0 : Addr) (y1 : Addr) (h0 : Heap) (n0 : Nat) (O0 : Old Z n0 h0) (F_ed : Fld Z h0 r "java/util/ArrayList" "elementData" "[Ljava/lang/Object;" (.ref d)) (F_sz : Fld Z h0 r "java/util/ArrayList" "size" "I" (.int (2 : Int32))) (V_d : Arv Z h0 d kd (.object "java/lang/Object") (10 : Int32) [(.ref y0), (.ref y1), .null, .null, .null, .null, .null, .null, .null, .null] .null) (E_y0 : Exa Z h0 y0 "com/example/holdfast/holdfast/LockInfo$Reader") (E_y1 : Exa Z h0 y1 "com/example/holdfast/holdfast/LockInfo$Reader") (M : Mir Z "[Ljava/lang/Object;" mr) (E_d : Exa Z h0 d "[Ljava/lang/Object;") :
    MetFree l (⟨"java/util/ArrayList", "toArray", "()[Ljava/lang/Object;"⟩ : MethodName) (head1 (Jvm.Cond.code (⟨"java/util/ArrayList", "toArray", "()[Ljava/lang/Object;"⟩ : MethodName) jdk_38_method_16_code 1 (some (.array (.object "java/lang/Object"))) :: ws) ({ frames := 3, cells := 1, slots := 2, locals := 64 } : Room)) (fun ar' U => ar' = #[(.ref r)] ∧ Z.Warmed39 U.vm ∧ U.heap = h0) (fun _ _ _ _ _ => True) (fun _ U o U' => ∃ v L, o = .returned v ∧ (Q_rmTA_2 Z r d kd mr y0 y1 h0 n0) v U'.heap L ∧ FrameEnd U o U' L ({ frames := 3, cells := 1, slots := 2, locals := 64 } : Room).cells ({ frames := 3, cells := 1, slots := 2, locals := 64 } : Room).slots) := by
  refine MetFree.of_bodySF (plainFor_of_name pn_java_util_ArrayList) hisR ?_
  intro p e s m args below meth c s₁ Bd hml0 hP hK
  obtain ⟨rfl, hZ, hh⟩ := hP
  have hx := Bd.exec
  have hby := Bd.bytes
  have hlk := BodyLoose.notSynchronized Bd
  have hml : c.maxLocals = 1 := hml0
  have hown : s.vm.findClass "java/util/ArrayList" = some m.cls := findClass_of_methodNamed Bd.named
  have hnm := (name_of_methodNamed Bd.named Bd.method).1
  have X0 : Stand p l e ({ frames := 3, cells := 1, slots := 2, locals := 64 } : Room) s m #[(.ref r)] below meth c s₁ [] 0 0 := Stand.of_body Bd
  have e0 : s₁.heap = h0 := by rw [← hh, Bd.state]; rfl
  have N0 := Fr.nil n0
  have Z0 : n0 ≤ h0.size := O0.1 ▸ O0.2.1
  show OEnds p e below s ({ frames := 3, cells := 1, slots := 2, locals := 64 } : Room).cells ({ frames := 3, cells := 1, slots := 2, locals := 64 } : Room).slots (Q_rmTA_2 Z r d kd mr y0 y1 h0 n0) (s₁.setTop (entryFrame m #[(.ref r)] 1))
  refine OEnds.via (fun _ k_ => castTop (show entryFrame m #[(.ref r)] 1 = (mkF m 0 #[.val (.ref r)] []) by first | (simp [entryFrame, mkF, argsToLocals, Value.category, maxLocals]; done) | rfl) k_) ?_
  have Od := O0
  show OEnds p e below s _ _ _ (s₁.setTop (mkF m 0 #[.val (.ref r)] []))
  refine OEnds.via (fun _ k_ => XS.aloadN X0.here hx rfl (hb hby d21_0) rfl rfl k_) ?_
  show OEnds p e below s _ _ _ (s₁.setTop (mkF m 1 #[.val (.ref r)] [(.ref r)]))
  obtain ⟨T1, X1, e1, st1⟩ := getF X0 hx hZ hown (host := "") (Or.inl (hw _ (List.mem_of_getElem? (i := 63) rfl))) Via.refl e0 F_ed (g := (mkF m 1 #[.val (.ref r)] [(.ref r)])) rfl rfl (hb hby d21_1)
  refine OEnds.via (fun _ k_ => st1 _ k_) ?_
  show OEnds p e below s _ _ _ (T1.setTop (mkF m 4 #[.val (.ref r)] [(.ref d)]))
  refine OEnds.via (fun _ k_ => XS.aloadN X1.here hx rfl (hb hby d21_4) rfl rfl k_) ?_
  show OEnds p e below s _ _ _ (T1.setTop (mkF m 5 #[.val (.ref r)] [(.ref r), (.ref d)]))
  obtain ⟨T2, X2, e2, st2⟩ := getF X1 hx hZ hown (host := "") (Or.inl (hw _ (List.mem_of_getElem? (i := 72) rfl))) Via.refl e1 F_sz (g := (mkF m 5 #[.val (.ref r)] [(.ref r), (.ref d)])) rfl rfl (hb hby d21_5)
  refine OEnds.via (fun _ k_ => st2 _ k_) ?_
  show OEnds p e below s _ _ _ (T2.setTop (mkF m 8 #[.val (.ref r)] [(.int (2 : Int32)), (.ref d)]))
  obtain ⟨_, _, ⟨T3, L3, k3, n3⟩, -, X3, ⟨Lc3, hQ3, l3, y3, z3⟩, st3⟩ := Jvm.LawKit.callS X2 hx (y := (⟨"java/util/Arrays", "copyOf", "([Ljava/lang/Object;I)[Ljava/lang/Object;"⟩ : MethodName)) hown (mvT hZ (hw _ (List.mem_of_getElem? (i := 147) rfl))) (mvT hZ (hw _ (List.mem_of_getElem? (i := 148) rfl))) (mvT hZ (hw _ (List.mem_of_getElem? (i := 149) rfl))) (mvT hZ (hw _ (List.mem_of_getElem? (i := 150) rfl))) (by decide) (backOf (W := 0) (rmC2_2 l Z a0 hw [] d kd mr y0 y1 h0 n0 Od V_d E_y0 E_y1 M E_d) hZ (hw _ (List.mem_of_getElem? (i := 150) rfl)) (hw _ (List.mem_of_getElem? (i := 149) rfl)) (by decide) (by decide)) (g := (mkF m 8 #[.val (.ref r)] [(.int (2 : Int32)), (.ref d)])) rfl (by rw [hml]; rfl) (argsL := [(.ref d), (.int (2 : Int32))]) (rest := []) (lenOf pd_285bLjava2flang2fObject3bI295bLjava2flang2fObject3b rfl) rfl (by show 2 * 0 + _ ≤ _; exact Nat.le_of_eq rfl) (hb hby d21_8) (fun _ _ => ⟨rfl, e2, Nat.le_of_ble_eq_true rfl, Nat.le_of_ble_eq_true rfl⟩)
  dsimp only [Pt.U, Pt.locs, Pt.cells, Pt.slots] at X3 l3 y3 z3 st3 hQ3
  subst l3 y3 z3
  obtain ⟨b, kb, rfl, N3q, R3⟩ := hQ3
  have N3 := Fr.app N0 N3q
  refine OEnds.via (fun _ k_ => st3 _ k_) ?_
  show OEnds p e below s _ _ _ (T3.setTop (mkF m 11 #[.val (.ref r)] [(.ref b)]))
  refine OEnds.retR X3 hx hlk Bd.returns rfl rfl (hb hby d21_11) ?_ (by decide) (by decide)
  exact ⟨_, _, rfl, N3, R3⟩
def Q_rmOf_2 (Z : State) (b : Addr) (kb : ClassId) (em : Addr) (y0 : Addr) (y1 : Addr) (h0 : Heap) (n0 : Nat) (v : Option Value) (h : Heap) (L : List Loc) : Prop := ∃ q, v = some (.ref q) ∧ Fr n0 L ∧ Keep h0 h [] ∧ n0 ≤ q ∧ h0.size ≤ q ∧ Exa Z h q "java/util/ImmutableCollections$List12" ∧ Fld Z h q "java/util/ImmutableCollections$List12" "e0" "Ljava/lang/Object;" (.ref y0) ∧ Fld Z h q "java/util/ImmutableCollections$List12" "e1" "Ljava/lang/Object;" (.ref y1)
set_option maxRecDepth 65536 in
set_option maxHeartbeats 40000000 in
theorem rmOf_2 (l : Launch) (Z : State) (a0 : Array Value) (hw : ∀ d ∈ tables_1, d.before a0 Z = true) (ws : List Jvm.Cond) (b : Addr) (kb : ClassId) (em : Addr) (y0 : Addr) (y1 : Addr) (h0 : Heap) (n0 : Nat) (O0 : Old Z n0 h0) (V_b : Arv Z h0 b kb (.object "java/lang/Object") (2 : Int32) [(.ref y0), (.ref y1)] .null) (S_em : Sta Z Z.heap "java/util/ImmutableCollections" "EMPTY" "Ljava/lang/Object;" (.ref em)) :
    MetFree l (⟨"java/util/List", "of", "([Ljava/lang/Object;)Ljava/util/List;"⟩ : MethodName) (head1 (Jvm.Cond.code (⟨"java/util/List", "of", "([Ljava/lang/Object;)Ljava/util/List;"⟩ : MethodName) jdk_40_method_47_code 2 (some (.object "java/util/List")) :: ws) ({ frames := 5, cells := 1, slots := 2, locals := 72 } : Room)) (fun ar' U => ar' = #[(.ref b)] ∧ Z.Warmed39 U.vm ∧ U.heap = h0) (fun _ _ _ _ _ => True) (fun _ U o U' => ∃ v L, o = .returned v ∧ (Q_rmOf_2 Z b kb em y0 y1 h0 n0) v U'.heap L ∧ FrameEnd U o U' L ({ frames := 5, cells := 1, slots := 2, locals := 72 } : Room).cells ({ frames := 5, cells := 1, slots := 2, locals := 72 } : Room).slots) := by
  refine MetFree.of_bodySF (plainFor_of_name pn_java_util_List) hisR ?_
  intro p e s m args below meth c s₁ Bd hml0 hP hK
  obtain ⟨rfl, hZ, hh⟩ := hP
  have hx := Bd.exec
  have hby := Bd.bytes
  have hlk := BodyLoose.notSynchronized Bd
  have hml : c.maxLocals = 2 := hml0
  have hown : s.vm.findClass "java/util/List" = some m.cls := findClass_of_methodNamed Bd.named
  have hnm := (name_of_methodNamed Bd.named Bd.method).1
  have X0 : Stand p l e ({ frames := 5, cells := 1, slots := 2, locals := 72 } : Room) s m #[(.ref b)] below meth c s₁ [] 0 0 := Stand.of_body Bd
  have e0 : s₁.heap = h0 := by rw [← hh, Bd.state]; rfl
  have N0 := Fr.nil n0
  have Z0 : n0 ≤ h0.size := O0.1 ▸ O0.2.1
  show OEnds p e below s ({ frames := 5, cells := 1, slots := 2, locals := 72 } : Room).cells ({ frames := 5, cells := 1, slots := 2, locals := 72 } : Room).slots (Q_rmOf_2 Z b kb em y0 y1 h0 n0) (s₁.setTop (entryFrame m #[(.ref b)] 2))
  refine OEnds.via (fun _ k_ => castTop (show entryFrame m #[(.ref b)] 2 = (mkF m 0 #[.val (.ref b), .unset] []) by first | (simp [entryFrame, mkF, argsToLocals, Value.category, maxLocals]; done) | rfl) k_) ?_
  have Od := O0
  have Kp := Keep.refl h0 []
  show OEnds p e below s _ _ _ (s₁.setTop (mkF m 0 #[.val (.ref b), .unset] []))
  refine OEnds.via (fun _ k_ => XS.aloadN X0.here hx rfl (hb hby d25_0) rfl rfl k_) ?_
  show OEnds p e below s _ _ _ (s₁.setTop (mkF m 1 #[.val (.ref b), .unset] [(.ref b)]))
  have V1c := V_b
  obtain ⟨cl1, Ar1, q1, S1, M1, H1, -⟩ := V1c
  refine OEnds.via (fun _ k_ => X0.arraylength hx (by rw [e0]; exact Ar1.1) (State.isArrayOf_alike hZ.alike Ar1.2.1) (g := (mkF m 1 #[.val (.ref b), .unset] [(.ref b)])) rfl rfl (hb hby d25_1) _ k_) ?_
  rw [len_of S1 M1]
  show OEnds p e below s _ _ _ (s₁.setTop (mkF m 2 #[.val (.ref b), .unset] [(.int (2 : Int32))]))
  refine OEnds.via (fun _ k_ => X0.tableswitchIn hx (g := (mkF m 2 #[.val (.ref b), .unset] [(.int (2 : Int32))])) rfl rfl (hb hby d25_2) (by decide) (off := 43) rfl (show (0 : Int) ≤ 2 + 43 by decide) _ k_) ?_
  show OEnds p e below s _ _ _ (s₁.setTop (mkF m 45 #[.val (.ref b), .unset] []))
  obtain ⟨T2, h2, X2, e2, E2, A2, D2, -, st2⟩ := newO X0 hx hZ hown (hw _ (List.mem_of_getElem? (i := 172) rfl)) (hw _ (List.mem_of_getElem? (i := 173) rfl)) (hw _ (List.mem_of_getElem? (i := 174) rfl)) e0 (g := (mkF m 45 #[.val (.ref b), .unset] [])) rfl (hb hby d25_45) (by decide) (by decide)
  obtain ⟨b2, g2⟩ : ∃ z, z = h0.size := ⟨_, rfl⟩
  have ne_b_b2 : b ≠ b2 := Nat.ne_of_lt (Nat.lt_of_lt_of_le V_b.lt (Nat.le_of_eq g2.symm))
  have ge_b2 : n0 ≤ b2 := Nat.le_trans (Od.1 ▸ Od.2.1) (Nat.le_of_eq g2.symm)
  have sz_b2 : h0.size ≤ b2 := Nat.le_trans Kp.1 (Nat.le_of_eq g2.symm)
  rw [← g2] at A2 D2 st2
  replace Od := Od.ext E2
  replace V_b := V_b.ext E2
  replace Kp := Kp.ext E2
  have E_b2 : Exa Z h2 b2 "java/util/ImmutableCollections$List12" := A2
  have F_e0_b2 : Fld Z h2 b2 "java/util/ImmutableCollections$List12" "e0" "Ljava/lang/Object;" .null := D2 (Or.inr (hw _ (List.mem_of_getElem? (i := 198) rfl))) (ty := (.object "java/lang/Object")) (by decide)
  have F_e1_b2 : Fld Z h2 b2 "java/util/ImmutableCollections$List12" "e1" "Ljava/lang/Object;" .null := D2 (Or.inr (hw _ (List.mem_of_getElem? (i := 201) rfl))) (ty := (.object "java/lang/Object")) (by decide)
  refine OEnds.via (fun _ k_ => st2 _ k_) ?_
  show OEnds p e below s _ _ _ (T2.setTop (mkF m 48 #[.val (.ref b), .unset] [(.ref b2)]))
  refine OEnds.via (fun _ k_ => XS.dup X2.here hx rfl (hb hby d25_48) rfl rfl k_) ?_
  show OEnds p e below s _ _ _ (T2.setTop (mkF m 49 #[.val (.ref b), .unset] [(.ref b2), (.ref b2)]))
  refine OEnds.via (fun _ k_ => XS.aloadN X2.here hx rfl (hb hby d25_49) rfl rfl k_) ?_
  show OEnds p e below s _ _ _ (T2.setTop (mkF m 50 #[.val (.ref b), .unset] [(.ref b), (.ref b2), (.ref b2)]))
  refine OEnds.via (fun _ k_ => XS.iconst X2.here hx rfl (hb hby d25_50) k_) ?_
  show OEnds p e below s _ _ _ (T2.setTop (mkF m 51 #[.val (.ref b), .unset] [(.int (0 : Int32)), (.ref b), (.ref b2), (.ref b2)]))
  have V3c := V_b
  obtain ⟨cl3, Ar3, q3, S3, M3, H3, -⟩ := V3c
  refine OEnds.via (fun _ k_ => X2.aaload hx (j := (0 : Int32)) (v := (.ref y0)) (by rw [e2]; exact Ar3.1) (State.isArrayOf_alike hZ.alike Ar3.2.1) rfl Ar3.2.2 (inb_of S3 ⟨by decide, by decide⟩) (H3 0 (by rw [S3]; decide)) (g := (mkF m 51 #[.val (.ref b), .unset] [(.int (0 : Int32)), (.ref b), (.ref b2), (.ref b2)])) rfl rfl (hb hby d25_51) _ k_) ?_
  show OEnds p e below s _ _ _ (T2.setTop (mkF m 52 #[.val (.ref b), .unset] [(.ref y0), (.ref b2), (.ref b2)]))
  refine OEnds.via (fun _ k_ => XS.aloadN X2.here hx rfl (hb hby d25_52) rfl rfl k_) ?_
  show OEnds p e below s _ _ _ (T2.setTop (mkF m 53 #[.val (.ref b), .unset] [(.ref b), (.ref y0), (.ref b2), (.ref b2)]))
  refine OEnds.via (fun _ k_ => XS.iconst X2.here hx rfl (hb hby d25_53) k_) ?_
  show OEnds p e below s _ _ _ (T2.setTop (mkF m 54 #[.val (.ref b), .unset] [(.int (1 : Int32)), (.ref b), (.ref y0), (.ref b2), (.ref b2)]))
  have V4c := V_b
  obtain ⟨cl4, Ar4, q4, S4, M4, H4, -⟩ := V4c
  refine OEnds.via (fun _ k_ => X2.aaload hx (j := (1 : Int32)) (v := (.ref y1)) (by rw [e2]; exact Ar4.1) (State.isArrayOf_alike hZ.alike Ar4.2.1) rfl Ar4.2.2 (inb_of S4 ⟨by decide, by decide⟩) (H4 1 (by rw [S4]; decide)) (g := (mkF m 54 #[.val (.ref b), .unset] [(.int (1 : Int32)), (.ref b), (.ref y0), (.ref b2), (.ref b2)])) rfl rfl (hb hby d25_54) _ k_) ?_
  show OEnds p e below s _ _ _ (T2.setTop (mkF m 55 #[.val (.ref b), .unset] [(.ref y1), (.ref y0), (.ref b2), (.ref b2)]))
  obtain ⟨_, _, ⟨T5, L5, k5, n5⟩, -, X5, ⟨Lc5, hQ5, l5, y5, z5⟩, st5⟩ := X2.specialBack hx (y := (⟨"java/util/ImmutableCollections$List12", "<init>", "(Ljava/lang/Object;Ljava/lang/Object;)V"⟩ : MethodName)) rfl hown (mvT hZ (hw _ (List.mem_of_getElem? (i := 279) rfl))) (mvT hZ (hw _ (List.mem_of_getElem? (i := 280) rfl))) (mvT hZ (hw _ (List.mem_of_getElem? (i := 281) rfl))) (by decide) (backOf (W := 1) (rmI12_2 l Z a0 hw [] b2 y0 y1 h2 n0 Od F_e0_b2 F_e1_b2 E_b2 ge_b2) hZ (hw _ (List.mem_of_getElem? (i := 281) rfl)) (hw _ (List.mem_of_getElem? (i := 174) rfl)) (by decide) (by decide)) (g := (mkF m 55 #[.val (.ref b), .unset] [(.ref y1), (.ref y0), (.ref b2), (.ref b2)])) rfl (by rw [hml]; rfl) (Steps.refl _) (a := b2) (argsL := [(.ref y0), (.ref y1)]) (rest := [(.ref b2)]) (lenOf pd_28Ljava2flang2fObject3bLjava2flang2fObject3b29V rfl) rfl (by show 2 * 0 + _ ≤ _; exact Nat.le_of_eq rfl) (hb hby d25_55) (fun _ _ => ⟨rfl, e2, Nat.le_of_ble_eq_true rfl, Nat.le_of_ble_eq_true rfl⟩)
  dsimp only [Pt.U, Pt.locs, Pt.cells, Pt.slots] at X5 l5 y5 z5 st5 hQ5
  subst l5 y5 z5
  obtain ⟨rfl, N5q, K5, -, G0, G1⟩ := hQ5
  have N5 := Fr.app N0 N5q
  replace Od := Od.keep K5 (allS ge_b2 all0)
  replace V_b := V_b.keep K5 (ninS ne_b_b2 nin0)
  replace Kp := Kp.trans K5 (allS (Or.inr sz_b2) all0)
  replace E_b2 := E_b2.keep K5
  refine OEnds.via (fun _ k_ => st5.trans k_) ?_
  show OEnds p e below s _ _ _ (T5.setTop (mkF m 58 #[.val (.ref b), .unset] [(.ref b2)]))
  refine OEnds.retR X5 hx hlk Bd.returns rfl rfl (hb hby d25_58) ?_ (by decide) (by decide)
  exact ⟨_, rfl, N5, Kp, ge_b2, sz_b2, E_b2, G0, G1⟩
def Q_rmLC_2 (Z : State) (r : Addr) (d : Addr) (kd : ClassId) (mr : Addr) (em : Addr) (y0 : Addr) (y1 : Addr) (h0 : Heap) (n0 : Nat) (v : Option Value) (h : Heap) (L : List Loc) : Prop := ∃ q, v = some (.ref q) ∧ Fr n0 L ∧ Keep h0 h [] ∧ n0 ≤ q ∧ h0.size ≤ q ∧ Exa Z h q "java/util/ImmutableCollections$List12" ∧ Fld Z h q "java/util/ImmutableCollections$List12" "e0" "Ljava/lang/Object;" (.ref y0) ∧ Fld Z h q "java/util/ImmutableCollections$List12" "e1" "Ljava/lang/Object;" (.ref y1)
set_option maxRecDepth 65536 in
set_option maxHeartbeats 40000000 in
theorem rmLC_2 (l : Launch) (Z : State) (a0 : Array Value) (hw : ∀ d ∈ tables_1, d.before a0 Z = true) (ws : List Jvm.Cond) (r : Addr) (d : Addr) (kd : ClassId) (mr : Addr) (em : Addr) (y0 : Addr) (y1 : Addr) (h0 : Heap) (n0 : Nat) (O0 : Old Z n0 h0) (F_ed : Fld Z h0 r "java/util/ArrayList" "elementData" "[Ljava/lang/Object;" (.ref d)) (F_sz : Fld Z h0 r "java/util/ArrayList" "size" "I" (.int (2 : Int32))) (E_r : Exa Z h0 r "java/util/ArrayList") (V_d : Arv Z h0 d kd (.object "java/lang/Object") (10 : Int32) [(.ref y0), (.ref y1), .null, .null, .null, .null, .null, .null, .null, .null] .null) (E_y0 : Exa Z h0 y0 "com/example/holdfast/holdfast/LockInfo$Reader") (E_y1 : Exa Z h0 y1 "com/example/holdfast/holdfast/LockInfo$Reader") (M : Mir Z "[Ljava/lang/Object;" mr) (E_d : Exa Z h0 d "[Ljava/lang/Object;") (S_em : Sta Z Z.heap "java/util/ImmutableCollections" "EMPTY" "Ljava/lang/Object;" (.ref em)) :
    MetFree l (⟨"java/util/ImmutableCollections", "listCopy", "(Ljava/util/Collection;)Ljava/util/List;"⟩ : MethodName) (head1 (Jvm.Cond.code (⟨"java/util/ImmutableCollections", "listCopy", "(Ljava/util/Collection;)Ljava/util/List;"⟩ : MethodName) jdk_56_method_3_code 2 (some (.object "java/util/List")) :: ws) ({ frames := 6, cells := 2, slots := 4, locals := 88 } : Room)) (fun ar' U => ar' = #[(.ref r)] ∧ Z.Warmed39 U.vm ∧ U.heap = h0) (fun _ _ _ _ _ => True) (fun _ U o U' => ∃ v L, o = .returned v ∧ (Q_rmLC_2 Z r d kd mr em y0 y1 h0 n0) v U'.heap L ∧ FrameEnd U o U' L ({ frames := 6, cells := 2, slots := 4, locals := 88 } : Room).cells ({ frames := 6, cells := 2, slots := 4, locals := 88 } : Room).slots) := by
  refine MetFree.of_bodySF (plainFor_of_name pn_java_util_ImmutableCollections) hisR ?_
  intro p e s m args below meth c s₁ Bd hml0 hP hK
  obtain ⟨rfl, hZ, hh⟩ := hP
  have hx := Bd.exec
  have hby := Bd.bytes
  have hlk := BodyLoose.notSynchronized Bd
  have hml : c.maxLocals = 2 := hml0
  have hown : s.vm.findClass "java/util/ImmutableCollections" = some m.cls := findClass_of_methodNamed Bd.named
  have hnm := (name_of_methodNamed Bd.named Bd.method).1
  have X0 : Stand p l e ({ frames := 6, cells := 2, slots := 4, locals := 88 } : Room) s m #[(.ref r)] below meth c s₁ [] 0 0 := Stand.of_body Bd
  have e0 : s₁.heap = h0 := by rw [← hh, Bd.state]; rfl
  have N0 := Fr.nil n0
  have Z0 : n0 ≤ h0.size := O0.1 ▸ O0.2.1
  show OEnds p e below s ({ frames := 6, cells := 2, slots := 4, locals := 88 } : Room).cells ({ frames := 6, cells := 2, slots := 4, locals := 88 } : Room).slots (Q_rmLC_2 Z r d kd mr em y0 y1 h0 n0) (s₁.setTop (entryFrame m #[(.ref r)] 2))
  refine OEnds.via (fun _ k_ => castTop (show entryFrame m #[(.ref r)] 2 = (mkF m 0 #[.val (.ref r), .unset] []) by first | (simp [entryFrame, mkF, argsToLocals, Value.category, maxLocals]; done) | rfl) k_) ?_
  have Od := O0
  have Kp := Keep.refl h0 []
  show OEnds p e below s _ _ _ (s₁.setTop (mkF m 0 #[.val (.ref r), .unset] []))
  refine OEnds.via (fun _ k_ => XS.aloadN X0.here hx rfl (hb hby d19_0) rfl rfl k_) ?_
  show OEnds p e below s _ _ _ (s₁.setTop (mkF m 1 #[.val (.ref r), .unset] [(.ref r)]))
  obtain ⟨T1, X1, e1, st1⟩ := instNo X0 hx hZ hown (hw _ (List.mem_of_getElem? (i := 124) rfl)) e0 E_r (own_not_t12 hw) (g := (mkF m 1 #[.val (.ref r), .unset] [(.ref r)])) rfl rfl (hb hby d19_1)
  refine OEnds.via (fun _ k_ => st1 _ k_) ?_
  show OEnds p e below s _ _ _ (T1.setTop (mkF m 4 #[.val (.ref r), .unset] [(.int (0 : Int32))]))
  refine OEnds.via (fun _ k_ => XS.ifNo X1.here hx rfl (hb hby d19_4) rfl ((if0 _ _).trans (teq (by decide : (0 : Int32) = (0 : Int32))).2) k_) ?_
  show OEnds p e below s _ _ _ (T1.setTop (mkF m 7 #[.val (.ref r), .unset] []))
  refine OEnds.via (fun _ k_ => XS.aloadN X1.here hx rfl (hb hby d19_7) rfl rfl k_) ?_
  show OEnds p e below s _ _ _ (T1.setTop (mkF m 8 #[.val (.ref r), .unset] [(.ref r)]))
  obtain ⟨T2, X2, e2, st2⟩ := instNo X1 hx hZ hown (hw _ (List.mem_of_getElem? (i := 129) rfl)) e1 E_r (own_not_stN hw) (g := (mkF m 8 #[.val (.ref r), .unset] [(.ref r)])) rfl rfl (hb hby d19_8)
  refine OEnds.via (fun _ k_ => st2 _ k_) ?_
  show OEnds p e below s _ _ _ (T2.setTop (mkF m 11 #[.val (.ref r), .unset] [(.int (0 : Int32))]))
  refine OEnds.via (fun _ k_ => XS.ifYes X2.here hx rfl (pc0 := 11) (pc' := 31) rfl (hb hby d19_11) rfl ((if0 _ _).trans (teq (by decide : (0 : Int32) = (0 : Int32))).1) (by decide) (by decide) k_) ?_
  show OEnds p e below s _ _ _ (T2.setTop (mkF m 31 #[.val (.ref r), .unset] []))
  refine OEnds.via (fun _ k_ => XS.aloadN X2.here hx rfl (hb hby d19_31) rfl rfl k_) ?_
  show OEnds p e below s _ _ _ (T2.setTop (mkF m 32 #[.val (.ref r), .unset] [(.ref r)]))
  obtain ⟨cq3, kq3, q3a, q3b, q3c⟩ := isOf hZ e2 E_r
  obtain ⟨_, _, ⟨T3, L3, k3, n3⟩, -, X3, ⟨Lc3, hQ3, l3, y3, z3⟩, st3⟩ := X2.interfaceBack hx (xi := (⟨"java/util/Collection", "isEmpty", "()Z"⟩ : MethodName)) (y := (⟨"java/util/ArrayList", "isEmpty", "()Z"⟩ : MethodName)) hown (mvT hZ (hw _ (List.mem_of_getElem? (i := 130) rfl))) (mvT hZ (hw _ (List.mem_of_getElem? (i := 131) rfl))) (mvT hZ (hw _ (List.mem_of_getElem? (i := 132) rfl))) (mvT hZ (hw _ (List.mem_of_getElem? (i := 133) rfl))) (mvT hZ (hw _ (List.mem_of_getElem? (i := 134) rfl))) (mvT hZ (hw _ (List.mem_of_getElem? (i := 135) rfl))) (mvT hZ (hw _ (List.mem_of_getElem? (i := 136) rfl))) (mvT hZ (hw _ (List.mem_of_getElem? (i := 137) rfl))) (by decide) (backOf (W := 0) (rmIE2 l Z a0 hw [] r h0 n0 Od F_sz) hZ (hw _ (List.mem_of_getElem? (i := 138) rfl)) (hw _ (List.mem_of_getElem? (i := 43) rfl)) (by decide) (by decide)) q3a q3b q3c (g := (mkF m 32 #[.val (.ref r), .unset] [(.ref r)])) rfl (by rw [hml]; rfl) (Steps.refl _) (argsL := []) (rest := []) (lenOf pd_2829Z rfl) rfl (by show 2 * 0 + _ ≤ _; exact Nat.le_of_eq rfl) (hb hby d19_32) (fun _ _ => ⟨rfl, e2, Nat.le_of_ble_eq_true rfl, Nat.le_of_ble_eq_true rfl⟩)
  dsimp only [Pt.U, Pt.locs, Pt.cells, Pt.slots] at X3 l3 y3 z3 st3 hQ3
  subst l3 y3 z3
  obtain ⟨rfl, N3q, e3⟩ := hQ3
  have N3 := Fr.app N0 N3q
  refine OEnds.via (fun _ k_ => st3.trans k_) ?_
  show OEnds p e below s _ _ _ (T3.setTop (mkF m 37 #[.val (.ref r), .unset] [(.int (0 : Int32))]))
  refine OEnds.via (fun _ k_ => XS.ifYes X3.here hx rfl (pc0 := 37) (pc' := 44) rfl (hb hby d19_37) rfl ((if0 _ _).trans (teq (by decide : (0 : Int32) = (0 : Int32))).1) (by decide) (by decide) k_) ?_
  show OEnds p e below s _ _ _ (T3.setTop (mkF m 44 #[.val (.ref r), .unset] []))
  refine OEnds.via (fun _ k_ => XS.aloadN X3.here hx rfl (hb hby d19_44) rfl rfl k_) ?_
  show OEnds p e below s _ _ _ (T3.setTop (mkF m 45 #[.val (.ref r), .unset] [(.ref r)]))
  obtain ⟨cq4, kq4, q4a, q4b, q4c⟩ := isOf hZ e3 E_r
  obtain ⟨_, _, ⟨T4, L4, k4, n4⟩, -, X4, ⟨Lc4, hQ4, l4, y4, z4⟩, st4⟩ := X3.interfaceBack hx (xi := (⟨"java/util/Collection", "toArray", "()[Ljava/lang/Object;"⟩ : MethodName)) (y := (⟨"java/util/ArrayList", "toArray", "()[Ljava/lang/Object;"⟩ : MethodName)) hown (mvT hZ (hw _ (List.mem_of_getElem? (i := 139) rfl))) (mvT hZ (hw _ (List.mem_of_getElem? (i := 140) rfl))) (mvT hZ (hw _ (List.mem_of_getElem? (i := 141) rfl))) (mvT hZ (hw _ (List.mem_of_getElem? (i := 142) rfl))) (mvT hZ (hw _ (List.mem_of_getElem? (i := 143) rfl))) (mvT hZ (hw _ (List.mem_of_getElem? (i := 144) rfl))) (mvT hZ (hw _ (List.mem_of_getElem? (i := 145) rfl))) (mvT hZ (hw _ (List.mem_of_getElem? (i := 137) rfl))) (by decide) (backOf (W := 0) (rmTA_2 l Z a0 hw [] r d kd mr y0 y1 h0 n0 Od F_ed F_sz V_d E_y0 E_y1 M E_d) hZ (hw _ (List.mem_of_getElem? (i := 146) rfl)) (hw _ (List.mem_of_getElem? (i := 43) rfl)) (by decide) (by decide)) q4a q4b q4c (g := (mkF m 45 #[.val (.ref r), .unset] [(.ref r)])) rfl (by rw [hml]; rfl) (Steps.refl _) (argsL := []) (rest := []) (lenOf pd_28295bLjava2flang2fObject3b rfl) rfl (by show 2 * 0 + _ ≤ _; exact Nat.le_of_eq rfl) (hb hby d19_45) (fun _ _ => ⟨rfl, e3, Nat.le_of_ble_eq_true rfl, Nat.le_of_ble_eq_true rfl⟩)
  dsimp only [Pt.U, Pt.locs, Pt.cells, Pt.slots] at X4 l4 y4 z4 st4 hQ4
  subst l4 y4 z4
  obtain ⟨b, kb, rfl, N4q, K4, ge_b, sz4, V_b⟩ := hQ4
  have N4 := Fr.app N3 N4q
  replace Od := Od.keep K4 all0
  replace E_r := E_r.keep K4
  replace Kp := Kp.trans K4 all0
  refine OEnds.via (fun _ k_ => st4.trans k_) ?_
  show OEnds p e below s _ _ _ (T4.setTop (mkF m 50 #[.val (.ref r), .unset] [(.ref b)]))
  obtain ⟨_, _, ⟨T5, L5, k5, n5⟩, -, X5, ⟨Lc5, hQ5, l5, y5, z5⟩, st5⟩ := Jvm.LawKit.callS X4 hx (y := (⟨"java/util/List", "of", "([Ljava/lang/Object;)Ljava/util/List;"⟩ : MethodName)) hown (mvT hZ (hw _ (List.mem_of_getElem? (i := 169) rfl))) (mvT hZ (hw _ (List.mem_of_getElem? (i := 170) rfl))) (mvT hZ (hw _ (List.mem_of_getElem? (i := 118) rfl))) (mvT hZ (hw _ (List.mem_of_getElem? (i := 171) rfl))) (by decide) (backOf (W := 0) (rmOf_2 l Z a0 hw [] b kb em y0 y1 T4.heap n0 Od V_b S_em) hZ (hw _ (List.mem_of_getElem? (i := 171) rfl)) (hw _ (List.mem_of_getElem? (i := 118) rfl)) (by decide) (by decide)) (g := (mkF m 50 #[.val (.ref r), .unset] [(.ref b)])) rfl (by rw [hml]; rfl) (argsL := [(.ref b)]) (rest := []) (lenOf pd_285bLjava2flang2fObject3b29Ljava2futil2fList3b rfl) rfl (by show 2 * 0 + _ ≤ _; exact Nat.le_of_eq rfl) (hb hby d19_50) (fun _ _ => ⟨rfl, rfl, Nat.le_of_ble_eq_true rfl, Nat.le_of_ble_eq_true rfl⟩)
  dsimp only [Pt.U, Pt.locs, Pt.cells, Pt.slots] at X5 l5 y5 z5 st5 hQ5
  subst l5 y5 z5
  obtain ⟨q, rfl, N5q, K5, ge_q, sz5, E_q, G0, G1⟩ := hQ5
  have N5 := Fr.app N4 N5q
  have sz_q : h0.size ≤ q := Nat.le_trans Kp.1 sz5
  replace Od := Od.keep K5 all0
  replace E_r := E_r.keep K5
  replace Kp := Kp.trans K5 all0
  refine OEnds.via (fun _ k_ => st5 _ k_) ?_
  show OEnds p e below s _ _ _ (T5.setTop (mkF m 53 #[.val (.ref r), .unset] [(.ref q)]))
  refine OEnds.retR X5 hx hlk Bd.returns rfl rfl (hb hby d19_53) ?_ (by decide) (by decide)
  exact ⟨_, rfl, N5, Kp, ge_q, sz_q, E_q, G0, G1⟩
def Q_rmCO_2 (Z : State) (r : Addr) (d : Addr) (kd : ClassId) (mr : Addr) (em : Addr) (y0 : Addr) (y1 : Addr) (h0 : Heap) (n0 : Nat) (v : Option Value) (h : Heap) (L : List Loc) : Prop := ∃ q, v = some (.ref q) ∧ Fr n0 L ∧ Keep h0 h [] ∧ n0 ≤ q ∧ h0.size ≤ q ∧ Exa Z h q "java/util/ImmutableCollections$List12" ∧ Fld Z h q "java/util/ImmutableCollections$List12" "e0" "Ljava/lang/Object;" (.ref y0) ∧ Fld Z h q "java/util/ImmutableCollections$List12" "e1" "Ljava/lang/Object;" (.ref y1)
set_option maxRecDepth 65536 in
set_option maxHeartbeats 40000000 in
theorem rmCO_2 (l : Launch) (Z : State) (a0 : Array Value) (hw : ∀ d ∈ tables_1, d.before a0 Z = true) (ws : List Jvm.Cond) (r : Addr) (d : Addr) (kd : ClassId) (mr : Addr) (em : Addr) (y0 : Addr) (y1 : Addr) (h0 : Heap) (n0 : Nat) (O0 : Old Z n0 h0) (F_ed : Fld Z h0 r "java/util/ArrayList" "elementData" "[Ljava/lang/Object;" (.ref d)) (F_sz : Fld Z h0 r "java/util/ArrayList" "size" "I" (.int (2 : Int32))) (E_r : Exa Z h0 r "java/util/ArrayList") (V_d : Arv Z h0 d kd (.object "java/lang/Object") (10 : Int32) [(.ref y0), (.ref y1), .null, .null, .null, .null, .null, .null, .null, .null] .null) (E_y0 : Exa Z h0 y0 "com/example/holdfast/holdfast/LockInfo$Reader") (E_y1 : Exa Z h0 y1 "com/example/holdfast/holdfast/LockInfo$Reader") (M : Mir Z "[Ljava/lang/Object;" mr) (E_d : Exa Z h0 d "[Ljava/lang/Object;") (S_em : Sta Z Z.heap "java/util/ImmutableCollections" "EMPTY" "Ljava/lang/Object;" (.ref em)) :
    MetFree l (⟨"java/util/List", "copyOf", "(Ljava/util/Collection;)Ljava/util/List;"⟩ : MethodName) (head1 (Jvm.Cond.code (⟨"java/util/List", "copyOf", "(Ljava/util/Collection;)Ljava/util/List;"⟩ : MethodName) jdk_40_method_48_code 1 (some (.object "java/util/List")) :: ws) ({ frames := 7, cells := 2, slots := 4, locals := 104 } : Room)) (fun ar' U => ar' = #[(.ref r)] ∧ Z.Warmed39 U.vm ∧ U.heap = h0) (fun _ _ _ _ _ => True) (fun _ U o U' => ∃ v L, o = .returned v ∧ (Q_rmCO_2 Z r d kd mr em y0 y1 h0 n0) v U'.heap L ∧ FrameEnd U o U' L ({ frames := 7, cells := 2, slots := 4, locals := 104 } : Room).cells ({ frames := 7, cells := 2, slots := 4, locals := 104 } : Room).slots) := by
  refine MetFree.of_bodySF (plainFor_of_name pn_java_util_List) hisR ?_
  intro p e s m args below meth c s₁ Bd hml0 hP hK
  obtain ⟨rfl, hZ, hh⟩ := hP
  have hx := Bd.exec
  have hby := Bd.bytes
  have hlk := BodyLoose.notSynchronized Bd
  have hml : c.maxLocals = 1 := hml0
  have hown : s.vm.findClass "java/util/List" = some m.cls := findClass_of_methodNamed Bd.named
  have hnm := (name_of_methodNamed Bd.named Bd.method).1
  have X0 : Stand p l e ({ frames := 7, cells := 2, slots := 4, locals := 104 } : Room) s m #[(.ref r)] below meth c s₁ [] 0 0 := Stand.of_body Bd
  have e0 : s₁.heap = h0 := by rw [← hh, Bd.state]; rfl
  have N0 := Fr.nil n0
  have Z0 : n0 ≤ h0.size := O0.1 ▸ O0.2.1
  show OEnds p e below s ({ frames := 7, cells := 2, slots := 4, locals := 104 } : Room).cells ({ frames := 7, cells := 2, slots := 4, locals := 104 } : Room).slots (Q_rmCO_2 Z r d kd mr em y0 y1 h0 n0) (s₁.setTop (entryFrame m #[(.ref r)] 1))
  refine OEnds.via (fun _ k_ => castTop (show entryFrame m #[(.ref r)] 1 = (mkF m 0 #[.val (.ref r)] []) by first | (simp [entryFrame, mkF, argsToLocals, Value.category, maxLocals]; done) | rfl) k_) ?_
  show OEnds p e below s _ _ _ (s₁.setTop (mkF m 0 #[.val (.ref r)] []))
  refine OEnds.via (fun _ k_ => XS.aloadN X0.here hx rfl (hb hby d18_0) rfl rfl k_) ?_
  show OEnds p e below s _ _ _ (s₁.setTop (mkF m 1 #[.val (.ref r)] [(.ref r)]))
  obtain ⟨_, _, ⟨T1, L1, k1, n1⟩, -, X1, ⟨Lc1, hQ1, l1, y1, z1⟩, st1⟩ := Jvm.LawKit.callS X0 hx (y := (⟨"java/util/ImmutableCollections", "listCopy", "(Ljava/util/Collection;)Ljava/util/List;"⟩ : MethodName)) hown (mvT hZ (hw _ (List.mem_of_getElem? (i := 120) rfl))) (mvT hZ (hw _ (List.mem_of_getElem? (i := 121) rfl))) (mvT hZ (hw _ (List.mem_of_getElem? (i := 122) rfl))) (mvT hZ (hw _ (List.mem_of_getElem? (i := 123) rfl))) (by decide) (backOf (W := 0) (rmLC_2 l Z a0 hw [] r d kd mr em y0 y1 h0 n0 O0 F_ed F_sz E_r V_d E_y0 E_y1 M E_d S_em) hZ (hw _ (List.mem_of_getElem? (i := 123) rfl)) (hw _ (List.mem_of_getElem? (i := 122) rfl)) (by decide) (by decide)) (g := (mkF m 1 #[.val (.ref r)] [(.ref r)])) rfl (by rw [hml]; rfl) (argsL := [(.ref r)]) (rest := []) (lenOf pd_28Ljava2futil2fCollection3b29Ljava2futil2fList3b rfl) rfl (by show 2 * 0 + _ ≤ _; exact Nat.le_of_eq rfl) (hb hby d18_1) (fun _ _ => ⟨rfl, e0, Nat.le_of_ble_eq_true rfl, Nat.le_of_ble_eq_true rfl⟩)
  dsimp only [Pt.U, Pt.locs, Pt.cells, Pt.slots] at X1 l1 y1 z1 st1 hQ1
  subst l1 y1 z1
  obtain ⟨q, rfl, N1q, R1⟩ := hQ1
  have N1 := Fr.app N0 N1q
  refine OEnds.via (fun _ k_ => st1 _ k_) ?_
  show OEnds p e below s _ _ _ (T1.setTop (mkF m 4 #[.val (.ref r)] [(.ref q)]))
  refine OEnds.retR X1 hx hlk Bd.returns rfl rfl (hb hby d18_4) ?_ (by decide) (by decide)
  exact ⟨_, rfl, N1, R1⟩
set_option maxRecDepth 65536 in
set_option maxHeartbeats 40000000 in
theorem rmLC_0 (l : Launch) (Z : State) (a0 : Array Value) (hw : ∀ d ∈ tables_1, d.before a0 Z = true) (ws : List Jvm.Cond) (r : Addr) (el : Addr) (h0 : Heap) (n0 : Nat) (O0 : Old Z n0 h0) (F_sz : Fld Z h0 r "java/util/ArrayList" "size" "I" (.int (0 : Int32))) (E_r : Exa Z h0 r "java/util/ArrayList") (S_el : Sta Z Z.heap "java/util/ImmutableCollections" "EMPTY_LIST" "Ljava/util/ImmutableCollections$ListN;" (.ref el)) :
    MetFree l (⟨"java/util/ImmutableCollections", "listCopy", "(Ljava/util/Collection;)Ljava/util/List;"⟩ : MethodName) (head1 (Jvm.Cond.code (⟨"java/util/ImmutableCollections", "listCopy", "(Ljava/util/Collection;)Ljava/util/List;"⟩ : MethodName) jdk_56_method_3_code 2 (some (.object "java/util/List")) :: ws) ({ frames := 1, cells := 0, slots := 0, locals := 30 } : Room)) (fun ar' U => ar' = #[(.ref r)] ∧ Z.Warmed39 U.vm ∧ U.heap = h0) (fun _ _ _ _ _ => True) (fun _ U o U' => ∃ v L, o = .returned v ∧ (QA (some (.ref el)) h0 n0) v U'.heap L ∧ FrameEnd U o U' L ({ frames := 1, cells := 0, slots := 0, locals := 30 } : Room).cells ({ frames := 1, cells := 0, slots := 0, locals := 30 } : Room).slots) := by
  refine MetFree.of_bodySF (plainFor_of_name pn_java_util_ImmutableCollections) hisR ?_
  intro p e s m args below meth c s₁ Bd hml0 hP hK
  obtain ⟨rfl, hZ, hh⟩ := hP
  have hx := Bd.exec
  have hby := Bd.bytes
  have hlk := BodyLoose.notSynchronized Bd
  have hml : c.maxLocals = 2 := hml0
  have hown : s.vm.findClass "java/util/ImmutableCollections" = some m.cls := findClass_of_methodNamed Bd.named
  have hnm := (name_of_methodNamed Bd.named Bd.method).1
  have X0 : Stand p l e ({ frames := 1, cells := 0, slots := 0, locals := 30 } : Room) s m #[(.ref r)] below meth c s₁ [] 0 0 := Stand.of_body Bd
  have e0 : s₁.heap = h0 := by rw [← hh, Bd.state]; rfl
  have N0 := Fr.nil n0
  have Z0 : n0 ≤ h0.size := O0.1 ▸ O0.2.1
  show OEnds p e below s ({ frames := 1, cells := 0, slots := 0, locals := 30 } : Room).cells ({ frames := 1, cells := 0, slots := 0, locals := 30 } : Room).slots (QA (some (.ref el)) h0 n0) (s₁.setTop (entryFrame m #[(.ref r)] 2))
  refine OEnds.via (fun _ k_ => castTop (show entryFrame m #[(.ref r)] 2 = (mkF m 0 #[.val (.ref r), .unset] []) by first | (simp [entryFrame, mkF, argsToLocals, Value.category, maxLocals]; done) | rfl) k_) ?_
  have Od := O0
  show OEnds p e below s _ _ _ (s₁.setTop (mkF m 0 #[.val (.ref r), .unset] []))
  refine OEnds.via (fun _ k_ => XS.aloadN X0.here hx rfl (hb hby d19_0) rfl rfl k_) ?_
  show OEnds p e below s _ _ _ (s₁.setTop (mkF m 1 #[.val (.ref r), .unset] [(.ref r)]))
  obtain ⟨T1, X1, e1, st1⟩ := instNo X0 hx hZ hown (hw _ (List.mem_of_getElem? (i := 124) rfl)) e0 E_r (own_not_t12 hw) (g := (mkF m 1 #[.val (.ref r), .unset] [(.ref r)])) rfl rfl (hb hby d19_1)
  refine OEnds.via (fun _ k_ => st1 _ k_) ?_
  show OEnds p e below s _ _ _ (T1.setTop (mkF m 4 #[.val (.ref r), .unset] [(.int (0 : Int32))]))
  refine OEnds.via (fun _ k_ => XS.ifNo X1.here hx rfl (hb hby d19_4) rfl ((if0 _ _).trans (teq (by decide : (0 : Int32) = (0 : Int32))).2) k_) ?_
  show OEnds p e below s _ _ _ (T1.setTop (mkF m 7 #[.val (.ref r), .unset] []))
  refine OEnds.via (fun _ k_ => XS.aloadN X1.here hx rfl (hb hby d19_7) rfl rfl k_) ?_
  show OEnds p e below s _ _ _ (T1.setTop (mkF m 8 #[.val (.ref r), .unset] [(.ref r)]))
  obtain ⟨T2, X2, e2, st2⟩ := instNo X1 hx hZ hown (hw _ (List.mem_of_getElem? (i := 129) rfl)) e1 E_r (own_not_stN hw) (g := (mkF m 8 #[.val (.ref r), .unset] [(.ref r)])) rfl rfl (hb hby d19_8)
  refine OEnds.via (fun _ k_ => st2 _ k_) ?_
  show OEnds p e below s _ _ _ (T2.setTop (mkF m 11 #[.val (.ref r), .unset] [(.int (0 : Int32))]))
  refine OEnds.via (fun _ k_ => XS.ifYes X2.here hx rfl (pc0 := 11) (pc' := 31) rfl (hb hby d19_11) rfl ((if0 _ _).trans (teq (by decide : (0 : Int32) = (0 : Int32))).1) (by decide) (by decide) k_) ?_
  show OEnds p e below s _ _ _ (T2.setTop (mkF m 31 #[.val (.ref r), .unset] []))
  refine OEnds.via (fun _ k_ => XS.aloadN X2.here hx rfl (hb hby d19_31) rfl rfl k_) ?_
  show OEnds p e below s _ _ _ (T2.setTop (mkF m 32 #[.val (.ref r), .unset] [(.ref r)]))
  obtain ⟨cq3, kq3, q3a, q3b, q3c⟩ := isOf hZ e2 E_r
  obtain ⟨_, _, ⟨T3, L3, k3, n3⟩, -, X3, ⟨Lc3, hQ3, l3, y3, z3⟩, st3⟩ := X2.interfaceBack hx (xi := (⟨"java/util/Collection", "isEmpty", "()Z"⟩ : MethodName)) (y := (⟨"java/util/ArrayList", "isEmpty", "()Z"⟩ : MethodName)) hown (mvT hZ (hw _ (List.mem_of_getElem? (i := 130) rfl))) (mvT hZ (hw _ (List.mem_of_getElem? (i := 131) rfl))) (mvT hZ (hw _ (List.mem_of_getElem? (i := 132) rfl))) (mvT hZ (hw _ (List.mem_of_getElem? (i := 133) rfl))) (mvT hZ (hw _ (List.mem_of_getElem? (i := 134) rfl))) (mvT hZ (hw _ (List.mem_of_getElem? (i := 135) rfl))) (mvT hZ (hw _ (List.mem_of_getElem? (i := 136) rfl))) (mvT hZ (hw _ (List.mem_of_getElem? (i := 137) rfl))) (by decide) (backOf (W := 0) (rmIE0 l Z a0 hw [] r h0 n0 Od F_sz) hZ (hw _ (List.mem_of_getElem? (i := 138) rfl)) (hw _ (List.mem_of_getElem? (i := 43) rfl)) (by decide) (by decide)) q3a q3b q3c (g := (mkF m 32 #[.val (.ref r), .unset] [(.ref r)])) rfl (by rw [hml]; rfl) (Steps.refl _) (argsL := []) (rest := []) (lenOf pd_2829Z rfl) rfl (by show 2 * 0 + _ ≤ _; exact Nat.le_of_eq rfl) (hb hby d19_32) (fun _ _ => ⟨rfl, e2, Nat.le_of_ble_eq_true rfl, Nat.le_of_ble_eq_true rfl⟩)
  dsimp only [Pt.U, Pt.locs, Pt.cells, Pt.slots] at X3 l3 y3 z3 st3 hQ3
  subst l3 y3 z3
  obtain ⟨rfl, N3q, e3⟩ := hQ3
  have N3 := Fr.app N0 N3q
  refine OEnds.via (fun _ k_ => st3.trans k_) ?_
  show OEnds p e below s _ _ _ (T3.setTop (mkF m 37 #[.val (.ref r), .unset] [(.int (1 : Int32))]))
  refine OEnds.via (fun _ k_ => XS.ifNo X3.here hx rfl (hb hby d19_37) rfl ((if0 _ _).trans (feq (by decide : ¬ ((1 : Int32) = (0 : Int32)))).1) k_) ?_
  show OEnds p e below s _ _ _ (T3.setTop (mkF m 40 #[.val (.ref r), .unset] []))
  obtain ⟨_, _, ⟨T4, L4, k4, n4⟩, -, X4, ⟨Lc4, hQ4, l4, y4, z4⟩, st4⟩ := Jvm.LawKit.callS X3 hx (y := (⟨"java/util/List", "of", "()Ljava/util/List;"⟩ : MethodName)) hown (mvT hZ (hw _ (List.mem_of_getElem? (i := 266) rfl))) (mvT hZ (hw _ (List.mem_of_getElem? (i := 267) rfl))) (mvT hZ (hw _ (List.mem_of_getElem? (i := 118) rfl))) (mvT hZ (hw _ (List.mem_of_getElem? (i := 268) rfl))) (by decide) (backOf (W := 0) (rmOf0 l Z a0 hw [] el h0 n0 Od S_el) hZ (hw _ (List.mem_of_getElem? (i := 268) rfl)) (hw _ (List.mem_of_getElem? (i := 118) rfl)) (by decide) (by decide)) (g := (mkF m 40 #[.val (.ref r), .unset] [])) rfl (by rw [hml]; rfl) (argsL := []) (rest := []) (lenOf pd_2829Ljava2futil2fList3b rfl) rfl (by show 2 * 0 + _ ≤ _; exact Nat.le_of_eq rfl) (hb hby d19_40) (fun _ _ => ⟨rfl, e3, Nat.le_of_ble_eq_true rfl, Nat.le_of_ble_eq_true rfl⟩)
  dsimp only [Pt.U, Pt.locs, Pt.cells, Pt.slots] at X4 l4 y4 z4 st4 hQ4
  subst l4 y4 z4
  obtain ⟨rfl, N4q, e4⟩ := hQ4
  have N4 := Fr.app N3 N4q
  refine OEnds.via (fun _ k_ => st4 _ k_) ?_
  show OEnds p e below s _ _ _ (T4.setTop (mkF m 43 #[.val (.ref r), .unset] [(.ref el)]))
  refine OEnds.retR X4 hx hlk Bd.returns rfl rfl (hb hby d19_43) ?_ (by decide) (by decide)
  exact ⟨rfl, N4, e4⟩
set_option maxRecDepth 65536 in
set_option maxHeartbeats 40000000 in
theorem rmCO_0 (l : Launch) (Z : State) (a0 : Array Value) (hw : ∀ d ∈ tables_1, d.before a0 Z = true) (ws : List Jvm.Cond) (r : Addr) (el : Addr) (h0 : Heap) (n0 : Nat) (O0 : Old Z n0 h0) (F_sz : Fld Z h0 r "java/util/ArrayList" "size" "I" (.int (0 : Int32))) (E_r : Exa Z h0 r "java/util/ArrayList") (S_el : Sta Z Z.heap "java/util/ImmutableCollections" "EMPTY_LIST" "Ljava/util/ImmutableCollections$ListN;" (.ref el)) :
    MetFree l (⟨"java/util/List", "copyOf", "(Ljava/util/Collection;)Ljava/util/List;"⟩ : MethodName) (head1 (Jvm.Cond.code (⟨"java/util/List", "copyOf", "(Ljava/util/Collection;)Ljava/util/List;"⟩ : MethodName) jdk_40_method_48_code 1 (some (.object "java/util/List")) :: ws) ({ frames := 2, cells := 0, slots := 0, locals := 46 } : Room)) (fun ar' U => ar' = #[(.ref r)] ∧ Z.Warmed39 U.vm ∧ U.heap = h0) (fun _ _ _ _ _ => True) (fun _ U o U' => ∃ v L, o = .returned v ∧ (QA (some (.ref el)) h0 n0) v U'.heap L ∧ FrameEnd U o U' L ({ frames := 2, cells := 0, slots := 0, locals := 46 } : Room).cells ({ frames := 2, cells := 0, slots := 0, locals := 46 } : Room).slots) := by
  refine MetFree.of_bodySF (plainFor_of_name pn_java_util_List) hisR ?_
  intro p e s m args below meth c s₁ Bd hml0 hP hK
  obtain ⟨rfl, hZ, hh⟩ := hP
  have hx := Bd.exec
  have hby := Bd.bytes
  have hlk := BodyLoose.notSynchronized Bd
  have hml : c.maxLocals = 1 := hml0
  have hown : s.vm.findClass "java/util/List" = some m.cls := findClass_of_methodNamed Bd.named
  have hnm := (name_of_methodNamed Bd.named Bd.method).1
  have X0 : Stand p l e ({ frames := 2, cells := 0, slots := 0, locals := 46 } : Room) s m #[(.ref r)] below meth c s₁ [] 0 0 := Stand.of_body Bd
  have e0 : s₁.heap = h0 := by rw [← hh, Bd.state]; rfl
  have N0 := Fr.nil n0
  have Z0 : n0 ≤ h0.size := O0.1 ▸ O0.2.1
  show OEnds p e below s ({ frames := 2, cells := 0, slots := 0, locals := 46 } : Room).cells ({ frames := 2, cells := 0, slots := 0, locals := 46 } : Room).slots (QA (some (.ref el)) h0 n0) (s₁.setTop (entryFrame m #[(.ref r)] 1))
  refine OEnds.via (fun _ k_ => castTop (show entryFrame m #[(.ref r)] 1 = (mkF m 0 #[.val (.ref r)] []) by first | (simp [entryFrame, mkF, argsToLocals, Value.category, maxLocals]; done) | rfl) k_) ?_
  show OEnds p e below s _ _ _ (s₁.setTop (mkF m 0 #[.val (.ref r)] []))
  refine OEnds.via (fun _ k_ => XS.aloadN X0.here hx rfl (hb hby d18_0) rfl rfl k_) ?_
  show OEnds p e below s _ _ _ (s₁.setTop (mkF m 1 #[.val (.ref r)] [(.ref r)]))
  obtain ⟨_, _, ⟨T1, L1, k1, n1⟩, -, X1, ⟨Lc1, hQ1, l1, y1, z1⟩, st1⟩ := Jvm.LawKit.callS X0 hx (y := (⟨"java/util/ImmutableCollections", "listCopy", "(Ljava/util/Collection;)Ljava/util/List;"⟩ : MethodName)) hown (mvT hZ (hw _ (List.mem_of_getElem? (i := 120) rfl))) (mvT hZ (hw _ (List.mem_of_getElem? (i := 121) rfl))) (mvT hZ (hw _ (List.mem_of_getElem? (i := 122) rfl))) (mvT hZ (hw _ (List.mem_of_getElem? (i := 123) rfl))) (by decide) (backOf (W := 0) (rmLC_0 l Z a0 hw [] r el h0 n0 O0 F_sz E_r S_el) hZ (hw _ (List.mem_of_getElem? (i := 123) rfl)) (hw _ (List.mem_of_getElem? (i := 122) rfl)) (by decide) (by decide)) (g := (mkF m 1 #[.val (.ref r)] [(.ref r)])) rfl (by rw [hml]; rfl) (argsL := [(.ref r)]) (rest := []) (lenOf pd_28Ljava2futil2fCollection3b29Ljava2futil2fList3b rfl) rfl (by show 2 * 0 + _ ≤ _; exact Nat.le_of_eq rfl) (hb hby d18_1) (fun _ _ => ⟨rfl, e0, Nat.le_of_ble_eq_true rfl, Nat.le_of_ble_eq_true rfl⟩)
  dsimp only [Pt.U, Pt.locs, Pt.cells, Pt.slots] at X1 l1 y1 z1 st1 hQ1
  subst l1 y1 z1
  obtain ⟨rfl, N1q, e1⟩ := hQ1
  have N1 := Fr.app N0 N1q
  refine OEnds.via (fun _ k_ => st1 _ k_) ?_
  show OEnds p e below s _ _ _ (T1.setTop (mkF m 4 #[.val (.ref r)] [(.ref el)]))
  refine OEnds.retR X1 hx hlk Bd.returns rfl rfl (hb hby d18_4) ?_ (by decide) (by decide)
  exact ⟨rfl, N1, e1⟩
theorem d39_0 : decode jdk_44_method_3_code 0 = .ok (.aload_n 0, 1) := by decide +kernel
theorem d39_1 : decode jdk_44_method_3_code 1 = .ok (.getfield 24, 3) := by decide +kernel
theorem d39_4 : decode jdk_44_method_3_code 4 = .ok (.getstatic 19, 3) := by decide +kernel
theorem d39_7 : decode jdk_44_method_3_code 7 = .ok (.if_acmp .eq 7, 3) := by decide +kernel
theorem d39_10 : decode jdk_44_method_3_code 10 = .ok (.iconst 2, 1) := by decide +kernel
theorem d39_11 : decode jdk_44_method_3_code 11 = .ok (.goto 4, 3) := by decide +kernel
theorem d39_14 : decode jdk_44_method_3_code 14 = .ok (.iconst 1, 1) := by decide +kernel
theorem d39_15 : decode jdk_44_method_3_code 15 = .ok (.ireturn, 1) := by decide +kernel
set_option maxRecDepth 65536 in
set_option maxHeartbeats 40000000 in
theorem rmSz1 (l : Launch) (Z : State) (a0 : Array Value) (hw : ∀ d ∈ tables_1, d.before a0 Z = true) (ws : List Jvm.Cond) (q : Addr) (em : Addr) (h0 : Heap) (n0 : Nat) (O0 : Old Z n0 h0) (F : Fld Z h0 q "java/util/ImmutableCollections$List12" "e1" "Ljava/lang/Object;" (.ref em)) (S_em : Sta Z Z.heap "java/util/ImmutableCollections" "EMPTY" "Ljava/lang/Object;" (.ref em)) :
    MetFree l (⟨"java/util/ImmutableCollections$List12", "size", "()I"⟩ : MethodName) (head1 (Jvm.Cond.code (⟨"java/util/ImmutableCollections$List12", "size", "()I"⟩ : MethodName) jdk_44_method_3_code 1 (some .int) :: ws) ({ frames := 0, cells := 0, slots := 0, locals := 0 } : Room)) (fun ar' U => ar' = #[(.ref q)] ∧ Z.Warmed39 U.vm ∧ U.heap = h0) (fun _ _ _ _ _ => True) (fun _ U o U' => ∃ v L, o = .returned v ∧ (QA (some (.int 1)) h0 n0) v U'.heap L ∧ FrameEnd U o U' L ({ frames := 0, cells := 0, slots := 0, locals := 0 } : Room).cells ({ frames := 0, cells := 0, slots := 0, locals := 0 } : Room).slots) := by
  refine MetFree.of_bodySF (plainFor_of_name pn_java_util_ImmutableCollections_List12) hisR ?_
  intro p e s m args below meth c s₁ Bd hml0 hP hK
  obtain ⟨rfl, hZ, hh⟩ := hP
  have hx := Bd.exec
  have hby := Bd.bytes
  have hlk := BodyLoose.notSynchronized Bd
  have hml : c.maxLocals = 1 := hml0
  have hown : s.vm.findClass "java/util/ImmutableCollections$List12" = some m.cls := findClass_of_methodNamed Bd.named
  have hnm := (name_of_methodNamed Bd.named Bd.method).1
  have X0 : Stand p l e ({ frames := 0, cells := 0, slots := 0, locals := 0 } : Room) s m #[(.ref q)] below meth c s₁ [] 0 0 := Stand.of_body Bd
  have e0 : s₁.heap = h0 := by rw [← hh, Bd.state]; rfl
  have N0 := Fr.nil n0
  have Z0 : n0 ≤ h0.size := O0.1 ▸ O0.2.1
  show OEnds p e below s ({ frames := 0, cells := 0, slots := 0, locals := 0 } : Room).cells ({ frames := 0, cells := 0, slots := 0, locals := 0 } : Room).slots (QA (some (.int 1)) h0 n0) (s₁.setTop (entryFrame m #[(.ref q)] 1))
  refine OEnds.via (fun _ k_ => castTop (show entryFrame m #[(.ref q)] 1 = (mkF m 0 #[.val (.ref q)] []) by first | (simp [entryFrame, mkF, argsToLocals, Value.category, maxLocals]; done) | rfl) k_) ?_
  refine OEnds.via (fun _ k_ => XS.aloadN X0.here hx rfl (hb hby d39_0) rfl rfl k_) ?_
  show OEnds p e below s _ _ _ (s₁.setTop (mkF m 1 #[.val (.ref q)] [(.ref q)]))
  obtain ⟨T1, X1, e1, st1⟩ := getF X0 hx hZ hown (host := "") (Or.inl (hw _ (List.mem_of_getElem? (i := 200) rfl))) Via.refl e0 F (g := (mkF m 1 #[.val (.ref q)] [(.ref q)])) rfl rfl (hb hby d39_1)
  refine OEnds.via (fun _ k_ => st1 _ k_) ?_
  show OEnds p e below s _ _ _ (T1.setTop (mkF m 4 #[.val (.ref q)] [(.ref em)]))
  obtain ⟨T2, X2, e2, st2⟩ := getS2 X1 hx hZ hown (Or.inr (hw _ (List.mem_of_getElem? (i := 199) rfl))) Via.refl e1 (Sta.ext O0.2 S_em) (g := (mkF m 4 #[.val (.ref q)] [(.ref em)])) rfl (hb hby d39_4)
  refine OEnds.via (fun _ k_ => st2 _ k_) ?_
  show OEnds p e below s _ _ _ (T2.setTop (mkF m 7 #[.val (.ref q)] [(.ref em), (.ref em)]))
  refine OEnds.via (fun _ k_ => Jvm.RoadKit.acmp (g := (mkF m 7 #[.val (.ref q)] [(.ref em), (.ref em)])) X2 hx rfl rfl rfl (pc0 := 7) (pc' := 14) (same := true) rfl (hb hby d39_7) rfl (decide_eq_true rfl) (by decide) (by decide) k_) ?_
  show OEnds p e below s _ _ _ (T2.setTop (mkF m 14 #[.val (.ref q)] []))
  refine OEnds.via (fun _ k_ => XS.iconst X2.here hx rfl (hb hby d39_14) k_) ?_
  show OEnds p e below s _ _ _ (T2.setTop (mkF m 15 #[.val (.ref q)] [(.int (1 : Int32))]))
  refine OEnds.retI X2 hx hlk Bd.returns (hb hby d39_15) ?_ (by decide) (by decide)
  exact ⟨rfl, N0, e2⟩
set_option maxRecDepth 65536 in
set_option maxHeartbeats 40000000 in
theorem rmSz2 (l : Launch) (Z : State) (a0 : Array Value) (hw : ∀ d ∈ tables_1, d.before a0 Z = true) (ws : List Jvm.Cond) (q : Addr) (em : Addr) (y1 : Addr) (h0 : Heap) (n0 : Nat) (O0 : Old Z n0 h0) (F : Fld Z h0 q "java/util/ImmutableCollections$List12" "e1" "Ljava/lang/Object;" (.ref y1)) (S_em : Sta Z Z.heap "java/util/ImmutableCollections" "EMPTY" "Ljava/lang/Object;" (.ref em)) (hne : y1 ≠ em) :
    MetFree l (⟨"java/util/ImmutableCollections$List12", "size", "()I"⟩ : MethodName) (head1 (Jvm.Cond.code (⟨"java/util/ImmutableCollections$List12", "size", "()I"⟩ : MethodName) jdk_44_method_3_code 1 (some .int) :: ws) ({ frames := 0, cells := 0, slots := 0, locals := 0 } : Room)) (fun ar' U => ar' = #[(.ref q)] ∧ Z.Warmed39 U.vm ∧ U.heap = h0) (fun _ _ _ _ _ => True) (fun _ U o U' => ∃ v L, o = .returned v ∧ (QA (some (.int 2)) h0 n0) v U'.heap L ∧ FrameEnd U o U' L ({ frames := 0, cells := 0, slots := 0, locals := 0 } : Room).cells ({ frames := 0, cells := 0, slots := 0, locals := 0 } : Room).slots) := by
  refine MetFree.of_bodySF (plainFor_of_name pn_java_util_ImmutableCollections_List12) hisR ?_
  intro p e s m args below meth c s₁ Bd hml0 hP hK
  obtain ⟨rfl, hZ, hh⟩ := hP
  have hx := Bd.exec
  have hby := Bd.bytes
  have hlk := BodyLoose.notSynchronized Bd
  have hml : c.maxLocals = 1 := hml0
  have hown : s.vm.findClass "java/util/ImmutableCollections$List12" = some m.cls := findClass_of_methodNamed Bd.named
  have hnm := (name_of_methodNamed Bd.named Bd.method).1
  have X0 : Stand p l e ({ frames := 0, cells := 0, slots := 0, locals := 0 } : Room) s m #[(.ref q)] below meth c s₁ [] 0 0 := Stand.of_body Bd
  have e0 : s₁.heap = h0 := by rw [← hh, Bd.state]; rfl
  have N0 := Fr.nil n0
  have Z0 : n0 ≤ h0.size := O0.1 ▸ O0.2.1
  show OEnds p e below s ({ frames := 0, cells := 0, slots := 0, locals := 0 } : Room).cells ({ frames := 0, cells := 0, slots := 0, locals := 0 } : Room).slots (QA (some (.int 2)) h0 n0) (s₁.setTop (entryFrame m #[(.ref q)] 1))
  refine OEnds.via (fun _ k_ => castTop (show entryFrame m #[(.ref q)] 1 = (mkF m 0 #[.val (.ref q)] []) by first | (simp [entryFrame, mkF, argsToLocals, Value.category, maxLocals]; done) | rfl) k_) ?_
  refine OEnds.via (fun _ k_ => XS.aloadN X0.here hx rfl (hb hby d39_0) rfl rfl k_) ?_
  show OEnds p e below s _ _ _ (s₁.setTop (mkF m 1 #[.val (.ref q)] [(.ref q)]))
  obtain ⟨T1, X1, e1, st1⟩ := getF X0 hx hZ hown (host := "") (Or.inl (hw _ (List.mem_of_getElem? (i := 200) rfl))) Via.refl e0 F (g := (mkF m 1 #[.val (.ref q)] [(.ref q)])) rfl rfl (hb hby d39_1)
  refine OEnds.via (fun _ k_ => st1 _ k_) ?_
  show OEnds p e below s _ _ _ (T1.setTop (mkF m 4 #[.val (.ref q)] [(.ref y1)]))
  obtain ⟨T2, X2, e2, st2⟩ := getS2 X1 hx hZ hown (Or.inr (hw _ (List.mem_of_getElem? (i := 199) rfl))) Via.refl e1 (Sta.ext O0.2 S_em) (g := (mkF m 4 #[.val (.ref q)] [(.ref y1)])) rfl (hb hby d39_4)
  refine OEnds.via (fun _ k_ => st2 _ k_) ?_
  show OEnds p e below s _ _ _ (T2.setTop (mkF m 7 #[.val (.ref q)] [(.ref em), (.ref y1)]))
  refine OEnds.via (fun _ k_ => Jvm.RoadKit.acmp (g := (mkF m 7 #[.val (.ref q)] [(.ref em), (.ref y1)])) X2 hx rfl rfl rfl (pc0 := 7) (pc' := 10) (same := false) rfl (hb hby d39_7) rfl (decide_eq_false fun q => hne (Value.ref.inj q)) (by decide) (by decide) k_) ?_
  show OEnds p e below s _ _ _ (T2.setTop (mkF m 10 #[.val (.ref q)] []))
  refine OEnds.via (fun _ k_ => XS.iconst X2.here hx rfl (hb hby d39_10) k_) ?_
  show OEnds p e below s _ _ _ (T2.setTop (mkF m 11 #[.val (.ref q)] [(.int (2 : Int32))]))
  refine OEnds.via (fun _ k_ => XS.goto X2.here hx rfl (pc0 := 11) (pc' := 15) rfl (hb hby d39_11) (by decide) (by decide) k_) ?_
  show OEnds p e below s _ _ _ (T2.setTop (mkF m 15 #[.val (.ref q)] [(.int (2 : Int32))]))
  refine OEnds.retI X2 hx hlk Bd.returns (hb hby d39_15) ?_ (by decide) (by decide)
  exact ⟨rfl, N0, e2⟩
theorem d40_0 : decode jdk_44_method_5_code 0 = .ok (.iload_n 1, 1) := by decide +kernel
theorem d40_1 : decode jdk_44_method_5_code 1 = .ok (.ifCond .ne 8, 3) := by decide +kernel
theorem d40_4 : decode jdk_44_method_5_code 4 = .ok (.aload_n 0, 1) := by decide +kernel
theorem d40_5 : decode jdk_44_method_5_code 5 = .ok (.getfield 13, 3) := by decide +kernel
theorem d40_8 : decode jdk_44_method_5_code 8 = .ok (.areturn, 1) := by decide +kernel
theorem d40_9 : decode jdk_44_method_5_code 9 = .ok (.iload_n 1, 1) := by decide +kernel
theorem d40_10 : decode jdk_44_method_5_code 10 = .ok (.iconst 1, 1) := by decide +kernel
theorem d40_11 : decode jdk_44_method_5_code 11 = .ok (.if_icmp .ne 18, 3) := by decide +kernel
theorem d40_14 : decode jdk_44_method_5_code 14 = .ok (.aload_n 0, 1) := by decide +kernel
theorem d40_15 : decode jdk_44_method_5_code 15 = .ok (.getfield 24, 3) := by decide +kernel
theorem d40_18 : decode jdk_44_method_5_code 18 = .ok (.getstatic 19, 3) := by decide +kernel
theorem d40_21 : decode jdk_44_method_5_code 21 = .ok (.if_acmp .eq 8, 3) := by decide +kernel
theorem d40_24 : decode jdk_44_method_5_code 24 = .ok (.aload_n 0, 1) := by decide +kernel
theorem d40_25 : decode jdk_44_method_5_code 25 = .ok (.getfield 24, 3) := by decide +kernel
theorem d40_28 : decode jdk_44_method_5_code 28 = .ok (.areturn, 1) := by decide +kernel
theorem d40_29 : decode jdk_44_method_5_code 29 = .ok (.aload_n 0, 1) := by decide +kernel
theorem d40_30 : decode jdk_44_method_5_code 30 = .ok (.iload_n 1, 1) := by decide +kernel
theorem d40_31 : decode jdk_44_method_5_code 31 = .ok (.invokevirtual 27, 3) := by decide +kernel
theorem d40_34 : decode jdk_44_method_5_code 34 = .ok (.athrow, 1) := by decide +kernel
set_option maxRecDepth 65536 in
set_option maxHeartbeats 40000000 in
theorem rmGt0 (l : Launch) (Z : State) (a0 : Array Value) (hw : ∀ d ∈ tables_1, d.before a0 Z = true) (ws : List Jvm.Cond) (q : Addr) (y0 : Addr) (h0 : Heap) (n0 : Nat) (O0 : Old Z n0 h0) (F : Fld Z h0 q "java/util/ImmutableCollections$List12" "e0" "Ljava/lang/Object;" (.ref y0)) :
    MetFree l (⟨"java/util/ImmutableCollections$List12", "get", "(I)Ljava/lang/Object;"⟩ : MethodName) (head1 (Jvm.Cond.code (⟨"java/util/ImmutableCollections$List12", "get", "(I)Ljava/lang/Object;"⟩ : MethodName) jdk_44_method_5_code 2 (some (.object "java/lang/Object")) :: ws) ({ frames := 0, cells := 0, slots := 0, locals := 0 } : Room)) (fun ar' U => ar' = #[(.ref q), (.int (0 : Int32))] ∧ Z.Warmed39 U.vm ∧ U.heap = h0) (fun _ _ _ _ _ => True) (fun _ U o U' => ∃ v L, o = .returned v ∧ (QA (some (.ref y0)) h0 n0) v U'.heap L ∧ FrameEnd U o U' L ({ frames := 0, cells := 0, slots := 0, locals := 0 } : Room).cells ({ frames := 0, cells := 0, slots := 0, locals := 0 } : Room).slots) := by
  refine MetFree.of_bodySF (plainFor_of_name pn_java_util_ImmutableCollections_List12) hisR ?_
  intro p e s m args below meth c s₁ Bd hml0 hP hK
  obtain ⟨rfl, hZ, hh⟩ := hP
  have hx := Bd.exec
  have hby := Bd.bytes
  have hlk := BodyLoose.notSynchronized Bd
  have hml : c.maxLocals = 2 := hml0
  have hown : s.vm.findClass "java/util/ImmutableCollections$List12" = some m.cls := findClass_of_methodNamed Bd.named
  have hnm := (name_of_methodNamed Bd.named Bd.method).1
  have X0 : Stand p l e ({ frames := 0, cells := 0, slots := 0, locals := 0 } : Room) s m #[(.ref q), (.int (0 : Int32))] below meth c s₁ [] 0 0 := Stand.of_body Bd
  have e0 : s₁.heap = h0 := by rw [← hh, Bd.state]; rfl
  have N0 := Fr.nil n0
  have Z0 : n0 ≤ h0.size := O0.1 ▸ O0.2.1
  show OEnds p e below s ({ frames := 0, cells := 0, slots := 0, locals := 0 } : Room).cells ({ frames := 0, cells := 0, slots := 0, locals := 0 } : Room).slots (QA (some (.ref y0)) h0 n0) (s₁.setTop (entryFrame m #[(.ref q), (.int (0 : Int32))] 2))
  refine OEnds.via (fun _ k_ => castTop (show entryFrame m #[(.ref q), (.int (0 : Int32))] 2 = (mkF m 0 #[.val (.ref q), .val (.int (0 : Int32))] []) by first | (simp [entryFrame, mkF, argsToLocals, Value.category, maxLocals]; done) | rfl) k_) ?_
  refine OEnds.via (fun _ k_ => XS.iloadN X0.here hx rfl (hb hby d40_0) rfl k_) ?_
  show OEnds p e below s _ _ _ (s₁.setTop (mkF m 1 #[.val (.ref q), .val (.int (0 : Int32))] [(.int (0 : Int32))]))
  refine OEnds.via (fun _ k_ => XS.ifNo X0.here hx rfl (hb hby d40_1) rfl ((if0 _ _).trans (teq (by decide : (0 : Int32) = (0 : Int32))).2) k_) ?_
  show OEnds p e below s _ _ _ (s₁.setTop (mkF m 4 #[.val (.ref q), .val (.int (0 : Int32))] []))
  refine OEnds.via (fun _ k_ => XS.aloadN X0.here hx rfl (hb hby d40_4) rfl rfl k_) ?_
  show OEnds p e below s _ _ _ (s₁.setTop (mkF m 5 #[.val (.ref q), .val (.int (0 : Int32))] [(.ref q)]))
  obtain ⟨T1, X1, e1, st1⟩ := getF X0 hx hZ hown (host := "") (Or.inl (hw _ (List.mem_of_getElem? (i := 197) rfl))) Via.refl e0 F (g := (mkF m 5 #[.val (.ref q), .val (.int (0 : Int32))] [(.ref q)])) rfl rfl (hb hby d40_5)
  refine OEnds.via (fun _ k_ => st1 _ k_) ?_
  show OEnds p e below s _ _ _ (T1.setTop (mkF m 8 #[.val (.ref q), .val (.int (0 : Int32))] [(.ref y0)]))
  refine OEnds.retR X1 hx hlk Bd.returns rfl rfl (hb hby d40_8) ?_ (by decide) (by decide)
  exact ⟨rfl, N0, e1⟩
set_option maxRecDepth 65536 in
set_option maxHeartbeats 40000000 in
theorem rmGt1 (l : Launch) (Z : State) (a0 : Array Value) (hw : ∀ d ∈ tables_1, d.before a0 Z = true) (ws : List Jvm.Cond) (q : Addr) (em : Addr) (y1 : Addr) (h0 : Heap) (n0 : Nat) (O0 : Old Z n0 h0) (F : Fld Z h0 q "java/util/ImmutableCollections$List12" "e1" "Ljava/lang/Object;" (.ref y1)) (S_em : Sta Z Z.heap "java/util/ImmutableCollections" "EMPTY" "Ljava/lang/Object;" (.ref em)) (hne : y1 ≠ em) :
    MetFree l (⟨"java/util/ImmutableCollections$List12", "get", "(I)Ljava/lang/Object;"⟩ : MethodName) (head1 (Jvm.Cond.code (⟨"java/util/ImmutableCollections$List12", "get", "(I)Ljava/lang/Object;"⟩ : MethodName) jdk_44_method_5_code 2 (some (.object "java/lang/Object")) :: ws) ({ frames := 0, cells := 0, slots := 0, locals := 0 } : Room)) (fun ar' U => ar' = #[(.ref q), (.int (1 : Int32))] ∧ Z.Warmed39 U.vm ∧ U.heap = h0) (fun _ _ _ _ _ => True) (fun _ U o U' => ∃ v L, o = .returned v ∧ (QA (some (.ref y1)) h0 n0) v U'.heap L ∧ FrameEnd U o U' L ({ frames := 0, cells := 0, slots := 0, locals := 0 } : Room).cells ({ frames := 0, cells := 0, slots := 0, locals := 0 } : Room).slots) := by
  refine MetFree.of_bodySF (plainFor_of_name pn_java_util_ImmutableCollections_List12) hisR ?_
  intro p e s m args below meth c s₁ Bd hml0 hP hK
  obtain ⟨rfl, hZ, hh⟩ := hP
  have hx := Bd.exec
  have hby := Bd.bytes
  have hlk := BodyLoose.notSynchronized Bd
  have hml : c.maxLocals = 2 := hml0
  have hown : s.vm.findClass "java/util/ImmutableCollections$List12" = some m.cls := findClass_of_methodNamed Bd.named
  have hnm := (name_of_methodNamed Bd.named Bd.method).1
  have X0 : Stand p l e ({ frames := 0, cells := 0, slots := 0, locals := 0 } : Room) s m #[(.ref q), (.int (1 : Int32))] below meth c s₁ [] 0 0 := Stand.of_body Bd
  have e0 : s₁.heap = h0 := by rw [← hh, Bd.state]; rfl
  have N0 := Fr.nil n0
  have Z0 : n0 ≤ h0.size := O0.1 ▸ O0.2.1
  show OEnds p e below s ({ frames := 0, cells := 0, slots := 0, locals := 0 } : Room).cells ({ frames := 0, cells := 0, slots := 0, locals := 0 } : Room).slots (QA (some (.ref y1)) h0 n0) (s₁.setTop (entryFrame m #[(.ref q), (.int (1 : Int32))] 2))
  refine OEnds.via (fun _ k_ => castTop (show entryFrame m #[(.ref q), (.int (1 : Int32))] 2 = (mkF m 0 #[.val (.ref q), .val (.int (1 : Int32))] []) by first | (simp [entryFrame, mkF, argsToLocals, Value.category, maxLocals]; done) | rfl) k_) ?_
  refine OEnds.via (fun _ k_ => XS.iloadN X0.here hx rfl (hb hby d40_0) rfl k_) ?_
  show OEnds p e below s _ _ _ (s₁.setTop (mkF m 1 #[.val (.ref q), .val (.int (1 : Int32))] [(.int (1 : Int32))]))
  refine OEnds.via (fun _ k_ => XS.ifYes X0.here hx rfl (pc0 := 1) (pc' := 9) rfl (hb hby d40_1) rfl ((if0 _ _).trans (feq (by decide : ¬ ((1 : Int32) = (0 : Int32)))).2) (by decide) (by decide) k_) ?_
  show OEnds p e below s _ _ _ (s₁.setTop (mkF m 9 #[.val (.ref q), .val (.int (1 : Int32))] []))
  refine OEnds.via (fun _ k_ => XS.iloadN X0.here hx rfl (hb hby d40_9) rfl k_) ?_
  show OEnds p e below s _ _ _ (s₁.setTop (mkF m 10 #[.val (.ref q), .val (.int (1 : Int32))] [(.int (1 : Int32))]))
  refine OEnds.via (fun _ k_ => XS.iconst X0.here hx rfl (hb hby d40_10) k_) ?_
  show OEnds p e below s _ _ _ (s₁.setTop (mkF m 11 #[.val (.ref q), .val (.int (1 : Int32))] [(.int (1 : Int32)), (.int (1 : Int32))]))
  refine OEnds.via (fun _ k_ => XS.icmpNo X0.here hx rfl (hb hby d40_11) rfl (teq (by decide : (1 : Int32) = (1 : Int32))).2 k_) ?_
  show OEnds p e below s _ _ _ (s₁.setTop (mkF m 14 #[.val (.ref q), .val (.int (1 : Int32))] []))
  refine OEnds.via (fun _ k_ => XS.aloadN X0.here hx rfl (hb hby d40_14) rfl rfl k_) ?_
  show OEnds p e below s _ _ _ (s₁.setTop (mkF m 15 #[.val (.ref q), .val (.int (1 : Int32))] [(.ref q)]))
  obtain ⟨T1, X1, e1, st1⟩ := getF X0 hx hZ hown (host := "") (Or.inl (hw _ (List.mem_of_getElem? (i := 200) rfl))) Via.refl e0 F (g := (mkF m 15 #[.val (.ref q), .val (.int (1 : Int32))] [(.ref q)])) rfl rfl (hb hby d40_15)
  refine OEnds.via (fun _ k_ => st1 _ k_) ?_
  show OEnds p e below s _ _ _ (T1.setTop (mkF m 18 #[.val (.ref q), .val (.int (1 : Int32))] [(.ref y1)]))
  obtain ⟨T2, X2, e2, st2⟩ := getS2 X1 hx hZ hown (Or.inr (hw _ (List.mem_of_getElem? (i := 199) rfl))) Via.refl e1 (Sta.ext O0.2 S_em) (g := (mkF m 18 #[.val (.ref q), .val (.int (1 : Int32))] [(.ref y1)])) rfl (hb hby d40_18)
  refine OEnds.via (fun _ k_ => st2 _ k_) ?_
  show OEnds p e below s _ _ _ (T2.setTop (mkF m 21 #[.val (.ref q), .val (.int (1 : Int32))] [(.ref em), (.ref y1)]))
  refine OEnds.via (fun _ k_ => Jvm.RoadKit.acmp (g := (mkF m 21 #[.val (.ref q), .val (.int (1 : Int32))] [(.ref em), (.ref y1)])) X2 hx rfl rfl rfl (pc0 := 21) (pc' := 24) (same := false) rfl (hb hby d40_21) rfl (decide_eq_false fun q => hne (Value.ref.inj q)) (by decide) (by decide) k_) ?_
  show OEnds p e below s _ _ _ (T2.setTop (mkF m 24 #[.val (.ref q), .val (.int (1 : Int32))] []))
  refine OEnds.via (fun _ k_ => XS.aloadN X2.here hx rfl (hb hby d40_24) rfl rfl k_) ?_
  show OEnds p e below s _ _ _ (T2.setTop (mkF m 25 #[.val (.ref q), .val (.int (1 : Int32))] [(.ref q)]))
  obtain ⟨T3, X3, e3, st3⟩ := getF X2 hx hZ hown (host := "") (Or.inl (hw _ (List.mem_of_getElem? (i := 200) rfl))) Via.refl e2 F (g := (mkF m 25 #[.val (.ref q), .val (.int (1 : Int32))] [(.ref q)])) rfl rfl (hb hby d40_25)
  refine OEnds.via (fun _ k_ => st3 _ k_) ?_
  show OEnds p e below s _ _ _ (T3.setTop (mkF m 28 #[.val (.ref q), .val (.int (1 : Int32))] [(.ref y1)]))
  refine OEnds.retR X3 hx hlk Bd.returns rfl rfl (hb hby d40_28) ?_ (by decide) (by decide)
  exact ⟨rfl, N0, e3⟩
theorem d42_0 : decode jdk_45_method_3_code 0 = .ok (.aload_n 0, 1) := by decide +kernel
theorem d42_1 : decode jdk_45_method_3_code 1 = .ok (.getfield 7, 3) := by decide +kernel
theorem d42_4 : decode jdk_45_method_3_code 4 = .ok (.arraylength, 1) := by decide +kernel
theorem d42_5 : decode jdk_45_method_3_code 5 = .ok (.ireturn, 1) := by decide +kernel
theorem pn_java_util_ImmutableCollections_ListN : plainName "java/util/ImmutableCollections$ListN" = true := by first | (simp [plainName, overriddenIn]; done) | decide +kernel
set_option maxRecDepth 65536 in
set_option maxHeartbeats 40000000 in
theorem rmSz0 (l : Launch) (Z : State) (a0 : Array Value) (hw : ∀ d ∈ tables_1, d.before a0 Z = true) (ws : List Jvm.Cond) (el : Addr) (ee : Addr) (kee : ClassId) (h0 : Heap) (n0 : Nat) (O0 : Old Z n0 h0) (F : Fld Z Z.heap el "java/util/ImmutableCollections$ListN" "elements" "[Ljava/lang/Object;" (.ref ee)) (V_ee : Arv Z Z.heap ee kee (.object "java/lang/Object") (0 : Int32) [] .null) :
    MetFree l (⟨"java/util/ImmutableCollections$ListN", "size", "()I"⟩ : MethodName) (head1 (Jvm.Cond.code (⟨"java/util/ImmutableCollections$ListN", "size", "()I"⟩ : MethodName) jdk_45_method_3_code 1 (some .int) :: ws) ({ frames := 0, cells := 0, slots := 0, locals := 0 } : Room)) (fun ar' U => ar' = #[(.ref el)] ∧ Z.Warmed39 U.vm ∧ U.heap = h0) (fun _ _ _ _ _ => True) (fun _ U o U' => ∃ v L, o = .returned v ∧ (QA (some (.int 0)) h0 n0) v U'.heap L ∧ FrameEnd U o U' L ({ frames := 0, cells := 0, slots := 0, locals := 0 } : Room).cells ({ frames := 0, cells := 0, slots := 0, locals := 0 } : Room).slots) := by
  refine MetFree.of_bodySF (plainFor_of_name pn_java_util_ImmutableCollections_ListN) hisR ?_
  intro p e s m args below meth c s₁ Bd hml0 hP hK
  obtain ⟨rfl, hZ, hh⟩ := hP
  have hx := Bd.exec
  have hby := Bd.bytes
  have hlk := BodyLoose.notSynchronized Bd
  have hml : c.maxLocals = 1 := hml0
  have hown : s.vm.findClass "java/util/ImmutableCollections$ListN" = some m.cls := findClass_of_methodNamed Bd.named
  have hnm := (name_of_methodNamed Bd.named Bd.method).1
  have X0 : Stand p l e ({ frames := 0, cells := 0, slots := 0, locals := 0 } : Room) s m #[(.ref el)] below meth c s₁ [] 0 0 := Stand.of_body Bd
  have e0 : s₁.heap = h0 := by rw [← hh, Bd.state]; rfl
  have N0 := Fr.nil n0
  have Z0 : n0 ≤ h0.size := O0.1 ▸ O0.2.1
  show OEnds p e below s ({ frames := 0, cells := 0, slots := 0, locals := 0 } : Room).cells ({ frames := 0, cells := 0, slots := 0, locals := 0 } : Room).slots (QA (some (.int 0)) h0 n0) (s₁.setTop (entryFrame m #[(.ref el)] 1))
  refine OEnds.via (fun _ k_ => castTop (show entryFrame m #[(.ref el)] 1 = (mkF m 0 #[.val (.ref el)] []) by first | (simp [entryFrame, mkF, argsToLocals, Value.category, maxLocals]; done) | rfl) k_) ?_
  replace V_ee := V_ee.ext O0.2
  show OEnds p e below s _ _ _ (s₁.setTop (mkF m 0 #[.val (.ref el)] []))
  refine OEnds.via (fun _ k_ => XS.aloadN X0.here hx rfl (hb hby d42_0) rfl rfl k_) ?_
  show OEnds p e below s _ _ _ (s₁.setTop (mkF m 1 #[.val (.ref el)] [(.ref el)]))
  obtain ⟨T1, X1, e1, st1⟩ := getF X0 hx hZ hown (host := "") (Or.inl (hw _ (List.mem_of_getElem? (i := 277) rfl))) Via.refl e0 (Fld.ext O0.2 F) (g := (mkF m 1 #[.val (.ref el)] [(.ref el)])) rfl rfl (hb hby d42_1)
  refine OEnds.via (fun _ k_ => st1 _ k_) ?_
  show OEnds p e below s _ _ _ (T1.setTop (mkF m 4 #[.val (.ref el)] [(.ref ee)]))
  have V2c := V_ee
  obtain ⟨cl2, Ar2, q2, S2, M2, H2, -⟩ := V2c
  refine OEnds.via (fun _ k_ => X1.arraylength hx (by rw [e1]; exact Ar2.1) (State.isArrayOf_alike hZ.alike Ar2.2.1) (g := (mkF m 4 #[.val (.ref el)] [(.ref ee)])) rfl rfl (hb hby d42_4) _ k_) ?_
  rw [len_of S2 M2]
  show OEnds p e below s _ _ _ (T1.setTop (mkF m 5 #[.val (.ref el)] [(.int (0 : Int32))]))
  refine OEnds.retI X1 hx hlk Bd.returns (hb hby d42_5) ?_ (by decide) (by decide)
  exact ⟨rfl, N0, e1⟩
theorem d7_0 : decode prog_11_method_1_code 0 = .ok (.aload_n 0, 1) := by decide +kernel
theorem d7_1 : decode prog_11_method_1_code 1 = .ok (.invokespecial 1, 3) := by decide +kernel
theorem d7_4 : decode prog_11_method_1_code 4 = .ok (.aload_n 0, 1) := by decide +kernel
theorem d7_5 : decode prog_11_method_1_code 5 = .ok (.aload_n 1, 1) := by decide +kernel
theorem d7_6 : decode prog_11_method_1_code 6 = .ok (.putfield 7, 3) := by decide +kernel
theorem d7_9 : decode prog_11_method_1_code 9 = .ok (.aload_n 0, 1) := by decide +kernel
theorem d7_10 : decode prog_11_method_1_code 10 = .ok (.lload_n 2, 1) := by decide +kernel
theorem d7_11 : decode prog_11_method_1_code 11 = .ok (.putfield 13, 3) := by decide +kernel
theorem d7_14 : decode prog_11_method_1_code 14 = .ok (.return_, 1) := by decide +kernel
theorem pn_com_example_holdfast_holdfast_LockInfo_Reader : plainName "com/example/holdfast/holdfast/LockInfo$Reader" = true := by first | (simp [plainName, overriddenIn]; done) | decide +kernel
def Q_rmRd (Z : State) (r : Addr) (x : Addr) (vv : Int64) (h0 : Heap) (n0 : Nat) (v : Option Value) (h : Heap) (L : List Loc) : Prop := v = none ∧ Fr n0 L ∧ Keep h0 h [r]
set_option maxRecDepth 65536 in
set_option maxHeartbeats 40000000 in
theorem rmRd (l : Launch) (Z : State) (a0 : Array Value) (hw : ∀ d ∈ tables_1, d.before a0 Z = true) (ws : List Jvm.Cond) (r : Addr) (x : Addr) (vv : Int64) (h0 : Heap) (n0 : Nat) (O0 : Old Z n0 h0) (F_holder_r : Fld Z h0 r "com/example/holdfast/holdfast/LockInfo$Reader" "holder" "Ljava/lang/String;" .null) (F_remainingLeaseMillis_r : Fld Z h0 r "com/example/holdfast/holdfast/LockInfo$Reader" "remainingLeaseMillis" "J" (.long (0 : Int64))) (E_r : Exa Z h0 r "com/example/holdfast/holdfast/LockInfo$Reader") (ge_r : n0 ≤ r) :
    MetFree l (⟨"com/example/holdfast/holdfast/LockInfo$Reader", "<init>", "(Ljava/lang/String;J)V"⟩ : MethodName) (head1 (Jvm.Cond.code (⟨"com/example/holdfast/holdfast/LockInfo$Reader", "<init>", "(Ljava/lang/String;J)V"⟩ : MethodName) prog_11_method_1_code 4 none :: ws) ({ frames := 1, cells := 0, slots := 0, locals := 12 } : Room)) (fun ar' U => ar' = #[(.ref r), (.ref x), (.long vv)] ∧ Z.Warmed39 U.vm ∧ U.heap = h0) (fun _ _ _ _ _ => True) (fun _ U o U' => ∃ v L, o = .returned v ∧ (Q_rmRd Z r x vv h0 n0) v U'.heap L ∧ FrameEnd U o U' L ({ frames := 1, cells := 0, slots := 0, locals := 12 } : Room).cells ({ frames := 1, cells := 0, slots := 0, locals := 12 } : Room).slots) := by
  refine MetFree.of_bodySF (plainFor_of_name pn_com_example_holdfast_holdfast_LockInfo_Reader) hisR ?_
  intro p e s m args below meth c s₁ Bd hml0 hP hK
  obtain ⟨rfl, hZ, hh⟩ := hP
  have hx := Bd.exec
  have hby := Bd.bytes
  have hlk := BodyLoose.notSynchronized Bd
  have hml : c.maxLocals = 4 := hml0
  have hown : s.vm.findClass "com/example/holdfast/holdfast/LockInfo$Reader" = some m.cls := findClass_of_methodNamed Bd.named
  have hnm := (name_of_methodNamed Bd.named Bd.method).1
  have X0 : Stand p l e ({ frames := 1, cells := 0, slots := 0, locals := 12 } : Room) s m #[(.ref r), (.ref x), (.long vv)] below meth c s₁ [] 0 0 := Stand.of_body Bd
  have e0 : s₁.heap = h0 := by rw [← hh, Bd.state]; rfl
  have N0 := Fr.nil n0
  have Z0 : n0 ≤ h0.size := O0.1 ▸ O0.2.1
  show OEnds p e below s ({ frames := 1, cells := 0, slots := 0, locals := 12 } : Room).cells ({ frames := 1, cells := 0, slots := 0, locals := 12 } : Room).slots (Q_rmRd Z r x vv h0 n0) (s₁.setTop (entryFrame m #[(.ref r), (.ref x), (.long vv)] 4))
  refine OEnds.via (fun _ k_ => castTop (show entryFrame m #[(.ref r), (.ref x), (.long vv)] 4 = (mkF m 0 #[.val (.ref r), .val (.ref x), .val (.long vv), .second] []) by first | (simp [entryFrame, mkF, argsToLocals, Value.category, maxLocals]; done) | rfl) k_) ?_
  have Kp := Keep.refl h0 [r]
  show OEnds p e below s _ _ _ (s₁.setTop (mkF m 0 #[.val (.ref r), .val (.ref x), .val (.long vv), .second] []))
  refine OEnds.via (fun _ k_ => XS.aloadN X0.here hx rfl (hb hby d7_0) rfl rfl k_) ?_
  show OEnds p e below s _ _ _ (s₁.setTop (mkF m 1 #[.val (.ref r), .val (.ref x), .val (.long vv), .second] [(.ref r)]))
  obtain ⟨T1, X1, e1, st1⟩ := initO X0 hx hZ hown (hw _ (List.mem_of_getElem? (i := 36) rfl)) (hw _ (List.mem_of_getElem? (i := 12) rfl)) (hw _ (List.mem_of_getElem? (i := 13) rfl)) e0 (g := (mkF m 1 #[.val (.ref r), .val (.ref x), .val (.long vv), .second] [(.ref r)])) rfl (by rw [hml]; rfl) rfl (hb hby d7_1) (by decide) (W := 0) (by show 2 * 0 + _ ≤ _; exact Nat.le_of_eq rfl) (by decide)
  refine OEnds.via (fun _ k_ => st1 _ k_) ?_
  show OEnds p e below s _ _ _ (T1.setTop (mkF m 4 #[.val (.ref r), .val (.ref x), .val (.long vv), .second] []))
  refine OEnds.via (fun _ k_ => XS.aloadN X1.here hx rfl (hb hby d7_4) rfl rfl k_) ?_
  show OEnds p e below s _ _ _ (T1.setTop (mkF m 5 #[.val (.ref r), .val (.ref x), .val (.long vv), .second] [(.ref r)]))
  refine OEnds.via (fun _ k_ => XS.aloadN X1.here hx rfl (hb hby d7_5) rfl rfl k_) ?_
  show OEnds p e below s _ _ _ (T1.setTop (mkF m 6 #[.val (.ref r), .val (.ref x), .val (.long vv), .second] [(.ref x), (.ref r)]))
  obtain ⟨T2, h2, X2, e2, W2, st2⟩ := putF X1 hx hZ hown (host := "") (Or.inl (hw _ (List.mem_of_getElem? (i := 37) rfl))) Via.refl e1 F_holder_r E_r (Or.inr ⟨(hw _ (List.mem_of_getElem? (i := 38) rfl)), rfl, hnm⟩) (hw _ (List.mem_of_getElem? (i := 31) rfl)) (ty := (.object "java/lang/String")) (by decide) rfl rfl (g := (mkF m 6 #[.val (.ref r), .val (.ref x), .val (.long vv), .second] [(.ref x), (.ref r)])) rfl rfl (hb hby d7_6)
  have N2 := Fr.snoc X2 N0 ge_r
  replace F_holder_r := Fld.same W2 F_holder_r
  replace F_remainingLeaseMillis_r := Fld.other W2 F_remainingLeaseMillis_r (Or.inr (slot_ne (Or.inr (hw _ (List.mem_of_getElem? (i := 40) rfl))) (Or.inr (hw _ (List.mem_of_getElem? (i := 38) rfl))) (by decide) (t := .long) (t' := (.object "java/lang/String")) (by decide) (by decide)))
  replace E_r := Exa.wr W2 E_r
  replace Kp := Kp.wr W2 (Or.inl (by simp))
  refine OEnds.via (fun _ k_ => st2 _ k_) ?_
  show OEnds p e below s _ _ _ (T2.setTop (mkF m 9 #[.val (.ref r), .val (.ref x), .val (.long vv), .second] []))
  refine OEnds.via (fun _ k_ => XS.aloadN X2.here hx rfl (hb hby d7_9) rfl rfl k_) ?_
  show OEnds p e below s _ _ _ (T2.setTop (mkF m 10 #[.val (.ref r), .val (.ref x), .val (.long vv), .second] [(.ref r)]))
  refine OEnds.via (fun _ k_ => XS.lloadN X2.here hx rfl (hb hby d7_10) rfl k_) ?_
  show OEnds p e below s _ _ _ (T2.setTop (mkF m 11 #[.val (.ref r), .val (.ref x), .val (.long vv), .second] [(.long vv), (.ref r)]))
  obtain ⟨T3, h3, X3, e3, W3, st3⟩ := putF X2 hx hZ hown (host := "") (Or.inl (hw _ (List.mem_of_getElem? (i := 39) rfl))) Via.refl e2 F_remainingLeaseMillis_r E_r (Or.inr ⟨(hw _ (List.mem_of_getElem? (i := 40) rfl)), rfl, hnm⟩) (hw _ (List.mem_of_getElem? (i := 31) rfl)) (ty := .long) (by decide) rfl rfl (g := (mkF m 11 #[.val (.ref r), .val (.ref x), .val (.long vv), .second] [(.long vv), (.ref r)])) rfl rfl (hb hby d7_11)
  have N3 := Fr.snoc X3 N2 ge_r
  replace F_holder_r := Fld.other W3 F_holder_r (Or.inr (slot_ne (Or.inr (hw _ (List.mem_of_getElem? (i := 38) rfl))) (Or.inr (hw _ (List.mem_of_getElem? (i := 40) rfl))) (by decide) (t := (.object "java/lang/String")) (t' := .long) (by decide) (by decide)))
  replace F_remainingLeaseMillis_r := Fld.same W3 F_remainingLeaseMillis_r
  replace E_r := Exa.wr W3 E_r
  replace Kp := Kp.wr W3 (Or.inl (by simp))
  refine OEnds.via (fun _ k_ => st3 _ k_) ?_
  show OEnds p e below s _ _ _ (T3.setTop (mkF m 14 #[.val (.ref r), .val (.ref x), .val (.long vv), .second] []))
  refine OEnds.retV X3 hx hlk Bd.returns (hb hby d7_14) ?_ (by decide) (by decide)
  rw [e3]
  exact ⟨rfl, N3, Kp⟩
theorem d17_0 : decode prog_10_method_1_code 0 = .ok (.aload_n 0, 1) := by decide +kernel
theorem d17_1 : decode prog_10_method_1_code 1 = .ok (.invokespecial 1, 3) := by decide +kernel
theorem d17_4 : decode prog_10_method_1_code 4 = .ok (.aload_n 0, 1) := by decide +kernel
theorem d17_5 : decode prog_10_method_1_code 5 = .ok (.aload_n 1, 1) := by decide +kernel
theorem d17_6 : decode prog_10_method_1_code 6 = .ok (.putfield 7, 3) := by decide +kernel
theorem d17_9 : decode prog_10_method_1_code 9 = .ok (.aload_n 0, 1) := by decide +kernel
theorem d17_10 : decode prog_10_method_1_code 10 = .ok (.iload_n 2, 1) := by decide +kernel
theorem d17_11 : decode prog_10_method_1_code 11 = .ok (.putfield 13, 3) := by decide +kernel
theorem d17_14 : decode prog_10_method_1_code 14 = .ok (.aload_n 0, 1) := by decide +kernel
theorem d17_15 : decode prog_10_method_1_code 15 = .ok (.aload_n 3, 1) := by decide +kernel
theorem d17_16 : decode prog_10_method_1_code 16 = .ok (.putfield 17, 3) := by decide +kernel
theorem d17_19 : decode prog_10_method_1_code 19 = .ok (.aload_n 0, 1) := by decide +kernel
theorem d17_20 : decode prog_10_method_1_code 20 = .ok (.lload 4, 2) := by decide +kernel
theorem d17_22 : decode prog_10_method_1_code 22 = .ok (.putfield 20, 3) := by decide +kernel
theorem d17_25 : decode prog_10_method_1_code 25 = .ok (.aload_n 0, 1) := by decide +kernel
theorem d17_26 : decode prog_10_method_1_code 26 = .ok (.lload 6, 2) := by decide +kernel
theorem d17_28 : decode prog_10_method_1_code 28 = .ok (.putfield 24, 3) := by decide +kernel
theorem d17_31 : decode prog_10_method_1_code 31 = .ok (.aload_n 0, 1) := by decide +kernel
theorem d17_32 : decode prog_10_method_1_code 32 = .ok (.aload 8, 2) := by decide +kernel
theorem d17_34 : decode prog_10_method_1_code 34 = .ok (.invokestatic 27, 3) := by decide +kernel
theorem d17_37 : decode prog_10_method_1_code 37 = .ok (.putfield 33, 3) := by decide +kernel
theorem d17_40 : decode prog_10_method_1_code 40 = .ok (.return_, 1) := by decide +kernel
theorem pn_com_example_holdfast_holdfast_LockInfo : plainName "com/example/holdfast/holdfast/LockInfo" = true := by first | (simp [plainName, overriddenIn]; done) | decide +kernel
def Q_rmLI0 (Z : State) (i : Addr) (x : Addr) (kv : Value) (rm : Int64) (tk : Int64) (r : Addr) (el : Addr) (h0 : Heap) (n0 : Nat) (v : Option Value) (h : Heap) (L : List Loc) : Prop := v = none ∧ Fr n0 L ∧ Keep h0 h [i] ∧ Exa Z h i "com/example/holdfast/holdfast/LockInfo" ∧ Fld Z h i "com/example/holdfast/holdfast/LockInfo" "name" "Ljava/lang/String;" (.ref x) ∧ Fld Z h i "com/example/holdfast/holdfast/LockInfo" "held" "Z" (.int (1 : Int32)) ∧ Fld Z h i "com/example/holdfast/holdfast/LockInfo" "holder" "Ljava/lang/String;" kv ∧ Fld Z h i "com/example/holdfast/holdfast/LockInfo" "remainingLeaseMillis" "J" (.long rm) ∧ Fld Z h i "com/example/holdfast/holdfast/LockInfo" "fencingToken" "J" (.long tk) ∧ Fld Z h i "com/example/holdfast/holdfast/LockInfo" "readers" "Ljava/util/List;" (.ref el)
set_option maxRecDepth 65536 in
set_option maxHeartbeats 40000000 in
theorem rmLI0 (l : Launch) (Z : State) (a0 : Array Value) (hw : ∀ d ∈ tables_1, d.before a0 Z = true) (ws : List Jvm.Cond) (i : Addr) (x : Addr) (kv : Value) (rm : Int64) (tk : Int64) (r : Addr) (el : Addr) (h0 : Heap) (n0 : Nat) (O0 : Old Z n0 h0) (F_name_i : Fld Z h0 i "com/example/holdfast/holdfast/LockInfo" "name" "Ljava/lang/String;" .null) (F_held_i : Fld Z h0 i "com/example/holdfast/holdfast/LockInfo" "held" "Z" (.int (0 : Int32))) (F_holder_i : Fld Z h0 i "com/example/holdfast/holdfast/LockInfo" "holder" "Ljava/lang/String;" .null) (F_remainingLeaseMillis_i : Fld Z h0 i "com/example/holdfast/holdfast/LockInfo" "remainingLeaseMillis" "J" (.long (0 : Int64))) (F_fencingToken_i : Fld Z h0 i "com/example/holdfast/holdfast/LockInfo" "fencingToken" "J" (.long (0 : Int64))) (F_readers_i : Fld Z h0 i "com/example/holdfast/holdfast/LockInfo" "readers" "Ljava/util/List;" .null) (E_i : Exa Z h0 i "com/example/holdfast/holdfast/LockInfo") (ge_i : n0 ≤ i) (hkv : kv.isRef = true) (hir : r ≠ i) (F_sz : Fld Z h0 r "java/util/ArrayList" "size" "I" (.int (0 : Int32))) (E_r : Exa Z h0 r "java/util/ArrayList") (S_el : Sta Z Z.heap "java/util/ImmutableCollections" "EMPTY_LIST" "Ljava/util/ImmutableCollections$ListN;" (.ref el)) :
    MetFree l (⟨"com/example/holdfast/holdfast/LockInfo", "<init>", "(Ljava/lang/String;ZLjava/lang/String;JJLjava/util/List;)V"⟩ : MethodName) (head1 (Jvm.Cond.code (⟨"com/example/holdfast/holdfast/LockInfo", "<init>", "(Ljava/lang/String;ZLjava/lang/String;JJLjava/util/List;)V"⟩ : MethodName) prog_10_method_1_code 9 none :: ws) ({ frames := 8, cells := 2, slots := 4, locals := 124 } : Room)) (fun ar' U => ar' = #[(.ref i), (.ref x), (.int (1 : Int32)), kv, (.long rm), (.long tk), (.ref r)] ∧ Z.Warmed39 U.vm ∧ U.heap = h0) (fun _ _ _ _ _ => True) (fun _ U o U' => ∃ v L, o = .returned v ∧ (Q_rmLI0 Z i x kv rm tk r el h0 n0) v U'.heap L ∧ FrameEnd U o U' L ({ frames := 8, cells := 2, slots := 4, locals := 124 } : Room).cells ({ frames := 8, cells := 2, slots := 4, locals := 124 } : Room).slots) := by
  refine MetFree.of_bodySF (plainFor_of_name pn_com_example_holdfast_holdfast_LockInfo) hisR ?_
  intro p e s m args below meth c s₁ Bd hml0 hP hK
  obtain ⟨rfl, hZ, hh⟩ := hP
  have hx := Bd.exec
  have hby := Bd.bytes
  have hlk := BodyLoose.notSynchronized Bd
  have hml : c.maxLocals = 9 := hml0
  have hown : s.vm.findClass "com/example/holdfast/holdfast/LockInfo" = some m.cls := findClass_of_methodNamed Bd.named
  have hnm := (name_of_methodNamed Bd.named Bd.method).1
  have X0 : Stand p l e ({ frames := 8, cells := 2, slots := 4, locals := 124 } : Room) s m #[(.ref i), (.ref x), (.int (1 : Int32)), kv, (.long rm), (.long tk), (.ref r)] below meth c s₁ [] 0 0 := Stand.of_body Bd
  have e0 : s₁.heap = h0 := by rw [← hh, Bd.state]; rfl
  have N0 := Fr.nil n0
  have Z0 : n0 ≤ h0.size := O0.1 ▸ O0.2.1
  show OEnds p e below s ({ frames := 8, cells := 2, slots := 4, locals := 124 } : Room).cells ({ frames := 8, cells := 2, slots := 4, locals := 124 } : Room).slots (Q_rmLI0 Z i x kv rm tk r el h0 n0) (s₁.setTop (entryFrame m #[(.ref i), (.ref x), (.int (1 : Int32)), kv, (.long rm), (.long tk), (.ref r)] 9))
  refine OEnds.via (fun _ k_ => castTop (show entryFrame m #[(.ref i), (.ref x), (.int (1 : Int32)), kv, (.long rm), (.long tk), (.ref r)] 9 = (mkF m 0 #[.val (.ref i), .val (.ref x), .val (.int (1 : Int32)), .val kv, .val (.long rm), .second, .val (.long tk), .second, .val (.ref r)] []) by rcases ref_cases hkv with rfl | ⟨_, rfl⟩ <;> rfl) k_) ?_
  have Od := O0
  have Kp := Keep.refl h0 [i]
  show OEnds p e below s _ _ _ (s₁.setTop (mkF m 0 #[.val (.ref i), .val (.ref x), .val (.int (1 : Int32)), .val kv, .val (.long rm), .second, .val (.long tk), .second, .val (.ref r)] []))
  refine OEnds.via (fun _ k_ => XS.aloadN X0.here hx rfl (hb hby d17_0) rfl rfl k_) ?_
  show OEnds p e below s _ _ _ (s₁.setTop (mkF m 1 #[.val (.ref i), .val (.ref x), .val (.int (1 : Int32)), .val kv, .val (.long rm), .second, .val (.long tk), .second, .val (.ref r)] [(.ref i)]))
  obtain ⟨T1, X1, e1, st1⟩ := initO X0 hx hZ hown (hw _ (List.mem_of_getElem? (i := 105) rfl)) (hw _ (List.mem_of_getElem? (i := 12) rfl)) (hw _ (List.mem_of_getElem? (i := 13) rfl)) e0 (g := (mkF m 1 #[.val (.ref i), .val (.ref x), .val (.int (1 : Int32)), .val kv, .val (.long rm), .second, .val (.long tk), .second, .val (.ref r)] [(.ref i)])) rfl (by rw [hml]; rfl) rfl (hb hby d17_1) (by decide) (W := 0) (by show 2 * 0 + _ ≤ _; exact Nat.le_of_eq rfl) (by decide)
  refine OEnds.via (fun _ k_ => st1 _ k_) ?_
  show OEnds p e below s _ _ _ (T1.setTop (mkF m 4 #[.val (.ref i), .val (.ref x), .val (.int (1 : Int32)), .val kv, .val (.long rm), .second, .val (.long tk), .second, .val (.ref r)] []))
  refine OEnds.via (fun _ k_ => XS.aloadN X1.here hx rfl (hb hby d17_4) rfl rfl k_) ?_
  show OEnds p e below s _ _ _ (T1.setTop (mkF m 5 #[.val (.ref i), .val (.ref x), .val (.int (1 : Int32)), .val kv, .val (.long rm), .second, .val (.long tk), .second, .val (.ref r)] [(.ref i)]))
  refine OEnds.via (fun _ k_ => XS.aloadN X1.here hx rfl (hb hby d17_5) rfl rfl k_) ?_
  show OEnds p e below s _ _ _ (T1.setTop (mkF m 6 #[.val (.ref i), .val (.ref x), .val (.int (1 : Int32)), .val kv, .val (.long rm), .second, .val (.long tk), .second, .val (.ref r)] [(.ref x), (.ref i)]))
  obtain ⟨T2, h2, X2, e2, W2, st2⟩ := putF X1 hx hZ hown (host := "") (Or.inl (hw _ (List.mem_of_getElem? (i := 106) rfl))) Via.refl e1 F_name_i E_i (Or.inr ⟨(hw _ (List.mem_of_getElem? (i := 107) rfl)), rfl, hnm⟩) (hw _ (List.mem_of_getElem? (i := 101) rfl)) (ty := (.object "java/lang/String")) (by decide) rfl rfl (g := (mkF m 6 #[.val (.ref i), .val (.ref x), .val (.int (1 : Int32)), .val kv, .val (.long rm), .second, .val (.long tk), .second, .val (.ref r)] [(.ref x), (.ref i)])) rfl rfl (hb hby d17_6)
  have N2 := Fr.snoc X2 N0 ge_i
  replace Od := Od.wr W2 ge_i
  replace F_name_i := Fld.same W2 F_name_i
  replace F_held_i := Fld.other W2 F_held_i (Or.inr (slot_ne (Or.inr (hw _ (List.mem_of_getElem? (i := 109) rfl))) (Or.inr (hw _ (List.mem_of_getElem? (i := 107) rfl))) (by decide) (t := .boolean) (t' := (.object "java/lang/String")) (by decide) (by decide)))
  replace F_holder_i := Fld.other W2 F_holder_i (Or.inr (slot_ne (Or.inr (hw _ (List.mem_of_getElem? (i := 111) rfl))) (Or.inr (hw _ (List.mem_of_getElem? (i := 107) rfl))) (by decide) (t := (.object "java/lang/String")) (t' := (.object "java/lang/String")) (by decide) (by decide)))
  replace F_remainingLeaseMillis_i := Fld.other W2 F_remainingLeaseMillis_i (Or.inr (slot_ne (Or.inr (hw _ (List.mem_of_getElem? (i := 113) rfl))) (Or.inr (hw _ (List.mem_of_getElem? (i := 107) rfl))) (by decide) (t := .long) (t' := (.object "java/lang/String")) (by decide) (by decide)))
  replace F_fencingToken_i := Fld.other W2 F_fencingToken_i (Or.inr (slot_ne (Or.inr (hw _ (List.mem_of_getElem? (i := 115) rfl))) (Or.inr (hw _ (List.mem_of_getElem? (i := 107) rfl))) (by decide) (t := .long) (t' := (.object "java/lang/String")) (by decide) (by decide)))
  replace F_readers_i := Fld.other W2 F_readers_i (Or.inr (slot_ne (Or.inr (hw _ (List.mem_of_getElem? (i := 203) rfl))) (Or.inr (hw _ (List.mem_of_getElem? (i := 107) rfl))) (by decide) (t := (.object "java/util/List")) (t' := (.object "java/lang/String")) (by decide) (by decide)))
  replace E_i := Exa.wr W2 E_i
  replace Kp := Kp.wr W2 (Or.inl (by simp))
  replace F_sz := Fld.other W2 F_sz (Or.inl hir)
  replace E_r := Exa.wr W2 E_r
  refine OEnds.via (fun _ k_ => st2 _ k_) ?_
  show OEnds p e below s _ _ _ (T2.setTop (mkF m 9 #[.val (.ref i), .val (.ref x), .val (.int (1 : Int32)), .val kv, .val (.long rm), .second, .val (.long tk), .second, .val (.ref r)] []))
  refine OEnds.via (fun _ k_ => XS.aloadN X2.here hx rfl (hb hby d17_9) rfl rfl k_) ?_
  show OEnds p e below s _ _ _ (T2.setTop (mkF m 10 #[.val (.ref i), .val (.ref x), .val (.int (1 : Int32)), .val kv, .val (.long rm), .second, .val (.long tk), .second, .val (.ref r)] [(.ref i)]))
  refine OEnds.via (fun _ k_ => XS.iloadN X2.here hx rfl (hb hby d17_10) rfl k_) ?_
  show OEnds p e below s _ _ _ (T2.setTop (mkF m 11 #[.val (.ref i), .val (.ref x), .val (.int (1 : Int32)), .val kv, .val (.long rm), .second, .val (.long tk), .second, .val (.ref r)] [(.int (1 : Int32)), (.ref i)]))
  obtain ⟨T3, h3, X3, e3, W3, st3⟩ := putFN X2 hx hZ hown (hw _ (List.mem_of_getElem? (i := 108) rfl)) Via.refl e2 F_held_i E_i (Or.inr ⟨(hw _ (List.mem_of_getElem? (i := 109) rfl)), rfl, hnm⟩) (hw _ (List.mem_of_getElem? (i := 101) rfl)) (ty := .boolean) (v' := (.int (1 : Int32))) (by decide) rfl rfl (g := (mkF m 11 #[.val (.ref i), .val (.ref x), .val (.int (1 : Int32)), .val kv, .val (.long rm), .second, .val (.long tk), .second, .val (.ref r)] [(.int (1 : Int32)), (.ref i)])) rfl rfl (hb hby d17_11)
  have N3 := Fr.snoc X3 N2 ge_i
  replace Od := Od.wr W3 ge_i
  replace F_name_i := Fld.other W3 F_name_i (Or.inr (slot_ne (Or.inr (hw _ (List.mem_of_getElem? (i := 107) rfl))) (Or.inr (hw _ (List.mem_of_getElem? (i := 109) rfl))) (by decide) (t := (.object "java/lang/String")) (t' := .boolean) (by decide) (by decide)))
  replace F_held_i := Fld.same W3 F_held_i
  replace F_holder_i := Fld.other W3 F_holder_i (Or.inr (slot_ne (Or.inr (hw _ (List.mem_of_getElem? (i := 111) rfl))) (Or.inr (hw _ (List.mem_of_getElem? (i := 109) rfl))) (by decide) (t := (.object "java/lang/String")) (t' := .boolean) (by decide) (by decide)))
  replace F_remainingLeaseMillis_i := Fld.other W3 F_remainingLeaseMillis_i (Or.inr (slot_ne (Or.inr (hw _ (List.mem_of_getElem? (i := 113) rfl))) (Or.inr (hw _ (List.mem_of_getElem? (i := 109) rfl))) (by decide) (t := .long) (t' := .boolean) (by decide) (by decide)))
  replace F_fencingToken_i := Fld.other W3 F_fencingToken_i (Or.inr (slot_ne (Or.inr (hw _ (List.mem_of_getElem? (i := 115) rfl))) (Or.inr (hw _ (List.mem_of_getElem? (i := 109) rfl))) (by decide) (t := .long) (t' := .boolean) (by decide) (by decide)))
  replace F_readers_i := Fld.other W3 F_readers_i (Or.inr (slot_ne (Or.inr (hw _ (List.mem_of_getElem? (i := 203) rfl))) (Or.inr (hw _ (List.mem_of_getElem? (i := 109) rfl))) (by decide) (t := (.object "java/util/List")) (t' := .boolean) (by decide) (by decide)))
  replace E_i := Exa.wr W3 E_i
  replace Kp := Kp.wr W3 (Or.inl (by simp))
  replace F_sz := Fld.other W3 F_sz (Or.inl hir)
  replace E_r := Exa.wr W3 E_r
  refine OEnds.via (fun _ k_ => st3 _ k_) ?_
  show OEnds p e below s _ _ _ (T3.setTop (mkF m 14 #[.val (.ref i), .val (.ref x), .val (.int (1 : Int32)), .val kv, .val (.long rm), .second, .val (.long tk), .second, .val (.ref r)] []))
  refine OEnds.via (fun _ k_ => XS.aloadN X3.here hx rfl (hb hby d17_14) rfl rfl k_) ?_
  show OEnds p e below s _ _ _ (T3.setTop (mkF m 15 #[.val (.ref i), .val (.ref x), .val (.int (1 : Int32)), .val kv, .val (.long rm), .second, .val (.long tk), .second, .val (.ref r)] [(.ref i)]))
  refine OEnds.via (fun _ k_ => XS.aloadN X3.here hx rfl (hb hby d17_15) rfl hkv k_) ?_
  show OEnds p e below s _ _ _ (T3.setTop (mkF m 16 #[.val (.ref i), .val (.ref x), .val (.int (1 : Int32)), .val kv, .val (.long rm), .second, .val (.long tk), .second, .val (.ref r)] [kv, (.ref i)]))
  obtain ⟨T4, h4, X4, e4, W4, st4⟩ := putF X3 hx hZ hown (host := "") (Or.inl (hw _ (List.mem_of_getElem? (i := 110) rfl))) Via.refl e3 F_holder_i E_i (Or.inr ⟨(hw _ (List.mem_of_getElem? (i := 111) rfl)), rfl, hnm⟩) (hw _ (List.mem_of_getElem? (i := 101) rfl)) (ty := (.object "java/lang/String")) (by decide) (own_narrow hkv) (own_fits hkv) (g := (mkF m 16 #[.val (.ref i), .val (.ref x), .val (.int (1 : Int32)), .val kv, .val (.long rm), .second, .val (.long tk), .second, .val (.ref r)] [kv, (.ref i)])) rfl rfl (hb hby d17_16)
  have N4 := Fr.snoc X4 N3 ge_i
  replace Od := Od.wr W4 ge_i
  replace F_name_i := Fld.other W4 F_name_i (Or.inr (slot_ne (Or.inr (hw _ (List.mem_of_getElem? (i := 107) rfl))) (Or.inr (hw _ (List.mem_of_getElem? (i := 111) rfl))) (by decide) (t := (.object "java/lang/String")) (t' := (.object "java/lang/String")) (by decide) (by decide)))
  replace F_held_i := Fld.other W4 F_held_i (Or.inr (slot_ne (Or.inr (hw _ (List.mem_of_getElem? (i := 109) rfl))) (Or.inr (hw _ (List.mem_of_getElem? (i := 111) rfl))) (by decide) (t := .boolean) (t' := (.object "java/lang/String")) (by decide) (by decide)))
  replace F_holder_i := Fld.same W4 F_holder_i
  replace F_remainingLeaseMillis_i := Fld.other W4 F_remainingLeaseMillis_i (Or.inr (slot_ne (Or.inr (hw _ (List.mem_of_getElem? (i := 113) rfl))) (Or.inr (hw _ (List.mem_of_getElem? (i := 111) rfl))) (by decide) (t := .long) (t' := (.object "java/lang/String")) (by decide) (by decide)))
  replace F_fencingToken_i := Fld.other W4 F_fencingToken_i (Or.inr (slot_ne (Or.inr (hw _ (List.mem_of_getElem? (i := 115) rfl))) (Or.inr (hw _ (List.mem_of_getElem? (i := 111) rfl))) (by decide) (t := .long) (t' := (.object "java/lang/String")) (by decide) (by decide)))
  replace F_readers_i := Fld.other W4 F_readers_i (Or.inr (slot_ne (Or.inr (hw _ (List.mem_of_getElem? (i := 203) rfl))) (Or.inr (hw _ (List.mem_of_getElem? (i := 111) rfl))) (by decide) (t := (.object "java/util/List")) (t' := (.object "java/lang/String")) (by decide) (by decide)))
  replace E_i := Exa.wr W4 E_i
  replace Kp := Kp.wr W4 (Or.inl (by simp))
  replace F_sz := Fld.other W4 F_sz (Or.inl hir)
  replace E_r := Exa.wr W4 E_r
  refine OEnds.via (fun _ k_ => st4 _ k_) ?_
  show OEnds p e below s _ _ _ (T4.setTop (mkF m 19 #[.val (.ref i), .val (.ref x), .val (.int (1 : Int32)), .val kv, .val (.long rm), .second, .val (.long tk), .second, .val (.ref r)] []))
  refine OEnds.via (fun _ k_ => XS.aloadN X4.here hx rfl (hb hby d17_19) rfl rfl k_) ?_
  show OEnds p e below s _ _ _ (T4.setTop (mkF m 20 #[.val (.ref i), .val (.ref x), .val (.int (1 : Int32)), .val kv, .val (.long rm), .second, .val (.long tk), .second, .val (.ref r)] [(.ref i)]))
  refine OEnds.via (fun _ k_ => XS.lload X4.here hx rfl (hb hby d17_20) rfl k_) ?_
  show OEnds p e below s _ _ _ (T4.setTop (mkF m 22 #[.val (.ref i), .val (.ref x), .val (.int (1 : Int32)), .val kv, .val (.long rm), .second, .val (.long tk), .second, .val (.ref r)] [(.long rm), (.ref i)]))
  obtain ⟨T5, h5, X5, e5, W5, st5⟩ := putF X4 hx hZ hown (host := "") (Or.inl (hw _ (List.mem_of_getElem? (i := 112) rfl))) Via.refl e4 F_remainingLeaseMillis_i E_i (Or.inr ⟨(hw _ (List.mem_of_getElem? (i := 113) rfl)), rfl, hnm⟩) (hw _ (List.mem_of_getElem? (i := 101) rfl)) (ty := .long) (by decide) rfl rfl (g := (mkF m 22 #[.val (.ref i), .val (.ref x), .val (.int (1 : Int32)), .val kv, .val (.long rm), .second, .val (.long tk), .second, .val (.ref r)] [(.long rm), (.ref i)])) rfl rfl (hb hby d17_22)
  have N5 := Fr.snoc X5 N4 ge_i
  replace Od := Od.wr W5 ge_i
  replace F_name_i := Fld.other W5 F_name_i (Or.inr (slot_ne (Or.inr (hw _ (List.mem_of_getElem? (i := 107) rfl))) (Or.inr (hw _ (List.mem_of_getElem? (i := 113) rfl))) (by decide) (t := (.object "java/lang/String")) (t' := .long) (by decide) (by decide)))
  replace F_held_i := Fld.other W5 F_held_i (Or.inr (slot_ne (Or.inr (hw _ (List.mem_of_getElem? (i := 109) rfl))) (Or.inr (hw _ (List.mem_of_getElem? (i := 113) rfl))) (by decide) (t := .boolean) (t' := .long) (by decide) (by decide)))
  replace F_holder_i := Fld.other W5 F_holder_i (Or.inr (slot_ne (Or.inr (hw _ (List.mem_of_getElem? (i := 111) rfl))) (Or.inr (hw _ (List.mem_of_getElem? (i := 113) rfl))) (by decide) (t := (.object "java/lang/String")) (t' := .long) (by decide) (by decide)))
  replace F_remainingLeaseMillis_i := Fld.same W5 F_remainingLeaseMillis_i
  replace F_fencingToken_i := Fld.other W5 F_fencingToken_i (Or.inr (slot_ne (Or.inr (hw _ (List.mem_of_getElem? (i := 115) rfl))) (Or.inr (hw _ (List.mem_of_getElem? (i := 113) rfl))) (by decide) (t := .long) (t' := .long) (by decide) (by decide)))
  replace F_readers_i := Fld.other W5 F_readers_i (Or.inr (slot_ne (Or.inr (hw _ (List.mem_of_getElem? (i := 203) rfl))) (Or.inr (hw _ (List.mem_of_getElem? (i := 113) rfl))) (by decide) (t := (.object "java/util/List")) (t' := .long) (by decide) (by decide)))
  replace E_i := Exa.wr W5 E_i
  replace Kp := Kp.wr W5 (Or.inl (by simp))
  replace F_sz := Fld.other W5 F_sz (Or.inl hir)
  replace E_r := Exa.wr W5 E_r
  refine OEnds.via (fun _ k_ => st5 _ k_) ?_
  show OEnds p e below s _ _ _ (T5.setTop (mkF m 25 #[.val (.ref i), .val (.ref x), .val (.int (1 : Int32)), .val kv, .val (.long rm), .second, .val (.long tk), .second, .val (.ref r)] []))
  refine OEnds.via (fun _ k_ => XS.aloadN X5.here hx rfl (hb hby d17_25) rfl rfl k_) ?_
  show OEnds p e below s _ _ _ (T5.setTop (mkF m 26 #[.val (.ref i), .val (.ref x), .val (.int (1 : Int32)), .val kv, .val (.long rm), .second, .val (.long tk), .second, .val (.ref r)] [(.ref i)]))
  refine OEnds.via (fun _ k_ => XS.lload X5.here hx rfl (hb hby d17_26) rfl k_) ?_
  show OEnds p e below s _ _ _ (T5.setTop (mkF m 28 #[.val (.ref i), .val (.ref x), .val (.int (1 : Int32)), .val kv, .val (.long rm), .second, .val (.long tk), .second, .val (.ref r)] [(.long tk), (.ref i)]))
  obtain ⟨T6, h6, X6, e6, W6, st6⟩ := putF X5 hx hZ hown (host := "") (Or.inl (hw _ (List.mem_of_getElem? (i := 114) rfl))) Via.refl e5 F_fencingToken_i E_i (Or.inr ⟨(hw _ (List.mem_of_getElem? (i := 115) rfl)), rfl, hnm⟩) (hw _ (List.mem_of_getElem? (i := 101) rfl)) (ty := .long) (by decide) rfl rfl (g := (mkF m 28 #[.val (.ref i), .val (.ref x), .val (.int (1 : Int32)), .val kv, .val (.long rm), .second, .val (.long tk), .second, .val (.ref r)] [(.long tk), (.ref i)])) rfl rfl (hb hby d17_28)
  have N6 := Fr.snoc X6 N5 ge_i
  replace Od := Od.wr W6 ge_i
  replace F_name_i := Fld.other W6 F_name_i (Or.inr (slot_ne (Or.inr (hw _ (List.mem_of_getElem? (i := 107) rfl))) (Or.inr (hw _ (List.mem_of_getElem? (i := 115) rfl))) (by decide) (t := (.object "java/lang/String")) (t' := .long) (by decide) (by decide)))
  replace F_held_i := Fld.other W6 F_held_i (Or.inr (slot_ne (Or.inr (hw _ (List.mem_of_getElem? (i := 109) rfl))) (Or.inr (hw _ (List.mem_of_getElem? (i := 115) rfl))) (by decide) (t := .boolean) (t' := .long) (by decide) (by decide)))
  replace F_holder_i := Fld.other W6 F_holder_i (Or.inr (slot_ne (Or.inr (hw _ (List.mem_of_getElem? (i := 111) rfl))) (Or.inr (hw _ (List.mem_of_getElem? (i := 115) rfl))) (by decide) (t := (.object "java/lang/String")) (t' := .long) (by decide) (by decide)))
  replace F_remainingLeaseMillis_i := Fld.other W6 F_remainingLeaseMillis_i (Or.inr (slot_ne (Or.inr (hw _ (List.mem_of_getElem? (i := 113) rfl))) (Or.inr (hw _ (List.mem_of_getElem? (i := 115) rfl))) (by decide) (t := .long) (t' := .long) (by decide) (by decide)))
  replace F_fencingToken_i := Fld.same W6 F_fencingToken_i
  replace F_readers_i := Fld.other W6 F_readers_i (Or.inr (slot_ne (Or.inr (hw _ (List.mem_of_getElem? (i := 203) rfl))) (Or.inr (hw _ (List.mem_of_getElem? (i := 115) rfl))) (by decide) (t := (.object "java/util/List")) (t' := .long) (by decide) (by decide)))
  replace E_i := Exa.wr W6 E_i
  replace Kp := Kp.wr W6 (Or.inl (by simp))
  replace F_sz := Fld.other W6 F_sz (Or.inl hir)
  replace E_r := Exa.wr W6 E_r
  refine OEnds.via (fun _ k_ => st6 _ k_) ?_
  show OEnds p e below s _ _ _ (T6.setTop (mkF m 31 #[.val (.ref i), .val (.ref x), .val (.int (1 : Int32)), .val kv, .val (.long rm), .second, .val (.long tk), .second, .val (.ref r)] []))
  refine OEnds.via (fun _ k_ => XS.aloadN X6.here hx rfl (hb hby d17_31) rfl rfl k_) ?_
  show OEnds p e below s _ _ _ (T6.setTop (mkF m 32 #[.val (.ref i), .val (.ref x), .val (.int (1 : Int32)), .val kv, .val (.long rm), .second, .val (.long tk), .second, .val (.ref r)] [(.ref i)]))
  refine OEnds.via (fun _ k_ => XS.aload X6.here hx rfl (hb hby d17_32) rfl rfl k_) ?_
  show OEnds p e below s _ _ _ (T6.setTop (mkF m 34 #[.val (.ref i), .val (.ref x), .val (.int (1 : Int32)), .val kv, .val (.long rm), .second, .val (.long tk), .second, .val (.ref r)] [(.ref r), (.ref i)]))
  obtain ⟨_, _, ⟨T7, L7, k7, n7⟩, -, X7, ⟨Lc7, hQ7, l7, y7, z7⟩, st7⟩ := Jvm.LawKit.callS X6 hx (y := (⟨"java/util/List", "copyOf", "(Ljava/util/Collection;)Ljava/util/List;"⟩ : MethodName)) hown (mvT hZ (hw _ (List.mem_of_getElem? (i := 116) rfl))) (mvT hZ (hw _ (List.mem_of_getElem? (i := 117) rfl))) (mvT hZ (hw _ (List.mem_of_getElem? (i := 118) rfl))) (mvT hZ (hw _ (List.mem_of_getElem? (i := 119) rfl))) (by decide) (backOf (W := 1) (rmCO_0 l Z a0 hw [] r el h6 n0 Od F_sz E_r S_el) hZ (hw _ (List.mem_of_getElem? (i := 119) rfl)) (hw _ (List.mem_of_getElem? (i := 118) rfl)) (by decide) (by decide)) (g := (mkF m 34 #[.val (.ref i), .val (.ref x), .val (.int (1 : Int32)), .val kv, .val (.long rm), .second, .val (.long tk), .second, .val (.ref r)] [(.ref r), (.ref i)])) rfl (by rw [hml]; rfl) (argsL := [(.ref r)]) (rest := [(.ref i)]) (lenOf pd_28Ljava2futil2fCollection3b29Ljava2futil2fList3b rfl) rfl (by show 2 * 0 + _ ≤ _; exact Nat.le_of_eq rfl) (hb hby d17_34) (fun _ _ => ⟨rfl, e6, Nat.le_of_ble_eq_true rfl, Nat.le_of_ble_eq_true rfl⟩)
  dsimp only [Pt.U, Pt.locs, Pt.cells, Pt.slots] at X7 l7 y7 z7 st7 hQ7
  subst l7 y7 z7
  obtain ⟨rfl, N7q, e7⟩ := hQ7
  have N7 := Fr.app N6 N7q
  refine OEnds.via (fun _ k_ => st7 _ k_) ?_
  show OEnds p e below s _ _ _ (T7.setTop (mkF m 37 #[.val (.ref i), .val (.ref x), .val (.int (1 : Int32)), .val kv, .val (.long rm), .second, .val (.long tk), .second, .val (.ref r)] [(.ref el), (.ref i)]))
  obtain ⟨T8, h8, X8, e8, W8, st8⟩ := putF X7 hx hZ hown (host := "") (Or.inl (hw _ (List.mem_of_getElem? (i := 202) rfl))) Via.refl e7 F_readers_i E_i (Or.inr ⟨(hw _ (List.mem_of_getElem? (i := 203) rfl)), rfl, hnm⟩) (hw _ (List.mem_of_getElem? (i := 101) rfl)) (ty := (.object "java/util/List")) (by decide) rfl rfl (g := (mkF m 37 #[.val (.ref i), .val (.ref x), .val (.int (1 : Int32)), .val kv, .val (.long rm), .second, .val (.long tk), .second, .val (.ref r)] [(.ref el), (.ref i)])) rfl rfl (hb hby d17_37)
  have N8 := Fr.snoc X8 N7 ge_i
  replace Od := Od.wr W8 ge_i
  replace F_name_i := Fld.other W8 F_name_i (Or.inr (slot_ne (Or.inr (hw _ (List.mem_of_getElem? (i := 107) rfl))) (Or.inr (hw _ (List.mem_of_getElem? (i := 203) rfl))) (by decide) (t := (.object "java/lang/String")) (t' := (.object "java/util/List")) (by decide) (by decide)))
  replace F_held_i := Fld.other W8 F_held_i (Or.inr (slot_ne (Or.inr (hw _ (List.mem_of_getElem? (i := 109) rfl))) (Or.inr (hw _ (List.mem_of_getElem? (i := 203) rfl))) (by decide) (t := .boolean) (t' := (.object "java/util/List")) (by decide) (by decide)))
  replace F_holder_i := Fld.other W8 F_holder_i (Or.inr (slot_ne (Or.inr (hw _ (List.mem_of_getElem? (i := 111) rfl))) (Or.inr (hw _ (List.mem_of_getElem? (i := 203) rfl))) (by decide) (t := (.object "java/lang/String")) (t' := (.object "java/util/List")) (by decide) (by decide)))
  replace F_remainingLeaseMillis_i := Fld.other W8 F_remainingLeaseMillis_i (Or.inr (slot_ne (Or.inr (hw _ (List.mem_of_getElem? (i := 113) rfl))) (Or.inr (hw _ (List.mem_of_getElem? (i := 203) rfl))) (by decide) (t := .long) (t' := (.object "java/util/List")) (by decide) (by decide)))
  replace F_fencingToken_i := Fld.other W8 F_fencingToken_i (Or.inr (slot_ne (Or.inr (hw _ (List.mem_of_getElem? (i := 115) rfl))) (Or.inr (hw _ (List.mem_of_getElem? (i := 203) rfl))) (by decide) (t := .long) (t' := (.object "java/util/List")) (by decide) (by decide)))
  replace F_readers_i := Fld.same W8 F_readers_i
  replace E_i := Exa.wr W8 E_i
  replace Kp := Kp.wr W8 (Or.inl (by simp))
  replace F_sz := Fld.other W8 F_sz (Or.inl hir)
  replace E_r := Exa.wr W8 E_r
  refine OEnds.via (fun _ k_ => st8 _ k_) ?_
  show OEnds p e below s _ _ _ (T8.setTop (mkF m 40 #[.val (.ref i), .val (.ref x), .val (.int (1 : Int32)), .val kv, .val (.long rm), .second, .val (.long tk), .second, .val (.ref r)] []))
  refine OEnds.retV X8 hx hlk Bd.returns (hb hby d17_40) ?_ (by decide) (by decide)
  rw [e8]
  exact ⟨rfl, N8, Kp, E_i, F_name_i, F_held_i, F_holder_i, F_remainingLeaseMillis_i, F_fencingToken_i, F_readers_i⟩
theorem d16_0 : decode prog_10_method_4_code 0 = .ok (.new 8, 3) := by decide +kernel
theorem d16_3 : decode prog_10_method_4_code 3 = .ok (.dup, 1) := by decide +kernel
theorem d16_4 : decode prog_10_method_4_code 4 = .ok (.aload_n 0, 1) := by decide +kernel
theorem d16_5 : decode prog_10_method_4_code 5 = .ok (.iconst 1, 1) := by decide +kernel
theorem d16_6 : decode prog_10_method_4_code 6 = .ok (.aload_n 1, 1) := by decide +kernel
theorem d16_7 : decode prog_10_method_4_code 7 = .ok (.lload_n 2, 1) := by decide +kernel
theorem d16_8 : decode prog_10_method_4_code 8 = .ok (.lload 4, 2) := by decide +kernel
theorem d16_10 : decode prog_10_method_4_code 10 = .ok (.aload 6, 2) := by decide +kernel
theorem d16_12 : decode prog_10_method_4_code 12 = .ok (.invokespecial 43, 3) := by decide +kernel
theorem d16_15 : decode prog_10_method_4_code 15 = .ok (.areturn, 1) := by decide +kernel
def Q_rmHd0 (Z : State) (x : Addr) (kv : Value) (rm : Int64) (tk : Int64) (r : Addr) (el : Addr) (h0 : Heap) (n0 : Nat) (v : Option Value) (h : Heap) (L : List Loc) : Prop := ∃ i, v = some (.ref i) ∧ Fr n0 L ∧ Keep h0 h [] ∧ n0 ≤ i ∧ h0.size ≤ i ∧ Exa Z h i "com/example/holdfast/holdfast/LockInfo" ∧ Fld Z h i "com/example/holdfast/holdfast/LockInfo" "name" "Ljava/lang/String;" (.ref x) ∧ Fld Z h i "com/example/holdfast/holdfast/LockInfo" "held" "Z" (.int (1 : Int32)) ∧ Fld Z h i "com/example/holdfast/holdfast/LockInfo" "holder" "Ljava/lang/String;" kv ∧ Fld Z h i "com/example/holdfast/holdfast/LockInfo" "remainingLeaseMillis" "J" (.long rm) ∧ Fld Z h i "com/example/holdfast/holdfast/LockInfo" "fencingToken" "J" (.long tk) ∧ Fld Z h i "com/example/holdfast/holdfast/LockInfo" "readers" "Ljava/util/List;" (.ref el)
theorem pd_28Ljava2flang2fString3bZLjava2flang2fString3bJJLjava2futil2fList3b29V : parseMethodDescriptor "(Ljava/lang/String;ZLjava/lang/String;JJLjava/util/List;)V" = some ⟨[(.object "java/lang/String"), .boolean, (.object "java/lang/String"), .long, .long, (.object "java/util/List")], none⟩ := by decide +kernel
set_option maxRecDepth 65536 in
set_option maxHeartbeats 40000000 in
theorem rmHd0 (l : Launch) (Z : State) (a0 : Array Value) (hw : ∀ d ∈ tables_1, d.before a0 Z = true) (ws : List Jvm.Cond) (x : Addr) (kv : Value) (rm : Int64) (tk : Int64) (r : Addr) (el : Addr) (h0 : Heap) (n0 : Nat) (O0 : Old Z n0 h0) (hkv : kv.isRef = true) (F_sz : Fld Z h0 r "java/util/ArrayList" "size" "I" (.int (0 : Int32))) (E_r : Exa Z h0 r "java/util/ArrayList") (S_el : Sta Z Z.heap "java/util/ImmutableCollections" "EMPTY_LIST" "Ljava/util/ImmutableCollections$ListN;" (.ref el)) :
    MetFree l (⟨"com/example/holdfast/holdfast/LockInfo", "held", "(Ljava/lang/String;Ljava/lang/String;JJLjava/util/List;)Lcom/example/holdfast/holdfast/LockInfo;"⟩ : MethodName) (head1 (Jvm.Cond.code (⟨"com/example/holdfast/holdfast/LockInfo", "held", "(Ljava/lang/String;Ljava/lang/String;JJLjava/util/List;)Lcom/example/holdfast/holdfast/LockInfo;"⟩ : MethodName) prog_10_method_4_code 7 (some (.object "com/example/holdfast/holdfast/LockInfo")) :: ws) ({ frames := 9, cells := 3, slots := 10, locals := 148 } : Room)) (fun ar' U => ar' = #[(.ref x), kv, (.long rm), (.long tk), (.ref r)] ∧ Z.Warmed39 U.vm ∧ U.heap = h0) (fun _ _ _ _ _ => True) (fun _ U o U' => ∃ v L, o = .returned v ∧ (Q_rmHd0 Z x kv rm tk r el h0 n0) v U'.heap L ∧ FrameEnd U o U' L ({ frames := 9, cells := 3, slots := 10, locals := 148 } : Room).cells ({ frames := 9, cells := 3, slots := 10, locals := 148 } : Room).slots) := by
  refine MetFree.of_bodySF (plainFor_of_name pn_com_example_holdfast_holdfast_LockInfo) hisR ?_
  intro p e s m args below meth c s₁ Bd hml0 hP hK
  obtain ⟨rfl, hZ, hh⟩ := hP
  have hx := Bd.exec
  have hby := Bd.bytes
  have hlk := BodyLoose.notSynchronized Bd
  have hml : c.maxLocals = 7 := hml0
  have hown : s.vm.findClass "com/example/holdfast/holdfast/LockInfo" = some m.cls := findClass_of_methodNamed Bd.named
  have hnm := (name_of_methodNamed Bd.named Bd.method).1
  have X0 : Stand p l e ({ frames := 9, cells := 3, slots := 10, locals := 148 } : Room) s m #[(.ref x), kv, (.long rm), (.long tk), (.ref r)] below meth c s₁ [] 0 0 := Stand.of_body Bd
  have e0 : s₁.heap = h0 := by rw [← hh, Bd.state]; rfl
  have N0 := Fr.nil n0
  have Z0 : n0 ≤ h0.size := O0.1 ▸ O0.2.1
  show OEnds p e below s ({ frames := 9, cells := 3, slots := 10, locals := 148 } : Room).cells ({ frames := 9, cells := 3, slots := 10, locals := 148 } : Room).slots (Q_rmHd0 Z x kv rm tk r el h0 n0) (s₁.setTop (entryFrame m #[(.ref x), kv, (.long rm), (.long tk), (.ref r)] 7))
  refine OEnds.via (fun _ k_ => castTop (show entryFrame m #[(.ref x), kv, (.long rm), (.long tk), (.ref r)] 7 = (mkF m 0 #[.val (.ref x), .val kv, .val (.long rm), .second, .val (.long tk), .second, .val (.ref r)] []) by rcases ref_cases hkv with rfl | ⟨_, rfl⟩ <;> rfl) k_) ?_
  have Od := O0
  have Kp := Keep.refl h0 []
  show OEnds p e below s _ _ _ (s₁.setTop (mkF m 0 #[.val (.ref x), .val kv, .val (.long rm), .second, .val (.long tk), .second, .val (.ref r)] []))
  obtain ⟨T1, h1, X1, e1, E1, A1, D1, -, st1⟩ := newO X0 hx hZ hown (hw _ (List.mem_of_getElem? (i := 100) rfl)) (hw _ (List.mem_of_getElem? (i := 101) rfl)) (hw _ (List.mem_of_getElem? (i := 98) rfl)) e0 (g := (mkF m 0 #[.val (.ref x), .val kv, .val (.long rm), .second, .val (.long tk), .second, .val (.ref r)] [])) rfl (hb hby d16_0) (by decide) (by decide)
  obtain ⟨b1, g1⟩ : ∃ z, z = h0.size := ⟨_, rfl⟩
  have ne_r_b1 : r ≠ b1 := Nat.ne_of_lt (Nat.lt_of_lt_of_le F_sz.lt (Nat.le_of_eq g1.symm))
  have ge_b1 : n0 ≤ b1 := Nat.le_trans (Od.1 ▸ Od.2.1) (Nat.le_of_eq g1.symm)
  have sz_b1 : h0.size ≤ b1 := Nat.le_trans Kp.1 (Nat.le_of_eq g1.symm)
  rw [← g1] at A1 D1 st1
  replace Od := Od.ext E1
  replace Kp := Kp.ext E1
  replace F_sz := Fld.ext E1 F_sz
  replace E_r := Exa.ext E1 E_r
  have E_b1 : Exa Z h1 b1 "com/example/holdfast/holdfast/LockInfo" := A1
  have F_name_b1 : Fld Z h1 b1 "com/example/holdfast/holdfast/LockInfo" "name" "Ljava/lang/String;" .null := D1 (Or.inr (hw _ (List.mem_of_getElem? (i := 107) rfl))) (ty := (.object "java/lang/String")) (by decide)
  have F_held_b1 : Fld Z h1 b1 "com/example/holdfast/holdfast/LockInfo" "held" "Z" (.int (0 : Int32)) := D1 (Or.inr (hw _ (List.mem_of_getElem? (i := 109) rfl))) (ty := .boolean) (by decide)
  have F_holder_b1 : Fld Z h1 b1 "com/example/holdfast/holdfast/LockInfo" "holder" "Ljava/lang/String;" .null := D1 (Or.inr (hw _ (List.mem_of_getElem? (i := 111) rfl))) (ty := (.object "java/lang/String")) (by decide)
  have F_remainingLeaseMillis_b1 : Fld Z h1 b1 "com/example/holdfast/holdfast/LockInfo" "remainingLeaseMillis" "J" (.long (0 : Int64)) := D1 (Or.inr (hw _ (List.mem_of_getElem? (i := 113) rfl))) (ty := .long) (by decide)
  have F_fencingToken_b1 : Fld Z h1 b1 "com/example/holdfast/holdfast/LockInfo" "fencingToken" "J" (.long (0 : Int64)) := D1 (Or.inr (hw _ (List.mem_of_getElem? (i := 115) rfl))) (ty := .long) (by decide)
  have F_readers_b1 : Fld Z h1 b1 "com/example/holdfast/holdfast/LockInfo" "readers" "Ljava/util/List;" .null := D1 (Or.inr (hw _ (List.mem_of_getElem? (i := 203) rfl))) (ty := (.object "java/util/List")) (by decide)
  refine OEnds.via (fun _ k_ => st1 _ k_) ?_
  show OEnds p e below s _ _ _ (T1.setTop (mkF m 3 #[.val (.ref x), .val kv, .val (.long rm), .second, .val (.long tk), .second, .val (.ref r)] [(.ref b1)]))
  refine OEnds.via (fun _ k_ => XS.dup X1.here hx rfl (hb hby d16_3) rfl rfl k_) ?_
  show OEnds p e below s _ _ _ (T1.setTop (mkF m 4 #[.val (.ref x), .val kv, .val (.long rm), .second, .val (.long tk), .second, .val (.ref r)] [(.ref b1), (.ref b1)]))
  refine OEnds.via (fun _ k_ => XS.aloadN X1.here hx rfl (hb hby d16_4) rfl rfl k_) ?_
  show OEnds p e below s _ _ _ (T1.setTop (mkF m 5 #[.val (.ref x), .val kv, .val (.long rm), .second, .val (.long tk), .second, .val (.ref r)] [(.ref x), (.ref b1), (.ref b1)]))
  refine OEnds.via (fun _ k_ => XS.iconst X1.here hx rfl (hb hby d16_5) k_) ?_
  show OEnds p e below s _ _ _ (T1.setTop (mkF m 6 #[.val (.ref x), .val kv, .val (.long rm), .second, .val (.long tk), .second, .val (.ref r)] [(.int (1 : Int32)), (.ref x), (.ref b1), (.ref b1)]))
  refine OEnds.via (fun _ k_ => XS.aloadN X1.here hx rfl (hb hby d16_6) rfl hkv k_) ?_
  show OEnds p e below s _ _ _ (T1.setTop (mkF m 7 #[.val (.ref x), .val kv, .val (.long rm), .second, .val (.long tk), .second, .val (.ref r)] [kv, (.int (1 : Int32)), (.ref x), (.ref b1), (.ref b1)]))
  refine OEnds.via (fun _ k_ => XS.lloadN X1.here hx rfl (hb hby d16_7) rfl k_) ?_
  show OEnds p e below s _ _ _ (T1.setTop (mkF m 8 #[.val (.ref x), .val kv, .val (.long rm), .second, .val (.long tk), .second, .val (.ref r)] [(.long rm), kv, (.int (1 : Int32)), (.ref x), (.ref b1), (.ref b1)]))
  refine OEnds.via (fun _ k_ => XS.lload X1.here hx rfl (hb hby d16_8) rfl k_) ?_
  show OEnds p e below s _ _ _ (T1.setTop (mkF m 10 #[.val (.ref x), .val kv, .val (.long rm), .second, .val (.long tk), .second, .val (.ref r)] [(.long tk), (.long rm), kv, (.int (1 : Int32)), (.ref x), (.ref b1), (.ref b1)]))
  refine OEnds.via (fun _ k_ => XS.aload X1.here hx rfl (hb hby d16_10) rfl rfl k_) ?_
  show OEnds p e below s _ _ _ (T1.setTop (mkF m 12 #[.val (.ref x), .val kv, .val (.long rm), .second, .val (.long tk), .second, .val (.ref r)] [(.ref r), (.long tk), (.long rm), kv, (.int (1 : Int32)), (.ref x), (.ref b1), (.ref b1)]))
  obtain ⟨_, _, ⟨T2, L2, k2, n2⟩, -, X2, ⟨Lc2, hQ2, l2, y2, z2⟩, st2⟩ := X1.specialBack hx (y := (⟨"com/example/holdfast/holdfast/LockInfo", "<init>", "(Ljava/lang/String;ZLjava/lang/String;JJLjava/util/List;)V"⟩ : MethodName)) rfl hown (mvT hZ (hw _ (List.mem_of_getElem? (i := 102) rfl))) (mvT hZ (hw _ (List.mem_of_getElem? (i := 103) rfl))) (mvT hZ (hw _ (List.mem_of_getElem? (i := 104) rfl))) (by decide) (backOf (W := 1) (rmLI0 l Z a0 hw [] b1 x kv rm tk r el h1 n0 Od F_name_b1 F_held_b1 F_holder_b1 F_remainingLeaseMillis_b1 F_fencingToken_b1 F_readers_b1 E_b1 ge_b1 hkv ne_r_b1 F_sz E_r S_el) hZ (hw _ (List.mem_of_getElem? (i := 104) rfl)) (hw _ (List.mem_of_getElem? (i := 98) rfl)) (by decide) (by decide)) (g := (mkF m 12 #[.val (.ref x), .val kv, .val (.long rm), .second, .val (.long tk), .second, .val (.ref r)] [(.ref r), (.long tk), (.long rm), kv, (.int (1 : Int32)), (.ref x), (.ref b1), (.ref b1)])) rfl (by rw [hml]; rfl) (Steps.refl _) (a := b1) (argsL := [(.ref x), (.int (1 : Int32)), kv, (.long rm), (.long tk), (.ref r)]) (rest := [(.ref b1)]) (lenOf pd_28Ljava2flang2fString3bZLjava2flang2fString3bJJLjava2futil2fList3b29V rfl) rfl (by show 2 * 0 + _ ≤ _; exact Nat.le_of_eq rfl) (hb hby d16_12) (fun _ _ => ⟨rfl, e1, Nat.le_of_ble_eq_true rfl, Nat.le_of_ble_eq_true rfl⟩)
  dsimp only [Pt.U, Pt.locs, Pt.cells, Pt.slots] at X2 l2 y2 z2 st2 hQ2
  subst l2 y2 z2
  obtain ⟨rfl, N2q, K2, -, G_name, G_held, G_holder, G_remainingLeaseMillis, G_fencingToken, G_readers⟩ := hQ2
  have N2 := Fr.app N0 N2q
  replace Od := Od.keep K2 (allS ge_b1 all0)
  replace Kp := Kp.trans K2 (allS (Or.inr sz_b1) all0)
  replace F_sz := F_sz.keep K2 (ninS ne_r_b1 nin0)
  replace E_r := E_r.keep K2
  replace E_b1 := E_b1.keep K2
  refine OEnds.via (fun _ k_ => st2.trans k_) ?_
  show OEnds p e below s _ _ _ (T2.setTop (mkF m 15 #[.val (.ref x), .val kv, .val (.long rm), .second, .val (.long tk), .second, .val (.ref r)] [(.ref b1)]))
  refine OEnds.retR X2 hx hlk Bd.returns rfl rfl (hb hby d16_15) ?_ (by decide) (by decide)
  exact ⟨_, rfl, N2, Kp, ge_b1, sz_b1, E_b1, G_name, G_held, G_holder, G_remainingLeaseMillis, G_fencingToken, G_readers⟩
def Q_rmLI1 (Z : State) (i : Addr) (x : Addr) (kv : Value) (rm : Int64) (tk : Int64) (r : Addr) (d : Addr) (kd : ClassId) (mr : Addr) (em : Addr) (y0 : Addr) (h0 : Heap) (n0 : Nat) (v : Option Value) (h : Heap) (L : List Loc) : Prop := ∃ q, v = none ∧ Fr n0 L ∧ Keep h0 h [i] ∧ Exa Z h i "com/example/holdfast/holdfast/LockInfo" ∧ Fld Z h i "com/example/holdfast/holdfast/LockInfo" "name" "Ljava/lang/String;" (.ref x) ∧ Fld Z h i "com/example/holdfast/holdfast/LockInfo" "held" "Z" (.int (1 : Int32)) ∧ Fld Z h i "com/example/holdfast/holdfast/LockInfo" "holder" "Ljava/lang/String;" kv ∧ Fld Z h i "com/example/holdfast/holdfast/LockInfo" "remainingLeaseMillis" "J" (.long rm) ∧ Fld Z h i "com/example/holdfast/holdfast/LockInfo" "fencingToken" "J" (.long tk) ∧ Fld Z h i "com/example/holdfast/holdfast/LockInfo" "readers" "Ljava/util/List;" (.ref q) ∧ n0 ≤ q ∧ h0.size ≤ q ∧ Exa Z h q "java/util/ImmutableCollections$List12" ∧ Fld Z h q "java/util/ImmutableCollections$List12" "e0" "Ljava/lang/Object;" (.ref y0) ∧ Fld Z h q "java/util/ImmutableCollections$List12" "e1" "Ljava/lang/Object;" (.ref em)
set_option maxRecDepth 65536 in
set_option maxHeartbeats 40000000 in
theorem rmLI1 (l : Launch) (Z : State) (a0 : Array Value) (hw : ∀ d ∈ tables_1, d.before a0 Z = true) (ws : List Jvm.Cond) (i : Addr) (x : Addr) (kv : Value) (rm : Int64) (tk : Int64) (r : Addr) (d : Addr) (kd : ClassId) (mr : Addr) (em : Addr) (y0 : Addr) (h0 : Heap) (n0 : Nat) (O0 : Old Z n0 h0) (F_name_i : Fld Z h0 i "com/example/holdfast/holdfast/LockInfo" "name" "Ljava/lang/String;" .null) (F_held_i : Fld Z h0 i "com/example/holdfast/holdfast/LockInfo" "held" "Z" (.int (0 : Int32))) (F_holder_i : Fld Z h0 i "com/example/holdfast/holdfast/LockInfo" "holder" "Ljava/lang/String;" .null) (F_remainingLeaseMillis_i : Fld Z h0 i "com/example/holdfast/holdfast/LockInfo" "remainingLeaseMillis" "J" (.long (0 : Int64))) (F_fencingToken_i : Fld Z h0 i "com/example/holdfast/holdfast/LockInfo" "fencingToken" "J" (.long (0 : Int64))) (F_readers_i : Fld Z h0 i "com/example/holdfast/holdfast/LockInfo" "readers" "Ljava/util/List;" .null) (E_i : Exa Z h0 i "com/example/holdfast/holdfast/LockInfo") (ge_i : n0 ≤ i) (hkv : kv.isRef = true) (hir : r ≠ i) (hio : i ≠ d) (F_ed : Fld Z h0 r "java/util/ArrayList" "elementData" "[Ljava/lang/Object;" (.ref d)) (F_sz : Fld Z h0 r "java/util/ArrayList" "size" "I" (.int (1 : Int32))) (E_r : Exa Z h0 r "java/util/ArrayList") (V_d : Arv Z h0 d kd (.object "java/lang/Object") (10 : Int32) [(.ref y0), .null, .null, .null, .null, .null, .null, .null, .null, .null] .null) (E_y0 : Exa Z h0 y0 "com/example/holdfast/holdfast/LockInfo$Reader") (M : Mir Z "[Ljava/lang/Object;" mr) (E_d : Exa Z h0 d "[Ljava/lang/Object;") (S_em : Sta Z Z.heap "java/util/ImmutableCollections" "EMPTY" "Ljava/lang/Object;" (.ref em)) :
    MetFree l (⟨"com/example/holdfast/holdfast/LockInfo", "<init>", "(Ljava/lang/String;ZLjava/lang/String;JJLjava/util/List;)V"⟩ : MethodName) (head1 (Jvm.Cond.code (⟨"com/example/holdfast/holdfast/LockInfo", "<init>", "(Ljava/lang/String;ZLjava/lang/String;JJLjava/util/List;)V"⟩ : MethodName) prog_10_method_1_code 9 none :: ws) ({ frames := 8, cells := 2, slots := 4, locals := 124 } : Room)) (fun ar' U => ar' = #[(.ref i), (.ref x), (.int (1 : Int32)), kv, (.long rm), (.long tk), (.ref r)] ∧ Z.Warmed39 U.vm ∧ U.heap = h0) (fun _ _ _ _ _ => True) (fun _ U o U' => ∃ v L, o = .returned v ∧ (Q_rmLI1 Z i x kv rm tk r d kd mr em y0 h0 n0) v U'.heap L ∧ FrameEnd U o U' L ({ frames := 8, cells := 2, slots := 4, locals := 124 } : Room).cells ({ frames := 8, cells := 2, slots := 4, locals := 124 } : Room).slots) := by
  refine MetFree.of_bodySF (plainFor_of_name pn_com_example_holdfast_holdfast_LockInfo) hisR ?_
  intro p e s m args below meth c s₁ Bd hml0 hP hK
  obtain ⟨rfl, hZ, hh⟩ := hP
  have hx := Bd.exec
  have hby := Bd.bytes
  have hlk := BodyLoose.notSynchronized Bd
  have hml : c.maxLocals = 9 := hml0
  have hown : s.vm.findClass "com/example/holdfast/holdfast/LockInfo" = some m.cls := findClass_of_methodNamed Bd.named
  have hnm := (name_of_methodNamed Bd.named Bd.method).1
  have X0 : Stand p l e ({ frames := 8, cells := 2, slots := 4, locals := 124 } : Room) s m #[(.ref i), (.ref x), (.int (1 : Int32)), kv, (.long rm), (.long tk), (.ref r)] below meth c s₁ [] 0 0 := Stand.of_body Bd
  have e0 : s₁.heap = h0 := by rw [← hh, Bd.state]; rfl
  have N0 := Fr.nil n0
  have Z0 : n0 ≤ h0.size := O0.1 ▸ O0.2.1
  show OEnds p e below s ({ frames := 8, cells := 2, slots := 4, locals := 124 } : Room).cells ({ frames := 8, cells := 2, slots := 4, locals := 124 } : Room).slots (Q_rmLI1 Z i x kv rm tk r d kd mr em y0 h0 n0) (s₁.setTop (entryFrame m #[(.ref i), (.ref x), (.int (1 : Int32)), kv, (.long rm), (.long tk), (.ref r)] 9))
  refine OEnds.via (fun _ k_ => castTop (show entryFrame m #[(.ref i), (.ref x), (.int (1 : Int32)), kv, (.long rm), (.long tk), (.ref r)] 9 = (mkF m 0 #[.val (.ref i), .val (.ref x), .val (.int (1 : Int32)), .val kv, .val (.long rm), .second, .val (.long tk), .second, .val (.ref r)] []) by rcases ref_cases hkv with rfl | ⟨_, rfl⟩ <;> rfl) k_) ?_
  have Od := O0
  have Kp := Keep.refl h0 [i]
  show OEnds p e below s _ _ _ (s₁.setTop (mkF m 0 #[.val (.ref i), .val (.ref x), .val (.int (1 : Int32)), .val kv, .val (.long rm), .second, .val (.long tk), .second, .val (.ref r)] []))
  refine OEnds.via (fun _ k_ => XS.aloadN X0.here hx rfl (hb hby d17_0) rfl rfl k_) ?_
  show OEnds p e below s _ _ _ (s₁.setTop (mkF m 1 #[.val (.ref i), .val (.ref x), .val (.int (1 : Int32)), .val kv, .val (.long rm), .second, .val (.long tk), .second, .val (.ref r)] [(.ref i)]))
  obtain ⟨T1, X1, e1, st1⟩ := initO X0 hx hZ hown (hw _ (List.mem_of_getElem? (i := 105) rfl)) (hw _ (List.mem_of_getElem? (i := 12) rfl)) (hw _ (List.mem_of_getElem? (i := 13) rfl)) e0 (g := (mkF m 1 #[.val (.ref i), .val (.ref x), .val (.int (1 : Int32)), .val kv, .val (.long rm), .second, .val (.long tk), .second, .val (.ref r)] [(.ref i)])) rfl (by rw [hml]; rfl) rfl (hb hby d17_1) (by decide) (W := 0) (by show 2 * 0 + _ ≤ _; exact Nat.le_of_eq rfl) (by decide)
  refine OEnds.via (fun _ k_ => st1 _ k_) ?_
  show OEnds p e below s _ _ _ (T1.setTop (mkF m 4 #[.val (.ref i), .val (.ref x), .val (.int (1 : Int32)), .val kv, .val (.long rm), .second, .val (.long tk), .second, .val (.ref r)] []))
  refine OEnds.via (fun _ k_ => XS.aloadN X1.here hx rfl (hb hby d17_4) rfl rfl k_) ?_
  show OEnds p e below s _ _ _ (T1.setTop (mkF m 5 #[.val (.ref i), .val (.ref x), .val (.int (1 : Int32)), .val kv, .val (.long rm), .second, .val (.long tk), .second, .val (.ref r)] [(.ref i)]))
  refine OEnds.via (fun _ k_ => XS.aloadN X1.here hx rfl (hb hby d17_5) rfl rfl k_) ?_
  show OEnds p e below s _ _ _ (T1.setTop (mkF m 6 #[.val (.ref i), .val (.ref x), .val (.int (1 : Int32)), .val kv, .val (.long rm), .second, .val (.long tk), .second, .val (.ref r)] [(.ref x), (.ref i)]))
  obtain ⟨T2, h2, X2, e2, W2, st2⟩ := putF X1 hx hZ hown (host := "") (Or.inl (hw _ (List.mem_of_getElem? (i := 106) rfl))) Via.refl e1 F_name_i E_i (Or.inr ⟨(hw _ (List.mem_of_getElem? (i := 107) rfl)), rfl, hnm⟩) (hw _ (List.mem_of_getElem? (i := 101) rfl)) (ty := (.object "java/lang/String")) (by decide) rfl rfl (g := (mkF m 6 #[.val (.ref i), .val (.ref x), .val (.int (1 : Int32)), .val kv, .val (.long rm), .second, .val (.long tk), .second, .val (.ref r)] [(.ref x), (.ref i)])) rfl rfl (hb hby d17_6)
  have N2 := Fr.snoc X2 N0 ge_i
  replace Od := Od.wr W2 ge_i
  replace F_name_i := Fld.same W2 F_name_i
  replace F_held_i := Fld.other W2 F_held_i (Or.inr (slot_ne (Or.inr (hw _ (List.mem_of_getElem? (i := 109) rfl))) (Or.inr (hw _ (List.mem_of_getElem? (i := 107) rfl))) (by decide) (t := .boolean) (t' := (.object "java/lang/String")) (by decide) (by decide)))
  replace F_holder_i := Fld.other W2 F_holder_i (Or.inr (slot_ne (Or.inr (hw _ (List.mem_of_getElem? (i := 111) rfl))) (Or.inr (hw _ (List.mem_of_getElem? (i := 107) rfl))) (by decide) (t := (.object "java/lang/String")) (t' := (.object "java/lang/String")) (by decide) (by decide)))
  replace F_remainingLeaseMillis_i := Fld.other W2 F_remainingLeaseMillis_i (Or.inr (slot_ne (Or.inr (hw _ (List.mem_of_getElem? (i := 113) rfl))) (Or.inr (hw _ (List.mem_of_getElem? (i := 107) rfl))) (by decide) (t := .long) (t' := (.object "java/lang/String")) (by decide) (by decide)))
  replace F_fencingToken_i := Fld.other W2 F_fencingToken_i (Or.inr (slot_ne (Or.inr (hw _ (List.mem_of_getElem? (i := 115) rfl))) (Or.inr (hw _ (List.mem_of_getElem? (i := 107) rfl))) (by decide) (t := .long) (t' := (.object "java/lang/String")) (by decide) (by decide)))
  replace F_readers_i := Fld.other W2 F_readers_i (Or.inr (slot_ne (Or.inr (hw _ (List.mem_of_getElem? (i := 203) rfl))) (Or.inr (hw _ (List.mem_of_getElem? (i := 107) rfl))) (by decide) (t := (.object "java/util/List")) (t' := (.object "java/lang/String")) (by decide) (by decide)))
  replace E_i := Exa.wr W2 E_i
  replace Kp := Kp.wr W2 (Or.inl (by simp))
  replace F_sz := Fld.other W2 F_sz (Or.inl hir)
  replace E_r := Exa.wr W2 E_r
  replace F_ed := Fld.other W2 F_ed (Or.inl hir)
  replace V_d := V_d.other W2 (Ne.symm hio)
  replace E_d := Exa.wr W2 E_d
  replace E_y0 := Exa.wr W2 E_y0
  refine OEnds.via (fun _ k_ => st2 _ k_) ?_
  show OEnds p e below s _ _ _ (T2.setTop (mkF m 9 #[.val (.ref i), .val (.ref x), .val (.int (1 : Int32)), .val kv, .val (.long rm), .second, .val (.long tk), .second, .val (.ref r)] []))
  refine OEnds.via (fun _ k_ => XS.aloadN X2.here hx rfl (hb hby d17_9) rfl rfl k_) ?_
  show OEnds p e below s _ _ _ (T2.setTop (mkF m 10 #[.val (.ref i), .val (.ref x), .val (.int (1 : Int32)), .val kv, .val (.long rm), .second, .val (.long tk), .second, .val (.ref r)] [(.ref i)]))
  refine OEnds.via (fun _ k_ => XS.iloadN X2.here hx rfl (hb hby d17_10) rfl k_) ?_
  show OEnds p e below s _ _ _ (T2.setTop (mkF m 11 #[.val (.ref i), .val (.ref x), .val (.int (1 : Int32)), .val kv, .val (.long rm), .second, .val (.long tk), .second, .val (.ref r)] [(.int (1 : Int32)), (.ref i)]))
  obtain ⟨T3, h3, X3, e3, W3, st3⟩ := putFN X2 hx hZ hown (hw _ (List.mem_of_getElem? (i := 108) rfl)) Via.refl e2 F_held_i E_i (Or.inr ⟨(hw _ (List.mem_of_getElem? (i := 109) rfl)), rfl, hnm⟩) (hw _ (List.mem_of_getElem? (i := 101) rfl)) (ty := .boolean) (v' := (.int (1 : Int32))) (by decide) rfl rfl (g := (mkF m 11 #[.val (.ref i), .val (.ref x), .val (.int (1 : Int32)), .val kv, .val (.long rm), .second, .val (.long tk), .second, .val (.ref r)] [(.int (1 : Int32)), (.ref i)])) rfl rfl (hb hby d17_11)
  have N3 := Fr.snoc X3 N2 ge_i
  replace Od := Od.wr W3 ge_i
  replace F_name_i := Fld.other W3 F_name_i (Or.inr (slot_ne (Or.inr (hw _ (List.mem_of_getElem? (i := 107) rfl))) (Or.inr (hw _ (List.mem_of_getElem? (i := 109) rfl))) (by decide) (t := (.object "java/lang/String")) (t' := .boolean) (by decide) (by decide)))
  replace F_held_i := Fld.same W3 F_held_i
  replace F_holder_i := Fld.other W3 F_holder_i (Or.inr (slot_ne (Or.inr (hw _ (List.mem_of_getElem? (i := 111) rfl))) (Or.inr (hw _ (List.mem_of_getElem? (i := 109) rfl))) (by decide) (t := (.object "java/lang/String")) (t' := .boolean) (by decide) (by decide)))
  replace F_remainingLeaseMillis_i := Fld.other W3 F_remainingLeaseMillis_i (Or.inr (slot_ne (Or.inr (hw _ (List.mem_of_getElem? (i := 113) rfl))) (Or.inr (hw _ (List.mem_of_getElem? (i := 109) rfl))) (by decide) (t := .long) (t' := .boolean) (by decide) (by decide)))
  replace F_fencingToken_i := Fld.other W3 F_fencingToken_i (Or.inr (slot_ne (Or.inr (hw _ (List.mem_of_getElem? (i := 115) rfl))) (Or.inr (hw _ (List.mem_of_getElem? (i := 109) rfl))) (by decide) (t := .long) (t' := .boolean) (by decide) (by decide)))
  replace F_readers_i := Fld.other W3 F_readers_i (Or.inr (slot_ne (Or.inr (hw _ (List.mem_of_getElem? (i := 203) rfl))) (Or.inr (hw _ (List.mem_of_getElem? (i := 109) rfl))) (by decide) (t := (.object "java/util/List")) (t' := .boolean) (by decide) (by decide)))
  replace E_i := Exa.wr W3 E_i
  replace Kp := Kp.wr W3 (Or.inl (by simp))
  replace F_sz := Fld.other W3 F_sz (Or.inl hir)
  replace E_r := Exa.wr W3 E_r
  replace F_ed := Fld.other W3 F_ed (Or.inl hir)
  replace V_d := V_d.other W3 (Ne.symm hio)
  replace E_d := Exa.wr W3 E_d
  replace E_y0 := Exa.wr W3 E_y0
  refine OEnds.via (fun _ k_ => st3 _ k_) ?_
  show OEnds p e below s _ _ _ (T3.setTop (mkF m 14 #[.val (.ref i), .val (.ref x), .val (.int (1 : Int32)), .val kv, .val (.long rm), .second, .val (.long tk), .second, .val (.ref r)] []))
  refine OEnds.via (fun _ k_ => XS.aloadN X3.here hx rfl (hb hby d17_14) rfl rfl k_) ?_
  show OEnds p e below s _ _ _ (T3.setTop (mkF m 15 #[.val (.ref i), .val (.ref x), .val (.int (1 : Int32)), .val kv, .val (.long rm), .second, .val (.long tk), .second, .val (.ref r)] [(.ref i)]))
  refine OEnds.via (fun _ k_ => XS.aloadN X3.here hx rfl (hb hby d17_15) rfl hkv k_) ?_
  show OEnds p e below s _ _ _ (T3.setTop (mkF m 16 #[.val (.ref i), .val (.ref x), .val (.int (1 : Int32)), .val kv, .val (.long rm), .second, .val (.long tk), .second, .val (.ref r)] [kv, (.ref i)]))
  obtain ⟨T4, h4, X4, e4, W4, st4⟩ := putF X3 hx hZ hown (host := "") (Or.inl (hw _ (List.mem_of_getElem? (i := 110) rfl))) Via.refl e3 F_holder_i E_i (Or.inr ⟨(hw _ (List.mem_of_getElem? (i := 111) rfl)), rfl, hnm⟩) (hw _ (List.mem_of_getElem? (i := 101) rfl)) (ty := (.object "java/lang/String")) (by decide) (own_narrow hkv) (own_fits hkv) (g := (mkF m 16 #[.val (.ref i), .val (.ref x), .val (.int (1 : Int32)), .val kv, .val (.long rm), .second, .val (.long tk), .second, .val (.ref r)] [kv, (.ref i)])) rfl rfl (hb hby d17_16)
  have N4 := Fr.snoc X4 N3 ge_i
  replace Od := Od.wr W4 ge_i
  replace F_name_i := Fld.other W4 F_name_i (Or.inr (slot_ne (Or.inr (hw _ (List.mem_of_getElem? (i := 107) rfl))) (Or.inr (hw _ (List.mem_of_getElem? (i := 111) rfl))) (by decide) (t := (.object "java/lang/String")) (t' := (.object "java/lang/String")) (by decide) (by decide)))
  replace F_held_i := Fld.other W4 F_held_i (Or.inr (slot_ne (Or.inr (hw _ (List.mem_of_getElem? (i := 109) rfl))) (Or.inr (hw _ (List.mem_of_getElem? (i := 111) rfl))) (by decide) (t := .boolean) (t' := (.object "java/lang/String")) (by decide) (by decide)))
  replace F_holder_i := Fld.same W4 F_holder_i
  replace F_remainingLeaseMillis_i := Fld.other W4 F_remainingLeaseMillis_i (Or.inr (slot_ne (Or.inr (hw _ (List.mem_of_getElem? (i := 113) rfl))) (Or.inr (hw _ (List.mem_of_getElem? (i := 111) rfl))) (by decide) (t := .long) (t' := (.object "java/lang/String")) (by decide) (by decide)))
  replace F_fencingToken_i := Fld.other W4 F_fencingToken_i (Or.inr (slot_ne (Or.inr (hw _ (List.mem_of_getElem? (i := 115) rfl))) (Or.inr (hw _ (List.mem_of_getElem? (i := 111) rfl))) (by decide) (t := .long) (t' := (.object "java/lang/String")) (by decide) (by decide)))
  replace F_readers_i := Fld.other W4 F_readers_i (Or.inr (slot_ne (Or.inr (hw _ (List.mem_of_getElem? (i := 203) rfl))) (Or.inr (hw _ (List.mem_of_getElem? (i := 111) rfl))) (by decide) (t := (.object "java/util/List")) (t' := (.object "java/lang/String")) (by decide) (by decide)))
  replace E_i := Exa.wr W4 E_i
  replace Kp := Kp.wr W4 (Or.inl (by simp))
  replace F_sz := Fld.other W4 F_sz (Or.inl hir)
  replace E_r := Exa.wr W4 E_r
  replace F_ed := Fld.other W4 F_ed (Or.inl hir)
  replace V_d := V_d.other W4 (Ne.symm hio)
  replace E_d := Exa.wr W4 E_d
  replace E_y0 := Exa.wr W4 E_y0
  refine OEnds.via (fun _ k_ => st4 _ k_) ?_
  show OEnds p e below s _ _ _ (T4.setTop (mkF m 19 #[.val (.ref i), .val (.ref x), .val (.int (1 : Int32)), .val kv, .val (.long rm), .second, .val (.long tk), .second, .val (.ref r)] []))
  refine OEnds.via (fun _ k_ => XS.aloadN X4.here hx rfl (hb hby d17_19) rfl rfl k_) ?_
  show OEnds p e below s _ _ _ (T4.setTop (mkF m 20 #[.val (.ref i), .val (.ref x), .val (.int (1 : Int32)), .val kv, .val (.long rm), .second, .val (.long tk), .second, .val (.ref r)] [(.ref i)]))
  refine OEnds.via (fun _ k_ => XS.lload X4.here hx rfl (hb hby d17_20) rfl k_) ?_
  show OEnds p e below s _ _ _ (T4.setTop (mkF m 22 #[.val (.ref i), .val (.ref x), .val (.int (1 : Int32)), .val kv, .val (.long rm), .second, .val (.long tk), .second, .val (.ref r)] [(.long rm), (.ref i)]))
  obtain ⟨T5, h5, X5, e5, W5, st5⟩ := putF X4 hx hZ hown (host := "") (Or.inl (hw _ (List.mem_of_getElem? (i := 112) rfl))) Via.refl e4 F_remainingLeaseMillis_i E_i (Or.inr ⟨(hw _ (List.mem_of_getElem? (i := 113) rfl)), rfl, hnm⟩) (hw _ (List.mem_of_getElem? (i := 101) rfl)) (ty := .long) (by decide) rfl rfl (g := (mkF m 22 #[.val (.ref i), .val (.ref x), .val (.int (1 : Int32)), .val kv, .val (.long rm), .second, .val (.long tk), .second, .val (.ref r)] [(.long rm), (.ref i)])) rfl rfl (hb hby d17_22)
  have N5 := Fr.snoc X5 N4 ge_i
  replace Od := Od.wr W5 ge_i
  replace F_name_i := Fld.other W5 F_name_i (Or.inr (slot_ne (Or.inr (hw _ (List.mem_of_getElem? (i := 107) rfl))) (Or.inr (hw _ (List.mem_of_getElem? (i := 113) rfl))) (by decide) (t := (.object "java/lang/String")) (t' := .long) (by decide) (by decide)))
  replace F_held_i := Fld.other W5 F_held_i (Or.inr (slot_ne (Or.inr (hw _ (List.mem_of_getElem? (i := 109) rfl))) (Or.inr (hw _ (List.mem_of_getElem? (i := 113) rfl))) (by decide) (t := .boolean) (t' := .long) (by decide) (by decide)))
  replace F_holder_i := Fld.other W5 F_holder_i (Or.inr (slot_ne (Or.inr (hw _ (List.mem_of_getElem? (i := 111) rfl))) (Or.inr (hw _ (List.mem_of_getElem? (i := 113) rfl))) (by decide) (t := (.object "java/lang/String")) (t' := .long) (by decide) (by decide)))
  replace F_remainingLeaseMillis_i := Fld.same W5 F_remainingLeaseMillis_i
  replace F_fencingToken_i := Fld.other W5 F_fencingToken_i (Or.inr (slot_ne (Or.inr (hw _ (List.mem_of_getElem? (i := 115) rfl))) (Or.inr (hw _ (List.mem_of_getElem? (i := 113) rfl))) (by decide) (t := .long) (t' := .long) (by decide) (by decide)))
  replace F_readers_i := Fld.other W5 F_readers_i (Or.inr (slot_ne (Or.inr (hw _ (List.mem_of_getElem? (i := 203) rfl))) (Or.inr (hw _ (List.mem_of_getElem? (i := 113) rfl))) (by decide) (t := (.object "java/util/List")) (t' := .long) (by decide) (by decide)))
  replace E_i := Exa.wr W5 E_i
  replace Kp := Kp.wr W5 (Or.inl (by simp))
  replace F_sz := Fld.other W5 F_sz (Or.inl hir)
  replace E_r := Exa.wr W5 E_r
  replace F_ed := Fld.other W5 F_ed (Or.inl hir)
  replace V_d := V_d.other W5 (Ne.symm hio)
  replace E_d := Exa.wr W5 E_d
  replace E_y0 := Exa.wr W5 E_y0
  refine OEnds.via (fun _ k_ => st5 _ k_) ?_
  show OEnds p e below s _ _ _ (T5.setTop (mkF m 25 #[.val (.ref i), .val (.ref x), .val (.int (1 : Int32)), .val kv, .val (.long rm), .second, .val (.long tk), .second, .val (.ref r)] []))
  refine OEnds.via (fun _ k_ => XS.aloadN X5.here hx rfl (hb hby d17_25) rfl rfl k_) ?_
  show OEnds p e below s _ _ _ (T5.setTop (mkF m 26 #[.val (.ref i), .val (.ref x), .val (.int (1 : Int32)), .val kv, .val (.long rm), .second, .val (.long tk), .second, .val (.ref r)] [(.ref i)]))
  refine OEnds.via (fun _ k_ => XS.lload X5.here hx rfl (hb hby d17_26) rfl k_) ?_
  show OEnds p e below s _ _ _ (T5.setTop (mkF m 28 #[.val (.ref i), .val (.ref x), .val (.int (1 : Int32)), .val kv, .val (.long rm), .second, .val (.long tk), .second, .val (.ref r)] [(.long tk), (.ref i)]))
  obtain ⟨T6, h6, X6, e6, W6, st6⟩ := putF X5 hx hZ hown (host := "") (Or.inl (hw _ (List.mem_of_getElem? (i := 114) rfl))) Via.refl e5 F_fencingToken_i E_i (Or.inr ⟨(hw _ (List.mem_of_getElem? (i := 115) rfl)), rfl, hnm⟩) (hw _ (List.mem_of_getElem? (i := 101) rfl)) (ty := .long) (by decide) rfl rfl (g := (mkF m 28 #[.val (.ref i), .val (.ref x), .val (.int (1 : Int32)), .val kv, .val (.long rm), .second, .val (.long tk), .second, .val (.ref r)] [(.long tk), (.ref i)])) rfl rfl (hb hby d17_28)
  have N6 := Fr.snoc X6 N5 ge_i
  replace Od := Od.wr W6 ge_i
  replace F_name_i := Fld.other W6 F_name_i (Or.inr (slot_ne (Or.inr (hw _ (List.mem_of_getElem? (i := 107) rfl))) (Or.inr (hw _ (List.mem_of_getElem? (i := 115) rfl))) (by decide) (t := (.object "java/lang/String")) (t' := .long) (by decide) (by decide)))
  replace F_held_i := Fld.other W6 F_held_i (Or.inr (slot_ne (Or.inr (hw _ (List.mem_of_getElem? (i := 109) rfl))) (Or.inr (hw _ (List.mem_of_getElem? (i := 115) rfl))) (by decide) (t := .boolean) (t' := .long) (by decide) (by decide)))
  replace F_holder_i := Fld.other W6 F_holder_i (Or.inr (slot_ne (Or.inr (hw _ (List.mem_of_getElem? (i := 111) rfl))) (Or.inr (hw _ (List.mem_of_getElem? (i := 115) rfl))) (by decide) (t := (.object "java/lang/String")) (t' := .long) (by decide) (by decide)))
  replace F_remainingLeaseMillis_i := Fld.other W6 F_remainingLeaseMillis_i (Or.inr (slot_ne (Or.inr (hw _ (List.mem_of_getElem? (i := 113) rfl))) (Or.inr (hw _ (List.mem_of_getElem? (i := 115) rfl))) (by decide) (t := .long) (t' := .long) (by decide) (by decide)))
  replace F_fencingToken_i := Fld.same W6 F_fencingToken_i
  replace F_readers_i := Fld.other W6 F_readers_i (Or.inr (slot_ne (Or.inr (hw _ (List.mem_of_getElem? (i := 203) rfl))) (Or.inr (hw _ (List.mem_of_getElem? (i := 115) rfl))) (by decide) (t := (.object "java/util/List")) (t' := .long) (by decide) (by decide)))
  replace E_i := Exa.wr W6 E_i
  replace Kp := Kp.wr W6 (Or.inl (by simp))
  replace F_sz := Fld.other W6 F_sz (Or.inl hir)
  replace E_r := Exa.wr W6 E_r
  replace F_ed := Fld.other W6 F_ed (Or.inl hir)
  replace V_d := V_d.other W6 (Ne.symm hio)
  replace E_d := Exa.wr W6 E_d
  replace E_y0 := Exa.wr W6 E_y0
  refine OEnds.via (fun _ k_ => st6 _ k_) ?_
  show OEnds p e below s _ _ _ (T6.setTop (mkF m 31 #[.val (.ref i), .val (.ref x), .val (.int (1 : Int32)), .val kv, .val (.long rm), .second, .val (.long tk), .second, .val (.ref r)] []))
  refine OEnds.via (fun _ k_ => XS.aloadN X6.here hx rfl (hb hby d17_31) rfl rfl k_) ?_
  show OEnds p e below s _ _ _ (T6.setTop (mkF m 32 #[.val (.ref i), .val (.ref x), .val (.int (1 : Int32)), .val kv, .val (.long rm), .second, .val (.long tk), .second, .val (.ref r)] [(.ref i)]))
  refine OEnds.via (fun _ k_ => XS.aload X6.here hx rfl (hb hby d17_32) rfl rfl k_) ?_
  show OEnds p e below s _ _ _ (T6.setTop (mkF m 34 #[.val (.ref i), .val (.ref x), .val (.int (1 : Int32)), .val kv, .val (.long rm), .second, .val (.long tk), .second, .val (.ref r)] [(.ref r), (.ref i)]))
  obtain ⟨_, _, ⟨T7, L7, k7, n7⟩, -, X7, ⟨Lc7, hQ7, l7, y7, z7⟩, st7⟩ := Jvm.LawKit.callS X6 hx (y := (⟨"java/util/List", "copyOf", "(Ljava/util/Collection;)Ljava/util/List;"⟩ : MethodName)) hown (mvT hZ (hw _ (List.mem_of_getElem? (i := 116) rfl))) (mvT hZ (hw _ (List.mem_of_getElem? (i := 117) rfl))) (mvT hZ (hw _ (List.mem_of_getElem? (i := 118) rfl))) (mvT hZ (hw _ (List.mem_of_getElem? (i := 119) rfl))) (by decide) (backOf (W := 1) (rmCO_1 l Z a0 hw [] r d kd mr em y0 h6 n0 Od F_ed F_sz E_r V_d E_y0 M E_d S_em) hZ (hw _ (List.mem_of_getElem? (i := 119) rfl)) (hw _ (List.mem_of_getElem? (i := 118) rfl)) (by decide) (by decide)) (g := (mkF m 34 #[.val (.ref i), .val (.ref x), .val (.int (1 : Int32)), .val kv, .val (.long rm), .second, .val (.long tk), .second, .val (.ref r)] [(.ref r), (.ref i)])) rfl (by rw [hml]; rfl) (argsL := [(.ref r)]) (rest := [(.ref i)]) (lenOf pd_28Ljava2futil2fCollection3b29Ljava2futil2fList3b rfl) rfl (by show 2 * 0 + _ ≤ _; exact Nat.le_of_eq rfl) (hb hby d17_34) (fun _ _ => ⟨rfl, e6, Nat.le_of_ble_eq_true rfl, Nat.le_of_ble_eq_true rfl⟩)
  dsimp only [Pt.U, Pt.locs, Pt.cells, Pt.slots] at X7 l7 y7 z7 st7 hQ7
  subst l7 y7 z7
  obtain ⟨q, rfl, N7q, K7, ge_q, sz7, E_q, G_e0, G_e1⟩ := hQ7
  have ne_i_q : i ≠ q := Nat.ne_of_lt (Nat.lt_of_lt_of_le F_name_i.lt sz7)
  have ne_r_q : r ≠ q := Nat.ne_of_lt (Nat.lt_of_lt_of_le F_sz.lt sz7)
  have ne_d_q : d ≠ q := Nat.ne_of_lt (Nat.lt_of_lt_of_le V_d.lt sz7)
  have ne_y0_q : y0 ≠ q := Nat.ne_of_lt (Nat.lt_of_lt_of_le E_y0.lt sz7)
  have N7 := Fr.app N6 N7q
  have sz_q : h0.size ≤ q := Nat.le_trans Kp.1 sz7
  replace Od := Od.keep K7 all0
  replace F_name_i := F_name_i.keep K7 nin0
  replace F_held_i := F_held_i.keep K7 nin0
  replace F_holder_i := F_holder_i.keep K7 nin0
  replace F_remainingLeaseMillis_i := F_remainingLeaseMillis_i.keep K7 nin0
  replace F_fencingToken_i := F_fencingToken_i.keep K7 nin0
  replace F_readers_i := F_readers_i.keep K7 nin0
  replace E_i := E_i.keep K7
  replace Kp := Kp.trans K7 all0
  replace F_sz := F_sz.keep K7 nin0
  replace E_r := E_r.keep K7
  replace F_ed := F_ed.keep K7 nin0
  replace V_d := V_d.keep K7 nin0
  replace E_d := E_d.keep K7
  replace E_y0 := E_y0.keep K7
  refine OEnds.via (fun _ k_ => st7 _ k_) ?_
  show OEnds p e below s _ _ _ (T7.setTop (mkF m 37 #[.val (.ref i), .val (.ref x), .val (.int (1 : Int32)), .val kv, .val (.long rm), .second, .val (.long tk), .second, .val (.ref r)] [(.ref q), (.ref i)]))
  obtain ⟨T8, h8, X8, e8, W8, st8⟩ := putF X7 hx hZ hown (host := "") (Or.inl (hw _ (List.mem_of_getElem? (i := 202) rfl))) Via.refl rfl F_readers_i E_i (Or.inr ⟨(hw _ (List.mem_of_getElem? (i := 203) rfl)), rfl, hnm⟩) (hw _ (List.mem_of_getElem? (i := 101) rfl)) (ty := (.object "java/util/List")) (by decide) rfl rfl (g := (mkF m 37 #[.val (.ref i), .val (.ref x), .val (.int (1 : Int32)), .val kv, .val (.long rm), .second, .val (.long tk), .second, .val (.ref r)] [(.ref q), (.ref i)])) rfl rfl (hb hby d17_37)
  have N8 := Fr.snoc X8 N7 ge_i
  replace Od := Od.wr W8 ge_i
  replace F_name_i := Fld.other W8 F_name_i (Or.inr (slot_ne (Or.inr (hw _ (List.mem_of_getElem? (i := 107) rfl))) (Or.inr (hw _ (List.mem_of_getElem? (i := 203) rfl))) (by decide) (t := (.object "java/lang/String")) (t' := (.object "java/util/List")) (by decide) (by decide)))
  replace F_held_i := Fld.other W8 F_held_i (Or.inr (slot_ne (Or.inr (hw _ (List.mem_of_getElem? (i := 109) rfl))) (Or.inr (hw _ (List.mem_of_getElem? (i := 203) rfl))) (by decide) (t := .boolean) (t' := (.object "java/util/List")) (by decide) (by decide)))
  replace F_holder_i := Fld.other W8 F_holder_i (Or.inr (slot_ne (Or.inr (hw _ (List.mem_of_getElem? (i := 111) rfl))) (Or.inr (hw _ (List.mem_of_getElem? (i := 203) rfl))) (by decide) (t := (.object "java/lang/String")) (t' := (.object "java/util/List")) (by decide) (by decide)))
  replace F_remainingLeaseMillis_i := Fld.other W8 F_remainingLeaseMillis_i (Or.inr (slot_ne (Or.inr (hw _ (List.mem_of_getElem? (i := 113) rfl))) (Or.inr (hw _ (List.mem_of_getElem? (i := 203) rfl))) (by decide) (t := .long) (t' := (.object "java/util/List")) (by decide) (by decide)))
  replace F_fencingToken_i := Fld.other W8 F_fencingToken_i (Or.inr (slot_ne (Or.inr (hw _ (List.mem_of_getElem? (i := 115) rfl))) (Or.inr (hw _ (List.mem_of_getElem? (i := 203) rfl))) (by decide) (t := .long) (t' := (.object "java/util/List")) (by decide) (by decide)))
  replace F_readers_i := Fld.same W8 F_readers_i
  replace E_i := Exa.wr W8 E_i
  replace Kp := Kp.wr W8 (Or.inl (by simp))
  replace F_sz := Fld.other W8 F_sz (Or.inl hir)
  replace E_r := Exa.wr W8 E_r
  replace F_ed := Fld.other W8 F_ed (Or.inl hir)
  replace V_d := V_d.other W8 (Ne.symm hio)
  replace E_d := Exa.wr W8 E_d
  replace E_y0 := Exa.wr W8 E_y0
  replace E_q := Exa.wr W8 E_q
  replace G_e0 := Fld.other W8 G_e0 (Or.inl (Ne.symm ne_i_q))
  replace G_e1 := Fld.other W8 G_e1 (Or.inl (Ne.symm ne_i_q))
  refine OEnds.via (fun _ k_ => st8 _ k_) ?_
  show OEnds p e below s _ _ _ (T8.setTop (mkF m 40 #[.val (.ref i), .val (.ref x), .val (.int (1 : Int32)), .val kv, .val (.long rm), .second, .val (.long tk), .second, .val (.ref r)] []))
  refine OEnds.retV X8 hx hlk Bd.returns (hb hby d17_40) ?_ (by decide) (by decide)
  rw [e8]
  exact ⟨_, rfl, N8, Kp, E_i, F_name_i, F_held_i, F_holder_i, F_remainingLeaseMillis_i, F_fencingToken_i, F_readers_i, ge_q, sz_q, E_q, G_e0, G_e1⟩
def Q_rmHd1 (Z : State) (x : Addr) (kv : Value) (rm : Int64) (tk : Int64) (r : Addr) (d : Addr) (kd : ClassId) (mr : Addr) (em : Addr) (y0 : Addr) (h0 : Heap) (n0 : Nat) (v : Option Value) (h : Heap) (L : List Loc) : Prop := ∃ i, ∃ q, v = some (.ref i) ∧ Fr n0 L ∧ Keep h0 h [] ∧ n0 ≤ i ∧ h0.size ≤ i ∧ Exa Z h i "com/example/holdfast/holdfast/LockInfo" ∧ Fld Z h i "com/example/holdfast/holdfast/LockInfo" "name" "Ljava/lang/String;" (.ref x) ∧ Fld Z h i "com/example/holdfast/holdfast/LockInfo" "held" "Z" (.int (1 : Int32)) ∧ Fld Z h i "com/example/holdfast/holdfast/LockInfo" "holder" "Ljava/lang/String;" kv ∧ Fld Z h i "com/example/holdfast/holdfast/LockInfo" "remainingLeaseMillis" "J" (.long rm) ∧ Fld Z h i "com/example/holdfast/holdfast/LockInfo" "fencingToken" "J" (.long tk) ∧ Fld Z h i "com/example/holdfast/holdfast/LockInfo" "readers" "Ljava/util/List;" (.ref q) ∧ n0 ≤ q ∧ h0.size ≤ q ∧ Exa Z h q "java/util/ImmutableCollections$List12" ∧ Fld Z h q "java/util/ImmutableCollections$List12" "e0" "Ljava/lang/Object;" (.ref y0) ∧ Fld Z h q "java/util/ImmutableCollections$List12" "e1" "Ljava/lang/Object;" (.ref em)
set_option maxRecDepth 65536 in
set_option maxHeartbeats 40000000 in
theorem rmHd1 (l : Launch) (Z : State) (a0 : Array Value) (hw : ∀ d ∈ tables_1, d.before a0 Z = true) (ws : List Jvm.Cond) (x : Addr) (kv : Value) (rm : Int64) (tk : Int64) (r : Addr) (d : Addr) (kd : ClassId) (mr : Addr) (em : Addr) (y0 : Addr) (h0 : Heap) (n0 : Nat) (O0 : Old Z n0 h0) (hkv : kv.isRef = true) (F_ed : Fld Z h0 r "java/util/ArrayList" "elementData" "[Ljava/lang/Object;" (.ref d)) (F_sz : Fld Z h0 r "java/util/ArrayList" "size" "I" (.int (1 : Int32))) (E_r : Exa Z h0 r "java/util/ArrayList") (V_d : Arv Z h0 d kd (.object "java/lang/Object") (10 : Int32) [(.ref y0), .null, .null, .null, .null, .null, .null, .null, .null, .null] .null) (E_y0 : Exa Z h0 y0 "com/example/holdfast/holdfast/LockInfo$Reader") (M : Mir Z "[Ljava/lang/Object;" mr) (E_d : Exa Z h0 d "[Ljava/lang/Object;") (S_em : Sta Z Z.heap "java/util/ImmutableCollections" "EMPTY" "Ljava/lang/Object;" (.ref em)) :
    MetFree l (⟨"com/example/holdfast/holdfast/LockInfo", "held", "(Ljava/lang/String;Ljava/lang/String;JJLjava/util/List;)Lcom/example/holdfast/holdfast/LockInfo;"⟩ : MethodName) (head1 (Jvm.Cond.code (⟨"com/example/holdfast/holdfast/LockInfo", "held", "(Ljava/lang/String;Ljava/lang/String;JJLjava/util/List;)Lcom/example/holdfast/holdfast/LockInfo;"⟩ : MethodName) prog_10_method_4_code 7 (some (.object "com/example/holdfast/holdfast/LockInfo")) :: ws) ({ frames := 9, cells := 3, slots := 10, locals := 148 } : Room)) (fun ar' U => ar' = #[(.ref x), kv, (.long rm), (.long tk), (.ref r)] ∧ Z.Warmed39 U.vm ∧ U.heap = h0) (fun _ _ _ _ _ => True) (fun _ U o U' => ∃ v L, o = .returned v ∧ (Q_rmHd1 Z x kv rm tk r d kd mr em y0 h0 n0) v U'.heap L ∧ FrameEnd U o U' L ({ frames := 9, cells := 3, slots := 10, locals := 148 } : Room).cells ({ frames := 9, cells := 3, slots := 10, locals := 148 } : Room).slots) := by
  refine MetFree.of_bodySF (plainFor_of_name pn_com_example_holdfast_holdfast_LockInfo) hisR ?_
  intro p e s m args below meth c s₁ Bd hml0 hP hK
  obtain ⟨rfl, hZ, hh⟩ := hP
  have hx := Bd.exec
  have hby := Bd.bytes
  have hlk := BodyLoose.notSynchronized Bd
  have hml : c.maxLocals = 7 := hml0
  have hown : s.vm.findClass "com/example/holdfast/holdfast/LockInfo" = some m.cls := findClass_of_methodNamed Bd.named
  have hnm := (name_of_methodNamed Bd.named Bd.method).1
  have X0 : Stand p l e ({ frames := 9, cells := 3, slots := 10, locals := 148 } : Room) s m #[(.ref x), kv, (.long rm), (.long tk), (.ref r)] below meth c s₁ [] 0 0 := Stand.of_body Bd
  have e0 : s₁.heap = h0 := by rw [← hh, Bd.state]; rfl
  have N0 := Fr.nil n0
  have Z0 : n0 ≤ h0.size := O0.1 ▸ O0.2.1
  show OEnds p e below s ({ frames := 9, cells := 3, slots := 10, locals := 148 } : Room).cells ({ frames := 9, cells := 3, slots := 10, locals := 148 } : Room).slots (Q_rmHd1 Z x kv rm tk r d kd mr em y0 h0 n0) (s₁.setTop (entryFrame m #[(.ref x), kv, (.long rm), (.long tk), (.ref r)] 7))
  refine OEnds.via (fun _ k_ => castTop (show entryFrame m #[(.ref x), kv, (.long rm), (.long tk), (.ref r)] 7 = (mkF m 0 #[.val (.ref x), .val kv, .val (.long rm), .second, .val (.long tk), .second, .val (.ref r)] []) by rcases ref_cases hkv with rfl | ⟨_, rfl⟩ <;> rfl) k_) ?_
  have Od := O0
  have Kp := Keep.refl h0 []
  show OEnds p e below s _ _ _ (s₁.setTop (mkF m 0 #[.val (.ref x), .val kv, .val (.long rm), .second, .val (.long tk), .second, .val (.ref r)] []))
  obtain ⟨T1, h1, X1, e1, E1, A1, D1, -, st1⟩ := newO X0 hx hZ hown (hw _ (List.mem_of_getElem? (i := 100) rfl)) (hw _ (List.mem_of_getElem? (i := 101) rfl)) (hw _ (List.mem_of_getElem? (i := 98) rfl)) e0 (g := (mkF m 0 #[.val (.ref x), .val kv, .val (.long rm), .second, .val (.long tk), .second, .val (.ref r)] [])) rfl (hb hby d16_0) (by decide) (by decide)
  obtain ⟨b1, g1⟩ : ∃ z, z = h0.size := ⟨_, rfl⟩
  have ne_r_b1 : r ≠ b1 := Nat.ne_of_lt (Nat.lt_of_lt_of_le F_sz.lt (Nat.le_of_eq g1.symm))
  have ne_d_b1 : d ≠ b1 := Nat.ne_of_lt (Nat.lt_of_lt_of_le V_d.lt (Nat.le_of_eq g1.symm))
  have ne_y0_b1 : y0 ≠ b1 := Nat.ne_of_lt (Nat.lt_of_lt_of_le E_y0.lt (Nat.le_of_eq g1.symm))
  have ge_b1 : n0 ≤ b1 := Nat.le_trans (Od.1 ▸ Od.2.1) (Nat.le_of_eq g1.symm)
  have sz_b1 : h0.size ≤ b1 := Nat.le_trans Kp.1 (Nat.le_of_eq g1.symm)
  rw [← g1] at A1 D1 st1
  replace Od := Od.ext E1
  replace Kp := Kp.ext E1
  replace F_sz := Fld.ext E1 F_sz
  replace E_r := Exa.ext E1 E_r
  replace F_ed := Fld.ext E1 F_ed
  replace V_d := V_d.ext E1
  replace E_d := Exa.ext E1 E_d
  replace E_y0 := Exa.ext E1 E_y0
  have E_b1 : Exa Z h1 b1 "com/example/holdfast/holdfast/LockInfo" := A1
  have F_name_b1 : Fld Z h1 b1 "com/example/holdfast/holdfast/LockInfo" "name" "Ljava/lang/String;" .null := D1 (Or.inr (hw _ (List.mem_of_getElem? (i := 107) rfl))) (ty := (.object "java/lang/String")) (by decide)
  have F_held_b1 : Fld Z h1 b1 "com/example/holdfast/holdfast/LockInfo" "held" "Z" (.int (0 : Int32)) := D1 (Or.inr (hw _ (List.mem_of_getElem? (i := 109) rfl))) (ty := .boolean) (by decide)
  have F_holder_b1 : Fld Z h1 b1 "com/example/holdfast/holdfast/LockInfo" "holder" "Ljava/lang/String;" .null := D1 (Or.inr (hw _ (List.mem_of_getElem? (i := 111) rfl))) (ty := (.object "java/lang/String")) (by decide)
  have F_remainingLeaseMillis_b1 : Fld Z h1 b1 "com/example/holdfast/holdfast/LockInfo" "remainingLeaseMillis" "J" (.long (0 : Int64)) := D1 (Or.inr (hw _ (List.mem_of_getElem? (i := 113) rfl))) (ty := .long) (by decide)
  have F_fencingToken_b1 : Fld Z h1 b1 "com/example/holdfast/holdfast/LockInfo" "fencingToken" "J" (.long (0 : Int64)) := D1 (Or.inr (hw _ (List.mem_of_getElem? (i := 115) rfl))) (ty := .long) (by decide)
  have F_readers_b1 : Fld Z h1 b1 "com/example/holdfast/holdfast/LockInfo" "readers" "Ljava/util/List;" .null := D1 (Or.inr (hw _ (List.mem_of_getElem? (i := 203) rfl))) (ty := (.object "java/util/List")) (by decide)
  refine OEnds.via (fun _ k_ => st1 _ k_) ?_
  show OEnds p e below s _ _ _ (T1.setTop (mkF m 3 #[.val (.ref x), .val kv, .val (.long rm), .second, .val (.long tk), .second, .val (.ref r)] [(.ref b1)]))
  refine OEnds.via (fun _ k_ => XS.dup X1.here hx rfl (hb hby d16_3) rfl rfl k_) ?_
  show OEnds p e below s _ _ _ (T1.setTop (mkF m 4 #[.val (.ref x), .val kv, .val (.long rm), .second, .val (.long tk), .second, .val (.ref r)] [(.ref b1), (.ref b1)]))
  refine OEnds.via (fun _ k_ => XS.aloadN X1.here hx rfl (hb hby d16_4) rfl rfl k_) ?_
  show OEnds p e below s _ _ _ (T1.setTop (mkF m 5 #[.val (.ref x), .val kv, .val (.long rm), .second, .val (.long tk), .second, .val (.ref r)] [(.ref x), (.ref b1), (.ref b1)]))
  refine OEnds.via (fun _ k_ => XS.iconst X1.here hx rfl (hb hby d16_5) k_) ?_
  show OEnds p e below s _ _ _ (T1.setTop (mkF m 6 #[.val (.ref x), .val kv, .val (.long rm), .second, .val (.long tk), .second, .val (.ref r)] [(.int (1 : Int32)), (.ref x), (.ref b1), (.ref b1)]))
  refine OEnds.via (fun _ k_ => XS.aloadN X1.here hx rfl (hb hby d16_6) rfl hkv k_) ?_
  show OEnds p e below s _ _ _ (T1.setTop (mkF m 7 #[.val (.ref x), .val kv, .val (.long rm), .second, .val (.long tk), .second, .val (.ref r)] [kv, (.int (1 : Int32)), (.ref x), (.ref b1), (.ref b1)]))
  refine OEnds.via (fun _ k_ => XS.lloadN X1.here hx rfl (hb hby d16_7) rfl k_) ?_
  show OEnds p e below s _ _ _ (T1.setTop (mkF m 8 #[.val (.ref x), .val kv, .val (.long rm), .second, .val (.long tk), .second, .val (.ref r)] [(.long rm), kv, (.int (1 : Int32)), (.ref x), (.ref b1), (.ref b1)]))
  refine OEnds.via (fun _ k_ => XS.lload X1.here hx rfl (hb hby d16_8) rfl k_) ?_
  show OEnds p e below s _ _ _ (T1.setTop (mkF m 10 #[.val (.ref x), .val kv, .val (.long rm), .second, .val (.long tk), .second, .val (.ref r)] [(.long tk), (.long rm), kv, (.int (1 : Int32)), (.ref x), (.ref b1), (.ref b1)]))
  refine OEnds.via (fun _ k_ => XS.aload X1.here hx rfl (hb hby d16_10) rfl rfl k_) ?_
  show OEnds p e below s _ _ _ (T1.setTop (mkF m 12 #[.val (.ref x), .val kv, .val (.long rm), .second, .val (.long tk), .second, .val (.ref r)] [(.ref r), (.long tk), (.long rm), kv, (.int (1 : Int32)), (.ref x), (.ref b1), (.ref b1)]))
  obtain ⟨_, _, ⟨T2, L2, k2, n2⟩, -, X2, ⟨Lc2, hQ2, l2, y2, z2⟩, st2⟩ := X1.specialBack hx (y := (⟨"com/example/holdfast/holdfast/LockInfo", "<init>", "(Ljava/lang/String;ZLjava/lang/String;JJLjava/util/List;)V"⟩ : MethodName)) rfl hown (mvT hZ (hw _ (List.mem_of_getElem? (i := 102) rfl))) (mvT hZ (hw _ (List.mem_of_getElem? (i := 103) rfl))) (mvT hZ (hw _ (List.mem_of_getElem? (i := 104) rfl))) (by decide) (backOf (W := 1) (rmLI1 l Z a0 hw [] b1 x kv rm tk r d kd mr em y0 h1 n0 Od F_name_b1 F_held_b1 F_holder_b1 F_remainingLeaseMillis_b1 F_fencingToken_b1 F_readers_b1 E_b1 ge_b1 hkv ne_r_b1 (Ne.symm ne_d_b1) F_ed F_sz E_r V_d E_y0 M E_d S_em) hZ (hw _ (List.mem_of_getElem? (i := 104) rfl)) (hw _ (List.mem_of_getElem? (i := 98) rfl)) (by decide) (by decide)) (g := (mkF m 12 #[.val (.ref x), .val kv, .val (.long rm), .second, .val (.long tk), .second, .val (.ref r)] [(.ref r), (.long tk), (.long rm), kv, (.int (1 : Int32)), (.ref x), (.ref b1), (.ref b1)])) rfl (by rw [hml]; rfl) (Steps.refl _) (a := b1) (argsL := [(.ref x), (.int (1 : Int32)), kv, (.long rm), (.long tk), (.ref r)]) (rest := [(.ref b1)]) (lenOf pd_28Ljava2flang2fString3bZLjava2flang2fString3bJJLjava2futil2fList3b29V rfl) rfl (by show 2 * 0 + _ ≤ _; exact Nat.le_of_eq rfl) (hb hby d16_12) (fun _ _ => ⟨rfl, e1, Nat.le_of_ble_eq_true rfl, Nat.le_of_ble_eq_true rfl⟩)
  dsimp only [Pt.U, Pt.locs, Pt.cells, Pt.slots] at X2 l2 y2 z2 st2 hQ2
  subst l2 y2 z2
  obtain ⟨q, rfl, N2q, K2, -, G_name, G_held, G_holder, G_remainingLeaseMillis, G_fencingToken, G_readers, ge_q, szq, E_q, G_e0, G_e1⟩ := hQ2
  have N2 := Fr.app N0 N2q
  have sz_q : h0.size ≤ q := Nat.le_trans Kp.1 szq
  replace Od := Od.keep K2 (allS ge_b1 all0)
  replace Kp := Kp.trans K2 (allS (Or.inr sz_b1) all0)
  replace F_sz := F_sz.keep K2 (ninS ne_r_b1 nin0)
  replace E_r := E_r.keep K2
  replace F_ed := F_ed.keep K2 (ninS ne_r_b1 nin0)
  replace V_d := V_d.keep K2 (ninS ne_d_b1 nin0)
  replace E_d := E_d.keep K2
  replace E_y0 := E_y0.keep K2
  replace E_b1 := E_b1.keep K2
  refine OEnds.via (fun _ k_ => st2.trans k_) ?_
  show OEnds p e below s _ _ _ (T2.setTop (mkF m 15 #[.val (.ref x), .val kv, .val (.long rm), .second, .val (.long tk), .second, .val (.ref r)] [(.ref b1)]))
  refine OEnds.retR X2 hx hlk Bd.returns rfl rfl (hb hby d16_15) ?_ (by decide) (by decide)
  exact ⟨_, _, rfl, N2, Kp, ge_b1, sz_b1, E_b1, G_name, G_held, G_holder, G_remainingLeaseMillis, G_fencingToken, G_readers, ge_q, sz_q, E_q, G_e0, G_e1⟩
def Q_rmLI2 (Z : State) (i : Addr) (x : Addr) (kv : Value) (rm : Int64) (tk : Int64) (r : Addr) (d : Addr) (kd : ClassId) (mr : Addr) (em : Addr) (y0 : Addr) (y1 : Addr) (h0 : Heap) (n0 : Nat) (v : Option Value) (h : Heap) (L : List Loc) : Prop := ∃ q, v = none ∧ Fr n0 L ∧ Keep h0 h [i] ∧ Exa Z h i "com/example/holdfast/holdfast/LockInfo" ∧ Fld Z h i "com/example/holdfast/holdfast/LockInfo" "name" "Ljava/lang/String;" (.ref x) ∧ Fld Z h i "com/example/holdfast/holdfast/LockInfo" "held" "Z" (.int (1 : Int32)) ∧ Fld Z h i "com/example/holdfast/holdfast/LockInfo" "holder" "Ljava/lang/String;" kv ∧ Fld Z h i "com/example/holdfast/holdfast/LockInfo" "remainingLeaseMillis" "J" (.long rm) ∧ Fld Z h i "com/example/holdfast/holdfast/LockInfo" "fencingToken" "J" (.long tk) ∧ Fld Z h i "com/example/holdfast/holdfast/LockInfo" "readers" "Ljava/util/List;" (.ref q) ∧ n0 ≤ q ∧ h0.size ≤ q ∧ Exa Z h q "java/util/ImmutableCollections$List12" ∧ Fld Z h q "java/util/ImmutableCollections$List12" "e0" "Ljava/lang/Object;" (.ref y0) ∧ Fld Z h q "java/util/ImmutableCollections$List12" "e1" "Ljava/lang/Object;" (.ref y1)
set_option maxRecDepth 65536 in
set_option maxHeartbeats 40000000 in
theorem rmLI2 (l : Launch) (Z : State) (a0 : Array Value) (hw : ∀ d ∈ tables_1, d.before a0 Z = true) (ws : List Jvm.Cond) (i : Addr) (x : Addr) (kv : Value) (rm : Int64) (tk : Int64) (r : Addr) (d : Addr) (kd : ClassId) (mr : Addr) (em : Addr) (y0 : Addr) (y1 : Addr) (h0 : Heap) (n0 : Nat) (O0 : Old Z n0 h0) (F_name_i : Fld Z h0 i "com/example/holdfast/holdfast/LockInfo" "name" "Ljava/lang/String;" .null) (F_held_i : Fld Z h0 i "com/example/holdfast/holdfast/LockInfo" "held" "Z" (.int (0 : Int32))) (F_holder_i : Fld Z h0 i "com/example/holdfast/holdfast/LockInfo" "holder" "Ljava/lang/String;" .null) (F_remainingLeaseMillis_i : Fld Z h0 i "com/example/holdfast/holdfast/LockInfo" "remainingLeaseMillis" "J" (.long (0 : Int64))) (F_fencingToken_i : Fld Z h0 i "com/example/holdfast/holdfast/LockInfo" "fencingToken" "J" (.long (0 : Int64))) (F_readers_i : Fld Z h0 i "com/example/holdfast/holdfast/LockInfo" "readers" "Ljava/util/List;" .null) (E_i : Exa Z h0 i "com/example/holdfast/holdfast/LockInfo") (ge_i : n0 ≤ i) (hkv : kv.isRef = true) (hir : r ≠ i) (hio : i ≠ d) (F_ed : Fld Z h0 r "java/util/ArrayList" "elementData" "[Ljava/lang/Object;" (.ref d)) (F_sz : Fld Z h0 r "java/util/ArrayList" "size" "I" (.int (2 : Int32))) (E_r : Exa Z h0 r "java/util/ArrayList") (V_d : Arv Z h0 d kd (.object "java/lang/Object") (10 : Int32) [(.ref y0), (.ref y1), .null, .null, .null, .null, .null, .null, .null, .null] .null) (E_y0 : Exa Z h0 y0 "com/example/holdfast/holdfast/LockInfo$Reader") (E_y1 : Exa Z h0 y1 "com/example/holdfast/holdfast/LockInfo$Reader") (M : Mir Z "[Ljava/lang/Object;" mr) (E_d : Exa Z h0 d "[Ljava/lang/Object;") (S_em : Sta Z Z.heap "java/util/ImmutableCollections" "EMPTY" "Ljava/lang/Object;" (.ref em)) :
    MetFree l (⟨"com/example/holdfast/holdfast/LockInfo", "<init>", "(Ljava/lang/String;ZLjava/lang/String;JJLjava/util/List;)V"⟩ : MethodName) (head1 (Jvm.Cond.code (⟨"com/example/holdfast/holdfast/LockInfo", "<init>", "(Ljava/lang/String;ZLjava/lang/String;JJLjava/util/List;)V"⟩ : MethodName) prog_10_method_1_code 9 none :: ws) ({ frames := 8, cells := 2, slots := 4, locals := 124 } : Room)) (fun ar' U => ar' = #[(.ref i), (.ref x), (.int (1 : Int32)), kv, (.long rm), (.long tk), (.ref r)] ∧ Z.Warmed39 U.vm ∧ U.heap = h0) (fun _ _ _ _ _ => True) (fun _ U o U' => ∃ v L, o = .returned v ∧ (Q_rmLI2 Z i x kv rm tk r d kd mr em y0 y1 h0 n0) v U'.heap L ∧ FrameEnd U o U' L ({ frames := 8, cells := 2, slots := 4, locals := 124 } : Room).cells ({ frames := 8, cells := 2, slots := 4, locals := 124 } : Room).slots) := by
  refine MetFree.of_bodySF (plainFor_of_name pn_com_example_holdfast_holdfast_LockInfo) hisR ?_
  intro p e s m args below meth c s₁ Bd hml0 hP hK
  obtain ⟨rfl, hZ, hh⟩ := hP
  have hx := Bd.exec
  have hby := Bd.bytes
  have hlk := BodyLoose.notSynchronized Bd
  have hml : c.maxLocals = 9 := hml0
  have hown : s.vm.findClass "com/example/holdfast/holdfast/LockInfo" = some m.cls := findClass_of_methodNamed Bd.named
  have hnm := (name_of_methodNamed Bd.named Bd.method).1
  have X0 : Stand p l e ({ frames := 8, cells := 2, slots := 4, locals := 124 } : Room) s m #[(.ref i), (.ref x), (.int (1 : Int32)), kv, (.long rm), (.long tk), (.ref r)] below meth c s₁ [] 0 0 := Stand.of_body Bd
  have e0 : s₁.heap = h0 := by rw [← hh, Bd.state]; rfl
  have N0 := Fr.nil n0
  have Z0 : n0 ≤ h0.size := O0.1 ▸ O0.2.1
  show OEnds p e below s ({ frames := 8, cells := 2, slots := 4, locals := 124 } : Room).cells ({ frames := 8, cells := 2, slots := 4, locals := 124 } : Room).slots (Q_rmLI2 Z i x kv rm tk r d kd mr em y0 y1 h0 n0) (s₁.setTop (entryFrame m #[(.ref i), (.ref x), (.int (1 : Int32)), kv, (.long rm), (.long tk), (.ref r)] 9))
  refine OEnds.via (fun _ k_ => castTop (show entryFrame m #[(.ref i), (.ref x), (.int (1 : Int32)), kv, (.long rm), (.long tk), (.ref r)] 9 = (mkF m 0 #[.val (.ref i), .val (.ref x), .val (.int (1 : Int32)), .val kv, .val (.long rm), .second, .val (.long tk), .second, .val (.ref r)] []) by rcases ref_cases hkv with rfl | ⟨_, rfl⟩ <;> rfl) k_) ?_
  have Od := O0
  have Kp := Keep.refl h0 [i]
  show OEnds p e below s _ _ _ (s₁.setTop (mkF m 0 #[.val (.ref i), .val (.ref x), .val (.int (1 : Int32)), .val kv, .val (.long rm), .second, .val (.long tk), .second, .val (.ref r)] []))
  refine OEnds.via (fun _ k_ => XS.aloadN X0.here hx rfl (hb hby d17_0) rfl rfl k_) ?_
  show OEnds p e below s _ _ _ (s₁.setTop (mkF m 1 #[.val (.ref i), .val (.ref x), .val (.int (1 : Int32)), .val kv, .val (.long rm), .second, .val (.long tk), .second, .val (.ref r)] [(.ref i)]))
  obtain ⟨T1, X1, e1, st1⟩ := initO X0 hx hZ hown (hw _ (List.mem_of_getElem? (i := 105) rfl)) (hw _ (List.mem_of_getElem? (i := 12) rfl)) (hw _ (List.mem_of_getElem? (i := 13) rfl)) e0 (g := (mkF m 1 #[.val (.ref i), .val (.ref x), .val (.int (1 : Int32)), .val kv, .val (.long rm), .second, .val (.long tk), .second, .val (.ref r)] [(.ref i)])) rfl (by rw [hml]; rfl) rfl (hb hby d17_1) (by decide) (W := 0) (by show 2 * 0 + _ ≤ _; exact Nat.le_of_eq rfl) (by decide)
  refine OEnds.via (fun _ k_ => st1 _ k_) ?_
  show OEnds p e below s _ _ _ (T1.setTop (mkF m 4 #[.val (.ref i), .val (.ref x), .val (.int (1 : Int32)), .val kv, .val (.long rm), .second, .val (.long tk), .second, .val (.ref r)] []))
  refine OEnds.via (fun _ k_ => XS.aloadN X1.here hx rfl (hb hby d17_4) rfl rfl k_) ?_
  show OEnds p e below s _ _ _ (T1.setTop (mkF m 5 #[.val (.ref i), .val (.ref x), .val (.int (1 : Int32)), .val kv, .val (.long rm), .second, .val (.long tk), .second, .val (.ref r)] [(.ref i)]))
  refine OEnds.via (fun _ k_ => XS.aloadN X1.here hx rfl (hb hby d17_5) rfl rfl k_) ?_
  show OEnds p e below s _ _ _ (T1.setTop (mkF m 6 #[.val (.ref i), .val (.ref x), .val (.int (1 : Int32)), .val kv, .val (.long rm), .second, .val (.long tk), .second, .val (.ref r)] [(.ref x), (.ref i)]))
  obtain ⟨T2, h2, X2, e2, W2, st2⟩ := putF X1 hx hZ hown (host := "") (Or.inl (hw _ (List.mem_of_getElem? (i := 106) rfl))) Via.refl e1 F_name_i E_i (Or.inr ⟨(hw _ (List.mem_of_getElem? (i := 107) rfl)), rfl, hnm⟩) (hw _ (List.mem_of_getElem? (i := 101) rfl)) (ty := (.object "java/lang/String")) (by decide) rfl rfl (g := (mkF m 6 #[.val (.ref i), .val (.ref x), .val (.int (1 : Int32)), .val kv, .val (.long rm), .second, .val (.long tk), .second, .val (.ref r)] [(.ref x), (.ref i)])) rfl rfl (hb hby d17_6)
  have N2 := Fr.snoc X2 N0 ge_i
  replace Od := Od.wr W2 ge_i
  replace F_name_i := Fld.same W2 F_name_i
  replace F_held_i := Fld.other W2 F_held_i (Or.inr (slot_ne (Or.inr (hw _ (List.mem_of_getElem? (i := 109) rfl))) (Or.inr (hw _ (List.mem_of_getElem? (i := 107) rfl))) (by decide) (t := .boolean) (t' := (.object "java/lang/String")) (by decide) (by decide)))
  replace F_holder_i := Fld.other W2 F_holder_i (Or.inr (slot_ne (Or.inr (hw _ (List.mem_of_getElem? (i := 111) rfl))) (Or.inr (hw _ (List.mem_of_getElem? (i := 107) rfl))) (by decide) (t := (.object "java/lang/String")) (t' := (.object "java/lang/String")) (by decide) (by decide)))
  replace F_remainingLeaseMillis_i := Fld.other W2 F_remainingLeaseMillis_i (Or.inr (slot_ne (Or.inr (hw _ (List.mem_of_getElem? (i := 113) rfl))) (Or.inr (hw _ (List.mem_of_getElem? (i := 107) rfl))) (by decide) (t := .long) (t' := (.object "java/lang/String")) (by decide) (by decide)))
  replace F_fencingToken_i := Fld.other W2 F_fencingToken_i (Or.inr (slot_ne (Or.inr (hw _ (List.mem_of_getElem? (i := 115) rfl))) (Or.inr (hw _ (List.mem_of_getElem? (i := 107) rfl))) (by decide) (t := .long) (t' := (.object "java/lang/String")) (by decide) (by decide)))
  replace F_readers_i := Fld.other W2 F_readers_i (Or.inr (slot_ne (Or.inr (hw _ (List.mem_of_getElem? (i := 203) rfl))) (Or.inr (hw _ (List.mem_of_getElem? (i := 107) rfl))) (by decide) (t := (.object "java/util/List")) (t' := (.object "java/lang/String")) (by decide) (by decide)))
  replace E_i := Exa.wr W2 E_i
  replace Kp := Kp.wr W2 (Or.inl (by simp))
  replace F_sz := Fld.other W2 F_sz (Or.inl hir)
  replace E_r := Exa.wr W2 E_r
  replace F_ed := Fld.other W2 F_ed (Or.inl hir)
  replace V_d := V_d.other W2 (Ne.symm hio)
  replace E_d := Exa.wr W2 E_d
  replace E_y0 := Exa.wr W2 E_y0
  replace E_y1 := Exa.wr W2 E_y1
  refine OEnds.via (fun _ k_ => st2 _ k_) ?_
  show OEnds p e below s _ _ _ (T2.setTop (mkF m 9 #[.val (.ref i), .val (.ref x), .val (.int (1 : Int32)), .val kv, .val (.long rm), .second, .val (.long tk), .second, .val (.ref r)] []))
  refine OEnds.via (fun _ k_ => XS.aloadN X2.here hx rfl (hb hby d17_9) rfl rfl k_) ?_
  show OEnds p e below s _ _ _ (T2.setTop (mkF m 10 #[.val (.ref i), .val (.ref x), .val (.int (1 : Int32)), .val kv, .val (.long rm), .second, .val (.long tk), .second, .val (.ref r)] [(.ref i)]))
  refine OEnds.via (fun _ k_ => XS.iloadN X2.here hx rfl (hb hby d17_10) rfl k_) ?_
  show OEnds p e below s _ _ _ (T2.setTop (mkF m 11 #[.val (.ref i), .val (.ref x), .val (.int (1 : Int32)), .val kv, .val (.long rm), .second, .val (.long tk), .second, .val (.ref r)] [(.int (1 : Int32)), (.ref i)]))
  obtain ⟨T3, h3, X3, e3, W3, st3⟩ := putFN X2 hx hZ hown (hw _ (List.mem_of_getElem? (i := 108) rfl)) Via.refl e2 F_held_i E_i (Or.inr ⟨(hw _ (List.mem_of_getElem? (i := 109) rfl)), rfl, hnm⟩) (hw _ (List.mem_of_getElem? (i := 101) rfl)) (ty := .boolean) (v' := (.int (1 : Int32))) (by decide) rfl rfl (g := (mkF m 11 #[.val (.ref i), .val (.ref x), .val (.int (1 : Int32)), .val kv, .val (.long rm), .second, .val (.long tk), .second, .val (.ref r)] [(.int (1 : Int32)), (.ref i)])) rfl rfl (hb hby d17_11)
  have N3 := Fr.snoc X3 N2 ge_i
  replace Od := Od.wr W3 ge_i
  replace F_name_i := Fld.other W3 F_name_i (Or.inr (slot_ne (Or.inr (hw _ (List.mem_of_getElem? (i := 107) rfl))) (Or.inr (hw _ (List.mem_of_getElem? (i := 109) rfl))) (by decide) (t := (.object "java/lang/String")) (t' := .boolean) (by decide) (by decide)))
  replace F_held_i := Fld.same W3 F_held_i
  replace F_holder_i := Fld.other W3 F_holder_i (Or.inr (slot_ne (Or.inr (hw _ (List.mem_of_getElem? (i := 111) rfl))) (Or.inr (hw _ (List.mem_of_getElem? (i := 109) rfl))) (by decide) (t := (.object "java/lang/String")) (t' := .boolean) (by decide) (by decide)))
  replace F_remainingLeaseMillis_i := Fld.other W3 F_remainingLeaseMillis_i (Or.inr (slot_ne (Or.inr (hw _ (List.mem_of_getElem? (i := 113) rfl))) (Or.inr (hw _ (List.mem_of_getElem? (i := 109) rfl))) (by decide) (t := .long) (t' := .boolean) (by decide) (by decide)))
  replace F_fencingToken_i := Fld.other W3 F_fencingToken_i (Or.inr (slot_ne (Or.inr (hw _ (List.mem_of_getElem? (i := 115) rfl))) (Or.inr (hw _ (List.mem_of_getElem? (i := 109) rfl))) (by decide) (t := .long) (t' := .boolean) (by decide) (by decide)))
  replace F_readers_i := Fld.other W3 F_readers_i (Or.inr (slot_ne (Or.inr (hw _ (List.mem_of_getElem? (i := 203) rfl))) (Or.inr (hw _ (List.mem_of_getElem? (i := 109) rfl))) (by decide) (t := (.object "java/util/List")) (t' := .boolean) (by decide) (by decide)))
  replace E_i := Exa.wr W3 E_i
  replace Kp := Kp.wr W3 (Or.inl (by simp))
  replace F_sz := Fld.other W3 F_sz (Or.inl hir)
  replace E_r := Exa.wr W3 E_r
  replace F_ed := Fld.other W3 F_ed (Or.inl hir)
  replace V_d := V_d.other W3 (Ne.symm hio)
  replace E_d := Exa.wr W3 E_d
  replace E_y0 := Exa.wr W3 E_y0
  replace E_y1 := Exa.wr W3 E_y1
  refine OEnds.via (fun _ k_ => st3 _ k_) ?_
  show OEnds p e below s _ _ _ (T3.setTop (mkF m 14 #[.val (.ref i), .val (.ref x), .val (.int (1 : Int32)), .val kv, .val (.long rm), .second, .val (.long tk), .second, .val (.ref r)] []))
  refine OEnds.via (fun _ k_ => XS.aloadN X3.here hx rfl (hb hby d17_14) rfl rfl k_) ?_
  show OEnds p e below s _ _ _ (T3.setTop (mkF m 15 #[.val (.ref i), .val (.ref x), .val (.int (1 : Int32)), .val kv, .val (.long rm), .second, .val (.long tk), .second, .val (.ref r)] [(.ref i)]))
  refine OEnds.via (fun _ k_ => XS.aloadN X3.here hx rfl (hb hby d17_15) rfl hkv k_) ?_
  show OEnds p e below s _ _ _ (T3.setTop (mkF m 16 #[.val (.ref i), .val (.ref x), .val (.int (1 : Int32)), .val kv, .val (.long rm), .second, .val (.long tk), .second, .val (.ref r)] [kv, (.ref i)]))
  obtain ⟨T4, h4, X4, e4, W4, st4⟩ := putF X3 hx hZ hown (host := "") (Or.inl (hw _ (List.mem_of_getElem? (i := 110) rfl))) Via.refl e3 F_holder_i E_i (Or.inr ⟨(hw _ (List.mem_of_getElem? (i := 111) rfl)), rfl, hnm⟩) (hw _ (List.mem_of_getElem? (i := 101) rfl)) (ty := (.object "java/lang/String")) (by decide) (own_narrow hkv) (own_fits hkv) (g := (mkF m 16 #[.val (.ref i), .val (.ref x), .val (.int (1 : Int32)), .val kv, .val (.long rm), .second, .val (.long tk), .second, .val (.ref r)] [kv, (.ref i)])) rfl rfl (hb hby d17_16)
  have N4 := Fr.snoc X4 N3 ge_i
  replace Od := Od.wr W4 ge_i
  replace F_name_i := Fld.other W4 F_name_i (Or.inr (slot_ne (Or.inr (hw _ (List.mem_of_getElem? (i := 107) rfl))) (Or.inr (hw _ (List.mem_of_getElem? (i := 111) rfl))) (by decide) (t := (.object "java/lang/String")) (t' := (.object "java/lang/String")) (by decide) (by decide)))
  replace F_held_i := Fld.other W4 F_held_i (Or.inr (slot_ne (Or.inr (hw _ (List.mem_of_getElem? (i := 109) rfl))) (Or.inr (hw _ (List.mem_of_getElem? (i := 111) rfl))) (by decide) (t := .boolean) (t' := (.object "java/lang/String")) (by decide) (by decide)))
  replace F_holder_i := Fld.same W4 F_holder_i
  replace F_remainingLeaseMillis_i := Fld.other W4 F_remainingLeaseMillis_i (Or.inr (slot_ne (Or.inr (hw _ (List.mem_of_getElem? (i := 113) rfl))) (Or.inr (hw _ (List.mem_of_getElem? (i := 111) rfl))) (by decide) (t := .long) (t' := (.object "java/lang/String")) (by decide) (by decide)))
  replace F_fencingToken_i := Fld.other W4 F_fencingToken_i (Or.inr (slot_ne (Or.inr (hw _ (List.mem_of_getElem? (i := 115) rfl))) (Or.inr (hw _ (List.mem_of_getElem? (i := 111) rfl))) (by decide) (t := .long) (t' := (.object "java/lang/String")) (by decide) (by decide)))
  replace F_readers_i := Fld.other W4 F_readers_i (Or.inr (slot_ne (Or.inr (hw _ (List.mem_of_getElem? (i := 203) rfl))) (Or.inr (hw _ (List.mem_of_getElem? (i := 111) rfl))) (by decide) (t := (.object "java/util/List")) (t' := (.object "java/lang/String")) (by decide) (by decide)))
  replace E_i := Exa.wr W4 E_i
  replace Kp := Kp.wr W4 (Or.inl (by simp))
  replace F_sz := Fld.other W4 F_sz (Or.inl hir)
  replace E_r := Exa.wr W4 E_r
  replace F_ed := Fld.other W4 F_ed (Or.inl hir)
  replace V_d := V_d.other W4 (Ne.symm hio)
  replace E_d := Exa.wr W4 E_d
  replace E_y0 := Exa.wr W4 E_y0
  replace E_y1 := Exa.wr W4 E_y1
  refine OEnds.via (fun _ k_ => st4 _ k_) ?_
  show OEnds p e below s _ _ _ (T4.setTop (mkF m 19 #[.val (.ref i), .val (.ref x), .val (.int (1 : Int32)), .val kv, .val (.long rm), .second, .val (.long tk), .second, .val (.ref r)] []))
  refine OEnds.via (fun _ k_ => XS.aloadN X4.here hx rfl (hb hby d17_19) rfl rfl k_) ?_
  show OEnds p e below s _ _ _ (T4.setTop (mkF m 20 #[.val (.ref i), .val (.ref x), .val (.int (1 : Int32)), .val kv, .val (.long rm), .second, .val (.long tk), .second, .val (.ref r)] [(.ref i)]))
  refine OEnds.via (fun _ k_ => XS.lload X4.here hx rfl (hb hby d17_20) rfl k_) ?_
  show OEnds p e below s _ _ _ (T4.setTop (mkF m 22 #[.val (.ref i), .val (.ref x), .val (.int (1 : Int32)), .val kv, .val (.long rm), .second, .val (.long tk), .second, .val (.ref r)] [(.long rm), (.ref i)]))
  obtain ⟨T5, h5, X5, e5, W5, st5⟩ := putF X4 hx hZ hown (host := "") (Or.inl (hw _ (List.mem_of_getElem? (i := 112) rfl))) Via.refl e4 F_remainingLeaseMillis_i E_i (Or.inr ⟨(hw _ (List.mem_of_getElem? (i := 113) rfl)), rfl, hnm⟩) (hw _ (List.mem_of_getElem? (i := 101) rfl)) (ty := .long) (by decide) rfl rfl (g := (mkF m 22 #[.val (.ref i), .val (.ref x), .val (.int (1 : Int32)), .val kv, .val (.long rm), .second, .val (.long tk), .second, .val (.ref r)] [(.long rm), (.ref i)])) rfl rfl (hb hby d17_22)
  have N5 := Fr.snoc X5 N4 ge_i
  replace Od := Od.wr W5 ge_i
  replace F_name_i := Fld.other W5 F_name_i (Or.inr (slot_ne (Or.inr (hw _ (List.mem_of_getElem? (i := 107) rfl))) (Or.inr (hw _ (List.mem_of_getElem? (i := 113) rfl))) (by decide) (t := (.object "java/lang/String")) (t' := .long) (by decide) (by decide)))
  replace F_held_i := Fld.other W5 F_held_i (Or.inr (slot_ne (Or.inr (hw _ (List.mem_of_getElem? (i := 109) rfl))) (Or.inr (hw _ (List.mem_of_getElem? (i := 113) rfl))) (by decide) (t := .boolean) (t' := .long) (by decide) (by decide)))
  replace F_holder_i := Fld.other W5 F_holder_i (Or.inr (slot_ne (Or.inr (hw _ (List.mem_of_getElem? (i := 111) rfl))) (Or.inr (hw _ (List.mem_of_getElem? (i := 113) rfl))) (by decide) (t := (.object "java/lang/String")) (t' := .long) (by decide) (by decide)))
  replace F_remainingLeaseMillis_i := Fld.same W5 F_remainingLeaseMillis_i
  replace F_fencingToken_i := Fld.other W5 F_fencingToken_i (Or.inr (slot_ne (Or.inr (hw _ (List.mem_of_getElem? (i := 115) rfl))) (Or.inr (hw _ (List.mem_of_getElem? (i := 113) rfl))) (by decide) (t := .long) (t' := .long) (by decide) (by decide)))
  replace F_readers_i := Fld.other W5 F_readers_i (Or.inr (slot_ne (Or.inr (hw _ (List.mem_of_getElem? (i := 203) rfl))) (Or.inr (hw _ (List.mem_of_getElem? (i := 113) rfl))) (by decide) (t := (.object "java/util/List")) (t' := .long) (by decide) (by decide)))
  replace E_i := Exa.wr W5 E_i
  replace Kp := Kp.wr W5 (Or.inl (by simp))
  replace F_sz := Fld.other W5 F_sz (Or.inl hir)
  replace E_r := Exa.wr W5 E_r
  replace F_ed := Fld.other W5 F_ed (Or.inl hir)
  replace V_d := V_d.other W5 (Ne.symm hio)
  replace E_d := Exa.wr W5 E_d
  replace E_y0 := Exa.wr W5 E_y0
  replace E_y1 := Exa.wr W5 E_y1
  refine OEnds.via (fun _ k_ => st5 _ k_) ?_
  show OEnds p e below s _ _ _ (T5.setTop (mkF m 25 #[.val (.ref i), .val (.ref x), .val (.int (1 : Int32)), .val kv, .val (.long rm), .second, .val (.long tk), .second, .val (.ref r)] []))
  refine OEnds.via (fun _ k_ => XS.aloadN X5.here hx rfl (hb hby d17_25) rfl rfl k_) ?_
  show OEnds p e below s _ _ _ (T5.setTop (mkF m 26 #[.val (.ref i), .val (.ref x), .val (.int (1 : Int32)), .val kv, .val (.long rm), .second, .val (.long tk), .second, .val (.ref r)] [(.ref i)]))
  refine OEnds.via (fun _ k_ => XS.lload X5.here hx rfl (hb hby d17_26) rfl k_) ?_
  show OEnds p e below s _ _ _ (T5.setTop (mkF m 28 #[.val (.ref i), .val (.ref x), .val (.int (1 : Int32)), .val kv, .val (.long rm), .second, .val (.long tk), .second, .val (.ref r)] [(.long tk), (.ref i)]))
  obtain ⟨T6, h6, X6, e6, W6, st6⟩ := putF X5 hx hZ hown (host := "") (Or.inl (hw _ (List.mem_of_getElem? (i := 114) rfl))) Via.refl e5 F_fencingToken_i E_i (Or.inr ⟨(hw _ (List.mem_of_getElem? (i := 115) rfl)), rfl, hnm⟩) (hw _ (List.mem_of_getElem? (i := 101) rfl)) (ty := .long) (by decide) rfl rfl (g := (mkF m 28 #[.val (.ref i), .val (.ref x), .val (.int (1 : Int32)), .val kv, .val (.long rm), .second, .val (.long tk), .second, .val (.ref r)] [(.long tk), (.ref i)])) rfl rfl (hb hby d17_28)
  have N6 := Fr.snoc X6 N5 ge_i
  replace Od := Od.wr W6 ge_i
  replace F_name_i := Fld.other W6 F_name_i (Or.inr (slot_ne (Or.inr (hw _ (List.mem_of_getElem? (i := 107) rfl))) (Or.inr (hw _ (List.mem_of_getElem? (i := 115) rfl))) (by decide) (t := (.object "java/lang/String")) (t' := .long) (by decide) (by decide)))
  replace F_held_i := Fld.other W6 F_held_i (Or.inr (slot_ne (Or.inr (hw _ (List.mem_of_getElem? (i := 109) rfl))) (Or.inr (hw _ (List.mem_of_getElem? (i := 115) rfl))) (by decide) (t := .boolean) (t' := .long) (by decide) (by decide)))
  replace F_holder_i := Fld.other W6 F_holder_i (Or.inr (slot_ne (Or.inr (hw _ (List.mem_of_getElem? (i := 111) rfl))) (Or.inr (hw _ (List.mem_of_getElem? (i := 115) rfl))) (by decide) (t := (.object "java/lang/String")) (t' := .long) (by decide) (by decide)))
  replace F_remainingLeaseMillis_i := Fld.other W6 F_remainingLeaseMillis_i (Or.inr (slot_ne (Or.inr (hw _ (List.mem_of_getElem? (i := 113) rfl))) (Or.inr (hw _ (List.mem_of_getElem? (i := 115) rfl))) (by decide) (t := .long) (t' := .long) (by decide) (by decide)))
  replace F_fencingToken_i := Fld.same W6 F_fencingToken_i
  replace F_readers_i := Fld.other W6 F_readers_i (Or.inr (slot_ne (Or.inr (hw _ (List.mem_of_getElem? (i := 203) rfl))) (Or.inr (hw _ (List.mem_of_getElem? (i := 115) rfl))) (by decide) (t := (.object "java/util/List")) (t' := .long) (by decide) (by decide)))
  replace E_i := Exa.wr W6 E_i
  replace Kp := Kp.wr W6 (Or.inl (by simp))
  replace F_sz := Fld.other W6 F_sz (Or.inl hir)
  replace E_r := Exa.wr W6 E_r
  replace F_ed := Fld.other W6 F_ed (Or.inl hir)
  replace V_d := V_d.other W6 (Ne.symm hio)
  replace E_d := Exa.wr W6 E_d
  replace E_y0 := Exa.wr W6 E_y0
  replace E_y1 := Exa.wr W6 E_y1
  refine OEnds.via (fun _ k_ => st6 _ k_) ?_
  show OEnds p e below s _ _ _ (T6.setTop (mkF m 31 #[.val (.ref i), .val (.ref x), .val (.int (1 : Int32)), .val kv, .val (.long rm), .second, .val (.long tk), .second, .val (.ref r)] []))
  refine OEnds.via (fun _ k_ => XS.aloadN X6.here hx rfl (hb hby d17_31) rfl rfl k_) ?_
  show OEnds p e below s _ _ _ (T6.setTop (mkF m 32 #[.val (.ref i), .val (.ref x), .val (.int (1 : Int32)), .val kv, .val (.long rm), .second, .val (.long tk), .second, .val (.ref r)] [(.ref i)]))
  refine OEnds.via (fun _ k_ => XS.aload X6.here hx rfl (hb hby d17_32) rfl rfl k_) ?_
  show OEnds p e below s _ _ _ (T6.setTop (mkF m 34 #[.val (.ref i), .val (.ref x), .val (.int (1 : Int32)), .val kv, .val (.long rm), .second, .val (.long tk), .second, .val (.ref r)] [(.ref r), (.ref i)]))
  obtain ⟨_, _, ⟨T7, L7, k7, n7⟩, -, X7, ⟨Lc7, hQ7, l7, y7, z7⟩, st7⟩ := Jvm.LawKit.callS X6 hx (y := (⟨"java/util/List", "copyOf", "(Ljava/util/Collection;)Ljava/util/List;"⟩ : MethodName)) hown (mvT hZ (hw _ (List.mem_of_getElem? (i := 116) rfl))) (mvT hZ (hw _ (List.mem_of_getElem? (i := 117) rfl))) (mvT hZ (hw _ (List.mem_of_getElem? (i := 118) rfl))) (mvT hZ (hw _ (List.mem_of_getElem? (i := 119) rfl))) (by decide) (backOf (W := 1) (rmCO_2 l Z a0 hw [] r d kd mr em y0 y1 h6 n0 Od F_ed F_sz E_r V_d E_y0 E_y1 M E_d S_em) hZ (hw _ (List.mem_of_getElem? (i := 119) rfl)) (hw _ (List.mem_of_getElem? (i := 118) rfl)) (by decide) (by decide)) (g := (mkF m 34 #[.val (.ref i), .val (.ref x), .val (.int (1 : Int32)), .val kv, .val (.long rm), .second, .val (.long tk), .second, .val (.ref r)] [(.ref r), (.ref i)])) rfl (by rw [hml]; rfl) (argsL := [(.ref r)]) (rest := [(.ref i)]) (lenOf pd_28Ljava2futil2fCollection3b29Ljava2futil2fList3b rfl) rfl (by show 2 * 0 + _ ≤ _; exact Nat.le_of_eq rfl) (hb hby d17_34) (fun _ _ => ⟨rfl, e6, Nat.le_of_ble_eq_true rfl, Nat.le_of_ble_eq_true rfl⟩)
  dsimp only [Pt.U, Pt.locs, Pt.cells, Pt.slots] at X7 l7 y7 z7 st7 hQ7
  subst l7 y7 z7
  obtain ⟨q, rfl, N7q, K7, ge_q, sz7, E_q, G_e0, G_e1⟩ := hQ7
  have ne_i_q : i ≠ q := Nat.ne_of_lt (Nat.lt_of_lt_of_le F_name_i.lt sz7)
  have ne_r_q : r ≠ q := Nat.ne_of_lt (Nat.lt_of_lt_of_le F_sz.lt sz7)
  have ne_d_q : d ≠ q := Nat.ne_of_lt (Nat.lt_of_lt_of_le V_d.lt sz7)
  have ne_y0_q : y0 ≠ q := Nat.ne_of_lt (Nat.lt_of_lt_of_le E_y0.lt sz7)
  have ne_y1_q : y1 ≠ q := Nat.ne_of_lt (Nat.lt_of_lt_of_le E_y1.lt sz7)
  have N7 := Fr.app N6 N7q
  have sz_q : h0.size ≤ q := Nat.le_trans Kp.1 sz7
  replace Od := Od.keep K7 all0
  replace F_name_i := F_name_i.keep K7 nin0
  replace F_held_i := F_held_i.keep K7 nin0
  replace F_holder_i := F_holder_i.keep K7 nin0
  replace F_remainingLeaseMillis_i := F_remainingLeaseMillis_i.keep K7 nin0
  replace F_fencingToken_i := F_fencingToken_i.keep K7 nin0
  replace F_readers_i := F_readers_i.keep K7 nin0
  replace E_i := E_i.keep K7
  replace Kp := Kp.trans K7 all0
  replace F_sz := F_sz.keep K7 nin0
  replace E_r := E_r.keep K7
  replace F_ed := F_ed.keep K7 nin0
  replace V_d := V_d.keep K7 nin0
  replace E_d := E_d.keep K7
  replace E_y0 := E_y0.keep K7
  replace E_y1 := E_y1.keep K7
  refine OEnds.via (fun _ k_ => st7 _ k_) ?_
  show OEnds p e below s _ _ _ (T7.setTop (mkF m 37 #[.val (.ref i), .val (.ref x), .val (.int (1 : Int32)), .val kv, .val (.long rm), .second, .val (.long tk), .second, .val (.ref r)] [(.ref q), (.ref i)]))
  obtain ⟨T8, h8, X8, e8, W8, st8⟩ := putF X7 hx hZ hown (host := "") (Or.inl (hw _ (List.mem_of_getElem? (i := 202) rfl))) Via.refl rfl F_readers_i E_i (Or.inr ⟨(hw _ (List.mem_of_getElem? (i := 203) rfl)), rfl, hnm⟩) (hw _ (List.mem_of_getElem? (i := 101) rfl)) (ty := (.object "java/util/List")) (by decide) rfl rfl (g := (mkF m 37 #[.val (.ref i), .val (.ref x), .val (.int (1 : Int32)), .val kv, .val (.long rm), .second, .val (.long tk), .second, .val (.ref r)] [(.ref q), (.ref i)])) rfl rfl (hb hby d17_37)
  have N8 := Fr.snoc X8 N7 ge_i
  replace Od := Od.wr W8 ge_i
  replace F_name_i := Fld.other W8 F_name_i (Or.inr (slot_ne (Or.inr (hw _ (List.mem_of_getElem? (i := 107) rfl))) (Or.inr (hw _ (List.mem_of_getElem? (i := 203) rfl))) (by decide) (t := (.object "java/lang/String")) (t' := (.object "java/util/List")) (by decide) (by decide)))
  replace F_held_i := Fld.other W8 F_held_i (Or.inr (slot_ne (Or.inr (hw _ (List.mem_of_getElem? (i := 109) rfl))) (Or.inr (hw _ (List.mem_of_getElem? (i := 203) rfl))) (by decide) (t := .boolean) (t' := (.object "java/util/List")) (by decide) (by decide)))
  replace F_holder_i := Fld.other W8 F_holder_i (Or.inr (slot_ne (Or.inr (hw _ (List.mem_of_getElem? (i := 111) rfl))) (Or.inr (hw _ (List.mem_of_getElem? (i := 203) rfl))) (by decide) (t := (.object "java/lang/String")) (t' := (.object "java/util/List")) (by decide) (by decide)))
  replace F_remainingLeaseMillis_i := Fld.other W8 F_remainingLeaseMillis_i (Or.inr (slot_ne (Or.inr (hw _ (List.mem_of_getElem? (i := 113) rfl))) (Or.inr (hw _ (List.mem_of_getElem? (i := 203) rfl))) (by decide) (t := .long) (t' := (.object "java/util/List")) (by decide) (by decide)))
  replace F_fencingToken_i := Fld.other W8 F_fencingToken_i (Or.inr (slot_ne (Or.inr (hw _ (List.mem_of_getElem? (i := 115) rfl))) (Or.inr (hw _ (List.mem_of_getElem? (i := 203) rfl))) (by decide) (t := .long) (t' := (.object "java/util/List")) (by decide) (by decide)))
  replace F_readers_i := Fld.same W8 F_readers_i
  replace E_i := Exa.wr W8 E_i
  replace Kp := Kp.wr W8 (Or.inl (by simp))
  replace F_sz := Fld.other W8 F_sz (Or.inl hir)
  replace E_r := Exa.wr W8 E_r
  replace F_ed := Fld.other W8 F_ed (Or.inl hir)
  replace V_d := V_d.other W8 (Ne.symm hio)
  replace E_d := Exa.wr W8 E_d
  replace E_y0 := Exa.wr W8 E_y0
  replace E_y1 := Exa.wr W8 E_y1
  replace E_q := Exa.wr W8 E_q
  replace G_e0 := Fld.other W8 G_e0 (Or.inl (Ne.symm ne_i_q))
  replace G_e1 := Fld.other W8 G_e1 (Or.inl (Ne.symm ne_i_q))
  refine OEnds.via (fun _ k_ => st8 _ k_) ?_
  show OEnds p e below s _ _ _ (T8.setTop (mkF m 40 #[.val (.ref i), .val (.ref x), .val (.int (1 : Int32)), .val kv, .val (.long rm), .second, .val (.long tk), .second, .val (.ref r)] []))
  refine OEnds.retV X8 hx hlk Bd.returns (hb hby d17_40) ?_ (by decide) (by decide)
  rw [e8]
  exact ⟨_, rfl, N8, Kp, E_i, F_name_i, F_held_i, F_holder_i, F_remainingLeaseMillis_i, F_fencingToken_i, F_readers_i, ge_q, sz_q, E_q, G_e0, G_e1⟩
def Q_rmHd2 (Z : State) (x : Addr) (kv : Value) (rm : Int64) (tk : Int64) (r : Addr) (d : Addr) (kd : ClassId) (mr : Addr) (em : Addr) (y0 : Addr) (y1 : Addr) (h0 : Heap) (n0 : Nat) (v : Option Value) (h : Heap) (L : List Loc) : Prop := ∃ i, ∃ q, v = some (.ref i) ∧ Fr n0 L ∧ Keep h0 h [] ∧ n0 ≤ i ∧ h0.size ≤ i ∧ Exa Z h i "com/example/holdfast/holdfast/LockInfo" ∧ Fld Z h i "com/example/holdfast/holdfast/LockInfo" "name" "Ljava/lang/String;" (.ref x) ∧ Fld Z h i "com/example/holdfast/holdfast/LockInfo" "held" "Z" (.int (1 : Int32)) ∧ Fld Z h i "com/example/holdfast/holdfast/LockInfo" "holder" "Ljava/lang/String;" kv ∧ Fld Z h i "com/example/holdfast/holdfast/LockInfo" "remainingLeaseMillis" "J" (.long rm) ∧ Fld Z h i "com/example/holdfast/holdfast/LockInfo" "fencingToken" "J" (.long tk) ∧ Fld Z h i "com/example/holdfast/holdfast/LockInfo" "readers" "Ljava/util/List;" (.ref q) ∧ n0 ≤ q ∧ h0.size ≤ q ∧ Exa Z h q "java/util/ImmutableCollections$List12" ∧ Fld Z h q "java/util/ImmutableCollections$List12" "e0" "Ljava/lang/Object;" (.ref y0) ∧ Fld Z h q "java/util/ImmutableCollections$List12" "e1" "Ljava/lang/Object;" (.ref y1)
set_option maxRecDepth 65536 in
set_option maxHeartbeats 40000000 in
theorem rmHd2 (l : Launch) (Z : State) (a0 : Array Value) (hw : ∀ d ∈ tables_1, d.before a0 Z = true) (ws : List Jvm.Cond) (x : Addr) (kv : Value) (rm : Int64) (tk : Int64) (r : Addr) (d : Addr) (kd : ClassId) (mr : Addr) (em : Addr) (y0 : Addr) (y1 : Addr) (h0 : Heap) (n0 : Nat) (O0 : Old Z n0 h0) (hkv : kv.isRef = true) (F_ed : Fld Z h0 r "java/util/ArrayList" "elementData" "[Ljava/lang/Object;" (.ref d)) (F_sz : Fld Z h0 r "java/util/ArrayList" "size" "I" (.int (2 : Int32))) (E_r : Exa Z h0 r "java/util/ArrayList") (V_d : Arv Z h0 d kd (.object "java/lang/Object") (10 : Int32) [(.ref y0), (.ref y1), .null, .null, .null, .null, .null, .null, .null, .null] .null) (E_y0 : Exa Z h0 y0 "com/example/holdfast/holdfast/LockInfo$Reader") (E_y1 : Exa Z h0 y1 "com/example/holdfast/holdfast/LockInfo$Reader") (M : Mir Z "[Ljava/lang/Object;" mr) (E_d : Exa Z h0 d "[Ljava/lang/Object;") (S_em : Sta Z Z.heap "java/util/ImmutableCollections" "EMPTY" "Ljava/lang/Object;" (.ref em)) :
    MetFree l (⟨"com/example/holdfast/holdfast/LockInfo", "held", "(Ljava/lang/String;Ljava/lang/String;JJLjava/util/List;)Lcom/example/holdfast/holdfast/LockInfo;"⟩ : MethodName) (head1 (Jvm.Cond.code (⟨"com/example/holdfast/holdfast/LockInfo", "held", "(Ljava/lang/String;Ljava/lang/String;JJLjava/util/List;)Lcom/example/holdfast/holdfast/LockInfo;"⟩ : MethodName) prog_10_method_4_code 7 (some (.object "com/example/holdfast/holdfast/LockInfo")) :: ws) ({ frames := 9, cells := 3, slots := 10, locals := 148 } : Room)) (fun ar' U => ar' = #[(.ref x), kv, (.long rm), (.long tk), (.ref r)] ∧ Z.Warmed39 U.vm ∧ U.heap = h0) (fun _ _ _ _ _ => True) (fun _ U o U' => ∃ v L, o = .returned v ∧ (Q_rmHd2 Z x kv rm tk r d kd mr em y0 y1 h0 n0) v U'.heap L ∧ FrameEnd U o U' L ({ frames := 9, cells := 3, slots := 10, locals := 148 } : Room).cells ({ frames := 9, cells := 3, slots := 10, locals := 148 } : Room).slots) := by
  refine MetFree.of_bodySF (plainFor_of_name pn_com_example_holdfast_holdfast_LockInfo) hisR ?_
  intro p e s m args below meth c s₁ Bd hml0 hP hK
  obtain ⟨rfl, hZ, hh⟩ := hP
  have hx := Bd.exec
  have hby := Bd.bytes
  have hlk := BodyLoose.notSynchronized Bd
  have hml : c.maxLocals = 7 := hml0
  have hown : s.vm.findClass "com/example/holdfast/holdfast/LockInfo" = some m.cls := findClass_of_methodNamed Bd.named
  have hnm := (name_of_methodNamed Bd.named Bd.method).1
  have X0 : Stand p l e ({ frames := 9, cells := 3, slots := 10, locals := 148 } : Room) s m #[(.ref x), kv, (.long rm), (.long tk), (.ref r)] below meth c s₁ [] 0 0 := Stand.of_body Bd
  have e0 : s₁.heap = h0 := by rw [← hh, Bd.state]; rfl
  have N0 := Fr.nil n0
  have Z0 : n0 ≤ h0.size := O0.1 ▸ O0.2.1
  show OEnds p e below s ({ frames := 9, cells := 3, slots := 10, locals := 148 } : Room).cells ({ frames := 9, cells := 3, slots := 10, locals := 148 } : Room).slots (Q_rmHd2 Z x kv rm tk r d kd mr em y0 y1 h0 n0) (s₁.setTop (entryFrame m #[(.ref x), kv, (.long rm), (.long tk), (.ref r)] 7))
  refine OEnds.via (fun _ k_ => castTop (show entryFrame m #[(.ref x), kv, (.long rm), (.long tk), (.ref r)] 7 = (mkF m 0 #[.val (.ref x), .val kv, .val (.long rm), .second, .val (.long tk), .second, .val (.ref r)] []) by rcases ref_cases hkv with rfl | ⟨_, rfl⟩ <;> rfl) k_) ?_
  have Od := O0
  have Kp := Keep.refl h0 []
  show OEnds p e below s _ _ _ (s₁.setTop (mkF m 0 #[.val (.ref x), .val kv, .val (.long rm), .second, .val (.long tk), .second, .val (.ref r)] []))
  obtain ⟨T1, h1, X1, e1, E1, A1, D1, -, st1⟩ := newO X0 hx hZ hown (hw _ (List.mem_of_getElem? (i := 100) rfl)) (hw _ (List.mem_of_getElem? (i := 101) rfl)) (hw _ (List.mem_of_getElem? (i := 98) rfl)) e0 (g := (mkF m 0 #[.val (.ref x), .val kv, .val (.long rm), .second, .val (.long tk), .second, .val (.ref r)] [])) rfl (hb hby d16_0) (by decide) (by decide)
  obtain ⟨b1, g1⟩ : ∃ z, z = h0.size := ⟨_, rfl⟩
  have ne_r_b1 : r ≠ b1 := Nat.ne_of_lt (Nat.lt_of_lt_of_le F_sz.lt (Nat.le_of_eq g1.symm))
  have ne_d_b1 : d ≠ b1 := Nat.ne_of_lt (Nat.lt_of_lt_of_le V_d.lt (Nat.le_of_eq g1.symm))
  have ne_y0_b1 : y0 ≠ b1 := Nat.ne_of_lt (Nat.lt_of_lt_of_le E_y0.lt (Nat.le_of_eq g1.symm))
  have ne_y1_b1 : y1 ≠ b1 := Nat.ne_of_lt (Nat.lt_of_lt_of_le E_y1.lt (Nat.le_of_eq g1.symm))
  have ge_b1 : n0 ≤ b1 := Nat.le_trans (Od.1 ▸ Od.2.1) (Nat.le_of_eq g1.symm)
  have sz_b1 : h0.size ≤ b1 := Nat.le_trans Kp.1 (Nat.le_of_eq g1.symm)
  rw [← g1] at A1 D1 st1
  replace Od := Od.ext E1
  replace Kp := Kp.ext E1
  replace F_sz := Fld.ext E1 F_sz
  replace E_r := Exa.ext E1 E_r
  replace F_ed := Fld.ext E1 F_ed
  replace V_d := V_d.ext E1
  replace E_d := Exa.ext E1 E_d
  replace E_y0 := Exa.ext E1 E_y0
  replace E_y1 := Exa.ext E1 E_y1
  have E_b1 : Exa Z h1 b1 "com/example/holdfast/holdfast/LockInfo" := A1
  have F_name_b1 : Fld Z h1 b1 "com/example/holdfast/holdfast/LockInfo" "name" "Ljava/lang/String;" .null := D1 (Or.inr (hw _ (List.mem_of_getElem? (i := 107) rfl))) (ty := (.object "java/lang/String")) (by decide)
  have F_held_b1 : Fld Z h1 b1 "com/example/holdfast/holdfast/LockInfo" "held" "Z" (.int (0 : Int32)) := D1 (Or.inr (hw _ (List.mem_of_getElem? (i := 109) rfl))) (ty := .boolean) (by decide)
  have F_holder_b1 : Fld Z h1 b1 "com/example/holdfast/holdfast/LockInfo" "holder" "Ljava/lang/String;" .null := D1 (Or.inr (hw _ (List.mem_of_getElem? (i := 111) rfl))) (ty := (.object "java/lang/String")) (by decide)
  have F_remainingLeaseMillis_b1 : Fld Z h1 b1 "com/example/holdfast/holdfast/LockInfo" "remainingLeaseMillis" "J" (.long (0 : Int64)) := D1 (Or.inr (hw _ (List.mem_of_getElem? (i := 113) rfl))) (ty := .long) (by decide)
  have F_fencingToken_b1 : Fld Z h1 b1 "com/example/holdfast/holdfast/LockInfo" "fencingToken" "J" (.long (0 : Int64)) := D1 (Or.inr (hw _ (List.mem_of_getElem? (i := 115) rfl))) (ty := .long) (by decide)
  have F_readers_b1 : Fld Z h1 b1 "com/example/holdfast/holdfast/LockInfo" "readers" "Ljava/util/List;" .null := D1 (Or.inr (hw _ (List.mem_of_getElem? (i := 203) rfl))) (ty := (.object "java/util/List")) (by decide)
  refine OEnds.via (fun _ k_ => st1 _ k_) ?_
  show OEnds p e below s _ _ _ (T1.setTop (mkF m 3 #[.val (.ref x), .val kv, .val (.long rm), .second, .val (.long tk), .second, .val (.ref r)] [(.ref b1)]))
  refine OEnds.via (fun _ k_ => XS.dup X1.here hx rfl (hb hby d16_3) rfl rfl k_) ?_
  show OEnds p e below s _ _ _ (T1.setTop (mkF m 4 #[.val (.ref x), .val kv, .val (.long rm), .second, .val (.long tk), .second, .val (.ref r)] [(.ref b1), (.ref b1)]))
  refine OEnds.via (fun _ k_ => XS.aloadN X1.here hx rfl (hb hby d16_4) rfl rfl k_) ?_
  show OEnds p e below s _ _ _ (T1.setTop (mkF m 5 #[.val (.ref x), .val kv, .val (.long rm), .second, .val (.long tk), .second, .val (.ref r)] [(.ref x), (.ref b1), (.ref b1)]))
  refine OEnds.via (fun _ k_ => XS.iconst X1.here hx rfl (hb hby d16_5) k_) ?_
  show OEnds p e below s _ _ _ (T1.setTop (mkF m 6 #[.val (.ref x), .val kv, .val (.long rm), .second, .val (.long tk), .second, .val (.ref r)] [(.int (1 : Int32)), (.ref x), (.ref b1), (.ref b1)]))
  refine OEnds.via (fun _ k_ => XS.aloadN X1.here hx rfl (hb hby d16_6) rfl hkv k_) ?_
  show OEnds p e below s _ _ _ (T1.setTop (mkF m 7 #[.val (.ref x), .val kv, .val (.long rm), .second, .val (.long tk), .second, .val (.ref r)] [kv, (.int (1 : Int32)), (.ref x), (.ref b1), (.ref b1)]))
  refine OEnds.via (fun _ k_ => XS.lloadN X1.here hx rfl (hb hby d16_7) rfl k_) ?_
  show OEnds p e below s _ _ _ (T1.setTop (mkF m 8 #[.val (.ref x), .val kv, .val (.long rm), .second, .val (.long tk), .second, .val (.ref r)] [(.long rm), kv, (.int (1 : Int32)), (.ref x), (.ref b1), (.ref b1)]))
  refine OEnds.via (fun _ k_ => XS.lload X1.here hx rfl (hb hby d16_8) rfl k_) ?_
  show OEnds p e below s _ _ _ (T1.setTop (mkF m 10 #[.val (.ref x), .val kv, .val (.long rm), .second, .val (.long tk), .second, .val (.ref r)] [(.long tk), (.long rm), kv, (.int (1 : Int32)), (.ref x), (.ref b1), (.ref b1)]))
  refine OEnds.via (fun _ k_ => XS.aload X1.here hx rfl (hb hby d16_10) rfl rfl k_) ?_
  show OEnds p e below s _ _ _ (T1.setTop (mkF m 12 #[.val (.ref x), .val kv, .val (.long rm), .second, .val (.long tk), .second, .val (.ref r)] [(.ref r), (.long tk), (.long rm), kv, (.int (1 : Int32)), (.ref x), (.ref b1), (.ref b1)]))
  obtain ⟨_, _, ⟨T2, L2, k2, n2⟩, -, X2, ⟨Lc2, hQ2, l2, y2, z2⟩, st2⟩ := X1.specialBack hx (y := (⟨"com/example/holdfast/holdfast/LockInfo", "<init>", "(Ljava/lang/String;ZLjava/lang/String;JJLjava/util/List;)V"⟩ : MethodName)) rfl hown (mvT hZ (hw _ (List.mem_of_getElem? (i := 102) rfl))) (mvT hZ (hw _ (List.mem_of_getElem? (i := 103) rfl))) (mvT hZ (hw _ (List.mem_of_getElem? (i := 104) rfl))) (by decide) (backOf (W := 1) (rmLI2 l Z a0 hw [] b1 x kv rm tk r d kd mr em y0 y1 h1 n0 Od F_name_b1 F_held_b1 F_holder_b1 F_remainingLeaseMillis_b1 F_fencingToken_b1 F_readers_b1 E_b1 ge_b1 hkv ne_r_b1 (Ne.symm ne_d_b1) F_ed F_sz E_r V_d E_y0 E_y1 M E_d S_em) hZ (hw _ (List.mem_of_getElem? (i := 104) rfl)) (hw _ (List.mem_of_getElem? (i := 98) rfl)) (by decide) (by decide)) (g := (mkF m 12 #[.val (.ref x), .val kv, .val (.long rm), .second, .val (.long tk), .second, .val (.ref r)] [(.ref r), (.long tk), (.long rm), kv, (.int (1 : Int32)), (.ref x), (.ref b1), (.ref b1)])) rfl (by rw [hml]; rfl) (Steps.refl _) (a := b1) (argsL := [(.ref x), (.int (1 : Int32)), kv, (.long rm), (.long tk), (.ref r)]) (rest := [(.ref b1)]) (lenOf pd_28Ljava2flang2fString3bZLjava2flang2fString3bJJLjava2futil2fList3b29V rfl) rfl (by show 2 * 0 + _ ≤ _; exact Nat.le_of_eq rfl) (hb hby d16_12) (fun _ _ => ⟨rfl, e1, Nat.le_of_ble_eq_true rfl, Nat.le_of_ble_eq_true rfl⟩)
  dsimp only [Pt.U, Pt.locs, Pt.cells, Pt.slots] at X2 l2 y2 z2 st2 hQ2
  subst l2 y2 z2
  obtain ⟨q, rfl, N2q, K2, -, G_name, G_held, G_holder, G_remainingLeaseMillis, G_fencingToken, G_readers, ge_q, szq, E_q, G_e0, G_e1⟩ := hQ2
  have N2 := Fr.app N0 N2q
  have sz_q : h0.size ≤ q := Nat.le_trans Kp.1 szq
  replace Od := Od.keep K2 (allS ge_b1 all0)
  replace Kp := Kp.trans K2 (allS (Or.inr sz_b1) all0)
  replace F_sz := F_sz.keep K2 (ninS ne_r_b1 nin0)
  replace E_r := E_r.keep K2
  replace F_ed := F_ed.keep K2 (ninS ne_r_b1 nin0)
  replace V_d := V_d.keep K2 (ninS ne_d_b1 nin0)
  replace E_d := E_d.keep K2
  replace E_y0 := E_y0.keep K2
  replace E_y1 := E_y1.keep K2
  replace E_b1 := E_b1.keep K2
  refine OEnds.via (fun _ k_ => st2.trans k_) ?_
  show OEnds p e below s _ _ _ (T2.setTop (mkF m 15 #[.val (.ref x), .val kv, .val (.long rm), .second, .val (.long tk), .second, .val (.ref r)] [(.ref b1)]))
  refine OEnds.retR X2 hx hlk Bd.returns rfl rfl (hb hby d16_15) ?_ (by decide) (by decide)
  exact ⟨_, _, rfl, N2, Kp, ge_b1, sz_b1, E_b1, G_name, G_held, G_holder, G_remainingLeaseMillis, G_fencingToken, G_readers, ge_q, sz_q, E_q, G_e0, G_e1⟩
theorem d30_0 : decode prog_10_method_5_code 0 = .ok (.aload_n 0, 1) := by decide +kernel
theorem d30_1 : decode prog_10_method_5_code 1 = .ok (.getfield 7, 3) := by decide +kernel
theorem d30_4 : decode prog_10_method_5_code 4 = .ok (.areturn, 1) := by decide +kernel
set_option maxRecDepth 65536 in
set_option maxHeartbeats 40000000 in
theorem rm_name (l : Launch) (Z : State) (a0 : Array Value) (hw : ∀ d ∈ tables_1, d.before a0 Z = true) (ws : List Jvm.Cond) (r : Addr) (x : Addr) (h0 : Heap) (n0 : Nat) (O0 : Old Z n0 h0) (F : Fld Z h0 r "com/example/holdfast/holdfast/LockInfo" "name" "Ljava/lang/String;" (.ref x)) :
    MetFree l (⟨"com/example/holdfast/holdfast/LockInfo", "name", "()Ljava/lang/String;"⟩ : MethodName) (head1 (Jvm.Cond.code (⟨"com/example/holdfast/holdfast/LockInfo", "name", "()Ljava/lang/String;"⟩ : MethodName) prog_10_method_5_code 1 (some (.object "java/lang/String")) :: ws) ({ frames := 0, cells := 0, slots := 0, locals := 0 } : Room)) (fun ar' U => ar' = #[(.ref r)] ∧ Z.Warmed39 U.vm ∧ U.heap = h0) (fun _ _ _ _ _ => True) (fun _ U o U' => ∃ v L, o = .returned v ∧ (QA (some (.ref x)) h0 n0) v U'.heap L ∧ FrameEnd U o U' L ({ frames := 0, cells := 0, slots := 0, locals := 0 } : Room).cells ({ frames := 0, cells := 0, slots := 0, locals := 0 } : Room).slots) := by
  refine MetFree.of_bodySF (plainFor_of_name pn_com_example_holdfast_holdfast_LockInfo) hisR ?_
  intro p e s m args below meth c s₁ Bd hml0 hP hK
  obtain ⟨rfl, hZ, hh⟩ := hP
  have hx := Bd.exec
  have hby := Bd.bytes
  have hlk := BodyLoose.notSynchronized Bd
  have hml : c.maxLocals = 1 := hml0
  have hown : s.vm.findClass "com/example/holdfast/holdfast/LockInfo" = some m.cls := findClass_of_methodNamed Bd.named
  have hnm := (name_of_methodNamed Bd.named Bd.method).1
  have X0 : Stand p l e ({ frames := 0, cells := 0, slots := 0, locals := 0 } : Room) s m #[(.ref r)] below meth c s₁ [] 0 0 := Stand.of_body Bd
  have e0 : s₁.heap = h0 := by rw [← hh, Bd.state]; rfl
  have N0 := Fr.nil n0
  have Z0 : n0 ≤ h0.size := O0.1 ▸ O0.2.1
  show OEnds p e below s ({ frames := 0, cells := 0, slots := 0, locals := 0 } : Room).cells ({ frames := 0, cells := 0, slots := 0, locals := 0 } : Room).slots (QA (some (.ref x)) h0 n0) (s₁.setTop (entryFrame m #[(.ref r)] 1))
  refine OEnds.via (fun _ k_ => castTop (show entryFrame m #[(.ref r)] 1 = (mkF m 0 #[.val (.ref r)] []) by first | (simp [entryFrame, mkF, argsToLocals, Value.category, maxLocals]; done) | rfl) k_) ?_
  show OEnds p e below s _ _ _ (s₁.setTop (mkF m 0 #[.val (.ref r)] []))
  refine OEnds.via (fun _ k_ => XS.aloadN X0.here hx rfl (hb hby d30_0) rfl rfl k_) ?_
  show OEnds p e below s _ _ _ (s₁.setTop (mkF m 1 #[.val (.ref r)] [(.ref r)]))
  obtain ⟨T1, X1, e1, st1⟩ := getF X0 hx hZ hown (host := "") (Or.inl (hw _ (List.mem_of_getElem? (i := 106) rfl))) Via.refl e0 F (g := (mkF m 1 #[.val (.ref r)] [(.ref r)])) rfl rfl (hb hby d30_1)
  refine OEnds.via (fun _ k_ => st1 _ k_) ?_
  show OEnds p e below s _ _ _ (T1.setTop (mkF m 4 #[.val (.ref r)] [(.ref x)]))
  refine OEnds.retR X1 hx hlk Bd.returns rfl rfl (hb hby d30_4) ?_ (by decide) (by decide)
  exact ⟨rfl, N0, e1⟩
theorem d32_0 : decode prog_10_method_6_code 0 = .ok (.aload_n 0, 1) := by decide +kernel
theorem d32_1 : decode prog_10_method_6_code 1 = .ok (.getfield 13, 3) := by decide +kernel
theorem d32_4 : decode prog_10_method_6_code 4 = .ok (.ireturn, 1) := by decide +kernel
set_option maxRecDepth 65536 in
set_option maxHeartbeats 40000000 in
theorem rm_held (l : Launch) (Z : State) (a0 : Array Value) (hw : ∀ d ∈ tables_1, d.before a0 Z = true) (ws : List Jvm.Cond) (r : Addr) (h0 : Heap) (n0 : Nat) (O0 : Old Z n0 h0) (F : Fld Z h0 r "com/example/holdfast/holdfast/LockInfo" "held" "Z" (.int (1 : Int32))) :
    MetFree l (⟨"com/example/holdfast/holdfast/LockInfo", "held", "()Z"⟩ : MethodName) (head1 (Jvm.Cond.code (⟨"com/example/holdfast/holdfast/LockInfo", "held", "()Z"⟩ : MethodName) prog_10_method_6_code 1 (some .boolean) :: ws) ({ frames := 0, cells := 0, slots := 0, locals := 0 } : Room)) (fun ar' U => ar' = #[(.ref r)] ∧ Z.Warmed39 U.vm ∧ U.heap = h0) (fun _ _ _ _ _ => True) (fun _ U o U' => ∃ v L, o = .returned v ∧ (QA (some (.int (1 : Int32))) h0 n0) v U'.heap L ∧ FrameEnd U o U' L ({ frames := 0, cells := 0, slots := 0, locals := 0 } : Room).cells ({ frames := 0, cells := 0, slots := 0, locals := 0 } : Room).slots) := by
  refine MetFree.of_bodySF (plainFor_of_name pn_com_example_holdfast_holdfast_LockInfo) hisR ?_
  intro p e s m args below meth c s₁ Bd hml0 hP hK
  obtain ⟨rfl, hZ, hh⟩ := hP
  have hx := Bd.exec
  have hby := Bd.bytes
  have hlk := BodyLoose.notSynchronized Bd
  have hml : c.maxLocals = 1 := hml0
  have hown : s.vm.findClass "com/example/holdfast/holdfast/LockInfo" = some m.cls := findClass_of_methodNamed Bd.named
  have hnm := (name_of_methodNamed Bd.named Bd.method).1
  have X0 : Stand p l e ({ frames := 0, cells := 0, slots := 0, locals := 0 } : Room) s m #[(.ref r)] below meth c s₁ [] 0 0 := Stand.of_body Bd
  have e0 : s₁.heap = h0 := by rw [← hh, Bd.state]; rfl
  have N0 := Fr.nil n0
  have Z0 : n0 ≤ h0.size := O0.1 ▸ O0.2.1
  show OEnds p e below s ({ frames := 0, cells := 0, slots := 0, locals := 0 } : Room).cells ({ frames := 0, cells := 0, slots := 0, locals := 0 } : Room).slots (QA (some (.int (1 : Int32))) h0 n0) (s₁.setTop (entryFrame m #[(.ref r)] 1))
  refine OEnds.via (fun _ k_ => castTop (show entryFrame m #[(.ref r)] 1 = (mkF m 0 #[.val (.ref r)] []) by first | (simp [entryFrame, mkF, argsToLocals, Value.category, maxLocals]; done) | rfl) k_) ?_
  show OEnds p e below s _ _ _ (s₁.setTop (mkF m 0 #[.val (.ref r)] []))
  refine OEnds.via (fun _ k_ => XS.aloadN X0.here hx rfl (hb hby d32_0) rfl rfl k_) ?_
  show OEnds p e below s _ _ _ (s₁.setTop (mkF m 1 #[.val (.ref r)] [(.ref r)]))
  obtain ⟨T1, X1, e1, st1⟩ := getF X0 hx hZ hown (host := "") (Or.inl (hw _ (List.mem_of_getElem? (i := 108) rfl))) Via.refl e0 F (g := (mkF m 1 #[.val (.ref r)] [(.ref r)])) rfl rfl (hb hby d32_1)
  refine OEnds.via (fun _ k_ => st1 _ k_) ?_
  show OEnds p e below s _ _ _ (T1.setTop (mkF m 4 #[.val (.ref r)] [(.int (1 : Int32))]))
  refine OEnds.retN X1 hx hlk (t := .boolean) Bd.returns (by simp) (hb hby d32_4) ?_ (by decide) (by decide)
  exact ⟨rfl, N0, e1⟩
theorem d33_0 : decode prog_10_method_7_code 0 = .ok (.aload_n 0, 1) := by decide +kernel
theorem d33_1 : decode prog_10_method_7_code 1 = .ok (.getfield 17, 3) := by decide +kernel
theorem d33_4 : decode prog_10_method_7_code 4 = .ok (.ifnull 7, 3) := by decide +kernel
theorem d33_7 : decode prog_10_method_7_code 7 = .ok (.iconst 1, 1) := by decide +kernel
theorem d33_8 : decode prog_10_method_7_code 8 = .ok (.goto 4, 3) := by decide +kernel
theorem d33_11 : decode prog_10_method_7_code 11 = .ok (.iconst 0, 1) := by decide +kernel
theorem d33_12 : decode prog_10_method_7_code 12 = .ok (.ireturn, 1) := by decide +kernel
set_option maxRecDepth 65536 in
set_option maxHeartbeats 40000000 in
theorem rm_aloneN (l : Launch) (Z : State) (a0 : Array Value) (hw : ∀ d ∈ tables_1, d.before a0 Z = true) (ws : List Jvm.Cond) (r : Addr) (h0 : Heap) (n0 : Nat) (O0 : Old Z n0 h0) (F : Fld Z h0 r "com/example/holdfast/holdfast/LockInfo" "holder" "Ljava/lang/String;" .null) :
    MetFree l (⟨"com/example/holdfast/holdfast/LockInfo", "heldAlone", "()Z"⟩ : MethodName) (head1 (Jvm.Cond.code (⟨"com/example/holdfast/holdfast/LockInfo", "heldAlone", "()Z"⟩ : MethodName) prog_10_method_7_code 1 (some .boolean) :: ws) ({ frames := 0, cells := 0, slots := 0, locals := 0 } : Room)) (fun ar' U => ar' = #[(.ref r)] ∧ Z.Warmed39 U.vm ∧ U.heap = h0) (fun _ _ _ _ _ => True) (fun _ U o U' => ∃ v L, o = .returned v ∧ (QA (some (.int (0 : Int32))) h0 n0) v U'.heap L ∧ FrameEnd U o U' L ({ frames := 0, cells := 0, slots := 0, locals := 0 } : Room).cells ({ frames := 0, cells := 0, slots := 0, locals := 0 } : Room).slots) := by
  refine MetFree.of_bodySF (plainFor_of_name pn_com_example_holdfast_holdfast_LockInfo) hisR ?_
  intro p e s m args below meth c s₁ Bd hml0 hP hK
  obtain ⟨rfl, hZ, hh⟩ := hP
  have hx := Bd.exec
  have hby := Bd.bytes
  have hlk := BodyLoose.notSynchronized Bd
  have hml : c.maxLocals = 1 := hml0
  have hown : s.vm.findClass "com/example/holdfast/holdfast/LockInfo" = some m.cls := findClass_of_methodNamed Bd.named
  have hnm := (name_of_methodNamed Bd.named Bd.method).1
  have X0 : Stand p l e ({ frames := 0, cells := 0, slots := 0, locals := 0 } : Room) s m #[(.ref r)] below meth c s₁ [] 0 0 := Stand.of_body Bd
  have e0 : s₁.heap = h0 := by rw [← hh, Bd.state]; rfl
  have N0 := Fr.nil n0
  have Z0 : n0 ≤ h0.size := O0.1 ▸ O0.2.1
  show OEnds p e below s ({ frames := 0, cells := 0, slots := 0, locals := 0 } : Room).cells ({ frames := 0, cells := 0, slots := 0, locals := 0 } : Room).slots (QA (some (.int (0 : Int32))) h0 n0) (s₁.setTop (entryFrame m #[(.ref r)] 1))
  refine OEnds.via (fun _ k_ => castTop (show entryFrame m #[(.ref r)] 1 = (mkF m 0 #[.val (.ref r)] []) by first | (simp [entryFrame, mkF, argsToLocals, Value.category, maxLocals]; done) | rfl) k_) ?_
  show OEnds p e below s _ _ _ (s₁.setTop (mkF m 0 #[.val (.ref r)] []))
  refine OEnds.via (fun _ k_ => XS.aloadN X0.here hx rfl (hb hby d33_0) rfl rfl k_) ?_
  show OEnds p e below s _ _ _ (s₁.setTop (mkF m 1 #[.val (.ref r)] [(.ref r)]))
  obtain ⟨T1, X1, e1, st1⟩ := getF X0 hx hZ hown (host := "") (Or.inl (hw _ (List.mem_of_getElem? (i := 110) rfl))) Via.refl e0 F (g := (mkF m 1 #[.val (.ref r)] [(.ref r)])) rfl rfl (hb hby d33_1)
  refine OEnds.via (fun _ k_ => st1 _ k_) ?_
  show OEnds p e below s _ _ _ (T1.setTop (mkF m 4 #[.val (.ref r)] [.null]))
  refine OEnds.via (fun _ k_ => XS.ifnullYes X1.here hx rfl (pc0 := 4) (pc' := 11) rfl (hb hby d33_4) rfl (by decide) (by decide) k_) ?_
  show OEnds p e below s _ _ _ (T1.setTop (mkF m 11 #[.val (.ref r)] []))
  refine OEnds.via (fun _ k_ => XS.iconst X1.here hx rfl (hb hby d33_11) k_) ?_
  show OEnds p e below s _ _ _ (T1.setTop (mkF m 12 #[.val (.ref r)] [(.int (0 : Int32))]))
  refine OEnds.retN X1 hx hlk (t := .boolean) Bd.returns (by simp) (hb hby d33_12) ?_ (by decide) (by decide)
  exact ⟨rfl, N0, e1⟩
set_option maxRecDepth 65536 in
set_option maxHeartbeats 40000000 in
theorem rm_aloneY (l : Launch) (Z : State) (a0 : Array Value) (hw : ∀ d ∈ tables_1, d.before a0 Z = true) (ws : List Jvm.Cond) (r : Addr) (x : Addr) (h0 : Heap) (n0 : Nat) (O0 : Old Z n0 h0) (F : Fld Z h0 r "com/example/holdfast/holdfast/LockInfo" "holder" "Ljava/lang/String;" (.ref x)) :
    MetFree l (⟨"com/example/holdfast/holdfast/LockInfo", "heldAlone", "()Z"⟩ : MethodName) (head1 (Jvm.Cond.code (⟨"com/example/holdfast/holdfast/LockInfo", "heldAlone", "()Z"⟩ : MethodName) prog_10_method_7_code 1 (some .boolean) :: ws) ({ frames := 0, cells := 0, slots := 0, locals := 0 } : Room)) (fun ar' U => ar' = #[(.ref r)] ∧ Z.Warmed39 U.vm ∧ U.heap = h0) (fun _ _ _ _ _ => True) (fun _ U o U' => ∃ v L, o = .returned v ∧ (QA (some (.int (1 : Int32))) h0 n0) v U'.heap L ∧ FrameEnd U o U' L ({ frames := 0, cells := 0, slots := 0, locals := 0 } : Room).cells ({ frames := 0, cells := 0, slots := 0, locals := 0 } : Room).slots) := by
  refine MetFree.of_bodySF (plainFor_of_name pn_com_example_holdfast_holdfast_LockInfo) hisR ?_
  intro p e s m args below meth c s₁ Bd hml0 hP hK
  obtain ⟨rfl, hZ, hh⟩ := hP
  have hx := Bd.exec
  have hby := Bd.bytes
  have hlk := BodyLoose.notSynchronized Bd
  have hml : c.maxLocals = 1 := hml0
  have hown : s.vm.findClass "com/example/holdfast/holdfast/LockInfo" = some m.cls := findClass_of_methodNamed Bd.named
  have hnm := (name_of_methodNamed Bd.named Bd.method).1
  have X0 : Stand p l e ({ frames := 0, cells := 0, slots := 0, locals := 0 } : Room) s m #[(.ref r)] below meth c s₁ [] 0 0 := Stand.of_body Bd
  have e0 : s₁.heap = h0 := by rw [← hh, Bd.state]; rfl
  have N0 := Fr.nil n0
  have Z0 : n0 ≤ h0.size := O0.1 ▸ O0.2.1
  show OEnds p e below s ({ frames := 0, cells := 0, slots := 0, locals := 0 } : Room).cells ({ frames := 0, cells := 0, slots := 0, locals := 0 } : Room).slots (QA (some (.int (1 : Int32))) h0 n0) (s₁.setTop (entryFrame m #[(.ref r)] 1))
  refine OEnds.via (fun _ k_ => castTop (show entryFrame m #[(.ref r)] 1 = (mkF m 0 #[.val (.ref r)] []) by first | (simp [entryFrame, mkF, argsToLocals, Value.category, maxLocals]; done) | rfl) k_) ?_
  show OEnds p e below s _ _ _ (s₁.setTop (mkF m 0 #[.val (.ref r)] []))
  refine OEnds.via (fun _ k_ => XS.aloadN X0.here hx rfl (hb hby d33_0) rfl rfl k_) ?_
  show OEnds p e below s _ _ _ (s₁.setTop (mkF m 1 #[.val (.ref r)] [(.ref r)]))
  obtain ⟨T1, X1, e1, st1⟩ := getF X0 hx hZ hown (host := "") (Or.inl (hw _ (List.mem_of_getElem? (i := 110) rfl))) Via.refl e0 F (g := (mkF m 1 #[.val (.ref r)] [(.ref r)])) rfl rfl (hb hby d33_1)
  refine OEnds.via (fun _ k_ => st1 _ k_) ?_
  show OEnds p e below s _ _ _ (T1.setTop (mkF m 4 #[.val (.ref r)] [(.ref x)]))
  refine OEnds.via (fun _ k_ => XS.ifnullNo X1.here hx rfl (hb hby d33_4) rfl k_) ?_
  show OEnds p e below s _ _ _ (T1.setTop (mkF m 7 #[.val (.ref r)] []))
  refine OEnds.via (fun _ k_ => XS.iconst X1.here hx rfl (hb hby d33_7) k_) ?_
  show OEnds p e below s _ _ _ (T1.setTop (mkF m 8 #[.val (.ref r)] [(.int (1 : Int32))]))
  refine OEnds.via (fun _ k_ => XS.goto X1.here hx rfl (pc0 := 8) (pc' := 12) rfl (hb hby d33_8) (by decide) (by decide) k_) ?_
  show OEnds p e below s _ _ _ (T1.setTop (mkF m 12 #[.val (.ref r)] [(.int (1 : Int32))]))
  refine OEnds.retN X1 hx hlk (t := .boolean) Bd.returns (by simp) (hb hby d33_12) ?_ (by decide) (by decide)
  exact ⟨rfl, N0, e1⟩
theorem d35_0 : decode prog_10_method_12_code 0 = .ok (.aload_n 0, 1) := by decide +kernel
theorem d35_1 : decode prog_10_method_12_code 1 = .ok (.invokevirtual 52, 3) := by decide +kernel
theorem d35_4 : decode prog_10_method_12_code 4 = .ok (.ifCond .ne 34, 3) := by decide +kernel
theorem d35_7 : decode prog_10_method_12_code 7 = .ok (.new 56, 3) := by decide +kernel
theorem d35_10 : decode prog_10_method_12_code 10 = .ok (.dup, 1) := by decide +kernel
theorem d35_11 : decode prog_10_method_12_code 11 = .ok (.aload_n 0, 1) := by decide +kernel
theorem d35_12 : decode prog_10_method_12_code 12 = .ok (.getfield 7, 3) := by decide +kernel
theorem d35_15 : decode prog_10_method_12_code 15 = .ok (.aload_n 0, 1) := by decide +kernel
theorem d35_16 : decode prog_10_method_12_code 16 = .ok (.getfield 13, 3) := by decide +kernel
theorem d35_19 : decode prog_10_method_12_code 19 = .ok (.ifCond .eq 8, 3) := by decide +kernel
theorem d35_22 : decode prog_10_method_12_code 22 = .ok (.ldc 58, 2) := by decide +kernel
theorem d35_24 : decode prog_10_method_12_code 24 = .ok (.goto 5, 3) := by decide +kernel
theorem d35_27 : decode prog_10_method_12_code 27 = .ok (.ldc 60, 2) := by decide +kernel
theorem d35_29 : decode prog_10_method_12_code 29 = .ok (.invokedynamic 62, 5) := by decide +kernel
theorem d35_34 : decode prog_10_method_12_code 34 = .ok (.invokespecial 66, 3) := by decide +kernel
theorem d35_37 : decode prog_10_method_12_code 37 = .ok (.athrow, 1) := by decide +kernel
theorem d35_38 : decode prog_10_method_12_code 38 = .ok (.return_, 1) := by decide +kernel
set_option maxRecDepth 65536 in
set_option maxHeartbeats 40000000 in
theorem rm_check (l : Launch) (Z : State) (a0 : Array Value) (hw : ∀ d ∈ tables_1, d.before a0 Z = true) (ws : List Jvm.Cond) (r : Addr) (x : Addr) (h0 : Heap) (n0 : Nat) (O0 : Old Z n0 h0) (F : Fld Z h0 r "com/example/holdfast/holdfast/LockInfo" "holder" "Ljava/lang/String;" (.ref x)) (E_r : Exa Z h0 r "com/example/holdfast/holdfast/LockInfo") :
    MetFree l (⟨"com/example/holdfast/holdfast/LockInfo", "checkHeldAlone", "()V"⟩ : MethodName) (head1 (Jvm.Cond.code (⟨"com/example/holdfast/holdfast/LockInfo", "checkHeldAlone", "()V"⟩ : MethodName) prog_10_method_12_code 1 none :: ws) ({ frames := 1, cells := 0, slots := 0, locals := 14 } : Room)) (fun ar' U => ar' = #[(.ref r)] ∧ Z.Warmed39 U.vm ∧ U.heap = h0) (fun _ _ _ _ _ => True) (fun _ U o U' => ∃ v L, o = .returned v ∧ (QA none h0 n0) v U'.heap L ∧ FrameEnd U o U' L ({ frames := 1, cells := 0, slots := 0, locals := 14 } : Room).cells ({ frames := 1, cells := 0, slots := 0, locals := 14 } : Room).slots) := by
  refine MetFree.of_bodySF (plainFor_of_name pn_com_example_holdfast_holdfast_LockInfo) hisR ?_
  intro p e s m args below meth c s₁ Bd hml0 hP hK
  obtain ⟨rfl, hZ, hh⟩ := hP
  have hx := Bd.exec
  have hby := Bd.bytes
  have hlk := BodyLoose.notSynchronized Bd
  have hml : c.maxLocals = 1 := hml0
  have hown : s.vm.findClass "com/example/holdfast/holdfast/LockInfo" = some m.cls := findClass_of_methodNamed Bd.named
  have hnm := (name_of_methodNamed Bd.named Bd.method).1
  have X0 : Stand p l e ({ frames := 1, cells := 0, slots := 0, locals := 14 } : Room) s m #[(.ref r)] below meth c s₁ [] 0 0 := Stand.of_body Bd
  have e0 : s₁.heap = h0 := by rw [← hh, Bd.state]; rfl
  have N0 := Fr.nil n0
  have Z0 : n0 ≤ h0.size := O0.1 ▸ O0.2.1
  show OEnds p e below s ({ frames := 1, cells := 0, slots := 0, locals := 14 } : Room).cells ({ frames := 1, cells := 0, slots := 0, locals := 14 } : Room).slots (QA none h0 n0) (s₁.setTop (entryFrame m #[(.ref r)] 1))
  refine OEnds.via (fun _ k_ => castTop (show entryFrame m #[(.ref r)] 1 = (mkF m 0 #[.val (.ref r)] []) by first | (simp [entryFrame, mkF, argsToLocals, Value.category, maxLocals]; done) | rfl) k_) ?_
  show OEnds p e below s _ _ _ (s₁.setTop (mkF m 0 #[.val (.ref r)] []))
  refine OEnds.via (fun _ k_ => XS.aloadN X0.here hx rfl (hb hby d35_0) rfl rfl k_) ?_
  show OEnds p e below s _ _ _ (s₁.setTop (mkF m 1 #[.val (.ref r)] [(.ref r)]))
  obtain ⟨cq1, kq1, q1a, q1b, q1c⟩ := isOf hZ e0 E_r
  obtain ⟨_, _, ⟨T1, L1, k1, n1⟩, -, X1, ⟨Lc1, hQ1, l1, y1, z1⟩, st1⟩ := X0.virtualBack hx (y := (⟨"com/example/holdfast/holdfast/LockInfo", "heldAlone", "()Z"⟩ : MethodName)) (z := (⟨"com/example/holdfast/holdfast/LockInfo", "heldAlone", "()Z"⟩ : MethodName)) hown (mvT hZ (hw _ (List.mem_of_getElem? (i := 233) rfl))) (mvT hZ (hw _ (List.mem_of_getElem? (i := 220) rfl))) (notFace_of_selects (args := #[]) (mvT hZ (hw _ (List.mem_of_getElem? (i := 222) rfl)))) (mvT hZ (hw _ (List.mem_of_getElem? (i := 222) rfl))) (mvT hZ (hw _ (List.mem_of_getElem? (i := 221) rfl))) (by decide) (backOf (W := 0) (rm_aloneY l Z a0 hw [] r x h0 n0 O0 F) hZ (hw _ (List.mem_of_getElem? (i := 223) rfl)) (hw _ (List.mem_of_getElem? (i := 98) rfl)) (by decide) (by decide)) q1a q1c (g := (mkF m 1 #[.val (.ref r)] [(.ref r)])) rfl (by rw [hml]; rfl) (Steps.refl _) (argsL := []) (rest := []) (lenOf pd_2829Z rfl) rfl (by show 2 * 0 + _ ≤ _; exact Nat.le_of_eq rfl) (hb hby d35_1) (fun _ _ => ⟨rfl, e0, Nat.le_of_ble_eq_true rfl, Nat.le_of_ble_eq_true rfl⟩)
  dsimp only [Pt.U, Pt.locs, Pt.cells, Pt.slots] at X1 l1 y1 z1 st1 hQ1
  subst l1 y1 z1
  obtain ⟨rfl, N1q, e1⟩ := hQ1
  have N1 := Fr.app N0 N1q
  refine OEnds.via (fun _ k_ => st1.trans k_) ?_
  show OEnds p e below s _ _ _ (T1.setTop (mkF m 4 #[.val (.ref r)] [(.int (1 : Int32))]))
  refine OEnds.via (fun _ k_ => XS.ifYes X1.here hx rfl (pc0 := 4) (pc' := 38) rfl (hb hby d35_4) rfl ((if0 _ _).trans (feq (by decide : ¬ ((1 : Int32) = (0 : Int32)))).2) (by decide) (by decide) k_) ?_
  show OEnds p e below s _ _ _ (T1.setTop (mkF m 38 #[.val (.ref r)] []))
  refine OEnds.retV X1 hx hlk Bd.returns (hb hby d35_38) ?_ (by decide) (by decide)
  exact ⟨rfl, N1, e1⟩
theorem d34_0 : decode prog_10_method_8_code 0 = .ok (.aload_n 0, 1) := by decide +kernel
theorem d34_1 : decode prog_10_method_8_code 1 = .ok (.invokevirtual 49, 3) := by decide +kernel
theorem d34_4 : decode prog_10_method_8_code 4 = .ok (.aload_n 0, 1) := by decide +kernel
theorem d34_5 : decode prog_10_method_8_code 5 = .ok (.getfield 17, 3) := by decide +kernel
theorem d34_8 : decode prog_10_method_8_code 8 = .ok (.areturn, 1) := by decide +kernel
set_option maxRecDepth 65536 in
set_option maxHeartbeats 40000000 in
theorem rm_holder (l : Launch) (Z : State) (a0 : Array Value) (hw : ∀ d ∈ tables_1, d.before a0 Z = true) (ws : List Jvm.Cond) (r : Addr) (x : Addr) (h0 : Heap) (n0 : Nat) (O0 : Old Z n0 h0) (F : Fld Z h0 r "com/example/holdfast/holdfast/LockInfo" "holder" "Ljava/lang/String;" (.ref x)) (E_r : Exa Z h0 r "com/example/holdfast/holdfast/LockInfo") :
    MetFree l (⟨"com/example/holdfast/holdfast/LockInfo", "holder", "()Ljava/lang/String;"⟩ : MethodName) (head1 (Jvm.Cond.code (⟨"com/example/holdfast/holdfast/LockInfo", "holder", "()Ljava/lang/String;"⟩ : MethodName) prog_10_method_8_code 1 (some (.object "java/lang/String")) :: ws) ({ frames := 2, cells := 0, slots := 0, locals := 30 } : Room)) (fun ar' U => ar' = #[(.ref r)] ∧ Z.Warmed39 U.vm ∧ U.heap = h0) (fun _ _ _ _ _ => True) (fun _ U o U' => ∃ v L, o = .returned v ∧ (QA (some (.ref x)) h0 n0) v U'.heap L ∧ FrameEnd U o U' L ({ frames := 2, cells := 0, slots := 0, locals := 30 } : Room).cells ({ frames := 2, cells := 0, slots := 0, locals := 30 } : Room).slots) := by
  refine MetFree.of_bodySF (plainFor_of_name pn_com_example_holdfast_holdfast_LockInfo) hisR ?_
  intro p e s m args below meth c s₁ Bd hml0 hP hK
  obtain ⟨rfl, hZ, hh⟩ := hP
  have hx := Bd.exec
  have hby := Bd.bytes
  have hlk := BodyLoose.notSynchronized Bd
  have hml : c.maxLocals = 1 := hml0
  have hown : s.vm.findClass "com/example/holdfast/holdfast/LockInfo" = some m.cls := findClass_of_methodNamed Bd.named
  have hnm := (name_of_methodNamed Bd.named Bd.method).1
  have X0 : Stand p l e ({ frames := 2, cells := 0, slots := 0, locals := 30 } : Room) s m #[(.ref r)] below meth c s₁ [] 0 0 := Stand.of_body Bd
  have e0 : s₁.heap = h0 := by rw [← hh, Bd.state]; rfl
  have N0 := Fr.nil n0
  have Z0 : n0 ≤ h0.size := O0.1 ▸ O0.2.1
  show OEnds p e below s ({ frames := 2, cells := 0, slots := 0, locals := 30 } : Room).cells ({ frames := 2, cells := 0, slots := 0, locals := 30 } : Room).slots (QA (some (.ref x)) h0 n0) (s₁.setTop (entryFrame m #[(.ref r)] 1))
  refine OEnds.via (fun _ k_ => castTop (show entryFrame m #[(.ref r)] 1 = (mkF m 0 #[.val (.ref r)] []) by first | (simp [entryFrame, mkF, argsToLocals, Value.category, maxLocals]; done) | rfl) k_) ?_
  show OEnds p e below s _ _ _ (s₁.setTop (mkF m 0 #[.val (.ref r)] []))
  refine OEnds.via (fun _ k_ => XS.aloadN X0.here hx rfl (hb hby d34_0) rfl rfl k_) ?_
  show OEnds p e below s _ _ _ (s₁.setTop (mkF m 1 #[.val (.ref r)] [(.ref r)]))
  obtain ⟨cq1, q1, q1'⟩ := E_r.cell
  obtain ⟨_, _, ⟨T1, L1, k1, n1⟩, -, X1, ⟨Lc1, hQ1, l1, y1, z1⟩, st1⟩ := X0.privateBack hx (y := (⟨"com/example/holdfast/holdfast/LockInfo", "checkHeldAlone", "()V"⟩ : MethodName)) hown (mvT hZ (hw _ (List.mem_of_getElem? (i := 229) rfl))) (mvT hZ (hw _ (List.mem_of_getElem? (i := 230) rfl))) (mvT hZ (own_selp (hw _ (List.mem_of_getElem? (i := 231) rfl)) (hw _ (List.mem_of_getElem? (i := 230) rfl)) (hw _ (List.mem_of_getElem? (i := 101) rfl)) (by decide))) (Cond.privateMethod_at (mvP hZ (hw _ (List.mem_of_getElem? (i := 231) rfl)) (args := #[]))) (mvT hZ (hw _ (List.mem_of_getElem? (i := 232) rfl))) (by decide) (backOf (W := 0) (rm_check l Z a0 hw [] r x h0 n0 O0 F E_r) hZ (hw _ (List.mem_of_getElem? (i := 232) rfl)) (hw _ (List.mem_of_getElem? (i := 98) rfl)) (by decide) (by decide)) (g := (mkF m 1 #[.val (.ref r)] [(.ref r)])) rfl (by rw [hml]; rfl) (Steps.refl _) (a := r) (by rw [e0]; exact q1) q1' (argsL := []) (rest := []) (lenOf pd_2829V rfl) rfl (by show 2 * 0 + _ ≤ _; exact Nat.le_of_eq rfl) (hb hby d34_1) (fun _ _ => ⟨rfl, e0, Nat.le_of_ble_eq_true rfl, Nat.le_of_ble_eq_true rfl⟩)
  dsimp only [Pt.U, Pt.locs, Pt.cells, Pt.slots] at X1 l1 y1 z1 st1 hQ1
  subst l1 y1 z1
  obtain ⟨rfl, N1q, e1⟩ := hQ1
  have N1 := Fr.app N0 N1q
  refine OEnds.via (fun _ k_ => st1.trans k_) ?_
  show OEnds p e below s _ _ _ (T1.setTop (mkF m 4 #[.val (.ref r)] []))
  refine OEnds.via (fun _ k_ => XS.aloadN X1.here hx rfl (hb hby d34_4) rfl rfl k_) ?_
  show OEnds p e below s _ _ _ (T1.setTop (mkF m 5 #[.val (.ref r)] [(.ref r)]))
  obtain ⟨T2, X2, e2, st2⟩ := getF X1 hx hZ hown (host := "") (Or.inl (hw _ (List.mem_of_getElem? (i := 110) rfl))) Via.refl e1 F (g := (mkF m 5 #[.val (.ref r)] [(.ref r)])) rfl rfl (hb hby d34_5)
  refine OEnds.via (fun _ k_ => st2 _ k_) ?_
  show OEnds p e below s _ _ _ (T2.setTop (mkF m 8 #[.val (.ref r)] [(.ref x)]))
  refine OEnds.retR X2 hx hlk Bd.returns rfl rfl (hb hby d34_8) ?_ (by decide) (by decide)
  exact ⟨rfl, N1, e2⟩
theorem d36_0 : decode prog_10_method_9_code 0 = .ok (.aload_n 0, 1) := by decide +kernel
theorem d36_1 : decode prog_10_method_9_code 1 = .ok (.invokevirtual 49, 3) := by decide +kernel
theorem d36_4 : decode prog_10_method_9_code 4 = .ok (.aload_n 0, 1) := by decide +kernel
theorem d36_5 : decode prog_10_method_9_code 5 = .ok (.getfield 20, 3) := by decide +kernel
theorem d36_8 : decode prog_10_method_9_code 8 = .ok (.lreturn, 1) := by decide +kernel
set_option maxRecDepth 65536 in
set_option maxHeartbeats 40000000 in
theorem rm_remainingLeaseMillis (l : Launch) (Z : State) (a0 : Array Value) (hw : ∀ d ∈ tables_1, d.before a0 Z = true) (ws : List Jvm.Cond) (r : Addr) (x : Addr) (w : Int64) (h0 : Heap) (n0 : Nat) (O0 : Old Z n0 h0) (F : Fld Z h0 r "com/example/holdfast/holdfast/LockInfo" "remainingLeaseMillis" "J" (.long w)) (F2 : Fld Z h0 r "com/example/holdfast/holdfast/LockInfo" "holder" "Ljava/lang/String;" (.ref x)) (E_r : Exa Z h0 r "com/example/holdfast/holdfast/LockInfo") :
    MetFree l (⟨"com/example/holdfast/holdfast/LockInfo", "remainingLeaseMillis", "()J"⟩ : MethodName) (head1 (Jvm.Cond.code (⟨"com/example/holdfast/holdfast/LockInfo", "remainingLeaseMillis", "()J"⟩ : MethodName) prog_10_method_9_code 1 (some .long) :: ws) ({ frames := 2, cells := 0, slots := 0, locals := 30 } : Room)) (fun ar' U => ar' = #[(.ref r)] ∧ Z.Warmed39 U.vm ∧ U.heap = h0) (fun _ _ _ _ _ => True) (fun _ U o U' => ∃ v L, o = .returned v ∧ (QA (some (.long w)) h0 n0) v U'.heap L ∧ FrameEnd U o U' L ({ frames := 2, cells := 0, slots := 0, locals := 30 } : Room).cells ({ frames := 2, cells := 0, slots := 0, locals := 30 } : Room).slots) := by
  refine MetFree.of_bodySF (plainFor_of_name pn_com_example_holdfast_holdfast_LockInfo) hisR ?_
  intro p e s m args below meth c s₁ Bd hml0 hP hK
  obtain ⟨rfl, hZ, hh⟩ := hP
  have hx := Bd.exec
  have hby := Bd.bytes
  have hlk := BodyLoose.notSynchronized Bd
  have hml : c.maxLocals = 1 := hml0
  have hown : s.vm.findClass "com/example/holdfast/holdfast/LockInfo" = some m.cls := findClass_of_methodNamed Bd.named
  have hnm := (name_of_methodNamed Bd.named Bd.method).1
  have X0 : Stand p l e ({ frames := 2, cells := 0, slots := 0, locals := 30 } : Room) s m #[(.ref r)] below meth c s₁ [] 0 0 := Stand.of_body Bd
  have e0 : s₁.heap = h0 := by rw [← hh, Bd.state]; rfl
  have N0 := Fr.nil n0
  have Z0 : n0 ≤ h0.size := O0.1 ▸ O0.2.1
  show OEnds p e below s ({ frames := 2, cells := 0, slots := 0, locals := 30 } : Room).cells ({ frames := 2, cells := 0, slots := 0, locals := 30 } : Room).slots (QA (some (.long w)) h0 n0) (s₁.setTop (entryFrame m #[(.ref r)] 1))
  refine OEnds.via (fun _ k_ => castTop (show entryFrame m #[(.ref r)] 1 = (mkF m 0 #[.val (.ref r)] []) by first | (simp [entryFrame, mkF, argsToLocals, Value.category, maxLocals]; done) | rfl) k_) ?_
  show OEnds p e below s _ _ _ (s₁.setTop (mkF m 0 #[.val (.ref r)] []))
  refine OEnds.via (fun _ k_ => XS.aloadN X0.here hx rfl (hb hby d36_0) rfl rfl k_) ?_
  show OEnds p e below s _ _ _ (s₁.setTop (mkF m 1 #[.val (.ref r)] [(.ref r)]))
  obtain ⟨cq1, q1, q1'⟩ := E_r.cell
  obtain ⟨_, _, ⟨T1, L1, k1, n1⟩, -, X1, ⟨Lc1, hQ1, l1, y1, z1⟩, st1⟩ := X0.privateBack hx (y := (⟨"com/example/holdfast/holdfast/LockInfo", "checkHeldAlone", "()V"⟩ : MethodName)) hown (mvT hZ (hw _ (List.mem_of_getElem? (i := 229) rfl))) (mvT hZ (hw _ (List.mem_of_getElem? (i := 230) rfl))) (mvT hZ (own_selp (hw _ (List.mem_of_getElem? (i := 231) rfl)) (hw _ (List.mem_of_getElem? (i := 230) rfl)) (hw _ (List.mem_of_getElem? (i := 101) rfl)) (by decide))) (Cond.privateMethod_at (mvP hZ (hw _ (List.mem_of_getElem? (i := 231) rfl)) (args := #[]))) (mvT hZ (hw _ (List.mem_of_getElem? (i := 232) rfl))) (by decide) (backOf (W := 0) (rm_check l Z a0 hw [] r x h0 n0 O0 F2 E_r) hZ (hw _ (List.mem_of_getElem? (i := 232) rfl)) (hw _ (List.mem_of_getElem? (i := 98) rfl)) (by decide) (by decide)) (g := (mkF m 1 #[.val (.ref r)] [(.ref r)])) rfl (by rw [hml]; rfl) (Steps.refl _) (a := r) (by rw [e0]; exact q1) q1' (argsL := []) (rest := []) (lenOf pd_2829V rfl) rfl (by show 2 * 0 + _ ≤ _; exact Nat.le_of_eq rfl) (hb hby d36_1) (fun _ _ => ⟨rfl, e0, Nat.le_of_ble_eq_true rfl, Nat.le_of_ble_eq_true rfl⟩)
  dsimp only [Pt.U, Pt.locs, Pt.cells, Pt.slots] at X1 l1 y1 z1 st1 hQ1
  subst l1 y1 z1
  obtain ⟨rfl, N1q, e1⟩ := hQ1
  have N1 := Fr.app N0 N1q
  refine OEnds.via (fun _ k_ => st1.trans k_) ?_
  show OEnds p e below s _ _ _ (T1.setTop (mkF m 4 #[.val (.ref r)] []))
  refine OEnds.via (fun _ k_ => XS.aloadN X1.here hx rfl (hb hby d36_4) rfl rfl k_) ?_
  show OEnds p e below s _ _ _ (T1.setTop (mkF m 5 #[.val (.ref r)] [(.ref r)]))
  obtain ⟨T2, X2, e2, st2⟩ := getF X1 hx hZ hown (host := "") (Or.inl (hw _ (List.mem_of_getElem? (i := 112) rfl))) Via.refl e1 F (g := (mkF m 5 #[.val (.ref r)] [(.ref r)])) rfl rfl (hb hby d36_5)
  refine OEnds.via (fun _ k_ => st2 _ k_) ?_
  show OEnds p e below s _ _ _ (T2.setTop (mkF m 8 #[.val (.ref r)] [(.long w)]))
  refine OEnds.retJ X2 hx hlk Bd.returns (hb hby d36_8) ?_ (by decide) (by decide)
  exact ⟨rfl, N1, e2⟩
theorem d37_0 : decode prog_10_method_10_code 0 = .ok (.aload_n 0, 1) := by decide +kernel
theorem d37_1 : decode prog_10_method_10_code 1 = .ok (.invokevirtual 49, 3) := by decide +kernel
theorem d37_4 : decode prog_10_method_10_code 4 = .ok (.aload_n 0, 1) := by decide +kernel
theorem d37_5 : decode prog_10_method_10_code 5 = .ok (.getfield 24, 3) := by decide +kernel
theorem d37_8 : decode prog_10_method_10_code 8 = .ok (.lreturn, 1) := by decide +kernel
set_option maxRecDepth 65536 in
set_option maxHeartbeats 40000000 in
theorem rm_fencingToken (l : Launch) (Z : State) (a0 : Array Value) (hw : ∀ d ∈ tables_1, d.before a0 Z = true) (ws : List Jvm.Cond) (r : Addr) (x : Addr) (w : Int64) (h0 : Heap) (n0 : Nat) (O0 : Old Z n0 h0) (F : Fld Z h0 r "com/example/holdfast/holdfast/LockInfo" "fencingToken" "J" (.long w)) (F2 : Fld Z h0 r "com/example/holdfast/holdfast/LockInfo" "holder" "Ljava/lang/String;" (.ref x)) (E_r : Exa Z h0 r "com/example/holdfast/holdfast/LockInfo") :
    MetFree l (⟨"com/example/holdfast/holdfast/LockInfo", "fencingToken", "()J"⟩ : MethodName) (head1 (Jvm.Cond.code (⟨"com/example/holdfast/holdfast/LockInfo", "fencingToken", "()J"⟩ : MethodName) prog_10_method_10_code 1 (some .long) :: ws) ({ frames := 2, cells := 0, slots := 0, locals := 30 } : Room)) (fun ar' U => ar' = #[(.ref r)] ∧ Z.Warmed39 U.vm ∧ U.heap = h0) (fun _ _ _ _ _ => True) (fun _ U o U' => ∃ v L, o = .returned v ∧ (QA (some (.long w)) h0 n0) v U'.heap L ∧ FrameEnd U o U' L ({ frames := 2, cells := 0, slots := 0, locals := 30 } : Room).cells ({ frames := 2, cells := 0, slots := 0, locals := 30 } : Room).slots) := by
  refine MetFree.of_bodySF (plainFor_of_name pn_com_example_holdfast_holdfast_LockInfo) hisR ?_
  intro p e s m args below meth c s₁ Bd hml0 hP hK
  obtain ⟨rfl, hZ, hh⟩ := hP
  have hx := Bd.exec
  have hby := Bd.bytes
  have hlk := BodyLoose.notSynchronized Bd
  have hml : c.maxLocals = 1 := hml0
  have hown : s.vm.findClass "com/example/holdfast/holdfast/LockInfo" = some m.cls := findClass_of_methodNamed Bd.named
  have hnm := (name_of_methodNamed Bd.named Bd.method).1
  have X0 : Stand p l e ({ frames := 2, cells := 0, slots := 0, locals := 30 } : Room) s m #[(.ref r)] below meth c s₁ [] 0 0 := Stand.of_body Bd
  have e0 : s₁.heap = h0 := by rw [← hh, Bd.state]; rfl
  have N0 := Fr.nil n0
  have Z0 : n0 ≤ h0.size := O0.1 ▸ O0.2.1
  show OEnds p e below s ({ frames := 2, cells := 0, slots := 0, locals := 30 } : Room).cells ({ frames := 2, cells := 0, slots := 0, locals := 30 } : Room).slots (QA (some (.long w)) h0 n0) (s₁.setTop (entryFrame m #[(.ref r)] 1))
  refine OEnds.via (fun _ k_ => castTop (show entryFrame m #[(.ref r)] 1 = (mkF m 0 #[.val (.ref r)] []) by first | (simp [entryFrame, mkF, argsToLocals, Value.category, maxLocals]; done) | rfl) k_) ?_
  show OEnds p e below s _ _ _ (s₁.setTop (mkF m 0 #[.val (.ref r)] []))
  refine OEnds.via (fun _ k_ => XS.aloadN X0.here hx rfl (hb hby d37_0) rfl rfl k_) ?_
  show OEnds p e below s _ _ _ (s₁.setTop (mkF m 1 #[.val (.ref r)] [(.ref r)]))
  obtain ⟨cq1, q1, q1'⟩ := E_r.cell
  obtain ⟨_, _, ⟨T1, L1, k1, n1⟩, -, X1, ⟨Lc1, hQ1, l1, y1, z1⟩, st1⟩ := X0.privateBack hx (y := (⟨"com/example/holdfast/holdfast/LockInfo", "checkHeldAlone", "()V"⟩ : MethodName)) hown (mvT hZ (hw _ (List.mem_of_getElem? (i := 229) rfl))) (mvT hZ (hw _ (List.mem_of_getElem? (i := 230) rfl))) (mvT hZ (own_selp (hw _ (List.mem_of_getElem? (i := 231) rfl)) (hw _ (List.mem_of_getElem? (i := 230) rfl)) (hw _ (List.mem_of_getElem? (i := 101) rfl)) (by decide))) (Cond.privateMethod_at (mvP hZ (hw _ (List.mem_of_getElem? (i := 231) rfl)) (args := #[]))) (mvT hZ (hw _ (List.mem_of_getElem? (i := 232) rfl))) (by decide) (backOf (W := 0) (rm_check l Z a0 hw [] r x h0 n0 O0 F2 E_r) hZ (hw _ (List.mem_of_getElem? (i := 232) rfl)) (hw _ (List.mem_of_getElem? (i := 98) rfl)) (by decide) (by decide)) (g := (mkF m 1 #[.val (.ref r)] [(.ref r)])) rfl (by rw [hml]; rfl) (Steps.refl _) (a := r) (by rw [e0]; exact q1) q1' (argsL := []) (rest := []) (lenOf pd_2829V rfl) rfl (by show 2 * 0 + _ ≤ _; exact Nat.le_of_eq rfl) (hb hby d37_1) (fun _ _ => ⟨rfl, e0, Nat.le_of_ble_eq_true rfl, Nat.le_of_ble_eq_true rfl⟩)
  dsimp only [Pt.U, Pt.locs, Pt.cells, Pt.slots] at X1 l1 y1 z1 st1 hQ1
  subst l1 y1 z1
  obtain ⟨rfl, N1q, e1⟩ := hQ1
  have N1 := Fr.app N0 N1q
  refine OEnds.via (fun _ k_ => st1.trans k_) ?_
  show OEnds p e below s _ _ _ (T1.setTop (mkF m 4 #[.val (.ref r)] []))
  refine OEnds.via (fun _ k_ => XS.aloadN X1.here hx rfl (hb hby d37_4) rfl rfl k_) ?_
  show OEnds p e below s _ _ _ (T1.setTop (mkF m 5 #[.val (.ref r)] [(.ref r)]))
  obtain ⟨T2, X2, e2, st2⟩ := getF X1 hx hZ hown (host := "") (Or.inl (hw _ (List.mem_of_getElem? (i := 114) rfl))) Via.refl e1 F (g := (mkF m 5 #[.val (.ref r)] [(.ref r)])) rfl rfl (hb hby d37_5)
  refine OEnds.via (fun _ k_ => st2 _ k_) ?_
  show OEnds p e below s _ _ _ (T2.setTop (mkF m 8 #[.val (.ref r)] [(.long w)]))
  refine OEnds.retJ X2 hx hlk Bd.returns (hb hby d37_8) ?_ (by decide) (by decide)
  exact ⟨rfl, N1, e2⟩
theorem d38_0 : decode prog_10_method_11_code 0 = .ok (.aload_n 0, 1) := by decide +kernel
theorem d38_1 : decode prog_10_method_11_code 1 = .ok (.getfield 33, 3) := by decide +kernel
theorem d38_4 : decode prog_10_method_11_code 4 = .ok (.areturn, 1) := by decide +kernel
set_option maxRecDepth 65536 in
set_option maxHeartbeats 40000000 in
theorem rm_readers (l : Launch) (Z : State) (a0 : Array Value) (hw : ∀ d ∈ tables_1, d.before a0 Z = true) (ws : List Jvm.Cond) (r : Addr) (x : Addr) (h0 : Heap) (n0 : Nat) (O0 : Old Z n0 h0) (F : Fld Z h0 r "com/example/holdfast/holdfast/LockInfo" "readers" "Ljava/util/List;" (.ref x)) :
    MetFree l (⟨"com/example/holdfast/holdfast/LockInfo", "readers", "()Ljava/util/List;"⟩ : MethodName) (head1 (Jvm.Cond.code (⟨"com/example/holdfast/holdfast/LockInfo", "readers", "()Ljava/util/List;"⟩ : MethodName) prog_10_method_11_code 1 (some (.object "java/util/List")) :: ws) ({ frames := 0, cells := 0, slots := 0, locals := 0 } : Room)) (fun ar' U => ar' = #[(.ref r)] ∧ Z.Warmed39 U.vm ∧ U.heap = h0) (fun _ _ _ _ _ => True) (fun _ U o U' => ∃ v L, o = .returned v ∧ (QA (some (.ref x)) h0 n0) v U'.heap L ∧ FrameEnd U o U' L ({ frames := 0, cells := 0, slots := 0, locals := 0 } : Room).cells ({ frames := 0, cells := 0, slots := 0, locals := 0 } : Room).slots) := by
  refine MetFree.of_bodySF (plainFor_of_name pn_com_example_holdfast_holdfast_LockInfo) hisR ?_
  intro p e s m args below meth c s₁ Bd hml0 hP hK
  obtain ⟨rfl, hZ, hh⟩ := hP
  have hx := Bd.exec
  have hby := Bd.bytes
  have hlk := BodyLoose.notSynchronized Bd
  have hml : c.maxLocals = 1 := hml0
  have hown : s.vm.findClass "com/example/holdfast/holdfast/LockInfo" = some m.cls := findClass_of_methodNamed Bd.named
  have hnm := (name_of_methodNamed Bd.named Bd.method).1
  have X0 : Stand p l e ({ frames := 0, cells := 0, slots := 0, locals := 0 } : Room) s m #[(.ref r)] below meth c s₁ [] 0 0 := Stand.of_body Bd
  have e0 : s₁.heap = h0 := by rw [← hh, Bd.state]; rfl
  have N0 := Fr.nil n0
  have Z0 : n0 ≤ h0.size := O0.1 ▸ O0.2.1
  show OEnds p e below s ({ frames := 0, cells := 0, slots := 0, locals := 0 } : Room).cells ({ frames := 0, cells := 0, slots := 0, locals := 0 } : Room).slots (QA (some (.ref x)) h0 n0) (s₁.setTop (entryFrame m #[(.ref r)] 1))
  refine OEnds.via (fun _ k_ => castTop (show entryFrame m #[(.ref r)] 1 = (mkF m 0 #[.val (.ref r)] []) by first | (simp [entryFrame, mkF, argsToLocals, Value.category, maxLocals]; done) | rfl) k_) ?_
  show OEnds p e below s _ _ _ (s₁.setTop (mkF m 0 #[.val (.ref r)] []))
  refine OEnds.via (fun _ k_ => XS.aloadN X0.here hx rfl (hb hby d38_0) rfl rfl k_) ?_
  show OEnds p e below s _ _ _ (s₁.setTop (mkF m 1 #[.val (.ref r)] [(.ref r)]))
  obtain ⟨T1, X1, e1, st1⟩ := getF X0 hx hZ hown (host := "") (Or.inl (hw _ (List.mem_of_getElem? (i := 202) rfl))) Via.refl e0 F (g := (mkF m 1 #[.val (.ref r)] [(.ref r)])) rfl rfl (hb hby d38_1)
  refine OEnds.via (fun _ k_ => st1 _ k_) ?_
  show OEnds p e below s _ _ _ (T1.setTop (mkF m 4 #[.val (.ref r)] [(.ref x)]))
  refine OEnds.retR X1 hx hlk Bd.returns rfl rfl (hb hby d38_4) ?_ (by decide) (by decide)
  exact ⟨rfl, N0, e1⟩
theorem d31_0 : decode jdk_42_method_66_code 0 = .ok (.aload_n 0, 1) := by decide +kernel
theorem d31_1 : decode jdk_42_method_66_code 1 = .ok (.aload_n 1, 1) := by decide +kernel
theorem d31_2 : decode jdk_42_method_66_code 2 = .ok (.if_acmp .ne 5, 3) := by decide +kernel
theorem d31_5 : decode jdk_42_method_66_code 5 = .ok (.iconst 1, 1) := by decide +kernel
theorem d31_6 : decode jdk_42_method_66_code 6 = .ok (.ireturn, 1) := by decide +kernel
theorem d31_7 : decode jdk_42_method_66_code 7 = .ok (.aload_n 1, 1) := by decide +kernel
theorem d31_8 : decode jdk_42_method_66_code 8 = .ok (.instanceof 10, 3) := by decide +kernel
theorem d31_11 : decode jdk_42_method_66_code 11 = .ok (.ifCond .eq 43, 3) := by decide +kernel
theorem d31_14 : decode jdk_42_method_66_code 14 = .ok (.aload_n 1, 1) := by decide +kernel
theorem d31_15 : decode jdk_42_method_66_code 15 = .ok (.checkcast 10, 3) := by decide +kernel
theorem d31_18 : decode jdk_42_method_66_code 18 = .ok (.astore_n 2, 1) := by decide +kernel
theorem d31_19 : decode jdk_42_method_66_code 19 = .ok (.getstatic 38, 3) := by decide +kernel
theorem d31_22 : decode jdk_42_method_66_code 22 = .ok (.ifCond .eq 14, 3) := by decide +kernel
theorem d31_25 : decode jdk_42_method_66_code 25 = .ok (.aload_n 0, 1) := by decide +kernel
theorem d31_26 : decode jdk_42_method_66_code 26 = .ok (.getfield 15, 3) := by decide +kernel
theorem d31_29 : decode jdk_42_method_66_code 29 = .ok (.aload_n 2, 1) := by decide +kernel
theorem d31_30 : decode jdk_42_method_66_code 30 = .ok (.getfield 15, 3) := by decide +kernel
theorem d31_33 : decode jdk_42_method_66_code 33 = .ok (.if_icmp .ne 21, 3) := by decide +kernel
theorem d31_36 : decode jdk_42_method_66_code 36 = .ok (.aload_n 0, 1) := by decide +kernel
theorem d31_37 : decode jdk_42_method_66_code 37 = .ok (.getfield 9, 3) := by decide +kernel
theorem d31_40 : decode jdk_42_method_66_code 40 = .ok (.aload_n 2, 1) := by decide +kernel
theorem d31_41 : decode jdk_42_method_66_code 41 = .ok (.getfield 9, 3) := by decide +kernel
theorem d31_44 : decode jdk_42_method_66_code 44 = .ok (.invokestatic 541, 3) := by decide +kernel
theorem d31_47 : decode jdk_42_method_66_code 47 = .ok (.ifCond .eq 7, 3) := by decide +kernel
theorem d31_50 : decode jdk_42_method_66_code 50 = .ok (.iconst 1, 1) := by decide +kernel
theorem d31_51 : decode jdk_42_method_66_code 51 = .ok (.goto 4, 3) := by decide +kernel
theorem d31_54 : decode jdk_42_method_66_code 54 = .ok (.iconst 0, 1) := by decide +kernel
theorem d31_55 : decode jdk_42_method_66_code 55 = .ok (.ireturn, 1) := by decide +kernel
theorem pn_java_lang_String : plainName "java/lang/String" = true := by first | (simp [plainName, overriddenIn]; done) | decide +kernel
set_option maxRecDepth 65536 in
set_option maxHeartbeats 40000000 in
theorem rmSelf (l : Launch) (Z : State) (a0 : Array Value) (hw : ∀ d ∈ tables_1, d.before a0 Z = true) (ws : List Jvm.Cond) (x : Addr) (h0 : Heap) (n0 : Nat) (O0 : Old Z n0 h0) :
    MetFree l (⟨"java/lang/String", "equals", "(Ljava/lang/Object;)Z"⟩ : MethodName) (head1 (Jvm.Cond.code (⟨"java/lang/String", "equals", "(Ljava/lang/Object;)Z"⟩ : MethodName) jdk_42_method_66_code 3 (some .boolean) :: ws) ({ frames := 0, cells := 0, slots := 0, locals := 0 } : Room)) (fun ar' U => ar' = #[(.ref x), (.ref x)] ∧ Z.Warmed39 U.vm ∧ U.heap = h0) (fun _ _ _ _ _ => True) (fun _ U o U' => ∃ v L, o = .returned v ∧ (QA (some (.int 1)) h0 n0) v U'.heap L ∧ FrameEnd U o U' L ({ frames := 0, cells := 0, slots := 0, locals := 0 } : Room).cells ({ frames := 0, cells := 0, slots := 0, locals := 0 } : Room).slots) := by
  refine MetFree.of_bodySF (plainFor_of_name pn_java_lang_String) hisR ?_
  intro p e s m args below meth c s₁ Bd hml0 hP hK
  obtain ⟨rfl, hZ, hh⟩ := hP
  have hx := Bd.exec
  have hby := Bd.bytes
  have hlk := BodyLoose.notSynchronized Bd
  have hml : c.maxLocals = 3 := hml0
  have hown : s.vm.findClass "java/lang/String" = some m.cls := findClass_of_methodNamed Bd.named
  have hnm := (name_of_methodNamed Bd.named Bd.method).1
  have X0 : Stand p l e ({ frames := 0, cells := 0, slots := 0, locals := 0 } : Room) s m #[(.ref x), (.ref x)] below meth c s₁ [] 0 0 := Stand.of_body Bd
  have e0 : s₁.heap = h0 := by rw [← hh, Bd.state]; rfl
  have N0 := Fr.nil n0
  have Z0 : n0 ≤ h0.size := O0.1 ▸ O0.2.1
  show OEnds p e below s ({ frames := 0, cells := 0, slots := 0, locals := 0 } : Room).cells ({ frames := 0, cells := 0, slots := 0, locals := 0 } : Room).slots (QA (some (.int 1)) h0 n0) (s₁.setTop (entryFrame m #[(.ref x), (.ref x)] 3))
  refine OEnds.via (fun _ k_ => castTop (show entryFrame m #[(.ref x), (.ref x)] 3 = (mkF m 0 #[.val (.ref x), .val (.ref x), .unset] []) by first | (simp [entryFrame, mkF, argsToLocals, Value.category, maxLocals]; done) | rfl) k_) ?_
  refine OEnds.via (fun _ k_ => XS.aloadN X0.here hx rfl (hb hby d31_0) rfl rfl k_) ?_
  show OEnds p e below s _ _ _ (s₁.setTop (mkF m 1 #[.val (.ref x), .val (.ref x), .unset] [(.ref x)]))
  refine OEnds.via (fun _ k_ => XS.aloadN X0.here hx rfl (hb hby d31_1) rfl rfl k_) ?_
  show OEnds p e below s _ _ _ (s₁.setTop (mkF m 2 #[.val (.ref x), .val (.ref x), .unset] [(.ref x), (.ref x)]))
  refine OEnds.via (fun _ k_ => Jvm.RoadKit.acmp (g := (mkF m 2 #[.val (.ref x), .val (.ref x), .unset] [(.ref x), (.ref x)])) X0 hx rfl rfl rfl (pc0 := 2) (pc' := 5) (same := true) rfl (hb hby d31_2) rfl (decide_eq_true rfl) (by decide) (by decide) k_) ?_
  show OEnds p e below s _ _ _ (s₁.setTop (mkF m 5 #[.val (.ref x), .val (.ref x), .unset] []))
  refine OEnds.via (fun _ k_ => XS.iconst X0.here hx rfl (hb hby d31_5) k_) ?_
  show OEnds p e below s _ _ _ (s₁.setTop (mkF m 6 #[.val (.ref x), .val (.ref x), .unset] [(.int (1 : Int32))]))
  refine OEnds.retN X0 hx hlk (t := .boolean) Bd.returns (by simp) (hb hby d31_6) ?_ (by decide) (by decide)
  exact ⟨rfl, N0, e0⟩
theorem pn_com_example_holdfast_holdfast_LockInfoHeldPinLaw : plainName "com/example/holdfast/holdfast/LockInfoHeldPinLaw" = true := by first | (simp [plainName, overriddenIn]; done) | decide +kernel
theorem pd_2829I : parseMethodDescriptor "()I" = some ⟨[], some .int⟩ := by decide +kernel
theorem pd_2829J : parseMethodDescriptor "()J" = some ⟨[], some .long⟩ := by decide +kernel
theorem pd_2829Ljava2flang2fString3b : parseMethodDescriptor "()Ljava/lang/String;" = some ⟨[], some (.object "java/lang/String")⟩ := by decide +kernel
theorem pd_28I29Ljava2flang2fObject3b : parseMethodDescriptor "(I)Ljava/lang/Object;" = some ⟨[.int], some (.object "java/lang/Object")⟩ := by decide +kernel
theorem pd_28Ljava2flang2fObject3b29Z : parseMethodDescriptor "(Ljava/lang/Object;)Z" = some ⟨[(.object "java/lang/Object")], some .boolean⟩ := by decide +kernel
theorem pd_28Ljava2flang2fString3bJ29V : parseMethodDescriptor "(Ljava/lang/String;J)V" = some ⟨[(.object "java/lang/String"), .long], none⟩ := by decide +kernel
theorem pd_28Ljava2flang2fString3bLjava2flang2fString3bJJLjava2futil2fList3b29Lcom2fexample2fholdfast2fholdfast2fLockInfo3b : parseMethodDescriptor "(Ljava/lang/String;Ljava/lang/String;JJLjava/util/List;)Lcom/example/holdfast/holdfast/LockInfo;" = some ⟨[(.object "java/lang/String"), (.object "java/lang/String"), .long, .long, (.object "java/util/List")], some (.object "com/example/holdfast/holdfast/LockInfo")⟩ := by decide +kernel
theorem pd_285bC29V : parseMethodDescriptor "([C)V" = some ⟨[(.array .char)], none⟩ := by decide +kernel
set_option maxRecDepth 65536 in
set_option maxHeartbeats 40000000 in
theorem rm0 (l : Launch) (Z : State) (a0 : Array Value) (hw : ∀ d ∈ tables_1, d.before a0 Z = true) (ws : List Jvm.Cond) (p0 : Int32) (p1 : Int32) (p2 : Int64) (p3 : Int64) (p4 : Int32) (G1 : Int32) (dc : Addr) (kdc : ClassId) (mr : Addr) (em : Addr) (el : Addr) (ee : Addr) (kee : ClassId) (h0 : Heap) (n0 : Nat) (O0 : Old Z n0 h0) (S_CS : Sta Z Z.heap "java/lang/String" "COMPACT_STRINGS" "Z" (.int G1)) (nz_CS : ¬ (G1 = (0 : Int32))) (S_dc : Sta Z Z.heap "java/util/ArrayList" "DEFAULTCAPACITY_EMPTY_ELEMENTDATA" "[Ljava/lang/Object;" (.ref dc)) (V_dc : Arv Z Z.heap dc kdc (.object "java/lang/Object") (0 : Int32) [] .null) (M : Mir Z "[Ljava/lang/Object;" mr) (S_em : Sta Z Z.heap "java/util/ImmutableCollections" "EMPTY" "Ljava/lang/Object;" (.ref em)) (S_el : Sta Z Z.heap "java/util/ImmutableCollections" "EMPTY_LIST" "Ljava/util/ImmutableCollections$ListN;" (.ref el)) (E_em : Exa Z Z.heap em "java/lang/Object") (E_el : Exa Z Z.heap el "java/util/ImmutableCollections$ListN") (F_ee : Fld Z Z.heap el "java/util/ImmutableCollections$ListN" "elements" "[Ljava/lang/Object;" (.ref ee)) (V_ee : Arv Z Z.heap ee kee (.object "java/lang/Object") (0 : Int32) [] .null) :
    MetFree l x (head1 (Jvm.Cond.code x code maxLocals ret :: ws) room_1) (fun ar' U => ar' = #[(.int p0), (.int p1), (.long p2), (.long p3), (.int p4)] ∧ Z.Warmed39 U.vm ∧ U.heap = h0) (fun _ _ _ _ _ => True) (fun _ U o U' => ∃ v L, o = .returned v ∧ (QL n0) v U'.heap L ∧ FrameEnd U o U' L 40 192) := by
  refine MetFree.of_bodySF (plainFor_of_name pn_com_example_holdfast_holdfast_LockInfoHeldPinLaw) hisR ?_
  intro p e s m args below meth c s₁ Bd hml0 hP hK
  obtain ⟨rfl, hZ, hh⟩ := hP
  have hx := Bd.exec
  have hby := Bd.bytes
  have hlk := BodyLoose.notSynchronized Bd
  have hml : c.maxLocals = 18 := hml0
  have hown : s.vm.findClass "com/example/holdfast/holdfast/LockInfoHeldPinLaw" = some m.cls := findClass_of_methodNamed Bd.named
  have hnm := (name_of_methodNamed Bd.named Bd.method).1
  have X0 : Stand p l e room_1 s m #[(.int p0), (.int p1), (.long p2), (.long p3), (.int p4)] below meth c s₁ [] 0 0 := Stand.of_body Bd
  have e0 : s₁.heap = h0 := by rw [← hh, Bd.state]; rfl
  have N0 := Fr.nil n0
  have Z0 : n0 ≤ h0.size := O0.1 ▸ O0.2.1
  show OEnds p e below s 40 192 (QL n0) (s₁.setTop (entryFrame m #[(.int p0), (.int p1), (.long p2), (.long p3), (.int p4)] maxLocals))
  refine OEnds.via (fun _ k_ => castTop (show entryFrame m #[(.int p0), (.int p1), (.long p2), (.long p3), (.int p4)] maxLocals = (mkF m 0 #[.val (.int p0), .val (.int p1), .val (.long p2), .second, .val (.long p3), .second, .val (.int p4), .unset, .unset, .unset, .unset, .unset, .unset, .unset, .unset, .unset, .unset, .unset] []) by first | (simp [entryFrame, mkF, argsToLocals, Value.category, maxLocals]; done) | rfl) k_) ?_
  have hws : ∀ d ∈ StrChars.Road.words, d.before a0 Z = true := fun d hd => hw d ((by decide +kernel : ∀ d ∈ StrChars.Road.words, d ∈ tables_1) d hd)
  have Od := O0
  show OEnds p e below s _ _ _ (s₁.setTop (mkF m 0 #[.val (.int p0), .val (.int p1), .val (.long p2), .second, .val (.long p3), .second, .val (.int p4), .unset, .unset, .unset, .unset, .unset, .unset, .unset, .unset, .unset, .unset, .unset] []))
  refine OEnds.via (fun _ k_ => XS.iconst X0.here hx rfl (hb hby at_0) k_) ?_
  show OEnds p e below s _ _ _ (s₁.setTop (mkF m 1 #[.val (.int p0), .val (.int p1), .val (.long p2), .second, .val (.long p3), .second, .val (.int p4), .unset, .unset, .unset, .unset, .unset, .unset, .unset, .unset, .unset, .unset, .unset] [(.int (2 : Int32))]))
  obtain ⟨T1, h1, k1, X1, e1, E1, A1, st1⟩ := newP X0 hx hZ (hw _ (List.mem_of_getElem? (i := 0) rfl)) e0 (g := (mkF m 1 #[.val (.int p0), .val (.int p1), .val (.long p2), .second, .val (.long p3), .second, .val (.int p4), .unset, .unset, .unset, .unset, .unset, .unset, .unset, .unset, .unset, .unset, .unset] [(.int (2 : Int32))])) rfl (hb hby at_1) rfl (by decide) (cap := 2) (by decide) (by decide) (by decide) (by decide)
  obtain ⟨b1, g1⟩ : ∃ z, z = h0.size := ⟨_, rfl⟩
  have ge_b1 : n0 ≤ b1 := Nat.le_trans (Od.1 ▸ Od.2.1) (Nat.le_of_eq g1.symm)
  rw [← g1] at A1 st1
  replace Od := Od.ext E1
  have V_b1 : Arv Z h1 b1 k1 .char (2 : Int32) [(.int (0 : Int32)), (.int (0 : Int32))] (.int (0 : Int32)) := (Arv.new A1 (by decide)).pad (pad_rep [] (.int (0 : Int32)) 2)
  refine OEnds.via (fun _ k_ => st1 _ k_) ?_
  show OEnds p e below s _ _ _ (T1.setTop (mkF m 3 #[.val (.int p0), .val (.int p1), .val (.long p2), .second, .val (.long p3), .second, .val (.int p4), .unset, .unset, .unset, .unset, .unset, .unset, .unset, .unset, .unset, .unset, .unset] [(.ref b1)]))
  refine OEnds.via (fun _ k_ => XS.astore X1.here hx rfl (hb hby at_3) rfl rfl (l' := #[.val (.int p0), .val (.int p1), .val (.long p2), .second, .val (.long p3), .second, .val (.int p4), .val (.ref b1), .unset, .unset, .unset, .unset, .unset, .unset, .unset, .unset, .unset, .unset]) rfl k_) ?_
  show OEnds p e below s _ _ _ (T1.setTop (mkF m 5 #[.val (.int p0), .val (.int p1), .val (.long p2), .second, .val (.long p3), .second, .val (.int p4), .val (.ref b1), .unset, .unset, .unset, .unset, .unset, .unset, .unset, .unset, .unset, .unset] []))
  refine OEnds.via (fun _ k_ => XS.aload X1.here hx rfl (hb hby at_5) rfl rfl k_) ?_
  show OEnds p e below s _ _ _ (T1.setTop (mkF m 7 #[.val (.int p0), .val (.int p1), .val (.long p2), .second, .val (.long p3), .second, .val (.int p4), .val (.ref b1), .unset, .unset, .unset, .unset, .unset, .unset, .unset, .unset, .unset, .unset] [(.ref b1)]))
  refine OEnds.via (fun _ k_ => XS.iconst X1.here hx rfl (hb hby at_7) k_) ?_
  show OEnds p e below s _ _ _ (T1.setTop (mkF m 8 #[.val (.int p0), .val (.int p1), .val (.long p2), .second, .val (.long p3), .second, .val (.int p4), .val (.ref b1), .unset, .unset, .unset, .unset, .unset, .unset, .unset, .unset, .unset, .unset] [(.int (0 : Int32)), (.ref b1)]))
  refine OEnds.via (fun _ k_ => XS.iloadN X1.here hx rfl (hb hby at_8) rfl k_) ?_
  show OEnds p e below s _ _ _ (T1.setTop (mkF m 9 #[.val (.int p0), .val (.int p1), .val (.long p2), .second, .val (.long p3), .second, .val (.int p4), .val (.ref b1), .unset, .unset, .unset, .unset, .unset, .unset, .unset, .unset, .unset, .unset] [(.int p0), (.int (0 : Int32)), (.ref b1)]))
  refine OEnds.via (fun _ k_ => XS.sipush X1.here hx rfl (hb hby at_9) k_) ?_
  show OEnds p e below s _ _ _ (T1.setTop (mkF m 12 #[.val (.int p0), .val (.int p1), .val (.long p2), .second, .val (.long p3), .second, .val (.int p4), .val (.ref b1), .unset, .unset, .unset, .unset, .unset, .unset, .unset, .unset, .unset, .unset] [(.int (255 : Int32)), (.int p0), (.int (0 : Int32)), (.ref b1)]))
  refine OEnds.via (fun _ k_ => XS.iand X1.here hx rfl (hb hby at_12) rfl k_) ?_
  show OEnds p e below s _ _ _ (T1.setTop (mkF m 13 #[.val (.int p0), .val (.int p1), .val (.long p2), .second, .val (.long p3), .second, .val (.int p4), .val (.ref b1), .unset, .unset, .unset, .unset, .unset, .unset, .unset, .unset, .unset, .unset] [(.int (p0 &&& (255 : Int32))), (.int (0 : Int32)), (.ref b1)]))
  refine OEnds.via (fun _ k_ => XS.i2c X1.here hx rfl (hb hby at_13) rfl k_) ?_
  show OEnds p e below s _ _ _ (T1.setTop (mkF m 14 #[.val (.int p0), .val (.int p1), .val (.long p2), .second, .val (.long p3), .second, .val (.int p4), .val (.ref b1), .unset, .unset, .unset, .unset, .unset, .unset, .unset, .unset, .unset, .unset] [(.int ((p0 &&& (255 : Int32)).toUInt32.toUInt16.toUInt32.toInt32)), (.int (0 : Int32)), (.ref b1)]))
  obtain ⟨cl2, Ar2, q2, S2, M2, H2, G2⟩ := V_b1
  obtain ⟨T2, h2, X2, e2, W2, st2⟩ := stC X1 hx hZ e1 Ar2 (j := (0 : Int32)) (inb_of S2 ⟨by decide, by decide⟩) (g := (mkF m 14 #[.val (.int p0), .val (.int p1), .val (.long p2), .second, .val (.long p3), .second, .val (.int p4), .val (.ref b1), .unset, .unset, .unset, .unset, .unset, .unset, .unset, .unset, .unset, .unset] [(.int ((p0 &&& (255 : Int32)).toUInt32.toUInt16.toUInt32.toInt32)), (.int (0 : Int32)), (.ref b1)])) rfl rfl (hb hby at_14)
  have V_b1 : Arv Z h2 b1 k1 .char (2 : Int32) [(.int (nar .char ((p0 &&& (255 : Int32)).toUInt32.toUInt16.toUInt32.toInt32))), (.int (0 : Int32))] (.int (0 : Int32)) := Arv.set Ar2 q2 S2 M2 H2 G2 (fits_nar_char _) W2 0 rfl (Nat.le_of_ble_eq_true rfl)
  have N2 := Fr.snoc X2 N0 ge_b1
  replace Od := Od.wr W2 ge_b1
  refine OEnds.via (fun _ k_ => st2 _ k_) ?_
  show OEnds p e below s _ _ _ (T2.setTop (mkF m 15 #[.val (.int p0), .val (.int p1), .val (.long p2), .second, .val (.long p3), .second, .val (.int p4), .val (.ref b1), .unset, .unset, .unset, .unset, .unset, .unset, .unset, .unset, .unset, .unset] []))
  refine OEnds.via (fun _ k_ => XS.aload X2.here hx rfl (hb hby at_15) rfl rfl k_) ?_
  show OEnds p e below s _ _ _ (T2.setTop (mkF m 17 #[.val (.int p0), .val (.int p1), .val (.long p2), .second, .val (.long p3), .second, .val (.int p4), .val (.ref b1), .unset, .unset, .unset, .unset, .unset, .unset, .unset, .unset, .unset, .unset] [(.ref b1)]))
  refine OEnds.via (fun _ k_ => XS.iconst X2.here hx rfl (hb hby at_17) k_) ?_
  show OEnds p e below s _ _ _ (T2.setTop (mkF m 18 #[.val (.int p0), .val (.int p1), .val (.long p2), .second, .val (.long p3), .second, .val (.int p4), .val (.ref b1), .unset, .unset, .unset, .unset, .unset, .unset, .unset, .unset, .unset, .unset] [(.int (1 : Int32)), (.ref b1)]))
  refine OEnds.via (fun _ k_ => XS.iloadN X2.here hx rfl (hb hby at_18) rfl k_) ?_
  show OEnds p e below s _ _ _ (T2.setTop (mkF m 19 #[.val (.int p0), .val (.int p1), .val (.long p2), .second, .val (.long p3), .second, .val (.int p4), .val (.ref b1), .unset, .unset, .unset, .unset, .unset, .unset, .unset, .unset, .unset, .unset] [(.int p0), (.int (1 : Int32)), (.ref b1)]))
  refine OEnds.via (fun _ k_ => XS.bipush X2.here hx rfl (hb hby at_19) k_) ?_
  show OEnds p e below s _ _ _ (T2.setTop (mkF m 21 #[.val (.int p0), .val (.int p1), .val (.long p2), .second, .val (.long p3), .second, .val (.int p4), .val (.ref b1), .unset, .unset, .unset, .unset, .unset, .unset, .unset, .unset, .unset, .unset] [(.int (8 : Int32)), (.int p0), (.int (1 : Int32)), (.ref b1)]))
  refine OEnds.via (fun _ k_ => XS.iushr X2.here hx rfl (hb hby at_21) rfl k_) ?_
  show OEnds p e below s _ _ _ (T2.setTop (mkF m 22 #[.val (.int p0), .val (.int p1), .val (.long p2), .second, .val (.long p3), .second, .val (.int p4), .val (.ref b1), .unset, .unset, .unset, .unset, .unset, .unset, .unset, .unset, .unset, .unset] [(.int ((p0.toUInt32 >>> ((8 : Int32) &&& 31).toUInt32).toInt32)), (.int (1 : Int32)), (.ref b1)]))
  refine OEnds.via (fun _ k_ => XS.sipush X2.here hx rfl (hb hby at_22) k_) ?_
  show OEnds p e below s _ _ _ (T2.setTop (mkF m 25 #[.val (.int p0), .val (.int p1), .val (.long p2), .second, .val (.long p3), .second, .val (.int p4), .val (.ref b1), .unset, .unset, .unset, .unset, .unset, .unset, .unset, .unset, .unset, .unset] [(.int (255 : Int32)), (.int ((p0.toUInt32 >>> ((8 : Int32) &&& 31).toUInt32).toInt32)), (.int (1 : Int32)), (.ref b1)]))
  refine OEnds.via (fun _ k_ => XS.iand X2.here hx rfl (hb hby at_25) rfl k_) ?_
  show OEnds p e below s _ _ _ (T2.setTop (mkF m 26 #[.val (.int p0), .val (.int p1), .val (.long p2), .second, .val (.long p3), .second, .val (.int p4), .val (.ref b1), .unset, .unset, .unset, .unset, .unset, .unset, .unset, .unset, .unset, .unset] [(.int (((p0.toUInt32 >>> ((8 : Int32) &&& 31).toUInt32).toInt32) &&& (255 : Int32))), (.int (1 : Int32)), (.ref b1)]))
  refine OEnds.via (fun _ k_ => XS.i2c X2.here hx rfl (hb hby at_26) rfl k_) ?_
  show OEnds p e below s _ _ _ (T2.setTop (mkF m 27 #[.val (.int p0), .val (.int p1), .val (.long p2), .second, .val (.long p3), .second, .val (.int p4), .val (.ref b1), .unset, .unset, .unset, .unset, .unset, .unset, .unset, .unset, .unset, .unset] [(.int ((((p0.toUInt32 >>> ((8 : Int32) &&& 31).toUInt32).toInt32) &&& (255 : Int32)).toUInt32.toUInt16.toUInt32.toInt32)), (.int (1 : Int32)), (.ref b1)]))
  obtain ⟨cl3, Ar3, q3, S3, M3, H3, G3⟩ := V_b1
  obtain ⟨T3, h3, X3, e3, W3, st3⟩ := stC X2 hx hZ e2 Ar3 (j := (1 : Int32)) (inb_of S3 ⟨by decide, by decide⟩) (g := (mkF m 27 #[.val (.int p0), .val (.int p1), .val (.long p2), .second, .val (.long p3), .second, .val (.int p4), .val (.ref b1), .unset, .unset, .unset, .unset, .unset, .unset, .unset, .unset, .unset, .unset] [(.int ((((p0.toUInt32 >>> ((8 : Int32) &&& 31).toUInt32).toInt32) &&& (255 : Int32)).toUInt32.toUInt16.toUInt32.toInt32)), (.int (1 : Int32)), (.ref b1)])) rfl rfl (hb hby at_27)
  have V_b1 : Arv Z h3 b1 k1 .char (2 : Int32) [(.int (nar .char ((p0 &&& (255 : Int32)).toUInt32.toUInt16.toUInt32.toInt32))), (.int (nar .char ((((p0.toUInt32 >>> ((8 : Int32) &&& 31).toUInt32).toInt32) &&& (255 : Int32)).toUInt32.toUInt16.toUInt32.toInt32)))] (.int (0 : Int32)) := Arv.set Ar3 q3 S3 M3 H3 G3 (fits_nar_char _) W3 1 rfl (Nat.le_of_ble_eq_true rfl)
  have N3 := Fr.snoc X3 N2 ge_b1
  replace Od := Od.wr W3 ge_b1
  refine OEnds.via (fun _ k_ => st3 _ k_) ?_
  show OEnds p e below s _ _ _ (T3.setTop (mkF m 28 #[.val (.int p0), .val (.int p1), .val (.long p2), .second, .val (.long p3), .second, .val (.int p4), .val (.ref b1), .unset, .unset, .unset, .unset, .unset, .unset, .unset, .unset, .unset, .unset] []))
  obtain ⟨T4, h4, X4, e4, E4, A4, D4, -, st4⟩ := newO X3 hx hZ hown (hw _ (List.mem_of_getElem? (i := 1) rfl)) (hw _ (List.mem_of_getElem? (i := 2) rfl)) (hw _ (List.mem_of_getElem? (i := 3) rfl)) e3 (g := (mkF m 28 #[.val (.int p0), .val (.int p1), .val (.long p2), .second, .val (.long p3), .second, .val (.int p4), .val (.ref b1), .unset, .unset, .unset, .unset, .unset, .unset, .unset, .unset, .unset, .unset] [])) rfl (hb hby at_28) (by decide) (by decide)
  obtain ⟨b4, g4⟩ : ∃ z, z = h3.size := ⟨_, rfl⟩
  have ne_b1_b4 : b1 ≠ b4 := Nat.ne_of_lt (Nat.lt_of_lt_of_le V_b1.lt (Nat.le_of_eq g4.symm))
  have ge_b4 : n0 ≤ b4 := Nat.le_trans (Od.1 ▸ Od.2.1) (Nat.le_of_eq g4.symm)
  rw [← g4] at A4 D4 st4
  replace Od := Od.ext E4
  replace V_b1 := V_b1.ext E4
  have E_b4 : Exa Z h4 b4 "java/lang/String" := A4
  have F_coder_b4 : Fld Z h4 b4 "java/lang/String" "coder" "B" (.int (0 : Int32)) := D4 (Or.inr (hw _ (List.mem_of_getElem? (i := 27) rfl))) (ty := .byte) (by decide)
  have F_value_b4 : Fld Z h4 b4 "java/lang/String" "value" "[B" .null := D4 (Or.inr (hw _ (List.mem_of_getElem? (i := 29) rfl))) (ty := (.array .byte)) (by decide)
  refine OEnds.via (fun _ k_ => st4 _ k_) ?_
  show OEnds p e below s _ _ _ (T4.setTop (mkF m 31 #[.val (.int p0), .val (.int p1), .val (.long p2), .second, .val (.long p3), .second, .val (.int p4), .val (.ref b1), .unset, .unset, .unset, .unset, .unset, .unset, .unset, .unset, .unset, .unset] [(.ref b4)]))
  refine OEnds.via (fun _ k_ => XS.dup X4.here hx rfl (hb hby at_31) rfl rfl k_) ?_
  show OEnds p e below s _ _ _ (T4.setTop (mkF m 32 #[.val (.int p0), .val (.int p1), .val (.long p2), .second, .val (.long p3), .second, .val (.int p4), .val (.ref b1), .unset, .unset, .unset, .unset, .unset, .unset, .unset, .unset, .unset, .unset] [(.ref b4), (.ref b4)]))
  refine OEnds.via (fun _ k_ => XS.aload X4.here hx rfl (hb hby at_32) rfl rfl k_) ?_
  show OEnds p e below s _ _ _ (T4.setTop (mkF m 34 #[.val (.int p0), .val (.int p1), .val (.long p2), .second, .val (.long p3), .second, .val (.int p4), .val (.ref b1), .unset, .unset, .unset, .unset, .unset, .unset, .unset, .unset, .unset, .unset] [(.ref b1), (.ref b4), (.ref b4)]))
  have hc0p0 := own_and255 p0
  generalize ((p0 &&& (255 : Int32)).toUInt32.toUInt16.toUInt32.toInt32) = c0p0 at hc0p0 V_b1
  rw [own_narc hc0p0] at V_b1
  have hc1p0 := own_and255 ((p0.toUInt32 >>> ((8 : Int32) &&& 31).toUInt32).toInt32)
  generalize ((((p0.toUInt32 >>> ((8 : Int32) &&& 31).toUInt32).toInt32) &&& (255 : Int32)).toUInt32.toUInt16.toUInt32.toInt32) = c1p0 at hc1p0 V_b1
  rw [own_narc hc1p0] at V_b1
  obtain ⟨cs_b4, hcs_b4⟩ : ∃ cs : List Int32, cs = [c0p0, c1p0] := ⟨_, rfl⟩
  have hp_b4 : ∀ c ∈ cs_b4, ¬ c < 0 ∧ ¬ (255 : Int32) < c := (by rw [hcs_b4]; exact own_allS hc0p0 (own_allS hc1p0 own_all0))
  have hl_b4 : cs_b4.length = 2 := by rw [hcs_b4]; rfl
  have Kc_b4 : Arv Z h4 b1 k1 .char (2 : Int32) (cs_b4.map Value.int) (.int (0 : Int32)) := by rw [hcs_b4]; exact V_b1
  obtain ⟨_, _, ⟨T5, L5, k5, n5⟩, -, X5, ⟨Lc5, hQ5, l5, y5, z5⟩, st5⟩ := X4.specialBack hx (y := (⟨"java/lang/String", "<init>", "([C)V"⟩ : MethodName)) rfl hown (mvT hZ (hw _ (List.mem_of_getElem? (i := 4) rfl))) (mvT hZ (hw _ (List.mem_of_getElem? (i := 5) rfl))) (mvT hZ (hw _ (List.mem_of_getElem? (i := 6) rfl))) (by decide) (StrChars.Road.backV (W := 1) hZ hws (kI := 4) (hw _ (List.mem_of_getElem? (i := 2) rfl)) (cs := cs_b4) (bs := cs_b4.map (fun c => c.toInt8.toInt32)) (n := 2) ge_b4 (Od.1 ▸ Od.2.1) E_b4 F_value_b4 F_coder_b4 Kc_b4 (Sta.ext Od.2 S_CS) nz_CS hl_b4 rfl (by decide) (by decide) hp_b4 rfl (by decide) (by decide)) (g := (mkF m 34 #[.val (.int p0), .val (.int p1), .val (.long p2), .second, .val (.long p3), .second, .val (.int p4), .val (.ref b1), .unset, .unset, .unset, .unset, .unset, .unset, .unset, .unset, .unset, .unset] [(.ref b1), (.ref b4), (.ref b4)])) rfl (by rw [hml]; rfl) (Steps.refl _) (a := b4) (argsL := [(.ref b1)]) (rest := [(.ref b4)]) (lenOf pd_285bC29V rfl) rfl (by show 2 * 0 + _ ≤ _; exact Nat.le_of_eq rfl) (hb hby at_34) (fun _ _ => ⟨rfl, e4, Nat.le_of_ble_eq_true rfl, Nat.le_of_ble_eq_true rfl⟩)
  dsimp only [Pt.U, Pt.locs, Pt.cells, Pt.slots] at X5 l5 y5 z5 st5 hQ5
  rw [l5, y5, z5] at X5
  replace X5 : Stand p l e room_1 s m #[(.int p0), (.int p1), (.long p2), (.long p3), (.int p4)] below meth c T5 _ 6 20 := X5.more (by decide) (by decide)
  obtain ⟨rfl, N5q, K5, -, C_b4, t_b4, kb_b4, ge_t_b4, sz_t_b4, ntx_b4, V_b4, K_b4⟩ := hQ5
  have ne_b1_t_b4 : b1 ≠ t_b4 := Nat.ne_of_lt (Nat.lt_of_lt_of_le V_b1.lt sz_t_b4)
  have ne_b4_t_b4 : b4 ≠ t_b4 := Nat.ne_of_lt (Nat.lt_of_lt_of_le E_b4.lt sz_t_b4)
  have N5 := Fr.app N3 N5q
  replace Od := Od.keep K5 (allS ge_b4 all0)
  replace V_b1 := V_b1.keep K5 (ninS ne_b1_b4 nin0)
  replace E_b4 := E_b4.keep K5
  refine OEnds.via (fun _ k_ => st5.trans k_) ?_
  show OEnds p e below s _ _ _ (T5.setTop (mkF m 37 #[.val (.int p0), .val (.int p1), .val (.long p2), .second, .val (.long p3), .second, .val (.int p4), .val (.ref b1), .unset, .unset, .unset, .unset, .unset, .unset, .unset, .unset, .unset, .unset] [(.ref b4)]))
  refine OEnds.via (fun _ k_ => XS.astore X5.here hx rfl (hb hby at_37) rfl rfl (l' := #[.val (.int p0), .val (.int p1), .val (.long p2), .second, .val (.long p3), .second, .val (.int p4), .val (.ref b1), .val (.ref b4), .unset, .unset, .unset, .unset, .unset, .unset, .unset, .unset, .unset]) rfl k_) ?_
  show OEnds p e below s _ _ _ (T5.setTop (mkF m 39 #[.val (.int p0), .val (.int p1), .val (.long p2), .second, .val (.long p3), .second, .val (.int p4), .val (.ref b1), .val (.ref b4), .unset, .unset, .unset, .unset, .unset, .unset, .unset, .unset, .unset] []))
  refine OEnds.via (fun _ k_ => XS.iconst X5.here hx rfl (hb hby at_39) k_) ?_
  show OEnds p e below s _ _ _ (T5.setTop (mkF m 40 #[.val (.int p0), .val (.int p1), .val (.long p2), .second, .val (.long p3), .second, .val (.int p4), .val (.ref b1), .val (.ref b4), .unset, .unset, .unset, .unset, .unset, .unset, .unset, .unset, .unset] [(.int (2 : Int32))]))
  obtain ⟨T6, h6, k6, X6, e6, E6, A6, st6⟩ := newP X5 hx hZ (hw _ (List.mem_of_getElem? (i := 0) rfl)) rfl (g := (mkF m 40 #[.val (.int p0), .val (.int p1), .val (.long p2), .second, .val (.long p3), .second, .val (.int p4), .val (.ref b1), .val (.ref b4), .unset, .unset, .unset, .unset, .unset, .unset, .unset, .unset, .unset] [(.int (2 : Int32))])) rfl (hb hby at_40) rfl (by decide) (cap := 2) (by decide) (by decide) (by decide) (by decide)
  obtain ⟨b6, g6⟩ : ∃ z, z = T5.heap.size := ⟨_, rfl⟩
  have ne_b1_b6 : b1 ≠ b6 := Nat.ne_of_lt (Nat.lt_of_lt_of_le V_b1.lt (Nat.le_of_eq g6.symm))
  have ne_b4_b6 : b4 ≠ b6 := Nat.ne_of_lt (Nat.lt_of_lt_of_le E_b4.lt (Nat.le_of_eq g6.symm))
  have ne_t_b4_b6 : t_b4 ≠ b6 := Nat.ne_of_lt (Nat.lt_of_lt_of_le K_b4.lt (Nat.le_of_eq g6.symm))
  have ge_b6 : n0 ≤ b6 := Nat.le_trans (Od.1 ▸ Od.2.1) (Nat.le_of_eq g6.symm)
  rw [← g6] at A6 st6
  replace Od := Od.ext E6
  replace V_b1 := V_b1.ext E6
  replace E_b4 := Exa.ext E6 E_b4
  replace C_b4 := Fld.ext E6 C_b4
  replace V_b4 := Fld.ext E6 V_b4
  replace K_b4 := K_b4.ext E6
  have V_b6 : Arv Z h6 b6 k6 .char (2 : Int32) [(.int (0 : Int32)), (.int (0 : Int32))] (.int (0 : Int32)) := (Arv.new A6 (by decide)).pad (pad_rep [] (.int (0 : Int32)) 2)
  refine OEnds.via (fun _ k_ => st6 _ k_) ?_
  show OEnds p e below s _ _ _ (T6.setTop (mkF m 42 #[.val (.int p0), .val (.int p1), .val (.long p2), .second, .val (.long p3), .second, .val (.int p4), .val (.ref b1), .val (.ref b4), .unset, .unset, .unset, .unset, .unset, .unset, .unset, .unset, .unset] [(.ref b6)]))
  refine OEnds.via (fun _ k_ => XS.astore X6.here hx rfl (hb hby at_42) rfl rfl (l' := #[.val (.int p0), .val (.int p1), .val (.long p2), .second, .val (.long p3), .second, .val (.int p4), .val (.ref b1), .val (.ref b4), .val (.ref b6), .unset, .unset, .unset, .unset, .unset, .unset, .unset, .unset]) rfl k_) ?_
  show OEnds p e below s _ _ _ (T6.setTop (mkF m 44 #[.val (.int p0), .val (.int p1), .val (.long p2), .second, .val (.long p3), .second, .val (.int p4), .val (.ref b1), .val (.ref b4), .val (.ref b6), .unset, .unset, .unset, .unset, .unset, .unset, .unset, .unset] []))
  refine OEnds.via (fun _ k_ => XS.aload X6.here hx rfl (hb hby at_44) rfl rfl k_) ?_
  show OEnds p e below s _ _ _ (T6.setTop (mkF m 46 #[.val (.int p0), .val (.int p1), .val (.long p2), .second, .val (.long p3), .second, .val (.int p4), .val (.ref b1), .val (.ref b4), .val (.ref b6), .unset, .unset, .unset, .unset, .unset, .unset, .unset, .unset] [(.ref b6)]))
  refine OEnds.via (fun _ k_ => XS.iconst X6.here hx rfl (hb hby at_46) k_) ?_
  show OEnds p e below s _ _ _ (T6.setTop (mkF m 47 #[.val (.int p0), .val (.int p1), .val (.long p2), .second, .val (.long p3), .second, .val (.int p4), .val (.ref b1), .val (.ref b4), .val (.ref b6), .unset, .unset, .unset, .unset, .unset, .unset, .unset, .unset] [(.int (0 : Int32)), (.ref b6)]))
  refine OEnds.via (fun _ k_ => XS.iloadN X6.here hx rfl (hb hby at_47) rfl k_) ?_
  show OEnds p e below s _ _ _ (T6.setTop (mkF m 48 #[.val (.int p0), .val (.int p1), .val (.long p2), .second, .val (.long p3), .second, .val (.int p4), .val (.ref b1), .val (.ref b4), .val (.ref b6), .unset, .unset, .unset, .unset, .unset, .unset, .unset, .unset] [(.int p1), (.int (0 : Int32)), (.ref b6)]))
  refine OEnds.via (fun _ k_ => XS.sipush X6.here hx rfl (hb hby at_48) k_) ?_
  show OEnds p e below s _ _ _ (T6.setTop (mkF m 51 #[.val (.int p0), .val (.int p1), .val (.long p2), .second, .val (.long p3), .second, .val (.int p4), .val (.ref b1), .val (.ref b4), .val (.ref b6), .unset, .unset, .unset, .unset, .unset, .unset, .unset, .unset] [(.int (255 : Int32)), (.int p1), (.int (0 : Int32)), (.ref b6)]))
  refine OEnds.via (fun _ k_ => XS.iand X6.here hx rfl (hb hby at_51) rfl k_) ?_
  show OEnds p e below s _ _ _ (T6.setTop (mkF m 52 #[.val (.int p0), .val (.int p1), .val (.long p2), .second, .val (.long p3), .second, .val (.int p4), .val (.ref b1), .val (.ref b4), .val (.ref b6), .unset, .unset, .unset, .unset, .unset, .unset, .unset, .unset] [(.int (p1 &&& (255 : Int32))), (.int (0 : Int32)), (.ref b6)]))
  refine OEnds.via (fun _ k_ => XS.i2c X6.here hx rfl (hb hby at_52) rfl k_) ?_
  show OEnds p e below s _ _ _ (T6.setTop (mkF m 53 #[.val (.int p0), .val (.int p1), .val (.long p2), .second, .val (.long p3), .second, .val (.int p4), .val (.ref b1), .val (.ref b4), .val (.ref b6), .unset, .unset, .unset, .unset, .unset, .unset, .unset, .unset] [(.int ((p1 &&& (255 : Int32)).toUInt32.toUInt16.toUInt32.toInt32)), (.int (0 : Int32)), (.ref b6)]))
  obtain ⟨cl7, Ar7, q7, S7, M7, H7, G7⟩ := V_b6
  obtain ⟨T7, h7, X7, e7, W7, st7⟩ := stC X6 hx hZ e6 Ar7 (j := (0 : Int32)) (inb_of S7 ⟨by decide, by decide⟩) (g := (mkF m 53 #[.val (.int p0), .val (.int p1), .val (.long p2), .second, .val (.long p3), .second, .val (.int p4), .val (.ref b1), .val (.ref b4), .val (.ref b6), .unset, .unset, .unset, .unset, .unset, .unset, .unset, .unset] [(.int ((p1 &&& (255 : Int32)).toUInt32.toUInt16.toUInt32.toInt32)), (.int (0 : Int32)), (.ref b6)])) rfl rfl (hb hby at_53)
  have V_b6 : Arv Z h7 b6 k6 .char (2 : Int32) [(.int (nar .char ((p1 &&& (255 : Int32)).toUInt32.toUInt16.toUInt32.toInt32))), (.int (0 : Int32))] (.int (0 : Int32)) := Arv.set Ar7 q7 S7 M7 H7 G7 (fits_nar_char _) W7 0 rfl (Nat.le_of_ble_eq_true rfl)
  have N7 := Fr.snoc X7 N5 ge_b6
  replace Od := Od.wr W7 ge_b6
  replace V_b1 := V_b1.other W7 ne_b1_b6
  replace E_b4 := Exa.wr W7 E_b4
  replace C_b4 := Fld.other W7 C_b4 (Or.inl ne_b4_b6)
  replace V_b4 := Fld.other W7 V_b4 (Or.inl ne_b4_b6)
  replace K_b4 := K_b4.other W7 ne_t_b4_b6
  refine OEnds.via (fun _ k_ => st7 _ k_) ?_
  show OEnds p e below s _ _ _ (T7.setTop (mkF m 54 #[.val (.int p0), .val (.int p1), .val (.long p2), .second, .val (.long p3), .second, .val (.int p4), .val (.ref b1), .val (.ref b4), .val (.ref b6), .unset, .unset, .unset, .unset, .unset, .unset, .unset, .unset] []))
  refine OEnds.via (fun _ k_ => XS.aload X7.here hx rfl (hb hby at_54) rfl rfl k_) ?_
  show OEnds p e below s _ _ _ (T7.setTop (mkF m 56 #[.val (.int p0), .val (.int p1), .val (.long p2), .second, .val (.long p3), .second, .val (.int p4), .val (.ref b1), .val (.ref b4), .val (.ref b6), .unset, .unset, .unset, .unset, .unset, .unset, .unset, .unset] [(.ref b6)]))
  refine OEnds.via (fun _ k_ => XS.iconst X7.here hx rfl (hb hby at_56) k_) ?_
  show OEnds p e below s _ _ _ (T7.setTop (mkF m 57 #[.val (.int p0), .val (.int p1), .val (.long p2), .second, .val (.long p3), .second, .val (.int p4), .val (.ref b1), .val (.ref b4), .val (.ref b6), .unset, .unset, .unset, .unset, .unset, .unset, .unset, .unset] [(.int (1 : Int32)), (.ref b6)]))
  refine OEnds.via (fun _ k_ => XS.iloadN X7.here hx rfl (hb hby at_57) rfl k_) ?_
  show OEnds p e below s _ _ _ (T7.setTop (mkF m 58 #[.val (.int p0), .val (.int p1), .val (.long p2), .second, .val (.long p3), .second, .val (.int p4), .val (.ref b1), .val (.ref b4), .val (.ref b6), .unset, .unset, .unset, .unset, .unset, .unset, .unset, .unset] [(.int p1), (.int (1 : Int32)), (.ref b6)]))
  refine OEnds.via (fun _ k_ => XS.bipush X7.here hx rfl (hb hby at_58) k_) ?_
  show OEnds p e below s _ _ _ (T7.setTop (mkF m 60 #[.val (.int p0), .val (.int p1), .val (.long p2), .second, .val (.long p3), .second, .val (.int p4), .val (.ref b1), .val (.ref b4), .val (.ref b6), .unset, .unset, .unset, .unset, .unset, .unset, .unset, .unset] [(.int (8 : Int32)), (.int p1), (.int (1 : Int32)), (.ref b6)]))
  refine OEnds.via (fun _ k_ => XS.iushr X7.here hx rfl (hb hby at_60) rfl k_) ?_
  show OEnds p e below s _ _ _ (T7.setTop (mkF m 61 #[.val (.int p0), .val (.int p1), .val (.long p2), .second, .val (.long p3), .second, .val (.int p4), .val (.ref b1), .val (.ref b4), .val (.ref b6), .unset, .unset, .unset, .unset, .unset, .unset, .unset, .unset] [(.int ((p1.toUInt32 >>> ((8 : Int32) &&& 31).toUInt32).toInt32)), (.int (1 : Int32)), (.ref b6)]))
  refine OEnds.via (fun _ k_ => XS.sipush X7.here hx rfl (hb hby at_61) k_) ?_
  show OEnds p e below s _ _ _ (T7.setTop (mkF m 64 #[.val (.int p0), .val (.int p1), .val (.long p2), .second, .val (.long p3), .second, .val (.int p4), .val (.ref b1), .val (.ref b4), .val (.ref b6), .unset, .unset, .unset, .unset, .unset, .unset, .unset, .unset] [(.int (255 : Int32)), (.int ((p1.toUInt32 >>> ((8 : Int32) &&& 31).toUInt32).toInt32)), (.int (1 : Int32)), (.ref b6)]))
  refine OEnds.via (fun _ k_ => XS.iand X7.here hx rfl (hb hby at_64) rfl k_) ?_
  show OEnds p e below s _ _ _ (T7.setTop (mkF m 65 #[.val (.int p0), .val (.int p1), .val (.long p2), .second, .val (.long p3), .second, .val (.int p4), .val (.ref b1), .val (.ref b4), .val (.ref b6), .unset, .unset, .unset, .unset, .unset, .unset, .unset, .unset] [(.int (((p1.toUInt32 >>> ((8 : Int32) &&& 31).toUInt32).toInt32) &&& (255 : Int32))), (.int (1 : Int32)), (.ref b6)]))
  refine OEnds.via (fun _ k_ => XS.i2c X7.here hx rfl (hb hby at_65) rfl k_) ?_
  show OEnds p e below s _ _ _ (T7.setTop (mkF m 66 #[.val (.int p0), .val (.int p1), .val (.long p2), .second, .val (.long p3), .second, .val (.int p4), .val (.ref b1), .val (.ref b4), .val (.ref b6), .unset, .unset, .unset, .unset, .unset, .unset, .unset, .unset] [(.int ((((p1.toUInt32 >>> ((8 : Int32) &&& 31).toUInt32).toInt32) &&& (255 : Int32)).toUInt32.toUInt16.toUInt32.toInt32)), (.int (1 : Int32)), (.ref b6)]))
  obtain ⟨cl8, Ar8, q8, S8, M8, H8, G8⟩ := V_b6
  obtain ⟨T8, h8, X8, e8, W8, st8⟩ := stC X7 hx hZ e7 Ar8 (j := (1 : Int32)) (inb_of S8 ⟨by decide, by decide⟩) (g := (mkF m 66 #[.val (.int p0), .val (.int p1), .val (.long p2), .second, .val (.long p3), .second, .val (.int p4), .val (.ref b1), .val (.ref b4), .val (.ref b6), .unset, .unset, .unset, .unset, .unset, .unset, .unset, .unset] [(.int ((((p1.toUInt32 >>> ((8 : Int32) &&& 31).toUInt32).toInt32) &&& (255 : Int32)).toUInt32.toUInt16.toUInt32.toInt32)), (.int (1 : Int32)), (.ref b6)])) rfl rfl (hb hby at_66)
  have V_b6 : Arv Z h8 b6 k6 .char (2 : Int32) [(.int (nar .char ((p1 &&& (255 : Int32)).toUInt32.toUInt16.toUInt32.toInt32))), (.int (nar .char ((((p1.toUInt32 >>> ((8 : Int32) &&& 31).toUInt32).toInt32) &&& (255 : Int32)).toUInt32.toUInt16.toUInt32.toInt32)))] (.int (0 : Int32)) := Arv.set Ar8 q8 S8 M8 H8 G8 (fits_nar_char _) W8 1 rfl (Nat.le_of_ble_eq_true rfl)
  have N8 := Fr.snoc X8 N7 ge_b6
  replace Od := Od.wr W8 ge_b6
  replace V_b1 := V_b1.other W8 ne_b1_b6
  replace E_b4 := Exa.wr W8 E_b4
  replace C_b4 := Fld.other W8 C_b4 (Or.inl ne_b4_b6)
  replace V_b4 := Fld.other W8 V_b4 (Or.inl ne_b4_b6)
  replace K_b4 := K_b4.other W8 ne_t_b4_b6
  refine OEnds.via (fun _ k_ => st8 _ k_) ?_
  show OEnds p e below s _ _ _ (T8.setTop (mkF m 67 #[.val (.int p0), .val (.int p1), .val (.long p2), .second, .val (.long p3), .second, .val (.int p4), .val (.ref b1), .val (.ref b4), .val (.ref b6), .unset, .unset, .unset, .unset, .unset, .unset, .unset, .unset] []))
  obtain ⟨T9, h9, X9, e9, E9, A9, D9, -, st9⟩ := newO X8 hx hZ hown (hw _ (List.mem_of_getElem? (i := 1) rfl)) (hw _ (List.mem_of_getElem? (i := 2) rfl)) (hw _ (List.mem_of_getElem? (i := 3) rfl)) e8 (g := (mkF m 67 #[.val (.int p0), .val (.int p1), .val (.long p2), .second, .val (.long p3), .second, .val (.int p4), .val (.ref b1), .val (.ref b4), .val (.ref b6), .unset, .unset, .unset, .unset, .unset, .unset, .unset, .unset] [])) rfl (hb hby at_67) (by decide) (by decide)
  obtain ⟨b9, g9⟩ : ∃ z, z = h8.size := ⟨_, rfl⟩
  have ne_b1_b9 : b1 ≠ b9 := Nat.ne_of_lt (Nat.lt_of_lt_of_le V_b1.lt (Nat.le_of_eq g9.symm))
  have ne_b4_b9 : b4 ≠ b9 := Nat.ne_of_lt (Nat.lt_of_lt_of_le E_b4.lt (Nat.le_of_eq g9.symm))
  have ne_t_b4_b9 : t_b4 ≠ b9 := Nat.ne_of_lt (Nat.lt_of_lt_of_le K_b4.lt (Nat.le_of_eq g9.symm))
  have ne_b6_b9 : b6 ≠ b9 := Nat.ne_of_lt (Nat.lt_of_lt_of_le V_b6.lt (Nat.le_of_eq g9.symm))
  have ge_b9 : n0 ≤ b9 := Nat.le_trans (Od.1 ▸ Od.2.1) (Nat.le_of_eq g9.symm)
  rw [← g9] at A9 D9 st9
  replace Od := Od.ext E9
  replace V_b1 := V_b1.ext E9
  replace E_b4 := Exa.ext E9 E_b4
  replace C_b4 := Fld.ext E9 C_b4
  replace V_b4 := Fld.ext E9 V_b4
  replace K_b4 := K_b4.ext E9
  replace V_b6 := V_b6.ext E9
  have E_b9 : Exa Z h9 b9 "java/lang/String" := A9
  have F_coder_b9 : Fld Z h9 b9 "java/lang/String" "coder" "B" (.int (0 : Int32)) := D9 (Or.inr (hw _ (List.mem_of_getElem? (i := 27) rfl))) (ty := .byte) (by decide)
  have F_value_b9 : Fld Z h9 b9 "java/lang/String" "value" "[B" .null := D9 (Or.inr (hw _ (List.mem_of_getElem? (i := 29) rfl))) (ty := (.array .byte)) (by decide)
  refine OEnds.via (fun _ k_ => st9 _ k_) ?_
  show OEnds p e below s _ _ _ (T9.setTop (mkF m 70 #[.val (.int p0), .val (.int p1), .val (.long p2), .second, .val (.long p3), .second, .val (.int p4), .val (.ref b1), .val (.ref b4), .val (.ref b6), .unset, .unset, .unset, .unset, .unset, .unset, .unset, .unset] [(.ref b9)]))
  refine OEnds.via (fun _ k_ => XS.dup X9.here hx rfl (hb hby at_70) rfl rfl k_) ?_
  show OEnds p e below s _ _ _ (T9.setTop (mkF m 71 #[.val (.int p0), .val (.int p1), .val (.long p2), .second, .val (.long p3), .second, .val (.int p4), .val (.ref b1), .val (.ref b4), .val (.ref b6), .unset, .unset, .unset, .unset, .unset, .unset, .unset, .unset] [(.ref b9), (.ref b9)]))
  refine OEnds.via (fun _ k_ => XS.aload X9.here hx rfl (hb hby at_71) rfl rfl k_) ?_
  show OEnds p e below s _ _ _ (T9.setTop (mkF m 73 #[.val (.int p0), .val (.int p1), .val (.long p2), .second, .val (.long p3), .second, .val (.int p4), .val (.ref b1), .val (.ref b4), .val (.ref b6), .unset, .unset, .unset, .unset, .unset, .unset, .unset, .unset] [(.ref b6), (.ref b9), (.ref b9)]))
  have hc0p1 := own_and255 p1
  generalize ((p1 &&& (255 : Int32)).toUInt32.toUInt16.toUInt32.toInt32) = c0p1 at hc0p1 V_b6
  rw [own_narc hc0p1] at V_b6
  have hc1p1 := own_and255 ((p1.toUInt32 >>> ((8 : Int32) &&& 31).toUInt32).toInt32)
  generalize ((((p1.toUInt32 >>> ((8 : Int32) &&& 31).toUInt32).toInt32) &&& (255 : Int32)).toUInt32.toUInt16.toUInt32.toInt32) = c1p1 at hc1p1 V_b6
  rw [own_narc hc1p1] at V_b6
  obtain ⟨cs_b9, hcs_b9⟩ : ∃ cs : List Int32, cs = [c0p1, c1p1] := ⟨_, rfl⟩
  have hp_b9 : ∀ c ∈ cs_b9, ¬ c < 0 ∧ ¬ (255 : Int32) < c := (by rw [hcs_b9]; exact own_allS hc0p1 (own_allS hc1p1 own_all0))
  have hl_b9 : cs_b9.length = 2 := by rw [hcs_b9]; rfl
  have Kc_b9 : Arv Z h9 b6 k6 .char (2 : Int32) (cs_b9.map Value.int) (.int (0 : Int32)) := by rw [hcs_b9]; exact V_b6
  obtain ⟨_, _, ⟨T10, L10, k10, n10⟩, -, X10, ⟨Lc10, hQ10, l10, y10, z10⟩, st10⟩ := X9.specialBack hx (y := (⟨"java/lang/String", "<init>", "([C)V"⟩ : MethodName)) rfl hown (mvT hZ (hw _ (List.mem_of_getElem? (i := 4) rfl))) (mvT hZ (hw _ (List.mem_of_getElem? (i := 5) rfl))) (mvT hZ (hw _ (List.mem_of_getElem? (i := 6) rfl))) (by decide) (StrChars.Road.backV (W := 1) hZ hws (kI := 4) (hw _ (List.mem_of_getElem? (i := 2) rfl)) (cs := cs_b9) (bs := cs_b9.map (fun c => c.toInt8.toInt32)) (n := 2) ge_b9 (Od.1 ▸ Od.2.1) E_b9 F_value_b9 F_coder_b9 Kc_b9 (Sta.ext Od.2 S_CS) nz_CS hl_b9 rfl (by decide) (by decide) hp_b9 rfl (by decide) (by decide)) (g := (mkF m 73 #[.val (.int p0), .val (.int p1), .val (.long p2), .second, .val (.long p3), .second, .val (.int p4), .val (.ref b1), .val (.ref b4), .val (.ref b6), .unset, .unset, .unset, .unset, .unset, .unset, .unset, .unset] [(.ref b6), (.ref b9), (.ref b9)])) rfl (by rw [hml]; rfl) (Steps.refl _) (a := b9) (argsL := [(.ref b6)]) (rest := [(.ref b9)]) (lenOf pd_285bC29V rfl) rfl (by show 2 * 0 + _ ≤ _; exact Nat.le_of_eq rfl) (hb hby at_73) (fun _ _ => ⟨rfl, e9, Nat.le_of_ble_eq_true rfl, Nat.le_of_ble_eq_true rfl⟩)
  dsimp only [Pt.U, Pt.locs, Pt.cells, Pt.slots] at X10 l10 y10 z10 st10 hQ10
  rw [l10, y10, z10] at X10
  replace X10 : Stand p l e room_1 s m #[(.int p0), (.int p1), (.long p2), (.long p3), (.int p4)] below meth c T10 _ 10 40 := X10.more (by decide) (by decide)
  obtain ⟨rfl, N10q, K10, -, C_b9, t_b9, kb_b9, ge_t_b9, sz_t_b9, ntx_b9, V_b9, K_b9⟩ := hQ10
  have ne_b1_t_b9 : b1 ≠ t_b9 := Nat.ne_of_lt (Nat.lt_of_lt_of_le V_b1.lt sz_t_b9)
  have ne_b4_t_b9 : b4 ≠ t_b9 := Nat.ne_of_lt (Nat.lt_of_lt_of_le E_b4.lt sz_t_b9)
  have ne_t_b4_t_b9 : t_b4 ≠ t_b9 := Nat.ne_of_lt (Nat.lt_of_lt_of_le K_b4.lt sz_t_b9)
  have ne_b6_t_b9 : b6 ≠ t_b9 := Nat.ne_of_lt (Nat.lt_of_lt_of_le V_b6.lt sz_t_b9)
  have ne_b9_t_b9 : b9 ≠ t_b9 := Nat.ne_of_lt (Nat.lt_of_lt_of_le E_b9.lt sz_t_b9)
  have N10 := Fr.app N8 N10q
  replace Od := Od.keep K10 (allS ge_b9 all0)
  replace V_b1 := V_b1.keep K10 (ninS ne_b1_b9 nin0)
  replace E_b4 := E_b4.keep K10
  replace C_b4 := C_b4.keep K10 (ninS ne_b4_b9 nin0)
  replace V_b4 := V_b4.keep K10 (ninS ne_b4_b9 nin0)
  replace K_b4 := K_b4.keep K10 (ninS ne_t_b4_b9 nin0)
  replace V_b6 := V_b6.keep K10 (ninS ne_b6_b9 nin0)
  replace E_b9 := E_b9.keep K10
  refine OEnds.via (fun _ k_ => st10.trans k_) ?_
  show OEnds p e below s _ _ _ (T10.setTop (mkF m 76 #[.val (.int p0), .val (.int p1), .val (.long p2), .second, .val (.long p3), .second, .val (.int p4), .val (.ref b1), .val (.ref b4), .val (.ref b6), .unset, .unset, .unset, .unset, .unset, .unset, .unset, .unset] [(.ref b9)]))
  refine OEnds.via (fun _ k_ => XS.astore X10.here hx rfl (hb hby at_76) rfl rfl (l' := #[.val (.int p0), .val (.int p1), .val (.long p2), .second, .val (.long p3), .second, .val (.int p4), .val (.ref b1), .val (.ref b4), .val (.ref b6), .val (.ref b9), .unset, .unset, .unset, .unset, .unset, .unset, .unset]) rfl k_) ?_
  show OEnds p e below s _ _ _ (T10.setTop (mkF m 78 #[.val (.int p0), .val (.int p1), .val (.long p2), .second, .val (.long p3), .second, .val (.int p4), .val (.ref b1), .val (.ref b4), .val (.ref b6), .val (.ref b9), .unset, .unset, .unset, .unset, .unset, .unset, .unset] []))
  refine OEnds.via (fun _ k_ => XS.iload X10.here hx rfl (hb hby at_78) rfl k_) ?_
  show OEnds p e below s _ _ _ (T10.setTop (mkF m 80 #[.val (.int p0), .val (.int p1), .val (.long p2), .second, .val (.long p3), .second, .val (.int p4), .val (.ref b1), .val (.ref b4), .val (.ref b6), .val (.ref b9), .unset, .unset, .unset, .unset, .unset, .unset, .unset] [(.int p4)]))
  refine OEnds.via (fun _ k_ => XS.iconst X10.here hx rfl (hb hby at_80) k_) ?_
  show OEnds p e below s _ _ _ (T10.setTop (mkF m 81 #[.val (.int p0), .val (.int p1), .val (.long p2), .second, .val (.long p3), .second, .val (.int p4), .val (.ref b1), .val (.ref b4), .val (.ref b6), .val (.ref b9), .unset, .unset, .unset, .unset, .unset, .unset, .unset] [(.int (1 : Int32)), (.int p4)]))
  refine OEnds.via (fun _ k_ => XS.iand X10.here hx rfl (hb hby at_81) rfl k_) ?_
  show OEnds p e below s _ _ _ (T10.setTop (mkF m 82 #[.val (.int p0), .val (.int p1), .val (.long p2), .second, .val (.long p3), .second, .val (.int p4), .val (.ref b1), .val (.ref b4), .val (.ref b6), .val (.ref b9), .unset, .unset, .unset, .unset, .unset, .unset, .unset] [(.int (p4 &&& (1 : Int32)))]))
  have J11 : ∀ (kv : Value) (hkv : kv.isRef = true) (hcase : kv = .null ∨ kv = .ref b9), OEnds p e below s 40 192 (QL n0) (T10.setTop (mkF m 91 #[.val (.int p0), .val (.int p1), .val (.long p2), .second, .val (.long p3), .second, .val (.int p4), .val (.ref b1), .val (.ref b4), .val (.ref b6), .val (.ref b9), .unset, .unset, .unset, .unset, .unset, .unset, .unset] [kv])) := by
    intro kv hkv hcase
    refine OEnds.via (fun _ k_ => XS.astore X10.here hx rfl (hb hby at_91) rfl hkv (l' := #[.val (.int p0), .val (.int p1), .val (.long p2), .second, .val (.long p3), .second, .val (.int p4), .val (.ref b1), .val (.ref b4), .val (.ref b6), .val (.ref b9), .val kv, .unset, .unset, .unset, .unset, .unset, .unset]) (by rcases ref_cases hkv with rfl | ⟨_, rfl⟩ <;> rfl) k_) ?_
    show OEnds p e below s _ _ _ (T10.setTop (mkF m 93 #[.val (.int p0), .val (.int p1), .val (.long p2), .second, .val (.long p3), .second, .val (.int p4), .val (.ref b1), .val (.ref b4), .val (.ref b6), .val (.ref b9), .val kv, .unset, .unset, .unset, .unset, .unset, .unset] []))
    refine OEnds.via (fun _ k_ => XS.iload X10.here hx rfl (hb hby at_93) rfl k_) ?_
    show OEnds p e below s _ _ _ (T10.setTop (mkF m 95 #[.val (.int p0), .val (.int p1), .val (.long p2), .second, .val (.long p3), .second, .val (.int p4), .val (.ref b1), .val (.ref b4), .val (.ref b6), .val (.ref b9), .val kv, .unset, .unset, .unset, .unset, .unset, .unset] [(.int p4)]))
    refine OEnds.via (fun _ k_ => XS.iconst X10.here hx rfl (hb hby at_95) k_) ?_
    show OEnds p e below s _ _ _ (T10.setTop (mkF m 96 #[.val (.int p0), .val (.int p1), .val (.long p2), .second, .val (.long p3), .second, .val (.int p4), .val (.ref b1), .val (.ref b4), .val (.ref b6), .val (.ref b9), .val kv, .unset, .unset, .unset, .unset, .unset, .unset] [(.int (1 : Int32)), (.int p4)]))
    refine OEnds.via (fun _ k_ => XS.iushr X10.here hx rfl (hb hby at_96) rfl k_) ?_
    show OEnds p e below s _ _ _ (T10.setTop (mkF m 97 #[.val (.int p0), .val (.int p1), .val (.long p2), .second, .val (.long p3), .second, .val (.int p4), .val (.ref b1), .val (.ref b4), .val (.ref b6), .val (.ref b9), .val kv, .unset, .unset, .unset, .unset, .unset, .unset] [(.int ((p4.toUInt32 >>> ((1 : Int32) &&& 31).toUInt32).toInt32))]))
    refine OEnds.via (fun _ k_ => XS.iconst X10.here hx rfl (hb hby at_97) k_) ?_
    show OEnds p e below s _ _ _ (T10.setTop (mkF m 98 #[.val (.int p0), .val (.int p1), .val (.long p2), .second, .val (.long p3), .second, .val (.int p4), .val (.ref b1), .val (.ref b4), .val (.ref b6), .val (.ref b9), .val kv, .unset, .unset, .unset, .unset, .unset, .unset] [(.int (3 : Int32)), (.int ((p4.toUInt32 >>> ((1 : Int32) &&& 31).toUInt32).toInt32))]))
    refine OEnds.via (fun _ k_ => iremM X10 hx rfl (hb hby at_98) rfl (by decide) k_) ?_
    show OEnds p e below s _ _ _ (T10.setTop (mkF m 99 #[.val (.int p0), .val (.int p1), .val (.long p2), .second, .val (.long p3), .second, .val (.int p4), .val (.ref b1), .val (.ref b4), .val (.ref b6), .val (.ref b9), .val kv, .unset, .unset, .unset, .unset, .unset, .unset] [(.int (((p4.toUInt32 >>> ((1 : Int32) &&& 31).toUInt32).toInt32) % (3 : Int32)))]))
    refine OEnds.via (fun _ k_ => XS.istore X10.here hx rfl (hb hby at_99) rfl (l' := #[.val (.int p0), .val (.int p1), .val (.long p2), .second, .val (.long p3), .second, .val (.int p4), .val (.ref b1), .val (.ref b4), .val (.ref b6), .val (.ref b9), .val kv, .val (.int (((p4.toUInt32 >>> ((1 : Int32) &&& 31).toUInt32).toInt32) % (3 : Int32))), .unset, .unset, .unset, .unset, .unset]) rfl k_) ?_
    show OEnds p e below s _ _ _ (T10.setTop (mkF m 101 #[.val (.int p0), .val (.int p1), .val (.long p2), .second, .val (.long p3), .second, .val (.int p4), .val (.ref b1), .val (.ref b4), .val (.ref b6), .val (.ref b9), .val kv, .val (.int (((p4.toUInt32 >>> ((1 : Int32) &&& 31).toUInt32).toInt32) % (3 : Int32))), .unset, .unset, .unset, .unset, .unset] []))
    obtain ⟨T12, h12, X12, e12, E12, A12, D12, -, st12⟩ := newO X10 hx hZ hown (hw _ (List.mem_of_getElem? (i := 30) rfl)) (hw _ (List.mem_of_getElem? (i := 31) rfl)) (hw _ (List.mem_of_getElem? (i := 32) rfl)) rfl (g := (mkF m 101 #[.val (.int p0), .val (.int p1), .val (.long p2), .second, .val (.long p3), .second, .val (.int p4), .val (.ref b1), .val (.ref b4), .val (.ref b6), .val (.ref b9), .val kv, .val (.int (((p4.toUInt32 >>> ((1 : Int32) &&& 31).toUInt32).toInt32) % (3 : Int32))), .unset, .unset, .unset, .unset, .unset] [])) rfl (hb hby at_101) (by decide) (by decide)
    obtain ⟨b12, g12⟩ : ∃ z, z = T10.heap.size := ⟨_, rfl⟩
    have ne_b4_b12 : b4 ≠ b12 := Nat.ne_of_lt (Nat.lt_of_lt_of_le E_b4.lt (Nat.le_of_eq g12.symm))
    have ne_b9_b12 : b9 ≠ b12 := Nat.ne_of_lt (Nat.lt_of_lt_of_le E_b9.lt (Nat.le_of_eq g12.symm))
    have ge_b12 : n0 ≤ b12 := Nat.le_trans (Od.1 ▸ Od.2.1) (Nat.le_of_eq g12.symm)
    rw [← g12] at A12 D12 st12
    replace Od := Od.ext E12
    replace E_b4 := Exa.ext E12 E_b4
    replace E_b9 := Exa.ext E12 E_b9
    have E_b12 : Exa Z h12 b12 "com/example/holdfast/holdfast/LockInfo$Reader" := A12
    have F_holder_b12 : Fld Z h12 b12 "com/example/holdfast/holdfast/LockInfo$Reader" "holder" "Ljava/lang/String;" .null := D12 (Or.inr (hw _ (List.mem_of_getElem? (i := 38) rfl))) (ty := (.object "java/lang/String")) (by decide)
    have F_remainingLeaseMillis_b12 : Fld Z h12 b12 "com/example/holdfast/holdfast/LockInfo$Reader" "remainingLeaseMillis" "J" (.long (0 : Int64)) := D12 (Or.inr (hw _ (List.mem_of_getElem? (i := 40) rfl))) (ty := .long) (by decide)
    refine OEnds.via (fun _ k_ => st12 _ k_) ?_
    show OEnds p e below s _ _ _ (T12.setTop (mkF m 104 #[.val (.int p0), .val (.int p1), .val (.long p2), .second, .val (.long p3), .second, .val (.int p4), .val (.ref b1), .val (.ref b4), .val (.ref b6), .val (.ref b9), .val kv, .val (.int (((p4.toUInt32 >>> ((1 : Int32) &&& 31).toUInt32).toInt32) % (3 : Int32))), .unset, .unset, .unset, .unset, .unset] [(.ref b12)]))
    refine OEnds.via (fun _ k_ => XS.dup X12.here hx rfl (hb hby at_104) rfl rfl k_) ?_
    show OEnds p e below s _ _ _ (T12.setTop (mkF m 105 #[.val (.int p0), .val (.int p1), .val (.long p2), .second, .val (.long p3), .second, .val (.int p4), .val (.ref b1), .val (.ref b4), .val (.ref b6), .val (.ref b9), .val kv, .val (.int (((p4.toUInt32 >>> ((1 : Int32) &&& 31).toUInt32).toInt32) % (3 : Int32))), .unset, .unset, .unset, .unset, .unset] [(.ref b12), (.ref b12)]))
    refine OEnds.via (fun _ k_ => XS.aload X12.here hx rfl (hb hby at_105) rfl rfl k_) ?_
    show OEnds p e below s _ _ _ (T12.setTop (mkF m 107 #[.val (.int p0), .val (.int p1), .val (.long p2), .second, .val (.long p3), .second, .val (.int p4), .val (.ref b1), .val (.ref b4), .val (.ref b6), .val (.ref b9), .val kv, .val (.int (((p4.toUInt32 >>> ((1 : Int32) &&& 31).toUInt32).toInt32) % (3 : Int32))), .unset, .unset, .unset, .unset, .unset] [(.ref b9), (.ref b12), (.ref b12)]))
    refine OEnds.via (fun _ k_ => XS.lloadN X12.here hx rfl (hb hby at_107) rfl k_) ?_
    show OEnds p e below s _ _ _ (T12.setTop (mkF m 108 #[.val (.int p0), .val (.int p1), .val (.long p2), .second, .val (.long p3), .second, .val (.int p4), .val (.ref b1), .val (.ref b4), .val (.ref b6), .val (.ref b9), .val kv, .val (.int (((p4.toUInt32 >>> ((1 : Int32) &&& 31).toUInt32).toInt32) % (3 : Int32))), .unset, .unset, .unset, .unset, .unset] [(.long p2), (.ref b9), (.ref b12), (.ref b12)]))
    obtain ⟨_, _, ⟨T13, L13, k13, n13⟩, -, X13, ⟨Lc13, hQ13, l13, y13, z13⟩, st13⟩ := X12.specialBack hx (y := (⟨"com/example/holdfast/holdfast/LockInfo$Reader", "<init>", "(Ljava/lang/String;J)V"⟩ : MethodName)) rfl hown (mvT hZ (hw _ (List.mem_of_getElem? (i := 33) rfl))) (mvT hZ (hw _ (List.mem_of_getElem? (i := 34) rfl))) (mvT hZ (hw _ (List.mem_of_getElem? (i := 35) rfl))) (by decide) (backOf (W := 1) (rmRd l Z a0 hw [] b12 b9 p2 h12 n0 Od F_holder_b12 F_remainingLeaseMillis_b12 E_b12 ge_b12) hZ (hw _ (List.mem_of_getElem? (i := 35) rfl)) (hw _ (List.mem_of_getElem? (i := 32) rfl)) (by decide) (by decide)) (g := (mkF m 108 #[.val (.int p0), .val (.int p1), .val (.long p2), .second, .val (.long p3), .second, .val (.int p4), .val (.ref b1), .val (.ref b4), .val (.ref b6), .val (.ref b9), .val kv, .val (.int (((p4.toUInt32 >>> ((1 : Int32) &&& 31).toUInt32).toInt32) % (3 : Int32))), .unset, .unset, .unset, .unset, .unset] [(.long p2), (.ref b9), (.ref b12), (.ref b12)])) rfl (by rw [hml]; rfl) (Steps.refl _) (a := b12) (argsL := [(.ref b9), (.long p2)]) (rest := [(.ref b12)]) (lenOf pd_28Ljava2flang2fString3bJ29V rfl) rfl (by show 2 * 0 + _ ≤ _; exact Nat.le_of_eq rfl) (hb hby at_108) (fun _ _ => ⟨rfl, e12, Nat.le_of_ble_eq_true rfl, Nat.le_of_ble_eq_true rfl⟩)
    dsimp only [Pt.U, Pt.locs, Pt.cells, Pt.slots] at X13 l13 y13 z13 st13 hQ13
    rw [l13, y13, z13] at X13
    replace X13 : Stand p l e room_1 s m #[(.int p0), (.int p1), (.long p2), (.long p3), (.int p4)] below meth c T13 _ 12 44 := X13.more (by decide) (by decide)
    obtain ⟨rfl, N13q, K13⟩ := hQ13
    have N13 := Fr.app N10 N13q
    replace Od := Od.keep K13 (allS ge_b12 all0)
    replace E_b4 := E_b4.keep K13
    replace E_b9 := E_b9.keep K13
    replace E_b12 := E_b12.keep K13
    refine OEnds.via (fun _ k_ => st13.trans k_) ?_
    show OEnds p e below s _ _ _ (T13.setTop (mkF m 111 #[.val (.int p0), .val (.int p1), .val (.long p2), .second, .val (.long p3), .second, .val (.int p4), .val (.ref b1), .val (.ref b4), .val (.ref b6), .val (.ref b9), .val kv, .val (.int (((p4.toUInt32 >>> ((1 : Int32) &&& 31).toUInt32).toInt32) % (3 : Int32))), .unset, .unset, .unset, .unset, .unset] [(.ref b12)]))
    refine OEnds.via (fun _ k_ => XS.astore X13.here hx rfl (hb hby at_111) rfl rfl (l' := #[.val (.int p0), .val (.int p1), .val (.long p2), .second, .val (.long p3), .second, .val (.int p4), .val (.ref b1), .val (.ref b4), .val (.ref b6), .val (.ref b9), .val kv, .val (.int (((p4.toUInt32 >>> ((1 : Int32) &&& 31).toUInt32).toInt32) % (3 : Int32))), .val (.ref b12), .unset, .unset, .unset, .unset]) rfl k_) ?_
    show OEnds p e below s _ _ _ (T13.setTop (mkF m 113 #[.val (.int p0), .val (.int p1), .val (.long p2), .second, .val (.long p3), .second, .val (.int p4), .val (.ref b1), .val (.ref b4), .val (.ref b6), .val (.ref b9), .val kv, .val (.int (((p4.toUInt32 >>> ((1 : Int32) &&& 31).toUInt32).toInt32) % (3 : Int32))), .val (.ref b12), .unset, .unset, .unset, .unset] []))
    obtain ⟨T14, h14, X14, e14, E14, A14, D14, -, st14⟩ := newO X13 hx hZ hown (hw _ (List.mem_of_getElem? (i := 30) rfl)) (hw _ (List.mem_of_getElem? (i := 31) rfl)) (hw _ (List.mem_of_getElem? (i := 32) rfl)) rfl (g := (mkF m 113 #[.val (.int p0), .val (.int p1), .val (.long p2), .second, .val (.long p3), .second, .val (.int p4), .val (.ref b1), .val (.ref b4), .val (.ref b6), .val (.ref b9), .val kv, .val (.int (((p4.toUInt32 >>> ((1 : Int32) &&& 31).toUInt32).toInt32) % (3 : Int32))), .val (.ref b12), .unset, .unset, .unset, .unset] [])) rfl (hb hby at_113) (by decide) (by decide)
    obtain ⟨b14, g14⟩ : ∃ z, z = T13.heap.size := ⟨_, rfl⟩
    have ne_b4_b14 : b4 ≠ b14 := Nat.ne_of_lt (Nat.lt_of_lt_of_le E_b4.lt (Nat.le_of_eq g14.symm))
    have ne_b9_b14 : b9 ≠ b14 := Nat.ne_of_lt (Nat.lt_of_lt_of_le E_b9.lt (Nat.le_of_eq g14.symm))
    have ne_b12_b14 : b12 ≠ b14 := Nat.ne_of_lt (Nat.lt_of_lt_of_le E_b12.lt (Nat.le_of_eq g14.symm))
    have ge_b14 : n0 ≤ b14 := Nat.le_trans (Od.1 ▸ Od.2.1) (Nat.le_of_eq g14.symm)
    rw [← g14] at A14 D14 st14
    replace Od := Od.ext E14
    replace E_b4 := Exa.ext E14 E_b4
    replace E_b9 := Exa.ext E14 E_b9
    replace E_b12 := Exa.ext E14 E_b12
    have E_b14 : Exa Z h14 b14 "com/example/holdfast/holdfast/LockInfo$Reader" := A14
    have F_holder_b14 : Fld Z h14 b14 "com/example/holdfast/holdfast/LockInfo$Reader" "holder" "Ljava/lang/String;" .null := D14 (Or.inr (hw _ (List.mem_of_getElem? (i := 38) rfl))) (ty := (.object "java/lang/String")) (by decide)
    have F_remainingLeaseMillis_b14 : Fld Z h14 b14 "com/example/holdfast/holdfast/LockInfo$Reader" "remainingLeaseMillis" "J" (.long (0 : Int64)) := D14 (Or.inr (hw _ (List.mem_of_getElem? (i := 40) rfl))) (ty := .long) (by decide)
    refine OEnds.via (fun _ k_ => st14 _ k_) ?_
    show OEnds p e below s _ _ _ (T14.setTop (mkF m 116 #[.val (.int p0), .val (.int p1), .val (.long p2), .second, .val (.long p3), .second, .val (.int p4), .val (.ref b1), .val (.ref b4), .val (.ref b6), .val (.ref b9), .val kv, .val (.int (((p4.toUInt32 >>> ((1 : Int32) &&& 31).toUInt32).toInt32) % (3 : Int32))), .val (.ref b12), .unset, .unset, .unset, .unset] [(.ref b14)]))
    refine OEnds.via (fun _ k_ => XS.dup X14.here hx rfl (hb hby at_116) rfl rfl k_) ?_
    show OEnds p e below s _ _ _ (T14.setTop (mkF m 117 #[.val (.int p0), .val (.int p1), .val (.long p2), .second, .val (.long p3), .second, .val (.int p4), .val (.ref b1), .val (.ref b4), .val (.ref b6), .val (.ref b9), .val kv, .val (.int (((p4.toUInt32 >>> ((1 : Int32) &&& 31).toUInt32).toInt32) % (3 : Int32))), .val (.ref b12), .unset, .unset, .unset, .unset] [(.ref b14), (.ref b14)]))
    refine OEnds.via (fun _ k_ => XS.aload X14.here hx rfl (hb hby at_117) rfl rfl k_) ?_
    show OEnds p e below s _ _ _ (T14.setTop (mkF m 119 #[.val (.int p0), .val (.int p1), .val (.long p2), .second, .val (.long p3), .second, .val (.int p4), .val (.ref b1), .val (.ref b4), .val (.ref b6), .val (.ref b9), .val kv, .val (.int (((p4.toUInt32 >>> ((1 : Int32) &&& 31).toUInt32).toInt32) % (3 : Int32))), .val (.ref b12), .unset, .unset, .unset, .unset] [(.ref b4), (.ref b14), (.ref b14)]))
    refine OEnds.via (fun _ k_ => XS.lload X14.here hx rfl (hb hby at_119) rfl k_) ?_
    show OEnds p e below s _ _ _ (T14.setTop (mkF m 121 #[.val (.int p0), .val (.int p1), .val (.long p2), .second, .val (.long p3), .second, .val (.int p4), .val (.ref b1), .val (.ref b4), .val (.ref b6), .val (.ref b9), .val kv, .val (.int (((p4.toUInt32 >>> ((1 : Int32) &&& 31).toUInt32).toInt32) % (3 : Int32))), .val (.ref b12), .unset, .unset, .unset, .unset] [(.long p3), (.ref b4), (.ref b14), (.ref b14)]))
    obtain ⟨_, _, ⟨T15, L15, k15, n15⟩, -, X15, ⟨Lc15, hQ15, l15, y15, z15⟩, st15⟩ := X14.specialBack hx (y := (⟨"com/example/holdfast/holdfast/LockInfo$Reader", "<init>", "(Ljava/lang/String;J)V"⟩ : MethodName)) rfl hown (mvT hZ (hw _ (List.mem_of_getElem? (i := 33) rfl))) (mvT hZ (hw _ (List.mem_of_getElem? (i := 34) rfl))) (mvT hZ (hw _ (List.mem_of_getElem? (i := 35) rfl))) (by decide) (backOf (W := 1) (rmRd l Z a0 hw [] b14 b4 p3 h14 n0 Od F_holder_b14 F_remainingLeaseMillis_b14 E_b14 ge_b14) hZ (hw _ (List.mem_of_getElem? (i := 35) rfl)) (hw _ (List.mem_of_getElem? (i := 32) rfl)) (by decide) (by decide)) (g := (mkF m 121 #[.val (.int p0), .val (.int p1), .val (.long p2), .second, .val (.long p3), .second, .val (.int p4), .val (.ref b1), .val (.ref b4), .val (.ref b6), .val (.ref b9), .val kv, .val (.int (((p4.toUInt32 >>> ((1 : Int32) &&& 31).toUInt32).toInt32) % (3 : Int32))), .val (.ref b12), .unset, .unset, .unset, .unset] [(.long p3), (.ref b4), (.ref b14), (.ref b14)])) rfl (by rw [hml]; rfl) (Steps.refl _) (a := b14) (argsL := [(.ref b4), (.long p3)]) (rest := [(.ref b14)]) (lenOf pd_28Ljava2flang2fString3bJ29V rfl) rfl (by show 2 * 0 + _ ≤ _; exact Nat.le_of_eq rfl) (hb hby at_121) (fun _ _ => ⟨rfl, e14, Nat.le_of_ble_eq_true rfl, Nat.le_of_ble_eq_true rfl⟩)
    dsimp only [Pt.U, Pt.locs, Pt.cells, Pt.slots] at X15 l15 y15 z15 st15 hQ15
    rw [l15, y15, z15] at X15
    replace X15 : Stand p l e room_1 s m #[(.int p0), (.int p1), (.long p2), (.long p3), (.int p4)] below meth c T15 _ 14 48 := X15.more (by decide) (by decide)
    obtain ⟨rfl, N15q, K15⟩ := hQ15
    have N15 := Fr.app N13 N15q
    replace Od := Od.keep K15 (allS ge_b14 all0)
    replace E_b4 := E_b4.keep K15
    replace E_b9 := E_b9.keep K15
    replace E_b12 := E_b12.keep K15
    replace E_b14 := E_b14.keep K15
    refine OEnds.via (fun _ k_ => st15.trans k_) ?_
    show OEnds p e below s _ _ _ (T15.setTop (mkF m 124 #[.val (.int p0), .val (.int p1), .val (.long p2), .second, .val (.long p3), .second, .val (.int p4), .val (.ref b1), .val (.ref b4), .val (.ref b6), .val (.ref b9), .val kv, .val (.int (((p4.toUInt32 >>> ((1 : Int32) &&& 31).toUInt32).toInt32) % (3 : Int32))), .val (.ref b12), .unset, .unset, .unset, .unset] [(.ref b14)]))
    refine OEnds.via (fun _ k_ => XS.astore X15.here hx rfl (hb hby at_124) rfl rfl (l' := #[.val (.int p0), .val (.int p1), .val (.long p2), .second, .val (.long p3), .second, .val (.int p4), .val (.ref b1), .val (.ref b4), .val (.ref b6), .val (.ref b9), .val kv, .val (.int (((p4.toUInt32 >>> ((1 : Int32) &&& 31).toUInt32).toInt32) % (3 : Int32))), .val (.ref b12), .val (.ref b14), .unset, .unset, .unset]) rfl k_) ?_
    show OEnds p e below s _ _ _ (T15.setTop (mkF m 126 #[.val (.int p0), .val (.int p1), .val (.long p2), .second, .val (.long p3), .second, .val (.int p4), .val (.ref b1), .val (.ref b4), .val (.ref b6), .val (.ref b9), .val kv, .val (.int (((p4.toUInt32 >>> ((1 : Int32) &&& 31).toUInt32).toInt32) % (3 : Int32))), .val (.ref b12), .val (.ref b14), .unset, .unset, .unset] []))
    obtain ⟨T16, h16, X16, e16, E16, A16, D16, -, st16⟩ := newO X15 hx hZ hown (hw _ (List.mem_of_getElem? (i := 41) rfl)) (hw _ (List.mem_of_getElem? (i := 42) rfl)) (hw _ (List.mem_of_getElem? (i := 43) rfl)) rfl (g := (mkF m 126 #[.val (.int p0), .val (.int p1), .val (.long p2), .second, .val (.long p3), .second, .val (.int p4), .val (.ref b1), .val (.ref b4), .val (.ref b6), .val (.ref b9), .val kv, .val (.int (((p4.toUInt32 >>> ((1 : Int32) &&& 31).toUInt32).toInt32) % (3 : Int32))), .val (.ref b12), .val (.ref b14), .unset, .unset, .unset] [])) rfl (hb hby at_126) (by decide) (by decide)
    obtain ⟨b16, g16⟩ : ∃ z, z = T15.heap.size := ⟨_, rfl⟩
    have ne_b4_b16 : b4 ≠ b16 := Nat.ne_of_lt (Nat.lt_of_lt_of_le E_b4.lt (Nat.le_of_eq g16.symm))
    have ne_b9_b16 : b9 ≠ b16 := Nat.ne_of_lt (Nat.lt_of_lt_of_le E_b9.lt (Nat.le_of_eq g16.symm))
    have ne_b12_b16 : b12 ≠ b16 := Nat.ne_of_lt (Nat.lt_of_lt_of_le E_b12.lt (Nat.le_of_eq g16.symm))
    have ne_b14_b16 : b14 ≠ b16 := Nat.ne_of_lt (Nat.lt_of_lt_of_le E_b14.lt (Nat.le_of_eq g16.symm))
    have ge_b16 : n0 ≤ b16 := Nat.le_trans (Od.1 ▸ Od.2.1) (Nat.le_of_eq g16.symm)
    rw [← g16] at A16 D16 st16
    replace Od := Od.ext E16
    replace E_b4 := Exa.ext E16 E_b4
    replace E_b9 := Exa.ext E16 E_b9
    replace E_b12 := Exa.ext E16 E_b12
    replace E_b14 := Exa.ext E16 E_b14
    have E_b16 : Exa Z h16 b16 "java/util/ArrayList" := A16
    have F_modCount_b16 : Fld Z h16 b16 "java/util/AbstractList" "modCount" "I" (.int (0 : Int32)) := D16 (Or.inl (hw _ (List.mem_of_getElem? (i := 61) rfl))) (ty := .int) (by decide)
    have F_elementData_b16 : Fld Z h16 b16 "java/util/ArrayList" "elementData" "[Ljava/lang/Object;" .null := D16 (Or.inl (hw _ (List.mem_of_getElem? (i := 64) rfl))) (ty := (.array (.object "java/lang/Object"))) (by decide)
    have F_size_b16 : Fld Z h16 b16 "java/util/ArrayList" "size" "I" (.int (0 : Int32)) := D16 (Or.inl (hw _ (List.mem_of_getElem? (i := 73) rfl))) (ty := .int) (by decide)
    refine OEnds.via (fun _ k_ => st16 _ k_) ?_
    show OEnds p e below s _ _ _ (T16.setTop (mkF m 129 #[.val (.int p0), .val (.int p1), .val (.long p2), .second, .val (.long p3), .second, .val (.int p4), .val (.ref b1), .val (.ref b4), .val (.ref b6), .val (.ref b9), .val kv, .val (.int (((p4.toUInt32 >>> ((1 : Int32) &&& 31).toUInt32).toInt32) % (3 : Int32))), .val (.ref b12), .val (.ref b14), .unset, .unset, .unset] [(.ref b16)]))
    refine OEnds.via (fun _ k_ => XS.dup X16.here hx rfl (hb hby at_129) rfl rfl k_) ?_
    show OEnds p e below s _ _ _ (T16.setTop (mkF m 130 #[.val (.int p0), .val (.int p1), .val (.long p2), .second, .val (.long p3), .second, .val (.int p4), .val (.ref b1), .val (.ref b4), .val (.ref b6), .val (.ref b9), .val kv, .val (.int (((p4.toUInt32 >>> ((1 : Int32) &&& 31).toUInt32).toInt32) % (3 : Int32))), .val (.ref b12), .val (.ref b14), .unset, .unset, .unset] [(.ref b16), (.ref b16)]))
    obtain ⟨_, _, ⟨T17, L17, k17, n17⟩, -, X17, ⟨Lc17, hQ17, l17, y17, z17⟩, st17⟩ := X16.specialBack hx (y := (⟨"java/util/ArrayList", "<init>", "()V"⟩ : MethodName)) rfl hown (mvT hZ (hw _ (List.mem_of_getElem? (i := 44) rfl))) (mvT hZ (hw _ (List.mem_of_getElem? (i := 45) rfl))) (mvT hZ (hw _ (List.mem_of_getElem? (i := 46) rfl))) (by decide) (backOf (W := 1) (rmNew l Z a0 hw [] b16 dc h16 n0 Od F_modCount_b16 F_elementData_b16 F_size_b16 E_b16 ge_b16 S_dc) hZ (hw _ (List.mem_of_getElem? (i := 46) rfl)) (hw _ (List.mem_of_getElem? (i := 43) rfl)) (by decide) (by decide)) (g := (mkF m 130 #[.val (.int p0), .val (.int p1), .val (.long p2), .second, .val (.long p3), .second, .val (.int p4), .val (.ref b1), .val (.ref b4), .val (.ref b6), .val (.ref b9), .val kv, .val (.int (((p4.toUInt32 >>> ((1 : Int32) &&& 31).toUInt32).toInt32) % (3 : Int32))), .val (.ref b12), .val (.ref b14), .unset, .unset, .unset] [(.ref b16), (.ref b16)])) rfl (by rw [hml]; rfl) (Steps.refl _) (a := b16) (argsL := []) (rest := [(.ref b16)]) (lenOf pd_2829V rfl) rfl (by show 2 * 0 + _ ≤ _; exact Nat.le_of_eq rfl) (hb hby at_130) (fun _ _ => ⟨rfl, e16, Nat.le_of_ble_eq_true rfl, Nat.le_of_ble_eq_true rfl⟩)
    dsimp only [Pt.U, Pt.locs, Pt.cells, Pt.slots] at X17 l17 y17 z17 st17 hQ17
    rw [l17, y17, z17] at X17
    replace X17 : Stand p l e room_1 s m #[(.int p0), (.int p1), (.long p2), (.long p3), (.int p4)] below meth c T17 _ 16 56 := X17.more (by decide) (by decide)
    obtain ⟨rfl, N17q, K17, -, G_modCount, G_elementData, G_size⟩ := hQ17
    have N17 := Fr.app N15 N17q
    replace Od := Od.keep K17 (allS ge_b16 all0)
    replace E_b4 := E_b4.keep K17
    replace E_b9 := E_b9.keep K17
    replace E_b12 := E_b12.keep K17
    replace E_b14 := E_b14.keep K17
    replace E_b16 := E_b16.keep K17
    refine OEnds.via (fun _ k_ => st17.trans k_) ?_
    show OEnds p e below s _ _ _ (T17.setTop (mkF m 133 #[.val (.int p0), .val (.int p1), .val (.long p2), .second, .val (.long p3), .second, .val (.int p4), .val (.ref b1), .val (.ref b4), .val (.ref b6), .val (.ref b9), .val kv, .val (.int (((p4.toUInt32 >>> ((1 : Int32) &&& 31).toUInt32).toInt32) % (3 : Int32))), .val (.ref b12), .val (.ref b14), .unset, .unset, .unset] [(.ref b16)]))
    refine OEnds.via (fun _ k_ => XS.astore X17.here hx rfl (hb hby at_133) rfl rfl (l' := #[.val (.int p0), .val (.int p1), .val (.long p2), .second, .val (.long p3), .second, .val (.int p4), .val (.ref b1), .val (.ref b4), .val (.ref b6), .val (.ref b9), .val kv, .val (.int (((p4.toUInt32 >>> ((1 : Int32) &&& 31).toUInt32).toInt32) % (3 : Int32))), .val (.ref b12), .val (.ref b14), .val (.ref b16), .unset, .unset]) rfl k_) ?_
    show OEnds p e below s _ _ _ (T17.setTop (mkF m 135 #[.val (.int p0), .val (.int p1), .val (.long p2), .second, .val (.long p3), .second, .val (.int p4), .val (.ref b1), .val (.ref b4), .val (.ref b6), .val (.ref b9), .val kv, .val (.int (((p4.toUInt32 >>> ((1 : Int32) &&& 31).toUInt32).toInt32) % (3 : Int32))), .val (.ref b12), .val (.ref b14), .val (.ref b16), .unset, .unset] []))
    rcases own_cnt p4 with hk | hk | hk
    · skip
      rw [hk]
      show OEnds p e below s _ _ _ (T17.setTop (mkF m 135 #[.val (.int p0), .val (.int p1), .val (.long p2), .second, .val (.long p3), .second, .val (.int p4), .val (.ref b1), .val (.ref b4), .val (.ref b6), .val (.ref b9), .val kv, .val (.int (0 : Int32)), .val (.ref b12), .val (.ref b14), .val (.ref b16), .unset, .unset] []))
      refine OEnds.via (fun _ k_ => XS.iload X17.here hx rfl (hb hby at_135) rfl k_) ?_
      show OEnds p e below s _ _ _ (T17.setTop (mkF m 137 #[.val (.int p0), .val (.int p1), .val (.long p2), .second, .val (.long p3), .second, .val (.int p4), .val (.ref b1), .val (.ref b4), .val (.ref b6), .val (.ref b9), .val kv, .val (.int (0 : Int32)), .val (.ref b12), .val (.ref b14), .val (.ref b16), .unset, .unset] [(.int (0 : Int32))]))
      refine OEnds.via (fun _ k_ => XS.iconst X17.here hx rfl (hb hby at_137) k_) ?_
      show OEnds p e below s _ _ _ (T17.setTop (mkF m 138 #[.val (.int p0), .val (.int p1), .val (.long p2), .second, .val (.long p3), .second, .val (.int p4), .val (.ref b1), .val (.ref b4), .val (.ref b6), .val (.ref b9), .val kv, .val (.int (0 : Int32)), .val (.ref b12), .val (.ref b14), .val (.ref b16), .unset, .unset] [(.int (1 : Int32)), (.int (0 : Int32))]))
      refine OEnds.via (fun _ k_ => XS.icmpYes X17.here hx rfl (pc0 := 138) (pc' := 149) rfl (hb hby at_138) rfl (tlt (by decide : (0 : Int32) < (1 : Int32))).1 (by decide) (by decide) k_) ?_
      show OEnds p e below s _ _ _ (T17.setTop (mkF m 149 #[.val (.int p0), .val (.int p1), .val (.long p2), .second, .val (.long p3), .second, .val (.int p4), .val (.ref b1), .val (.ref b4), .val (.ref b6), .val (.ref b9), .val kv, .val (.int (0 : Int32)), .val (.ref b12), .val (.ref b14), .val (.ref b16), .unset, .unset] []))
      refine OEnds.via (fun _ k_ => XS.iload X17.here hx rfl (hb hby at_149) rfl k_) ?_
      show OEnds p e below s _ _ _ (T17.setTop (mkF m 151 #[.val (.int p0), .val (.int p1), .val (.long p2), .second, .val (.long p3), .second, .val (.int p4), .val (.ref b1), .val (.ref b4), .val (.ref b6), .val (.ref b9), .val kv, .val (.int (0 : Int32)), .val (.ref b12), .val (.ref b14), .val (.ref b16), .unset, .unset] [(.int (0 : Int32))]))
      refine OEnds.via (fun _ k_ => XS.iconst X17.here hx rfl (hb hby at_151) k_) ?_
      show OEnds p e below s _ _ _ (T17.setTop (mkF m 152 #[.val (.int p0), .val (.int p1), .val (.long p2), .second, .val (.long p3), .second, .val (.int p4), .val (.ref b1), .val (.ref b4), .val (.ref b6), .val (.ref b9), .val kv, .val (.int (0 : Int32)), .val (.ref b12), .val (.ref b14), .val (.ref b16), .unset, .unset] [(.int (2 : Int32)), (.int (0 : Int32))]))
      refine OEnds.via (fun _ k_ => XS.icmpYes X17.here hx rfl (pc0 := 152) (pc' := 163) rfl (hb hby at_152) rfl (tlt (by decide : (0 : Int32) < (2 : Int32))).1 (by decide) (by decide) k_) ?_
      show OEnds p e below s _ _ _ (T17.setTop (mkF m 163 #[.val (.int p0), .val (.int p1), .val (.long p2), .second, .val (.long p3), .second, .val (.int p4), .val (.ref b1), .val (.ref b4), .val (.ref b6), .val (.ref b9), .val kv, .val (.int (0 : Int32)), .val (.ref b12), .val (.ref b14), .val (.ref b16), .unset, .unset] []))
      refine OEnds.via (fun _ k_ => XS.aload X17.here hx rfl (hb hby at_163) rfl rfl k_) ?_
      show OEnds p e below s _ _ _ (T17.setTop (mkF m 165 #[.val (.int p0), .val (.int p1), .val (.long p2), .second, .val (.long p3), .second, .val (.int p4), .val (.ref b1), .val (.ref b4), .val (.ref b6), .val (.ref b9), .val kv, .val (.int (0 : Int32)), .val (.ref b12), .val (.ref b14), .val (.ref b16), .unset, .unset] [(.ref b4)]))
      refine OEnds.via (fun _ k_ => XS.aload X17.here hx rfl (hb hby at_165) rfl hkv k_) ?_
      show OEnds p e below s _ _ _ (T17.setTop (mkF m 167 #[.val (.int p0), .val (.int p1), .val (.long p2), .second, .val (.long p3), .second, .val (.int p4), .val (.ref b1), .val (.ref b4), .val (.ref b6), .val (.ref b9), .val kv, .val (.int (0 : Int32)), .val (.ref b12), .val (.ref b14), .val (.ref b16), .unset, .unset] [kv, (.ref b4)]))
      refine OEnds.via (fun _ k_ => XS.lloadN X17.here hx rfl (hb hby at_167) rfl k_) ?_
      show OEnds p e below s _ _ _ (T17.setTop (mkF m 168 #[.val (.int p0), .val (.int p1), .val (.long p2), .second, .val (.long p3), .second, .val (.int p4), .val (.ref b1), .val (.ref b4), .val (.ref b6), .val (.ref b9), .val kv, .val (.int (0 : Int32)), .val (.ref b12), .val (.ref b14), .val (.ref b16), .unset, .unset] [(.long p2), kv, (.ref b4)]))
      refine OEnds.via (fun _ k_ => XS.lload X17.here hx rfl (hb hby at_168) rfl k_) ?_
      show OEnds p e below s _ _ _ (T17.setTop (mkF m 170 #[.val (.int p0), .val (.int p1), .val (.long p2), .second, .val (.long p3), .second, .val (.int p4), .val (.ref b1), .val (.ref b4), .val (.ref b6), .val (.ref b9), .val kv, .val (.int (0 : Int32)), .val (.ref b12), .val (.ref b14), .val (.ref b16), .unset, .unset] [(.long p3), (.long p2), kv, (.ref b4)]))
      refine OEnds.via (fun _ k_ => XS.aload X17.here hx rfl (hb hby at_170) rfl rfl k_) ?_
      show OEnds p e below s _ _ _ (T17.setTop (mkF m 172 #[.val (.int p0), .val (.int p1), .val (.long p2), .second, .val (.long p3), .second, .val (.int p4), .val (.ref b1), .val (.ref b4), .val (.ref b6), .val (.ref b9), .val kv, .val (.int (0 : Int32)), .val (.ref b12), .val (.ref b14), .val (.ref b16), .unset, .unset] [(.ref b16), (.long p3), (.long p2), kv, (.ref b4)]))
      obtain ⟨_, _, ⟨T18, L18, k18, n18⟩, -, X18, ⟨Lc18, hQ18, l18, y18, z18⟩, st18⟩ := Jvm.LawKit.callS X17 hx (y := (⟨"com/example/holdfast/holdfast/LockInfo", "held", "(Ljava/lang/String;Ljava/lang/String;JJLjava/util/List;)Lcom/example/holdfast/holdfast/LockInfo;"⟩ : MethodName)) hown (mvT hZ (hw _ (List.mem_of_getElem? (i := 96) rfl))) (mvT hZ (hw _ (List.mem_of_getElem? (i := 97) rfl))) (mvT hZ (hw _ (List.mem_of_getElem? (i := 98) rfl))) (mvT hZ (hw _ (List.mem_of_getElem? (i := 99) rfl))) (by decide) (backOf (W := 0) (rmHd0 l Z a0 hw [] b4 kv p2 p3 b16 el T17.heap n0 Od hkv G_size E_b16 S_el) hZ (hw _ (List.mem_of_getElem? (i := 99) rfl)) (hw _ (List.mem_of_getElem? (i := 98) rfl)) (by decide) (by decide)) (g := (mkF m 172 #[.val (.int p0), .val (.int p1), .val (.long p2), .second, .val (.long p3), .second, .val (.int p4), .val (.ref b1), .val (.ref b4), .val (.ref b6), .val (.ref b9), .val kv, .val (.int (0 : Int32)), .val (.ref b12), .val (.ref b14), .val (.ref b16), .unset, .unset] [(.ref b16), (.long p3), (.long p2), kv, (.ref b4)])) rfl (by rw [hml]; rfl) (argsL := [(.ref b4), kv, (.long p2), (.long p3), (.ref b16)]) (rest := []) (lenOf pd_28Ljava2flang2fString3bLjava2flang2fString3bJJLjava2futil2fList3b29Lcom2fexample2fholdfast2fholdfast2fLockInfo3b rfl) rfl (by show 2 * 0 + _ ≤ _; exact Nat.le_of_eq rfl) (hb hby at_172) (fun _ _ => ⟨rfl, rfl, Nat.le_of_ble_eq_true rfl, Nat.le_of_ble_eq_true rfl⟩)
      dsimp only [Pt.U, Pt.locs, Pt.cells, Pt.slots] at X18 l18 y18 z18 st18 hQ18
      rw [l18, y18, z18] at X18
      replace X18 : Stand p l e room_1 s m #[(.int p0), (.int p1), (.long p2), (.long p3), (.int p4)] below meth c T18 _ 26 130 := X18.more (by decide) (by decide)
      obtain ⟨li, rfl, N18q, K18, ge_li, sz_li, E_li, G_name, G_held, G_holder, G_remainingLeaseMillis, G_fencingToken, G_readers⟩ := hQ18
      have ne_b4_li : b4 ≠ li := Nat.ne_of_lt (Nat.lt_of_lt_of_le E_b4.lt sz_li)
      have ne_b9_li : b9 ≠ li := Nat.ne_of_lt (Nat.lt_of_lt_of_le E_b9.lt sz_li)
      have ne_b12_li : b12 ≠ li := Nat.ne_of_lt (Nat.lt_of_lt_of_le E_b12.lt sz_li)
      have ne_b14_li : b14 ≠ li := Nat.ne_of_lt (Nat.lt_of_lt_of_le E_b14.lt sz_li)
      have ne_b16_li : b16 ≠ li := Nat.ne_of_lt (Nat.lt_of_lt_of_le E_b16.lt sz_li)
      have N18 := Fr.app N17 N18q
      replace Od := Od.keep K18 all0
      replace E_b4 := E_b4.keep K18
      replace E_b9 := E_b9.keep K18
      replace E_b12 := E_b12.keep K18
      replace E_b14 := E_b14.keep K18
      replace E_b16 := E_b16.keep K18
      replace G_modCount := G_modCount.keep K18 nin0
      replace G_elementData := G_elementData.keep K18 nin0
      replace G_size := G_size.keep K18 nin0
      refine OEnds.via (fun _ k_ => st18 _ k_) ?_
      show OEnds p e below s _ _ _ (T18.setTop (mkF m 175 #[.val (.int p0), .val (.int p1), .val (.long p2), .second, .val (.long p3), .second, .val (.int p4), .val (.ref b1), .val (.ref b4), .val (.ref b6), .val (.ref b9), .val kv, .val (.int (0 : Int32)), .val (.ref b12), .val (.ref b14), .val (.ref b16), .unset, .unset] [(.ref li)]))
      refine OEnds.via (fun _ k_ => XS.astore X18.here hx rfl (hb hby at_175) rfl rfl (l' := #[.val (.int p0), .val (.int p1), .val (.long p2), .second, .val (.long p3), .second, .val (.int p4), .val (.ref b1), .val (.ref b4), .val (.ref b6), .val (.ref b9), .val kv, .val (.int (0 : Int32)), .val (.ref b12), .val (.ref b14), .val (.ref b16), .val (.ref li), .unset]) rfl k_) ?_
      show OEnds p e below s _ _ _ (T18.setTop (mkF m 177 #[.val (.int p0), .val (.int p1), .val (.long p2), .second, .val (.long p3), .second, .val (.int p4), .val (.ref b1), .val (.ref b4), .val (.ref b6), .val (.ref b9), .val kv, .val (.int (0 : Int32)), .val (.ref b12), .val (.ref b14), .val (.ref b16), .val (.ref li), .unset] []))
      refine OEnds.via (fun _ k_ => XS.aload X18.here hx rfl (hb hby at_177) rfl rfl k_) ?_
      show OEnds p e below s _ _ _ (T18.setTop (mkF m 179 #[.val (.int p0), .val (.int p1), .val (.long p2), .second, .val (.long p3), .second, .val (.int p4), .val (.ref b1), .val (.ref b4), .val (.ref b6), .val (.ref b9), .val kv, .val (.int (0 : Int32)), .val (.ref b12), .val (.ref b14), .val (.ref b16), .val (.ref li), .unset] [(.ref b16)]))
      refine OEnds.via (fun _ k_ => XS.aload X18.here hx rfl (hb hby at_179) rfl rfl k_) ?_
      show OEnds p e below s _ _ _ (T18.setTop (mkF m 181 #[.val (.int p0), .val (.int p1), .val (.long p2), .second, .val (.long p3), .second, .val (.int p4), .val (.ref b1), .val (.ref b4), .val (.ref b6), .val (.ref b9), .val kv, .val (.int (0 : Int32)), .val (.ref b12), .val (.ref b14), .val (.ref b16), .val (.ref li), .unset] [(.ref b12), (.ref b16)]))
      obtain ⟨cq19, kq19, q19a, q19b, q19c⟩ := isOf hZ rfl E_b16
      obtain ⟨_, _, ⟨T19, L19, k19, n19⟩, -, X19, ⟨Lc19, hQ19, l19, y19, z19⟩, st19⟩ := X18.virtualBack hx (y := (⟨"java/util/ArrayList", "add", "(Ljava/lang/Object;)Z"⟩ : MethodName)) (z := (⟨"java/util/ArrayList", "add", "(Ljava/lang/Object;)Z"⟩ : MethodName)) hown (mvT hZ (hw _ (List.mem_of_getElem? (i := 65) rfl))) (mvT hZ (hw _ (List.mem_of_getElem? (i := 66) rfl))) (notFace_of_selects (args := #[]) (mvT hZ (hw _ (List.mem_of_getElem? (i := 68) rfl)))) (mvT hZ (hw _ (List.mem_of_getElem? (i := 68) rfl))) (mvT hZ (hw _ (List.mem_of_getElem? (i := 67) rfl))) (by decide) (backOf (W := 0) (rmA0 l Z a0 hw [] b16 b12 (0 : Int32) dc kdc T18.heap n0 Od G_modCount G_elementData G_size E_b16 ge_b16 S_dc V_dc E_b12 ne_b12_b16) hZ (hw _ (List.mem_of_getElem? (i := 69) rfl)) (hw _ (List.mem_of_getElem? (i := 43) rfl)) (by decide) (by decide)) q19a q19c (g := (mkF m 181 #[.val (.int p0), .val (.int p1), .val (.long p2), .second, .val (.long p3), .second, .val (.int p4), .val (.ref b1), .val (.ref b4), .val (.ref b6), .val (.ref b9), .val kv, .val (.int (0 : Int32)), .val (.ref b12), .val (.ref b14), .val (.ref b16), .val (.ref li), .unset] [(.ref b12), (.ref b16)])) rfl (by rw [hml]; rfl) (Steps.refl _) (argsL := [(.ref b12)]) (rest := []) (lenOf pd_28Ljava2flang2fObject3b29Z rfl) rfl (by show 2 * 0 + _ ≤ _; exact Nat.le_of_eq rfl) (hb hby at_181) (fun _ _ => ⟨rfl, rfl, Nat.le_of_ble_eq_true rfl, Nat.le_of_ble_eq_true rfl⟩)
      dsimp only [Pt.U, Pt.locs, Pt.cells, Pt.slots] at X19 l19 y19 z19 st19 hQ19
      rw [l19, y19, z19] at X19
      replace X19 : Stand p l e room_1 s m #[(.int p0), (.int p1), (.long p2), (.long p3), (.int p4)] below meth c T19 _ 30 150 := X19.more (by decide) (by decide)
      obtain ⟨d, kd, rfl, N19q, K19, -, G_modCount, G_elementData, G_size, ge_d, sz_d, O_d, V_d, E_d⟩ := hQ19
      have ne_b4_d : b4 ≠ d := Nat.ne_of_lt (Nat.lt_of_lt_of_le E_b4.lt sz_d)
      have ne_b9_d : b9 ≠ d := Nat.ne_of_lt (Nat.lt_of_lt_of_le E_b9.lt sz_d)
      have ne_b12_d : b12 ≠ d := Nat.ne_of_lt (Nat.lt_of_lt_of_le E_b12.lt sz_d)
      have ne_b14_d : b14 ≠ d := Nat.ne_of_lt (Nat.lt_of_lt_of_le E_b14.lt sz_d)
      have ne_b16_d : b16 ≠ d := Nat.ne_of_lt (Nat.lt_of_lt_of_le E_b16.lt sz_d)
      have ne_li_d : li ≠ d := Nat.ne_of_lt (Nat.lt_of_lt_of_le E_li.lt sz_d)
      have N19 := Fr.app N18 N19q
      replace Od := Od.keep K19 (allS ge_b16 all0)
      replace E_b4 := E_b4.keep K19
      replace E_b9 := E_b9.keep K19
      replace E_b12 := E_b12.keep K19
      replace E_b14 := E_b14.keep K19
      replace E_b16 := E_b16.keep K19
      replace E_li := E_li.keep K19
      replace G_name := G_name.keep K19 (ninS (Ne.symm ne_b16_li) nin0)
      replace G_held := G_held.keep K19 (ninS (Ne.symm ne_b16_li) nin0)
      replace G_holder := G_holder.keep K19 (ninS (Ne.symm ne_b16_li) nin0)
      replace G_remainingLeaseMillis := G_remainingLeaseMillis.keep K19 (ninS (Ne.symm ne_b16_li) nin0)
      replace G_fencingToken := G_fencingToken.keep K19 (ninS (Ne.symm ne_b16_li) nin0)
      replace G_readers := G_readers.keep K19 (ninS (Ne.symm ne_b16_li) nin0)
      refine OEnds.via (fun _ k_ => st19.trans k_) ?_
      show OEnds p e below s _ _ _ (T19.setTop (mkF m 184 #[.val (.int p0), .val (.int p1), .val (.long p2), .second, .val (.long p3), .second, .val (.int p4), .val (.ref b1), .val (.ref b4), .val (.ref b6), .val (.ref b9), .val kv, .val (.int (0 : Int32)), .val (.ref b12), .val (.ref b14), .val (.ref b16), .val (.ref li), .unset] [(.int (1 : Int32))]))
      refine OEnds.via (fun _ k_ => XS.pop X19.here hx rfl (hb hby at_184) rfl rfl k_) ?_
      show OEnds p e below s _ _ _ (T19.setTop (mkF m 185 #[.val (.int p0), .val (.int p1), .val (.long p2), .second, .val (.long p3), .second, .val (.int p4), .val (.ref b1), .val (.ref b4), .val (.ref b6), .val (.ref b9), .val kv, .val (.int (0 : Int32)), .val (.ref b12), .val (.ref b14), .val (.ref b16), .val (.ref li), .unset] []))
      refine OEnds.via (fun _ k_ => XS.aload X19.here hx rfl (hb hby at_185) rfl rfl k_) ?_
      show OEnds p e below s _ _ _ (T19.setTop (mkF m 187 #[.val (.int p0), .val (.int p1), .val (.long p2), .second, .val (.long p3), .second, .val (.int p4), .val (.ref b1), .val (.ref b4), .val (.ref b6), .val (.ref b9), .val kv, .val (.int (0 : Int32)), .val (.ref b12), .val (.ref b14), .val (.ref b16), .val (.ref li), .unset] [(.ref b4)]))
      refine OEnds.via (fun _ k_ => XS.aload X19.here hx rfl (hb hby at_187) rfl rfl k_) ?_
      show OEnds p e below s _ _ _ (T19.setTop (mkF m 189 #[.val (.int p0), .val (.int p1), .val (.long p2), .second, .val (.long p3), .second, .val (.int p4), .val (.ref b1), .val (.ref b4), .val (.ref b6), .val (.ref b9), .val kv, .val (.int (0 : Int32)), .val (.ref b12), .val (.ref b14), .val (.ref b16), .val (.ref li), .unset] [(.ref li), (.ref b4)]))
      obtain ⟨cq20, kq20, q20a, q20b, q20c⟩ := isOf hZ rfl E_li
      obtain ⟨_, _, ⟨T20, L20, k20, n20⟩, -, X20, ⟨Lc20, hQ20, l20, y20, z20⟩, st20⟩ := X19.virtualBack hx (y := (⟨"com/example/holdfast/holdfast/LockInfo", "name", "()Ljava/lang/String;"⟩ : MethodName)) (z := (⟨"com/example/holdfast/holdfast/LockInfo", "name", "()Ljava/lang/String;"⟩ : MethodName)) hown (mvT hZ (hw _ (List.mem_of_getElem? (i := 204) rfl))) (mvT hZ (hw _ (List.mem_of_getElem? (i := 205) rfl))) (notFace_of_selects (args := #[]) (mvT hZ (hw _ (List.mem_of_getElem? (i := 207) rfl)))) (mvT hZ (hw _ (List.mem_of_getElem? (i := 207) rfl))) (mvT hZ (hw _ (List.mem_of_getElem? (i := 206) rfl))) (by decide) (backOf (W := 1) (rm_name l Z a0 hw [] li b4 T19.heap n0 Od G_name) hZ (hw _ (List.mem_of_getElem? (i := 208) rfl)) (hw _ (List.mem_of_getElem? (i := 98) rfl)) (by decide) (by decide)) q20a q20c (g := (mkF m 189 #[.val (.int p0), .val (.int p1), .val (.long p2), .second, .val (.long p3), .second, .val (.int p4), .val (.ref b1), .val (.ref b4), .val (.ref b6), .val (.ref b9), .val kv, .val (.int (0 : Int32)), .val (.ref b12), .val (.ref b14), .val (.ref b16), .val (.ref li), .unset] [(.ref li), (.ref b4)])) rfl (by rw [hml]; rfl) (Steps.refl _) (argsL := []) (rest := [(.ref b4)]) (lenOf pd_2829Ljava2flang2fString3b rfl) rfl (by show 2 * 0 + _ ≤ _; exact Nat.le_of_eq rfl) (hb hby at_189) (fun _ _ => ⟨rfl, rfl, Nat.le_of_ble_eq_true rfl, Nat.le_of_ble_eq_true rfl⟩)
      dsimp only [Pt.U, Pt.locs, Pt.cells, Pt.slots] at X20 l20 y20 z20 st20 hQ20
      rw [l20, y20, z20] at X20
      replace X20 : Stand p l e room_1 s m #[(.int p0), (.int p1), (.long p2), (.long p3), (.int p4)] below meth c T20 _ 30 150 := X20.more (by decide) (by decide)
      obtain ⟨rfl, N20q, e20⟩ := hQ20
      have N20 := Fr.app N19 N20q
      refine OEnds.via (fun _ k_ => st20.trans k_) ?_
      show OEnds p e below s _ _ _ (T20.setTop (mkF m 192 #[.val (.int p0), .val (.int p1), .val (.long p2), .second, .val (.long p3), .second, .val (.int p4), .val (.ref b1), .val (.ref b4), .val (.ref b6), .val (.ref b9), .val kv, .val (.int (0 : Int32)), .val (.ref b12), .val (.ref b14), .val (.ref b16), .val (.ref li), .unset] [(.ref b4), (.ref b4)]))
      obtain ⟨cq21, kq21, q21a, q21b, q21c⟩ := isOf hZ e20 E_b4
      obtain ⟨_, _, ⟨T21, L21, k21, n21⟩, -, X21, ⟨Lc21, hQ21, l21, y21, z21⟩, st21⟩ := X20.virtualBack hx (y := (⟨"java/lang/String", "equals", "(Ljava/lang/Object;)Z"⟩ : MethodName)) (z := (⟨"java/lang/String", "equals", "(Ljava/lang/Object;)Z"⟩ : MethodName)) hown (mvT hZ (hw _ (List.mem_of_getElem? (i := 209) rfl))) (mvT hZ (hw _ (List.mem_of_getElem? (i := 210) rfl))) (notFace_of_selects (args := #[]) (mvT hZ (hw _ (List.mem_of_getElem? (i := 212) rfl)))) (mvT hZ (hw _ (List.mem_of_getElem? (i := 212) rfl))) (mvT hZ (hw _ (List.mem_of_getElem? (i := 211) rfl))) (by decide) (backOf (W := 0) (rmSelf l Z a0 hw [] b4 T19.heap n0 Od ) hZ (hw _ (List.mem_of_getElem? (i := 213) rfl)) (hw _ (List.mem_of_getElem? (i := 3) rfl)) (by decide) (by decide)) q21a q21c (g := (mkF m 192 #[.val (.int p0), .val (.int p1), .val (.long p2), .second, .val (.long p3), .second, .val (.int p4), .val (.ref b1), .val (.ref b4), .val (.ref b6), .val (.ref b9), .val kv, .val (.int (0 : Int32)), .val (.ref b12), .val (.ref b14), .val (.ref b16), .val (.ref li), .unset] [(.ref b4), (.ref b4)])) rfl (by rw [hml]; rfl) (Steps.refl _) (argsL := [(.ref b4)]) (rest := []) (lenOf pd_28Ljava2flang2fObject3b29Z rfl) rfl (by show 2 * 0 + _ ≤ _; exact Nat.le_of_eq rfl) (hb hby at_192) (fun _ _ => ⟨rfl, e20, Nat.le_of_ble_eq_true rfl, Nat.le_of_ble_eq_true rfl⟩)
      dsimp only [Pt.U, Pt.locs, Pt.cells, Pt.slots] at X21 l21 y21 z21 st21 hQ21
      rw [l21, y21, z21] at X21
      replace X21 : Stand p l e room_1 s m #[(.int p0), (.int p1), (.long p2), (.long p3), (.int p4)] below meth c T21 _ 30 150 := X21.more (by decide) (by decide)
      obtain ⟨rfl, N21q, e21⟩ := hQ21
      have N21 := Fr.app N20 N21q
      refine OEnds.via (fun _ k_ => st21.trans k_) ?_
      show OEnds p e below s _ _ _ (T21.setTop (mkF m 195 #[.val (.int p0), .val (.int p1), .val (.long p2), .second, .val (.long p3), .second, .val (.int p4), .val (.ref b1), .val (.ref b4), .val (.ref b6), .val (.ref b9), .val kv, .val (.int (0 : Int32)), .val (.ref b12), .val (.ref b14), .val (.ref b16), .val (.ref li), .unset] [(.int (1 : Int32))]))
      refine OEnds.via (fun _ k_ => XS.ifYes X21.here hx rfl (pc0 := 195) (pc' := 200) rfl (hb hby at_195) rfl ((if0 _ _).trans (feq (by decide : ¬ ((1 : Int32) = (0 : Int32)))).2) (by decide) (by decide) k_) ?_
      show OEnds p e below s _ _ _ (T21.setTop (mkF m 200 #[.val (.int p0), .val (.int p1), .val (.long p2), .second, .val (.long p3), .second, .val (.int p4), .val (.ref b1), .val (.ref b4), .val (.ref b6), .val (.ref b9), .val kv, .val (.int (0 : Int32)), .val (.ref b12), .val (.ref b14), .val (.ref b16), .val (.ref li), .unset] []))
      refine OEnds.via (fun _ k_ => XS.aload X21.here hx rfl (hb hby at_200) rfl rfl k_) ?_
      show OEnds p e below s _ _ _ (T21.setTop (mkF m 202 #[.val (.int p0), .val (.int p1), .val (.long p2), .second, .val (.long p3), .second, .val (.int p4), .val (.ref b1), .val (.ref b4), .val (.ref b6), .val (.ref b9), .val kv, .val (.int (0 : Int32)), .val (.ref b12), .val (.ref b14), .val (.ref b16), .val (.ref li), .unset] [(.ref li)]))
      obtain ⟨cq22, kq22, q22a, q22b, q22c⟩ := isOf hZ e21 E_li
      obtain ⟨_, _, ⟨T22, L22, k22, n22⟩, -, X22, ⟨Lc22, hQ22, l22, y22, z22⟩, st22⟩ := X21.virtualBack hx (y := (⟨"com/example/holdfast/holdfast/LockInfo", "held", "()Z"⟩ : MethodName)) (z := (⟨"com/example/holdfast/holdfast/LockInfo", "held", "()Z"⟩ : MethodName)) hown (mvT hZ (hw _ (List.mem_of_getElem? (i := 214) rfl))) (mvT hZ (hw _ (List.mem_of_getElem? (i := 215) rfl))) (notFace_of_selects (args := #[]) (mvT hZ (hw _ (List.mem_of_getElem? (i := 217) rfl)))) (mvT hZ (hw _ (List.mem_of_getElem? (i := 217) rfl))) (mvT hZ (hw _ (List.mem_of_getElem? (i := 216) rfl))) (by decide) (backOf (W := 0) (rm_held l Z a0 hw [] li T19.heap n0 Od G_held) hZ (hw _ (List.mem_of_getElem? (i := 218) rfl)) (hw _ (List.mem_of_getElem? (i := 98) rfl)) (by decide) (by decide)) q22a q22c (g := (mkF m 202 #[.val (.int p0), .val (.int p1), .val (.long p2), .second, .val (.long p3), .second, .val (.int p4), .val (.ref b1), .val (.ref b4), .val (.ref b6), .val (.ref b9), .val kv, .val (.int (0 : Int32)), .val (.ref b12), .val (.ref b14), .val (.ref b16), .val (.ref li), .unset] [(.ref li)])) rfl (by rw [hml]; rfl) (Steps.refl _) (argsL := []) (rest := []) (lenOf pd_2829Z rfl) rfl (by show 2 * 0 + _ ≤ _; exact Nat.le_of_eq rfl) (hb hby at_202) (fun _ _ => ⟨rfl, e21, Nat.le_of_ble_eq_true rfl, Nat.le_of_ble_eq_true rfl⟩)
      dsimp only [Pt.U, Pt.locs, Pt.cells, Pt.slots] at X22 l22 y22 z22 st22 hQ22
      rw [l22, y22, z22] at X22
      replace X22 : Stand p l e room_1 s m #[(.int p0), (.int p1), (.long p2), (.long p3), (.int p4)] below meth c T22 _ 30 150 := X22.more (by decide) (by decide)
      obtain ⟨rfl, N22q, e22⟩ := hQ22
      have N22 := Fr.app N21 N22q
      refine OEnds.via (fun _ k_ => st22.trans k_) ?_
      show OEnds p e below s _ _ _ (T22.setTop (mkF m 205 #[.val (.int p0), .val (.int p1), .val (.long p2), .second, .val (.long p3), .second, .val (.int p4), .val (.ref b1), .val (.ref b4), .val (.ref b6), .val (.ref b9), .val kv, .val (.int (0 : Int32)), .val (.ref b12), .val (.ref b14), .val (.ref b16), .val (.ref li), .unset] [(.int (1 : Int32))]))
      refine OEnds.via (fun _ k_ => XS.ifYes X22.here hx rfl (pc0 := 205) (pc' := 210) rfl (hb hby at_205) rfl ((if0 _ _).trans (feq (by decide : ¬ ((1 : Int32) = (0 : Int32)))).2) (by decide) (by decide) k_) ?_
      show OEnds p e below s _ _ _ (T22.setTop (mkF m 210 #[.val (.int p0), .val (.int p1), .val (.long p2), .second, .val (.long p3), .second, .val (.int p4), .val (.ref b1), .val (.ref b4), .val (.ref b6), .val (.ref b9), .val kv, .val (.int (0 : Int32)), .val (.ref b12), .val (.ref b14), .val (.ref b16), .val (.ref li), .unset] []))
      rcases hcase with hkn | hkn
      · skip
        rw [hkn] at G_holder ⊢
        show OEnds p e below s _ _ _ (T22.setTop (mkF m 210 #[.val (.int p0), .val (.int p1), .val (.long p2), .second, .val (.long p3), .second, .val (.int p4), .val (.ref b1), .val (.ref b4), .val (.ref b6), .val (.ref b9), .val .null, .val (.int (0 : Int32)), .val (.ref b12), .val (.ref b14), .val (.ref b16), .val (.ref li), .unset] []))
        refine OEnds.via (fun _ k_ => XS.aload X22.here hx rfl (hb hby at_210) rfl rfl k_) ?_
        show OEnds p e below s _ _ _ (T22.setTop (mkF m 212 #[.val (.int p0), .val (.int p1), .val (.long p2), .second, .val (.long p3), .second, .val (.int p4), .val (.ref b1), .val (.ref b4), .val (.ref b6), .val (.ref b9), .val .null, .val (.int (0 : Int32)), .val (.ref b12), .val (.ref b14), .val (.ref b16), .val (.ref li), .unset] [(.ref li)]))
        obtain ⟨cq23, kq23, q23a, q23b, q23c⟩ := isOf hZ e22 E_li
        obtain ⟨_, _, ⟨T23, L23, k23, n23⟩, -, X23, ⟨Lc23, hQ23, l23, y23, z23⟩, st23⟩ := X22.virtualBack hx (y := (⟨"com/example/holdfast/holdfast/LockInfo", "heldAlone", "()Z"⟩ : MethodName)) (z := (⟨"com/example/holdfast/holdfast/LockInfo", "heldAlone", "()Z"⟩ : MethodName)) hown (mvT hZ (hw _ (List.mem_of_getElem? (i := 219) rfl))) (mvT hZ (hw _ (List.mem_of_getElem? (i := 220) rfl))) (notFace_of_selects (args := #[]) (mvT hZ (hw _ (List.mem_of_getElem? (i := 222) rfl)))) (mvT hZ (hw _ (List.mem_of_getElem? (i := 222) rfl))) (mvT hZ (hw _ (List.mem_of_getElem? (i := 221) rfl))) (by decide) (backOf (W := 0) (rm_aloneN l Z a0 hw [] li T19.heap n0 Od G_holder) hZ (hw _ (List.mem_of_getElem? (i := 223) rfl)) (hw _ (List.mem_of_getElem? (i := 98) rfl)) (by decide) (by decide)) q23a q23c (g := (mkF m 212 #[.val (.int p0), .val (.int p1), .val (.long p2), .second, .val (.long p3), .second, .val (.int p4), .val (.ref b1), .val (.ref b4), .val (.ref b6), .val (.ref b9), .val .null, .val (.int (0 : Int32)), .val (.ref b12), .val (.ref b14), .val (.ref b16), .val (.ref li), .unset] [(.ref li)])) rfl (by rw [hml]; rfl) (Steps.refl _) (argsL := []) (rest := []) (lenOf pd_2829Z rfl) rfl (by show 2 * 0 + _ ≤ _; exact Nat.le_of_eq rfl) (hb hby at_212) (fun _ _ => ⟨rfl, e22, Nat.le_of_ble_eq_true rfl, Nat.le_of_ble_eq_true rfl⟩)
        dsimp only [Pt.U, Pt.locs, Pt.cells, Pt.slots] at X23 l23 y23 z23 st23 hQ23
        rw [l23, y23, z23] at X23
        replace X23 : Stand p l e room_1 s m #[(.int p0), (.int p1), (.long p2), (.long p3), (.int p4)] below meth c T23 _ 30 150 := X23.more (by decide) (by decide)
        obtain ⟨rfl, N23q, e23⟩ := hQ23
        have N23 := Fr.app N22 N23q
        refine OEnds.via (fun _ k_ => st23.trans k_) ?_
        show OEnds p e below s _ _ _ (T23.setTop (mkF m 215 #[.val (.int p0), .val (.int p1), .val (.long p2), .second, .val (.long p3), .second, .val (.int p4), .val (.ref b1), .val (.ref b4), .val (.ref b6), .val (.ref b9), .val .null, .val (.int (0 : Int32)), .val (.ref b12), .val (.ref b14), .val (.ref b16), .val (.ref li), .unset] [(.int (0 : Int32))]))
        refine OEnds.via (fun _ k_ => XS.aload X23.here hx rfl (hb hby at_215) rfl rfl k_) ?_
        show OEnds p e below s _ _ _ (T23.setTop (mkF m 217 #[.val (.int p0), .val (.int p1), .val (.long p2), .second, .val (.long p3), .second, .val (.int p4), .val (.ref b1), .val (.ref b4), .val (.ref b6), .val (.ref b9), .val .null, .val (.int (0 : Int32)), .val (.ref b12), .val (.ref b14), .val (.ref b16), .val (.ref li), .unset] [.null, (.int (0 : Int32))]))
        refine OEnds.via (fun _ k_ => XS.ifnullYes X23.here hx rfl (pc0 := 217) (pc' := 224) rfl (hb hby at_217) rfl (by decide) (by decide) k_) ?_
        show OEnds p e below s _ _ _ (T23.setTop (mkF m 224 #[.val (.int p0), .val (.int p1), .val (.long p2), .second, .val (.long p3), .second, .val (.int p4), .val (.ref b1), .val (.ref b4), .val (.ref b6), .val (.ref b9), .val .null, .val (.int (0 : Int32)), .val (.ref b12), .val (.ref b14), .val (.ref b16), .val (.ref li), .unset] [(.int (0 : Int32))]))
        refine OEnds.via (fun _ k_ => XS.iconst X23.here hx rfl (hb hby at_224) k_) ?_
        show OEnds p e below s _ _ _ (T23.setTop (mkF m 225 #[.val (.int p0), .val (.int p1), .val (.long p2), .second, .val (.long p3), .second, .val (.int p4), .val (.ref b1), .val (.ref b4), .val (.ref b6), .val (.ref b9), .val .null, .val (.int (0 : Int32)), .val (.ref b12), .val (.ref b14), .val (.ref b16), .val (.ref li), .unset] [(.int (0 : Int32)), (.int (0 : Int32))]))
        refine OEnds.via (fun _ k_ => XS.icmpYes X23.here hx rfl (pc0 := 225) (pc' := 230) rfl (hb hby at_225) rfl (teq (by decide : (0 : Int32) = (0 : Int32))).1 (by decide) (by decide) k_) ?_
        show OEnds p e below s _ _ _ (T23.setTop (mkF m 230 #[.val (.int p0), .val (.int p1), .val (.long p2), .second, .val (.long p3), .second, .val (.int p4), .val (.ref b1), .val (.ref b4), .val (.ref b6), .val (.ref b9), .val .null, .val (.int (0 : Int32)), .val (.ref b12), .val (.ref b14), .val (.ref b16), .val (.ref li), .unset] []))
        refine OEnds.via (fun _ k_ => XS.aload X23.here hx rfl (hb hby at_230) rfl rfl k_) ?_
        show OEnds p e below s _ _ _ (T23.setTop (mkF m 232 #[.val (.int p0), .val (.int p1), .val (.long p2), .second, .val (.long p3), .second, .val (.int p4), .val (.ref b1), .val (.ref b4), .val (.ref b6), .val (.ref b9), .val .null, .val (.int (0 : Int32)), .val (.ref b12), .val (.ref b14), .val (.ref b16), .val (.ref li), .unset] [.null]))
        refine OEnds.via (fun _ k_ => XS.ifnullYes X23.here hx rfl (pc0 := 232) (pc' := 275) rfl (hb hby at_232) rfl (by decide) (by decide) k_) ?_
        show OEnds p e below s _ _ _ (T23.setTop (mkF m 275 #[.val (.int p0), .val (.int p1), .val (.long p2), .second, .val (.long p3), .second, .val (.int p4), .val (.ref b1), .val (.ref b4), .val (.ref b6), .val (.ref b9), .val .null, .val (.int (0 : Int32)), .val (.ref b12), .val (.ref b14), .val (.ref b16), .val (.ref li), .unset] []))
        refine OEnds.via (fun _ k_ => XS.aload X23.here hx rfl (hb hby at_275) rfl rfl k_) ?_
        show OEnds p e below s _ _ _ (T23.setTop (mkF m 277 #[.val (.int p0), .val (.int p1), .val (.long p2), .second, .val (.long p3), .second, .val (.int p4), .val (.ref b1), .val (.ref b4), .val (.ref b6), .val (.ref b9), .val .null, .val (.int (0 : Int32)), .val (.ref b12), .val (.ref b14), .val (.ref b16), .val (.ref li), .unset] [(.ref li)]))
        obtain ⟨cq24, kq24, q24a, q24b, q24c⟩ := isOf hZ e23 E_li
        obtain ⟨_, _, ⟨T24, L24, k24, n24⟩, -, X24, ⟨Lc24, hQ24, l24, y24, z24⟩, st24⟩ := X23.virtualBack hx (y := (⟨"com/example/holdfast/holdfast/LockInfo", "readers", "()Ljava/util/List;"⟩ : MethodName)) (z := (⟨"com/example/holdfast/holdfast/LockInfo", "readers", "()Ljava/util/List;"⟩ : MethodName)) hown (mvT hZ (hw _ (List.mem_of_getElem? (i := 244) rfl))) (mvT hZ (hw _ (List.mem_of_getElem? (i := 245) rfl))) (notFace_of_selects (args := #[]) (mvT hZ (hw _ (List.mem_of_getElem? (i := 247) rfl)))) (mvT hZ (hw _ (List.mem_of_getElem? (i := 247) rfl))) (mvT hZ (hw _ (List.mem_of_getElem? (i := 246) rfl))) (by decide) (backOf (W := 0) (rm_readers l Z a0 hw [] li el T19.heap n0 Od G_readers) hZ (hw _ (List.mem_of_getElem? (i := 248) rfl)) (hw _ (List.mem_of_getElem? (i := 98) rfl)) (by decide) (by decide)) q24a q24c (g := (mkF m 277 #[.val (.int p0), .val (.int p1), .val (.long p2), .second, .val (.long p3), .second, .val (.int p4), .val (.ref b1), .val (.ref b4), .val (.ref b6), .val (.ref b9), .val .null, .val (.int (0 : Int32)), .val (.ref b12), .val (.ref b14), .val (.ref b16), .val (.ref li), .unset] [(.ref li)])) rfl (by rw [hml]; rfl) (Steps.refl _) (argsL := []) (rest := []) (lenOf pd_2829Ljava2futil2fList3b rfl) rfl (by show 2 * 0 + _ ≤ _; exact Nat.le_of_eq rfl) (hb hby at_277) (fun _ _ => ⟨rfl, e23, Nat.le_of_ble_eq_true rfl, Nat.le_of_ble_eq_true rfl⟩)
        dsimp only [Pt.U, Pt.locs, Pt.cells, Pt.slots] at X24 l24 y24 z24 st24 hQ24
        rw [l24, y24, z24] at X24
        replace X24 : Stand p l e room_1 s m #[(.int p0), (.int p1), (.long p2), (.long p3), (.int p4)] below meth c T24 _ 30 150 := X24.more (by decide) (by decide)
        obtain ⟨rfl, N24q, e24⟩ := hQ24
        have N24 := Fr.app N23 N24q
        refine OEnds.via (fun _ k_ => st24.trans k_) ?_
        show OEnds p e below s _ _ _ (T24.setTop (mkF m 280 #[.val (.int p0), .val (.int p1), .val (.long p2), .second, .val (.long p3), .second, .val (.int p4), .val (.ref b1), .val (.ref b4), .val (.ref b6), .val (.ref b9), .val .null, .val (.int (0 : Int32)), .val (.ref b12), .val (.ref b14), .val (.ref b16), .val (.ref li), .unset] [(.ref el)]))
        refine OEnds.via (fun _ k_ => XS.astore X24.here hx rfl (hb hby at_280) rfl rfl (l' := #[.val (.int p0), .val (.int p1), .val (.long p2), .second, .val (.long p3), .second, .val (.int p4), .val (.ref b1), .val (.ref b4), .val (.ref b6), .val (.ref b9), .val .null, .val (.int (0 : Int32)), .val (.ref b12), .val (.ref b14), .val (.ref b16), .val (.ref li), .val (.ref el)]) rfl k_) ?_
        show OEnds p e below s _ _ _ (T24.setTop (mkF m 282 #[.val (.int p0), .val (.int p1), .val (.long p2), .second, .val (.long p3), .second, .val (.int p4), .val (.ref b1), .val (.ref b4), .val (.ref b6), .val (.ref b9), .val .null, .val (.int (0 : Int32)), .val (.ref b12), .val (.ref b14), .val (.ref b16), .val (.ref li), .val (.ref el)] []))
        refine OEnds.via (fun _ k_ => XS.aload X24.here hx rfl (hb hby at_282) rfl rfl k_) ?_
        show OEnds p e below s _ _ _ (T24.setTop (mkF m 284 #[.val (.int p0), .val (.int p1), .val (.long p2), .second, .val (.long p3), .second, .val (.int p4), .val (.ref b1), .val (.ref b4), .val (.ref b6), .val (.ref b9), .val .null, .val (.int (0 : Int32)), .val (.ref b12), .val (.ref b14), .val (.ref b16), .val (.ref li), .val (.ref el)] [(.ref el)]))
        obtain ⟨cq25, kq25, q25a, q25b, q25c⟩ := isOf hZ e24 (Exa.ext Od.2 E_el)
        obtain ⟨_, _, ⟨T25, L25, k25, n25⟩, -, X25, ⟨Lc25, hQ25, l25, y25, z25⟩, st25⟩ := X24.interfaceBack hx (xi := (⟨"java/util/List", "size", "()I"⟩ : MethodName)) (y := (⟨"java/util/ImmutableCollections$ListN", "size", "()I"⟩ : MethodName)) hown (mvT hZ (hw _ (List.mem_of_getElem? (i := 249) rfl))) (mvT hZ (hw _ (List.mem_of_getElem? (i := 250) rfl))) (mvT hZ (hw _ (List.mem_of_getElem? (i := 251) rfl))) (mvT hZ (hw _ (List.mem_of_getElem? (i := 270) rfl))) (mvT hZ (hw _ (List.mem_of_getElem? (i := 271) rfl))) (mvT hZ (hw _ (List.mem_of_getElem? (i := 272) rfl))) (mvT hZ (hw _ (List.mem_of_getElem? (i := 273) rfl))) (mvT hZ (hw _ (List.mem_of_getElem? (i := 274) rfl))) (by decide) (backOf (W := 0) (rmSz0 l Z a0 hw [] el ee kee T19.heap n0 Od F_ee V_ee) hZ (hw _ (List.mem_of_getElem? (i := 276) rfl)) (hw _ (List.mem_of_getElem? (i := 275) rfl)) (by decide) (by decide)) q25a q25b q25c (g := (mkF m 284 #[.val (.int p0), .val (.int p1), .val (.long p2), .second, .val (.long p3), .second, .val (.int p4), .val (.ref b1), .val (.ref b4), .val (.ref b6), .val (.ref b9), .val .null, .val (.int (0 : Int32)), .val (.ref b12), .val (.ref b14), .val (.ref b16), .val (.ref li), .val (.ref el)] [(.ref el)])) rfl (by rw [hml]; rfl) (Steps.refl _) (argsL := []) (rest := []) (lenOf pd_2829I rfl) rfl (by show 2 * 0 + _ ≤ _; exact Nat.le_of_eq rfl) (hb hby at_284) (fun _ _ => ⟨rfl, e24, Nat.le_of_ble_eq_true rfl, Nat.le_of_ble_eq_true rfl⟩)
        dsimp only [Pt.U, Pt.locs, Pt.cells, Pt.slots] at X25 l25 y25 z25 st25 hQ25
        rw [l25, y25, z25] at X25
        replace X25 : Stand p l e room_1 s m #[(.int p0), (.int p1), (.long p2), (.long p3), (.int p4)] below meth c T25 _ 30 150 := X25.more (by decide) (by decide)
        obtain ⟨rfl, N25q, e25⟩ := hQ25
        have N25 := Fr.app N24 N25q
        refine OEnds.via (fun _ k_ => st25.trans k_) ?_
        show OEnds p e below s _ _ _ (T25.setTop (mkF m 289 #[.val (.int p0), .val (.int p1), .val (.long p2), .second, .val (.long p3), .second, .val (.int p4), .val (.ref b1), .val (.ref b4), .val (.ref b6), .val (.ref b9), .val .null, .val (.int (0 : Int32)), .val (.ref b12), .val (.ref b14), .val (.ref b16), .val (.ref li), .val (.ref el)] [(.int (0 : Int32))]))
        refine OEnds.via (fun _ k_ => XS.iload X25.here hx rfl (hb hby at_289) rfl k_) ?_
        show OEnds p e below s _ _ _ (T25.setTop (mkF m 291 #[.val (.int p0), .val (.int p1), .val (.long p2), .second, .val (.long p3), .second, .val (.int p4), .val (.ref b1), .val (.ref b4), .val (.ref b6), .val (.ref b9), .val .null, .val (.int (0 : Int32)), .val (.ref b12), .val (.ref b14), .val (.ref b16), .val (.ref li), .val (.ref el)] [(.int (0 : Int32)), (.int (0 : Int32))]))
        refine OEnds.via (fun _ k_ => XS.icmpYes X25.here hx rfl (pc0 := 291) (pc' := 296) rfl (hb hby at_291) rfl (teq (by decide : (0 : Int32) = (0 : Int32))).1 (by decide) (by decide) k_) ?_
        show OEnds p e below s _ _ _ (T25.setTop (mkF m 296 #[.val (.int p0), .val (.int p1), .val (.long p2), .second, .val (.long p3), .second, .val (.int p4), .val (.ref b1), .val (.ref b4), .val (.ref b6), .val (.ref b9), .val .null, .val (.int (0 : Int32)), .val (.ref b12), .val (.ref b14), .val (.ref b16), .val (.ref li), .val (.ref el)] []))
        refine OEnds.via (fun _ k_ => XS.iload X25.here hx rfl (hb hby at_296) rfl k_) ?_
        show OEnds p e below s _ _ _ (T25.setTop (mkF m 298 #[.val (.int p0), .val (.int p1), .val (.long p2), .second, .val (.long p3), .second, .val (.int p4), .val (.ref b1), .val (.ref b4), .val (.ref b6), .val (.ref b9), .val .null, .val (.int (0 : Int32)), .val (.ref b12), .val (.ref b14), .val (.ref b16), .val (.ref li), .val (.ref el)] [(.int (0 : Int32))]))
        refine OEnds.via (fun _ k_ => XS.iconst X25.here hx rfl (hb hby at_298) k_) ?_
        show OEnds p e below s _ _ _ (T25.setTop (mkF m 299 #[.val (.int p0), .val (.int p1), .val (.long p2), .second, .val (.long p3), .second, .val (.int p4), .val (.ref b1), .val (.ref b4), .val (.ref b6), .val (.ref b9), .val .null, .val (.int (0 : Int32)), .val (.ref b12), .val (.ref b14), .val (.ref b16), .val (.ref li), .val (.ref el)] [(.int (1 : Int32)), (.int (0 : Int32))]))
        refine OEnds.via (fun _ k_ => XS.icmpYes X25.here hx rfl (pc0 := 299) (pc' := 317) rfl (hb hby at_299) rfl (tlt (by decide : (0 : Int32) < (1 : Int32))).1 (by decide) (by decide) k_) ?_
        show OEnds p e below s _ _ _ (T25.setTop (mkF m 317 #[.val (.int p0), .val (.int p1), .val (.long p2), .second, .val (.long p3), .second, .val (.int p4), .val (.ref b1), .val (.ref b4), .val (.ref b6), .val (.ref b9), .val .null, .val (.int (0 : Int32)), .val (.ref b12), .val (.ref b14), .val (.ref b16), .val (.ref li), .val (.ref el)] []))
        refine OEnds.via (fun _ k_ => XS.iload X25.here hx rfl (hb hby at_317) rfl k_) ?_
        show OEnds p e below s _ _ _ (T25.setTop (mkF m 319 #[.val (.int p0), .val (.int p1), .val (.long p2), .second, .val (.long p3), .second, .val (.int p4), .val (.ref b1), .val (.ref b4), .val (.ref b6), .val (.ref b9), .val .null, .val (.int (0 : Int32)), .val (.ref b12), .val (.ref b14), .val (.ref b16), .val (.ref li), .val (.ref el)] [(.int (0 : Int32))]))
        refine OEnds.via (fun _ k_ => XS.iconst X25.here hx rfl (hb hby at_319) k_) ?_
        show OEnds p e below s _ _ _ (T25.setTop (mkF m 320 #[.val (.int p0), .val (.int p1), .val (.long p2), .second, .val (.long p3), .second, .val (.int p4), .val (.ref b1), .val (.ref b4), .val (.ref b6), .val (.ref b9), .val .null, .val (.int (0 : Int32)), .val (.ref b12), .val (.ref b14), .val (.ref b16), .val (.ref li), .val (.ref el)] [(.int (2 : Int32)), (.int (0 : Int32))]))
        refine OEnds.via (fun _ k_ => XS.icmpYes X25.here hx rfl (pc0 := 320) (pc' := 338) rfl (hb hby at_320) rfl (tlt (by decide : (0 : Int32) < (2 : Int32))).1 (by decide) (by decide) k_) ?_
        show OEnds p e below s _ _ _ (T25.setTop (mkF m 338 #[.val (.int p0), .val (.int p1), .val (.long p2), .second, .val (.long p3), .second, .val (.int p4), .val (.ref b1), .val (.ref b4), .val (.ref b6), .val (.ref b9), .val .null, .val (.int (0 : Int32)), .val (.ref b12), .val (.ref b14), .val (.ref b16), .val (.ref li), .val (.ref el)] []))
        refine OEnds.via (fun _ k_ => XS.iconst X25.here hx rfl (hb hby at_338) k_) ?_
        show OEnds p e below s _ _ _ (T25.setTop (mkF m 339 #[.val (.int p0), .val (.int p1), .val (.long p2), .second, .val (.long p3), .second, .val (.int p4), .val (.ref b1), .val (.ref b4), .val (.ref b6), .val (.ref b9), .val .null, .val (.int (0 : Int32)), .val (.ref b12), .val (.ref b14), .val (.ref b16), .val (.ref li), .val (.ref el)] [(.int (1 : Int32))]))
        refine OEnds.retN X25 hx hlk (t := .boolean) Bd.returns (by simp) (hb hby at_339) ?_ (by decide) (by decide)
        exact ⟨rfl, N25⟩
      · skip
        rw [hkn] at G_holder ⊢
        show OEnds p e below s _ _ _ (T22.setTop (mkF m 210 #[.val (.int p0), .val (.int p1), .val (.long p2), .second, .val (.long p3), .second, .val (.int p4), .val (.ref b1), .val (.ref b4), .val (.ref b6), .val (.ref b9), .val (.ref b9), .val (.int (0 : Int32)), .val (.ref b12), .val (.ref b14), .val (.ref b16), .val (.ref li), .unset] []))
        refine OEnds.via (fun _ k_ => XS.aload X22.here hx rfl (hb hby at_210) rfl rfl k_) ?_
        show OEnds p e below s _ _ _ (T22.setTop (mkF m 212 #[.val (.int p0), .val (.int p1), .val (.long p2), .second, .val (.long p3), .second, .val (.int p4), .val (.ref b1), .val (.ref b4), .val (.ref b6), .val (.ref b9), .val (.ref b9), .val (.int (0 : Int32)), .val (.ref b12), .val (.ref b14), .val (.ref b16), .val (.ref li), .unset] [(.ref li)]))
        obtain ⟨cq26, kq26, q26a, q26b, q26c⟩ := isOf hZ e22 E_li
        obtain ⟨_, _, ⟨T26, L26, k26, n26⟩, -, X26, ⟨Lc26, hQ26, l26, y26, z26⟩, st26⟩ := X22.virtualBack hx (y := (⟨"com/example/holdfast/holdfast/LockInfo", "heldAlone", "()Z"⟩ : MethodName)) (z := (⟨"com/example/holdfast/holdfast/LockInfo", "heldAlone", "()Z"⟩ : MethodName)) hown (mvT hZ (hw _ (List.mem_of_getElem? (i := 219) rfl))) (mvT hZ (hw _ (List.mem_of_getElem? (i := 220) rfl))) (notFace_of_selects (args := #[]) (mvT hZ (hw _ (List.mem_of_getElem? (i := 222) rfl)))) (mvT hZ (hw _ (List.mem_of_getElem? (i := 222) rfl))) (mvT hZ (hw _ (List.mem_of_getElem? (i := 221) rfl))) (by decide) (backOf (W := 0) (rm_aloneY l Z a0 hw [] li b9 T19.heap n0 Od G_holder) hZ (hw _ (List.mem_of_getElem? (i := 223) rfl)) (hw _ (List.mem_of_getElem? (i := 98) rfl)) (by decide) (by decide)) q26a q26c (g := (mkF m 212 #[.val (.int p0), .val (.int p1), .val (.long p2), .second, .val (.long p3), .second, .val (.int p4), .val (.ref b1), .val (.ref b4), .val (.ref b6), .val (.ref b9), .val (.ref b9), .val (.int (0 : Int32)), .val (.ref b12), .val (.ref b14), .val (.ref b16), .val (.ref li), .unset] [(.ref li)])) rfl (by rw [hml]; rfl) (Steps.refl _) (argsL := []) (rest := []) (lenOf pd_2829Z rfl) rfl (by show 2 * 0 + _ ≤ _; exact Nat.le_of_eq rfl) (hb hby at_212) (fun _ _ => ⟨rfl, e22, Nat.le_of_ble_eq_true rfl, Nat.le_of_ble_eq_true rfl⟩)
        dsimp only [Pt.U, Pt.locs, Pt.cells, Pt.slots] at X26 l26 y26 z26 st26 hQ26
        rw [l26, y26, z26] at X26
        replace X26 : Stand p l e room_1 s m #[(.int p0), (.int p1), (.long p2), (.long p3), (.int p4)] below meth c T26 _ 30 150 := X26.more (by decide) (by decide)
        obtain ⟨rfl, N26q, e26⟩ := hQ26
        have N26 := Fr.app N22 N26q
        refine OEnds.via (fun _ k_ => st26.trans k_) ?_
        show OEnds p e below s _ _ _ (T26.setTop (mkF m 215 #[.val (.int p0), .val (.int p1), .val (.long p2), .second, .val (.long p3), .second, .val (.int p4), .val (.ref b1), .val (.ref b4), .val (.ref b6), .val (.ref b9), .val (.ref b9), .val (.int (0 : Int32)), .val (.ref b12), .val (.ref b14), .val (.ref b16), .val (.ref li), .unset] [(.int (1 : Int32))]))
        refine OEnds.via (fun _ k_ => XS.aload X26.here hx rfl (hb hby at_215) rfl rfl k_) ?_
        show OEnds p e below s _ _ _ (T26.setTop (mkF m 217 #[.val (.int p0), .val (.int p1), .val (.long p2), .second, .val (.long p3), .second, .val (.int p4), .val (.ref b1), .val (.ref b4), .val (.ref b6), .val (.ref b9), .val (.ref b9), .val (.int (0 : Int32)), .val (.ref b12), .val (.ref b14), .val (.ref b16), .val (.ref li), .unset] [(.ref b9), (.int (1 : Int32))]))
        refine OEnds.via (fun _ k_ => XS.ifnullNo X26.here hx rfl (hb hby at_217) rfl k_) ?_
        show OEnds p e below s _ _ _ (T26.setTop (mkF m 220 #[.val (.int p0), .val (.int p1), .val (.long p2), .second, .val (.long p3), .second, .val (.int p4), .val (.ref b1), .val (.ref b4), .val (.ref b6), .val (.ref b9), .val (.ref b9), .val (.int (0 : Int32)), .val (.ref b12), .val (.ref b14), .val (.ref b16), .val (.ref li), .unset] [(.int (1 : Int32))]))
        refine OEnds.via (fun _ k_ => XS.iconst X26.here hx rfl (hb hby at_220) k_) ?_
        show OEnds p e below s _ _ _ (T26.setTop (mkF m 221 #[.val (.int p0), .val (.int p1), .val (.long p2), .second, .val (.long p3), .second, .val (.int p4), .val (.ref b1), .val (.ref b4), .val (.ref b6), .val (.ref b9), .val (.ref b9), .val (.int (0 : Int32)), .val (.ref b12), .val (.ref b14), .val (.ref b16), .val (.ref li), .unset] [(.int (1 : Int32)), (.int (1 : Int32))]))
        refine OEnds.via (fun _ k_ => XS.goto X26.here hx rfl (pc0 := 221) (pc' := 225) rfl (hb hby at_221) (by decide) (by decide) k_) ?_
        show OEnds p e below s _ _ _ (T26.setTop (mkF m 225 #[.val (.int p0), .val (.int p1), .val (.long p2), .second, .val (.long p3), .second, .val (.int p4), .val (.ref b1), .val (.ref b4), .val (.ref b6), .val (.ref b9), .val (.ref b9), .val (.int (0 : Int32)), .val (.ref b12), .val (.ref b14), .val (.ref b16), .val (.ref li), .unset] [(.int (1 : Int32)), (.int (1 : Int32))]))
        refine OEnds.via (fun _ k_ => XS.icmpYes X26.here hx rfl (pc0 := 225) (pc' := 230) rfl (hb hby at_225) rfl (teq (by decide : (1 : Int32) = (1 : Int32))).1 (by decide) (by decide) k_) ?_
        show OEnds p e below s _ _ _ (T26.setTop (mkF m 230 #[.val (.int p0), .val (.int p1), .val (.long p2), .second, .val (.long p3), .second, .val (.int p4), .val (.ref b1), .val (.ref b4), .val (.ref b6), .val (.ref b9), .val (.ref b9), .val (.int (0 : Int32)), .val (.ref b12), .val (.ref b14), .val (.ref b16), .val (.ref li), .unset] []))
        refine OEnds.via (fun _ k_ => XS.aload X26.here hx rfl (hb hby at_230) rfl rfl k_) ?_
        show OEnds p e below s _ _ _ (T26.setTop (mkF m 232 #[.val (.int p0), .val (.int p1), .val (.long p2), .second, .val (.long p3), .second, .val (.int p4), .val (.ref b1), .val (.ref b4), .val (.ref b6), .val (.ref b9), .val (.ref b9), .val (.int (0 : Int32)), .val (.ref b12), .val (.ref b14), .val (.ref b16), .val (.ref li), .unset] [(.ref b9)]))
        refine OEnds.via (fun _ k_ => XS.ifnullNo X26.here hx rfl (hb hby at_232) rfl k_) ?_
        show OEnds p e below s _ _ _ (T26.setTop (mkF m 235 #[.val (.int p0), .val (.int p1), .val (.long p2), .second, .val (.long p3), .second, .val (.int p4), .val (.ref b1), .val (.ref b4), .val (.ref b6), .val (.ref b9), .val (.ref b9), .val (.int (0 : Int32)), .val (.ref b12), .val (.ref b14), .val (.ref b16), .val (.ref li), .unset] []))
        refine OEnds.via (fun _ k_ => XS.aload X26.here hx rfl (hb hby at_235) rfl rfl k_) ?_
        show OEnds p e below s _ _ _ (T26.setTop (mkF m 237 #[.val (.int p0), .val (.int p1), .val (.long p2), .second, .val (.long p3), .second, .val (.int p4), .val (.ref b1), .val (.ref b4), .val (.ref b6), .val (.ref b9), .val (.ref b9), .val (.int (0 : Int32)), .val (.ref b12), .val (.ref b14), .val (.ref b16), .val (.ref li), .unset] [(.ref b9)]))
        refine OEnds.via (fun _ k_ => XS.aload X26.here hx rfl (hb hby at_237) rfl rfl k_) ?_
        show OEnds p e below s _ _ _ (T26.setTop (mkF m 239 #[.val (.int p0), .val (.int p1), .val (.long p2), .second, .val (.long p3), .second, .val (.int p4), .val (.ref b1), .val (.ref b4), .val (.ref b6), .val (.ref b9), .val (.ref b9), .val (.int (0 : Int32)), .val (.ref b12), .val (.ref b14), .val (.ref b16), .val (.ref li), .unset] [(.ref li), (.ref b9)]))
        obtain ⟨cq27, kq27, q27a, q27b, q27c⟩ := isOf hZ e26 E_li
        obtain ⟨_, _, ⟨T27, L27, k27, n27⟩, -, X27, ⟨Lc27, hQ27, l27, y27, z27⟩, st27⟩ := X26.virtualBack hx (y := (⟨"com/example/holdfast/holdfast/LockInfo", "holder", "()Ljava/lang/String;"⟩ : MethodName)) (z := (⟨"com/example/holdfast/holdfast/LockInfo", "holder", "()Ljava/lang/String;"⟩ : MethodName)) hown (mvT hZ (hw _ (List.mem_of_getElem? (i := 224) rfl))) (mvT hZ (hw _ (List.mem_of_getElem? (i := 225) rfl))) (notFace_of_selects (args := #[]) (mvT hZ (hw _ (List.mem_of_getElem? (i := 227) rfl)))) (mvT hZ (hw _ (List.mem_of_getElem? (i := 227) rfl))) (mvT hZ (hw _ (List.mem_of_getElem? (i := 226) rfl))) (by decide) (backOf (W := 1) (rm_holder l Z a0 hw [] li b9 T19.heap n0 Od G_holder E_li) hZ (hw _ (List.mem_of_getElem? (i := 228) rfl)) (hw _ (List.mem_of_getElem? (i := 98) rfl)) (by decide) (by decide)) q27a q27c (g := (mkF m 239 #[.val (.int p0), .val (.int p1), .val (.long p2), .second, .val (.long p3), .second, .val (.int p4), .val (.ref b1), .val (.ref b4), .val (.ref b6), .val (.ref b9), .val (.ref b9), .val (.int (0 : Int32)), .val (.ref b12), .val (.ref b14), .val (.ref b16), .val (.ref li), .unset] [(.ref li), (.ref b9)])) rfl (by rw [hml]; rfl) (Steps.refl _) (argsL := []) (rest := [(.ref b9)]) (lenOf pd_2829Ljava2flang2fString3b rfl) rfl (by show 2 * 0 + _ ≤ _; exact Nat.le_of_eq rfl) (hb hby at_239) (fun _ _ => ⟨rfl, e26, Nat.le_of_ble_eq_true rfl, Nat.le_of_ble_eq_true rfl⟩)
        dsimp only [Pt.U, Pt.locs, Pt.cells, Pt.slots] at X27 l27 y27 z27 st27 hQ27
        rw [l27, y27, z27] at X27
        replace X27 : Stand p l e room_1 s m #[(.int p0), (.int p1), (.long p2), (.long p3), (.int p4)] below meth c T27 _ 30 150 := X27.more (by decide) (by decide)
        obtain ⟨rfl, N27q, e27⟩ := hQ27
        have N27 := Fr.app N26 N27q
        refine OEnds.via (fun _ k_ => st27.trans k_) ?_
        show OEnds p e below s _ _ _ (T27.setTop (mkF m 242 #[.val (.int p0), .val (.int p1), .val (.long p2), .second, .val (.long p3), .second, .val (.int p4), .val (.ref b1), .val (.ref b4), .val (.ref b6), .val (.ref b9), .val (.ref b9), .val (.int (0 : Int32)), .val (.ref b12), .val (.ref b14), .val (.ref b16), .val (.ref li), .unset] [(.ref b9), (.ref b9)]))
        obtain ⟨cq28, kq28, q28a, q28b, q28c⟩ := isOf hZ e27 E_b9
        obtain ⟨_, _, ⟨T28, L28, k28, n28⟩, -, X28, ⟨Lc28, hQ28, l28, y28, z28⟩, st28⟩ := X27.virtualBack hx (y := (⟨"java/lang/String", "equals", "(Ljava/lang/Object;)Z"⟩ : MethodName)) (z := (⟨"java/lang/String", "equals", "(Ljava/lang/Object;)Z"⟩ : MethodName)) hown (mvT hZ (hw _ (List.mem_of_getElem? (i := 209) rfl))) (mvT hZ (hw _ (List.mem_of_getElem? (i := 210) rfl))) (notFace_of_selects (args := #[]) (mvT hZ (hw _ (List.mem_of_getElem? (i := 212) rfl)))) (mvT hZ (hw _ (List.mem_of_getElem? (i := 212) rfl))) (mvT hZ (hw _ (List.mem_of_getElem? (i := 211) rfl))) (by decide) (backOf (W := 0) (rmSelf l Z a0 hw [] b9 T19.heap n0 Od ) hZ (hw _ (List.mem_of_getElem? (i := 213) rfl)) (hw _ (List.mem_of_getElem? (i := 3) rfl)) (by decide) (by decide)) q28a q28c (g := (mkF m 242 #[.val (.int p0), .val (.int p1), .val (.long p2), .second, .val (.long p3), .second, .val (.int p4), .val (.ref b1), .val (.ref b4), .val (.ref b6), .val (.ref b9), .val (.ref b9), .val (.int (0 : Int32)), .val (.ref b12), .val (.ref b14), .val (.ref b16), .val (.ref li), .unset] [(.ref b9), (.ref b9)])) rfl (by rw [hml]; rfl) (Steps.refl _) (argsL := [(.ref b9)]) (rest := []) (lenOf pd_28Ljava2flang2fObject3b29Z rfl) rfl (by show 2 * 0 + _ ≤ _; exact Nat.le_of_eq rfl) (hb hby at_242) (fun _ _ => ⟨rfl, e27, Nat.le_of_ble_eq_true rfl, Nat.le_of_ble_eq_true rfl⟩)
        dsimp only [Pt.U, Pt.locs, Pt.cells, Pt.slots] at X28 l28 y28 z28 st28 hQ28
        rw [l28, y28, z28] at X28
        replace X28 : Stand p l e room_1 s m #[(.int p0), (.int p1), (.long p2), (.long p3), (.int p4)] below meth c T28 _ 30 150 := X28.more (by decide) (by decide)
        obtain ⟨rfl, N28q, e28⟩ := hQ28
        have N28 := Fr.app N27 N28q
        refine OEnds.via (fun _ k_ => st28.trans k_) ?_
        show OEnds p e below s _ _ _ (T28.setTop (mkF m 245 #[.val (.int p0), .val (.int p1), .val (.long p2), .second, .val (.long p3), .second, .val (.int p4), .val (.ref b1), .val (.ref b4), .val (.ref b6), .val (.ref b9), .val (.ref b9), .val (.int (0 : Int32)), .val (.ref b12), .val (.ref b14), .val (.ref b16), .val (.ref li), .unset] [(.int (1 : Int32))]))
        refine OEnds.via (fun _ k_ => XS.ifYes X28.here hx rfl (pc0 := 245) (pc' := 250) rfl (hb hby at_245) rfl ((if0 _ _).trans (feq (by decide : ¬ ((1 : Int32) = (0 : Int32)))).2) (by decide) (by decide) k_) ?_
        show OEnds p e below s _ _ _ (T28.setTop (mkF m 250 #[.val (.int p0), .val (.int p1), .val (.long p2), .second, .val (.long p3), .second, .val (.int p4), .val (.ref b1), .val (.ref b4), .val (.ref b6), .val (.ref b9), .val (.ref b9), .val (.int (0 : Int32)), .val (.ref b12), .val (.ref b14), .val (.ref b16), .val (.ref li), .unset] []))
        refine OEnds.via (fun _ k_ => XS.aload X28.here hx rfl (hb hby at_250) rfl rfl k_) ?_
        show OEnds p e below s _ _ _ (T28.setTop (mkF m 252 #[.val (.int p0), .val (.int p1), .val (.long p2), .second, .val (.long p3), .second, .val (.int p4), .val (.ref b1), .val (.ref b4), .val (.ref b6), .val (.ref b9), .val (.ref b9), .val (.int (0 : Int32)), .val (.ref b12), .val (.ref b14), .val (.ref b16), .val (.ref li), .unset] [(.ref li)]))
        obtain ⟨cq29, kq29, q29a, q29b, q29c⟩ := isOf hZ e28 E_li
        obtain ⟨_, _, ⟨T29, L29, k29, n29⟩, -, X29, ⟨Lc29, hQ29, l29, y29, z29⟩, st29⟩ := X28.virtualBack hx (y := (⟨"com/example/holdfast/holdfast/LockInfo", "remainingLeaseMillis", "()J"⟩ : MethodName)) (z := (⟨"com/example/holdfast/holdfast/LockInfo", "remainingLeaseMillis", "()J"⟩ : MethodName)) hown (mvT hZ (hw _ (List.mem_of_getElem? (i := 234) rfl))) (mvT hZ (hw _ (List.mem_of_getElem? (i := 235) rfl))) (notFace_of_selects (args := #[]) (mvT hZ (hw _ (List.mem_of_getElem? (i := 237) rfl)))) (mvT hZ (hw _ (List.mem_of_getElem? (i := 237) rfl))) (mvT hZ (hw _ (List.mem_of_getElem? (i := 236) rfl))) (by decide) (backOf (W := 0) (rm_remainingLeaseMillis l Z a0 hw [] li b9 p2 T19.heap n0 Od G_remainingLeaseMillis G_holder E_li) hZ (hw _ (List.mem_of_getElem? (i := 238) rfl)) (hw _ (List.mem_of_getElem? (i := 98) rfl)) (by decide) (by decide)) q29a q29c (g := (mkF m 252 #[.val (.int p0), .val (.int p1), .val (.long p2), .second, .val (.long p3), .second, .val (.int p4), .val (.ref b1), .val (.ref b4), .val (.ref b6), .val (.ref b9), .val (.ref b9), .val (.int (0 : Int32)), .val (.ref b12), .val (.ref b14), .val (.ref b16), .val (.ref li), .unset] [(.ref li)])) rfl (by rw [hml]; rfl) (Steps.refl _) (argsL := []) (rest := []) (lenOf pd_2829J rfl) rfl (by show 2 * 0 + _ ≤ _; exact Nat.le_of_eq rfl) (hb hby at_252) (fun _ _ => ⟨rfl, e28, Nat.le_of_ble_eq_true rfl, Nat.le_of_ble_eq_true rfl⟩)
        dsimp only [Pt.U, Pt.locs, Pt.cells, Pt.slots] at X29 l29 y29 z29 st29 hQ29
        rw [l29, y29, z29] at X29
        replace X29 : Stand p l e room_1 s m #[(.int p0), (.int p1), (.long p2), (.long p3), (.int p4)] below meth c T29 _ 30 150 := X29.more (by decide) (by decide)
        obtain ⟨rfl, N29q, e29⟩ := hQ29
        have N29 := Fr.app N28 N29q
        refine OEnds.via (fun _ k_ => st29.trans k_) ?_
        show OEnds p e below s _ _ _ (T29.setTop (mkF m 255 #[.val (.int p0), .val (.int p1), .val (.long p2), .second, .val (.long p3), .second, .val (.int p4), .val (.ref b1), .val (.ref b4), .val (.ref b6), .val (.ref b9), .val (.ref b9), .val (.int (0 : Int32)), .val (.ref b12), .val (.ref b14), .val (.ref b16), .val (.ref li), .unset] [(.long p2)]))
        refine OEnds.via (fun _ k_ => XS.lloadN X29.here hx rfl (hb hby at_255) rfl k_) ?_
        show OEnds p e below s _ _ _ (T29.setTop (mkF m 256 #[.val (.int p0), .val (.int p1), .val (.long p2), .second, .val (.long p3), .second, .val (.int p4), .val (.ref b1), .val (.ref b4), .val (.ref b6), .val (.ref b9), .val (.ref b9), .val (.int (0 : Int32)), .val (.ref b12), .val (.ref b14), .val (.ref b16), .val (.ref li), .unset] [(.long p2), (.long p2)]))
        refine OEnds.via (fun _ k_ => XS.lcmp X29.here hx rfl (hb hby at_256) rfl k_) ?_
        show OEnds p e below s _ _ _ (T29.setTop (mkF m 257 #[.val (.int p0), .val (.int p1), .val (.long p2), .second, .val (.long p3), .second, .val (.int p4), .val (.ref b1), .val (.ref b4), .val (.ref b6), .val (.ref b9), .val (.ref b9), .val (.int (0 : Int32)), .val (.ref b12), .val (.ref b14), .val (.ref b16), .val (.ref li), .unset] [(.int (lcmpW p2 p2))]))
        refine OEnds.via (fun _ k_ => XS.ifYes X29.here hx rfl (pc0 := 257) (pc' := 262) rfl (hb hby at_257) rfl ((if0 _ _).trans (teq (own_lc0 _)).1) (by decide) (by decide) k_) ?_
        show OEnds p e below s _ _ _ (T29.setTop (mkF m 262 #[.val (.int p0), .val (.int p1), .val (.long p2), .second, .val (.long p3), .second, .val (.int p4), .val (.ref b1), .val (.ref b4), .val (.ref b6), .val (.ref b9), .val (.ref b9), .val (.int (0 : Int32)), .val (.ref b12), .val (.ref b14), .val (.ref b16), .val (.ref li), .unset] []))
        refine OEnds.via (fun _ k_ => XS.aload X29.here hx rfl (hb hby at_262) rfl rfl k_) ?_
        show OEnds p e below s _ _ _ (T29.setTop (mkF m 264 #[.val (.int p0), .val (.int p1), .val (.long p2), .second, .val (.long p3), .second, .val (.int p4), .val (.ref b1), .val (.ref b4), .val (.ref b6), .val (.ref b9), .val (.ref b9), .val (.int (0 : Int32)), .val (.ref b12), .val (.ref b14), .val (.ref b16), .val (.ref li), .unset] [(.ref li)]))
        obtain ⟨cq30, kq30, q30a, q30b, q30c⟩ := isOf hZ e29 E_li
        obtain ⟨_, _, ⟨T30, L30, k30, n30⟩, -, X30, ⟨Lc30, hQ30, l30, y30, z30⟩, st30⟩ := X29.virtualBack hx (y := (⟨"com/example/holdfast/holdfast/LockInfo", "fencingToken", "()J"⟩ : MethodName)) (z := (⟨"com/example/holdfast/holdfast/LockInfo", "fencingToken", "()J"⟩ : MethodName)) hown (mvT hZ (hw _ (List.mem_of_getElem? (i := 239) rfl))) (mvT hZ (hw _ (List.mem_of_getElem? (i := 240) rfl))) (notFace_of_selects (args := #[]) (mvT hZ (hw _ (List.mem_of_getElem? (i := 242) rfl)))) (mvT hZ (hw _ (List.mem_of_getElem? (i := 242) rfl))) (mvT hZ (hw _ (List.mem_of_getElem? (i := 241) rfl))) (by decide) (backOf (W := 0) (rm_fencingToken l Z a0 hw [] li b9 p3 T19.heap n0 Od G_fencingToken G_holder E_li) hZ (hw _ (List.mem_of_getElem? (i := 243) rfl)) (hw _ (List.mem_of_getElem? (i := 98) rfl)) (by decide) (by decide)) q30a q30c (g := (mkF m 264 #[.val (.int p0), .val (.int p1), .val (.long p2), .second, .val (.long p3), .second, .val (.int p4), .val (.ref b1), .val (.ref b4), .val (.ref b6), .val (.ref b9), .val (.ref b9), .val (.int (0 : Int32)), .val (.ref b12), .val (.ref b14), .val (.ref b16), .val (.ref li), .unset] [(.ref li)])) rfl (by rw [hml]; rfl) (Steps.refl _) (argsL := []) (rest := []) (lenOf pd_2829J rfl) rfl (by show 2 * 0 + _ ≤ _; exact Nat.le_of_eq rfl) (hb hby at_264) (fun _ _ => ⟨rfl, e29, Nat.le_of_ble_eq_true rfl, Nat.le_of_ble_eq_true rfl⟩)
        dsimp only [Pt.U, Pt.locs, Pt.cells, Pt.slots] at X30 l30 y30 z30 st30 hQ30
        rw [l30, y30, z30] at X30
        replace X30 : Stand p l e room_1 s m #[(.int p0), (.int p1), (.long p2), (.long p3), (.int p4)] below meth c T30 _ 30 150 := X30.more (by decide) (by decide)
        obtain ⟨rfl, N30q, e30⟩ := hQ30
        have N30 := Fr.app N29 N30q
        refine OEnds.via (fun _ k_ => st30.trans k_) ?_
        show OEnds p e below s _ _ _ (T30.setTop (mkF m 267 #[.val (.int p0), .val (.int p1), .val (.long p2), .second, .val (.long p3), .second, .val (.int p4), .val (.ref b1), .val (.ref b4), .val (.ref b6), .val (.ref b9), .val (.ref b9), .val (.int (0 : Int32)), .val (.ref b12), .val (.ref b14), .val (.ref b16), .val (.ref li), .unset] [(.long p3)]))
        refine OEnds.via (fun _ k_ => XS.lload X30.here hx rfl (hb hby at_267) rfl k_) ?_
        show OEnds p e below s _ _ _ (T30.setTop (mkF m 269 #[.val (.int p0), .val (.int p1), .val (.long p2), .second, .val (.long p3), .second, .val (.int p4), .val (.ref b1), .val (.ref b4), .val (.ref b6), .val (.ref b9), .val (.ref b9), .val (.int (0 : Int32)), .val (.ref b12), .val (.ref b14), .val (.ref b16), .val (.ref li), .unset] [(.long p3), (.long p3)]))
        refine OEnds.via (fun _ k_ => XS.lcmp X30.here hx rfl (hb hby at_269) rfl k_) ?_
        show OEnds p e below s _ _ _ (T30.setTop (mkF m 270 #[.val (.int p0), .val (.int p1), .val (.long p2), .second, .val (.long p3), .second, .val (.int p4), .val (.ref b1), .val (.ref b4), .val (.ref b6), .val (.ref b9), .val (.ref b9), .val (.int (0 : Int32)), .val (.ref b12), .val (.ref b14), .val (.ref b16), .val (.ref li), .unset] [(.int (lcmpW p3 p3))]))
        refine OEnds.via (fun _ k_ => XS.ifYes X30.here hx rfl (pc0 := 270) (pc' := 275) rfl (hb hby at_270) rfl ((if0 _ _).trans (teq (own_lc0 _)).1) (by decide) (by decide) k_) ?_
        show OEnds p e below s _ _ _ (T30.setTop (mkF m 275 #[.val (.int p0), .val (.int p1), .val (.long p2), .second, .val (.long p3), .second, .val (.int p4), .val (.ref b1), .val (.ref b4), .val (.ref b6), .val (.ref b9), .val (.ref b9), .val (.int (0 : Int32)), .val (.ref b12), .val (.ref b14), .val (.ref b16), .val (.ref li), .unset] []))
        refine OEnds.via (fun _ k_ => XS.aload X30.here hx rfl (hb hby at_275) rfl rfl k_) ?_
        show OEnds p e below s _ _ _ (T30.setTop (mkF m 277 #[.val (.int p0), .val (.int p1), .val (.long p2), .second, .val (.long p3), .second, .val (.int p4), .val (.ref b1), .val (.ref b4), .val (.ref b6), .val (.ref b9), .val (.ref b9), .val (.int (0 : Int32)), .val (.ref b12), .val (.ref b14), .val (.ref b16), .val (.ref li), .unset] [(.ref li)]))
        obtain ⟨cq31, kq31, q31a, q31b, q31c⟩ := isOf hZ e30 E_li
        obtain ⟨_, _, ⟨T31, L31, k31, n31⟩, -, X31, ⟨Lc31, hQ31, l31, y31, z31⟩, st31⟩ := X30.virtualBack hx (y := (⟨"com/example/holdfast/holdfast/LockInfo", "readers", "()Ljava/util/List;"⟩ : MethodName)) (z := (⟨"com/example/holdfast/holdfast/LockInfo", "readers", "()Ljava/util/List;"⟩ : MethodName)) hown (mvT hZ (hw _ (List.mem_of_getElem? (i := 244) rfl))) (mvT hZ (hw _ (List.mem_of_getElem? (i := 245) rfl))) (notFace_of_selects (args := #[]) (mvT hZ (hw _ (List.mem_of_getElem? (i := 247) rfl)))) (mvT hZ (hw _ (List.mem_of_getElem? (i := 247) rfl))) (mvT hZ (hw _ (List.mem_of_getElem? (i := 246) rfl))) (by decide) (backOf (W := 0) (rm_readers l Z a0 hw [] li el T19.heap n0 Od G_readers) hZ (hw _ (List.mem_of_getElem? (i := 248) rfl)) (hw _ (List.mem_of_getElem? (i := 98) rfl)) (by decide) (by decide)) q31a q31c (g := (mkF m 277 #[.val (.int p0), .val (.int p1), .val (.long p2), .second, .val (.long p3), .second, .val (.int p4), .val (.ref b1), .val (.ref b4), .val (.ref b6), .val (.ref b9), .val (.ref b9), .val (.int (0 : Int32)), .val (.ref b12), .val (.ref b14), .val (.ref b16), .val (.ref li), .unset] [(.ref li)])) rfl (by rw [hml]; rfl) (Steps.refl _) (argsL := []) (rest := []) (lenOf pd_2829Ljava2futil2fList3b rfl) rfl (by show 2 * 0 + _ ≤ _; exact Nat.le_of_eq rfl) (hb hby at_277) (fun _ _ => ⟨rfl, e30, Nat.le_of_ble_eq_true rfl, Nat.le_of_ble_eq_true rfl⟩)
        dsimp only [Pt.U, Pt.locs, Pt.cells, Pt.slots] at X31 l31 y31 z31 st31 hQ31
        rw [l31, y31, z31] at X31
        replace X31 : Stand p l e room_1 s m #[(.int p0), (.int p1), (.long p2), (.long p3), (.int p4)] below meth c T31 _ 30 150 := X31.more (by decide) (by decide)
        obtain ⟨rfl, N31q, e31⟩ := hQ31
        have N31 := Fr.app N30 N31q
        refine OEnds.via (fun _ k_ => st31.trans k_) ?_
        show OEnds p e below s _ _ _ (T31.setTop (mkF m 280 #[.val (.int p0), .val (.int p1), .val (.long p2), .second, .val (.long p3), .second, .val (.int p4), .val (.ref b1), .val (.ref b4), .val (.ref b6), .val (.ref b9), .val (.ref b9), .val (.int (0 : Int32)), .val (.ref b12), .val (.ref b14), .val (.ref b16), .val (.ref li), .unset] [(.ref el)]))
        refine OEnds.via (fun _ k_ => XS.astore X31.here hx rfl (hb hby at_280) rfl rfl (l' := #[.val (.int p0), .val (.int p1), .val (.long p2), .second, .val (.long p3), .second, .val (.int p4), .val (.ref b1), .val (.ref b4), .val (.ref b6), .val (.ref b9), .val (.ref b9), .val (.int (0 : Int32)), .val (.ref b12), .val (.ref b14), .val (.ref b16), .val (.ref li), .val (.ref el)]) rfl k_) ?_
        show OEnds p e below s _ _ _ (T31.setTop (mkF m 282 #[.val (.int p0), .val (.int p1), .val (.long p2), .second, .val (.long p3), .second, .val (.int p4), .val (.ref b1), .val (.ref b4), .val (.ref b6), .val (.ref b9), .val (.ref b9), .val (.int (0 : Int32)), .val (.ref b12), .val (.ref b14), .val (.ref b16), .val (.ref li), .val (.ref el)] []))
        refine OEnds.via (fun _ k_ => XS.aload X31.here hx rfl (hb hby at_282) rfl rfl k_) ?_
        show OEnds p e below s _ _ _ (T31.setTop (mkF m 284 #[.val (.int p0), .val (.int p1), .val (.long p2), .second, .val (.long p3), .second, .val (.int p4), .val (.ref b1), .val (.ref b4), .val (.ref b6), .val (.ref b9), .val (.ref b9), .val (.int (0 : Int32)), .val (.ref b12), .val (.ref b14), .val (.ref b16), .val (.ref li), .val (.ref el)] [(.ref el)]))
        obtain ⟨cq32, kq32, q32a, q32b, q32c⟩ := isOf hZ e31 (Exa.ext Od.2 E_el)
        obtain ⟨_, _, ⟨T32, L32, k32, n32⟩, -, X32, ⟨Lc32, hQ32, l32, y32, z32⟩, st32⟩ := X31.interfaceBack hx (xi := (⟨"java/util/List", "size", "()I"⟩ : MethodName)) (y := (⟨"java/util/ImmutableCollections$ListN", "size", "()I"⟩ : MethodName)) hown (mvT hZ (hw _ (List.mem_of_getElem? (i := 249) rfl))) (mvT hZ (hw _ (List.mem_of_getElem? (i := 250) rfl))) (mvT hZ (hw _ (List.mem_of_getElem? (i := 251) rfl))) (mvT hZ (hw _ (List.mem_of_getElem? (i := 270) rfl))) (mvT hZ (hw _ (List.mem_of_getElem? (i := 271) rfl))) (mvT hZ (hw _ (List.mem_of_getElem? (i := 272) rfl))) (mvT hZ (hw _ (List.mem_of_getElem? (i := 273) rfl))) (mvT hZ (hw _ (List.mem_of_getElem? (i := 274) rfl))) (by decide) (backOf (W := 0) (rmSz0 l Z a0 hw [] el ee kee T19.heap n0 Od F_ee V_ee) hZ (hw _ (List.mem_of_getElem? (i := 276) rfl)) (hw _ (List.mem_of_getElem? (i := 275) rfl)) (by decide) (by decide)) q32a q32b q32c (g := (mkF m 284 #[.val (.int p0), .val (.int p1), .val (.long p2), .second, .val (.long p3), .second, .val (.int p4), .val (.ref b1), .val (.ref b4), .val (.ref b6), .val (.ref b9), .val (.ref b9), .val (.int (0 : Int32)), .val (.ref b12), .val (.ref b14), .val (.ref b16), .val (.ref li), .val (.ref el)] [(.ref el)])) rfl (by rw [hml]; rfl) (Steps.refl _) (argsL := []) (rest := []) (lenOf pd_2829I rfl) rfl (by show 2 * 0 + _ ≤ _; exact Nat.le_of_eq rfl) (hb hby at_284) (fun _ _ => ⟨rfl, e31, Nat.le_of_ble_eq_true rfl, Nat.le_of_ble_eq_true rfl⟩)
        dsimp only [Pt.U, Pt.locs, Pt.cells, Pt.slots] at X32 l32 y32 z32 st32 hQ32
        rw [l32, y32, z32] at X32
        replace X32 : Stand p l e room_1 s m #[(.int p0), (.int p1), (.long p2), (.long p3), (.int p4)] below meth c T32 _ 30 150 := X32.more (by decide) (by decide)
        obtain ⟨rfl, N32q, e32⟩ := hQ32
        have N32 := Fr.app N31 N32q
        refine OEnds.via (fun _ k_ => st32.trans k_) ?_
        show OEnds p e below s _ _ _ (T32.setTop (mkF m 289 #[.val (.int p0), .val (.int p1), .val (.long p2), .second, .val (.long p3), .second, .val (.int p4), .val (.ref b1), .val (.ref b4), .val (.ref b6), .val (.ref b9), .val (.ref b9), .val (.int (0 : Int32)), .val (.ref b12), .val (.ref b14), .val (.ref b16), .val (.ref li), .val (.ref el)] [(.int (0 : Int32))]))
        refine OEnds.via (fun _ k_ => XS.iload X32.here hx rfl (hb hby at_289) rfl k_) ?_
        show OEnds p e below s _ _ _ (T32.setTop (mkF m 291 #[.val (.int p0), .val (.int p1), .val (.long p2), .second, .val (.long p3), .second, .val (.int p4), .val (.ref b1), .val (.ref b4), .val (.ref b6), .val (.ref b9), .val (.ref b9), .val (.int (0 : Int32)), .val (.ref b12), .val (.ref b14), .val (.ref b16), .val (.ref li), .val (.ref el)] [(.int (0 : Int32)), (.int (0 : Int32))]))
        refine OEnds.via (fun _ k_ => XS.icmpYes X32.here hx rfl (pc0 := 291) (pc' := 296) rfl (hb hby at_291) rfl (teq (by decide : (0 : Int32) = (0 : Int32))).1 (by decide) (by decide) k_) ?_
        show OEnds p e below s _ _ _ (T32.setTop (mkF m 296 #[.val (.int p0), .val (.int p1), .val (.long p2), .second, .val (.long p3), .second, .val (.int p4), .val (.ref b1), .val (.ref b4), .val (.ref b6), .val (.ref b9), .val (.ref b9), .val (.int (0 : Int32)), .val (.ref b12), .val (.ref b14), .val (.ref b16), .val (.ref li), .val (.ref el)] []))
        refine OEnds.via (fun _ k_ => XS.iload X32.here hx rfl (hb hby at_296) rfl k_) ?_
        show OEnds p e below s _ _ _ (T32.setTop (mkF m 298 #[.val (.int p0), .val (.int p1), .val (.long p2), .second, .val (.long p3), .second, .val (.int p4), .val (.ref b1), .val (.ref b4), .val (.ref b6), .val (.ref b9), .val (.ref b9), .val (.int (0 : Int32)), .val (.ref b12), .val (.ref b14), .val (.ref b16), .val (.ref li), .val (.ref el)] [(.int (0 : Int32))]))
        refine OEnds.via (fun _ k_ => XS.iconst X32.here hx rfl (hb hby at_298) k_) ?_
        show OEnds p e below s _ _ _ (T32.setTop (mkF m 299 #[.val (.int p0), .val (.int p1), .val (.long p2), .second, .val (.long p3), .second, .val (.int p4), .val (.ref b1), .val (.ref b4), .val (.ref b6), .val (.ref b9), .val (.ref b9), .val (.int (0 : Int32)), .val (.ref b12), .val (.ref b14), .val (.ref b16), .val (.ref li), .val (.ref el)] [(.int (1 : Int32)), (.int (0 : Int32))]))
        refine OEnds.via (fun _ k_ => XS.icmpYes X32.here hx rfl (pc0 := 299) (pc' := 317) rfl (hb hby at_299) rfl (tlt (by decide : (0 : Int32) < (1 : Int32))).1 (by decide) (by decide) k_) ?_
        show OEnds p e below s _ _ _ (T32.setTop (mkF m 317 #[.val (.int p0), .val (.int p1), .val (.long p2), .second, .val (.long p3), .second, .val (.int p4), .val (.ref b1), .val (.ref b4), .val (.ref b6), .val (.ref b9), .val (.ref b9), .val (.int (0 : Int32)), .val (.ref b12), .val (.ref b14), .val (.ref b16), .val (.ref li), .val (.ref el)] []))
        refine OEnds.via (fun _ k_ => XS.iload X32.here hx rfl (hb hby at_317) rfl k_) ?_
        show OEnds p e below s _ _ _ (T32.setTop (mkF m 319 #[.val (.int p0), .val (.int p1), .val (.long p2), .second, .val (.long p3), .second, .val (.int p4), .val (.ref b1), .val (.ref b4), .val (.ref b6), .val (.ref b9), .val (.ref b9), .val (.int (0 : Int32)), .val (.ref b12), .val (.ref b14), .val (.ref b16), .val (.ref li), .val (.ref el)] [(.int (0 : Int32))]))
        refine OEnds.via (fun _ k_ => XS.iconst X32.here hx rfl (hb hby at_319) k_) ?_
        show OEnds p e below s _ _ _ (T32.setTop (mkF m 320 #[.val (.int p0), .val (.int p1), .val (.long p2), .second, .val (.long p3), .second, .val (.int p4), .val (.ref b1), .val (.ref b4), .val (.ref b6), .val (.ref b9), .val (.ref b9), .val (.int (0 : Int32)), .val (.ref b12), .val (.ref b14), .val (.ref b16), .val (.ref li), .val (.ref el)] [(.int (2 : Int32)), (.int (0 : Int32))]))
        refine OEnds.via (fun _ k_ => XS.icmpYes X32.here hx rfl (pc0 := 320) (pc' := 338) rfl (hb hby at_320) rfl (tlt (by decide : (0 : Int32) < (2 : Int32))).1 (by decide) (by decide) k_) ?_
        show OEnds p e below s _ _ _ (T32.setTop (mkF m 338 #[.val (.int p0), .val (.int p1), .val (.long p2), .second, .val (.long p3), .second, .val (.int p4), .val (.ref b1), .val (.ref b4), .val (.ref b6), .val (.ref b9), .val (.ref b9), .val (.int (0 : Int32)), .val (.ref b12), .val (.ref b14), .val (.ref b16), .val (.ref li), .val (.ref el)] []))
        refine OEnds.via (fun _ k_ => XS.iconst X32.here hx rfl (hb hby at_338) k_) ?_
        show OEnds p e below s _ _ _ (T32.setTop (mkF m 339 #[.val (.int p0), .val (.int p1), .val (.long p2), .second, .val (.long p3), .second, .val (.int p4), .val (.ref b1), .val (.ref b4), .val (.ref b6), .val (.ref b9), .val (.ref b9), .val (.int (0 : Int32)), .val (.ref b12), .val (.ref b14), .val (.ref b16), .val (.ref li), .val (.ref el)] [(.int (1 : Int32))]))
        refine OEnds.retN X32 hx hlk (t := .boolean) Bd.returns (by simp) (hb hby at_339) ?_ (by decide) (by decide)
        exact ⟨rfl, N32⟩
    · skip
      rw [hk]
      show OEnds p e below s _ _ _ (T17.setTop (mkF m 135 #[.val (.int p0), .val (.int p1), .val (.long p2), .second, .val (.long p3), .second, .val (.int p4), .val (.ref b1), .val (.ref b4), .val (.ref b6), .val (.ref b9), .val kv, .val (.int (1 : Int32)), .val (.ref b12), .val (.ref b14), .val (.ref b16), .unset, .unset] []))
      refine OEnds.via (fun _ k_ => XS.iload X17.here hx rfl (hb hby at_135) rfl k_) ?_
      show OEnds p e below s _ _ _ (T17.setTop (mkF m 137 #[.val (.int p0), .val (.int p1), .val (.long p2), .second, .val (.long p3), .second, .val (.int p4), .val (.ref b1), .val (.ref b4), .val (.ref b6), .val (.ref b9), .val kv, .val (.int (1 : Int32)), .val (.ref b12), .val (.ref b14), .val (.ref b16), .unset, .unset] [(.int (1 : Int32))]))
      refine OEnds.via (fun _ k_ => XS.iconst X17.here hx rfl (hb hby at_137) k_) ?_
      show OEnds p e below s _ _ _ (T17.setTop (mkF m 138 #[.val (.int p0), .val (.int p1), .val (.long p2), .second, .val (.long p3), .second, .val (.int p4), .val (.ref b1), .val (.ref b4), .val (.ref b6), .val (.ref b9), .val kv, .val (.int (1 : Int32)), .val (.ref b12), .val (.ref b14), .val (.ref b16), .unset, .unset] [(.int (1 : Int32)), (.int (1 : Int32))]))
      refine OEnds.via (fun _ k_ => XS.icmpNo X17.here hx rfl (hb hby at_138) rfl (flt (by decide : ¬ ((1 : Int32) < (1 : Int32)))).1 k_) ?_
      show OEnds p e below s _ _ _ (T17.setTop (mkF m 141 #[.val (.int p0), .val (.int p1), .val (.long p2), .second, .val (.long p3), .second, .val (.int p4), .val (.ref b1), .val (.ref b4), .val (.ref b6), .val (.ref b9), .val kv, .val (.int (1 : Int32)), .val (.ref b12), .val (.ref b14), .val (.ref b16), .unset, .unset] []))
      refine OEnds.via (fun _ k_ => XS.aload X17.here hx rfl (hb hby at_141) rfl rfl k_) ?_
      show OEnds p e below s _ _ _ (T17.setTop (mkF m 143 #[.val (.int p0), .val (.int p1), .val (.long p2), .second, .val (.long p3), .second, .val (.int p4), .val (.ref b1), .val (.ref b4), .val (.ref b6), .val (.ref b9), .val kv, .val (.int (1 : Int32)), .val (.ref b12), .val (.ref b14), .val (.ref b16), .unset, .unset] [(.ref b16)]))
      refine OEnds.via (fun _ k_ => XS.aload X17.here hx rfl (hb hby at_143) rfl rfl k_) ?_
      show OEnds p e below s _ _ _ (T17.setTop (mkF m 145 #[.val (.int p0), .val (.int p1), .val (.long p2), .second, .val (.long p3), .second, .val (.int p4), .val (.ref b1), .val (.ref b4), .val (.ref b6), .val (.ref b9), .val kv, .val (.int (1 : Int32)), .val (.ref b12), .val (.ref b14), .val (.ref b16), .unset, .unset] [(.ref b12), (.ref b16)]))
      obtain ⟨cq33, kq33, q33a, q33b, q33c⟩ := isOf hZ rfl E_b16
      obtain ⟨_, _, ⟨T33, L33, k33, n33⟩, -, X33, ⟨Lc33, hQ33, l33, y33, z33⟩, st33⟩ := X17.virtualBack hx (y := (⟨"java/util/ArrayList", "add", "(Ljava/lang/Object;)Z"⟩ : MethodName)) (z := (⟨"java/util/ArrayList", "add", "(Ljava/lang/Object;)Z"⟩ : MethodName)) hown (mvT hZ (hw _ (List.mem_of_getElem? (i := 65) rfl))) (mvT hZ (hw _ (List.mem_of_getElem? (i := 66) rfl))) (notFace_of_selects (args := #[]) (mvT hZ (hw _ (List.mem_of_getElem? (i := 68) rfl)))) (mvT hZ (hw _ (List.mem_of_getElem? (i := 68) rfl))) (mvT hZ (hw _ (List.mem_of_getElem? (i := 67) rfl))) (by decide) (backOf (W := 0) (rmA0 l Z a0 hw [] b16 b12 (0 : Int32) dc kdc T17.heap n0 Od G_modCount G_elementData G_size E_b16 ge_b16 S_dc V_dc E_b12 ne_b12_b16) hZ (hw _ (List.mem_of_getElem? (i := 69) rfl)) (hw _ (List.mem_of_getElem? (i := 43) rfl)) (by decide) (by decide)) q33a q33c (g := (mkF m 145 #[.val (.int p0), .val (.int p1), .val (.long p2), .second, .val (.long p3), .second, .val (.int p4), .val (.ref b1), .val (.ref b4), .val (.ref b6), .val (.ref b9), .val kv, .val (.int (1 : Int32)), .val (.ref b12), .val (.ref b14), .val (.ref b16), .unset, .unset] [(.ref b12), (.ref b16)])) rfl (by rw [hml]; rfl) (Steps.refl _) (argsL := [(.ref b12)]) (rest := []) (lenOf pd_28Ljava2flang2fObject3b29Z rfl) rfl (by show 2 * 0 + _ ≤ _; exact Nat.le_of_eq rfl) (hb hby at_145) (fun _ _ => ⟨rfl, rfl, Nat.le_of_ble_eq_true rfl, Nat.le_of_ble_eq_true rfl⟩)
      dsimp only [Pt.U, Pt.locs, Pt.cells, Pt.slots] at X33 l33 y33 z33 st33 hQ33
      rw [l33, y33, z33] at X33
      replace X33 : Stand p l e room_1 s m #[(.int p0), (.int p1), (.long p2), (.long p3), (.int p4)] below meth c T33 _ 18 80 := X33.more (by decide) (by decide)
      obtain ⟨d, kd, rfl, N33q, K33, -, G_modCount, G_elementData, G_size, ge_d, sz_d, O_d, V_d, E_d⟩ := hQ33
      have ne_b4_d : b4 ≠ d := Nat.ne_of_lt (Nat.lt_of_lt_of_le E_b4.lt sz_d)
      have ne_b9_d : b9 ≠ d := Nat.ne_of_lt (Nat.lt_of_lt_of_le E_b9.lt sz_d)
      have ne_b12_d : b12 ≠ d := Nat.ne_of_lt (Nat.lt_of_lt_of_le E_b12.lt sz_d)
      have ne_b14_d : b14 ≠ d := Nat.ne_of_lt (Nat.lt_of_lt_of_le E_b14.lt sz_d)
      have ne_b16_d : b16 ≠ d := Nat.ne_of_lt (Nat.lt_of_lt_of_le E_b16.lt sz_d)
      have N33 := Fr.app N17 N33q
      replace Od := Od.keep K33 (allS ge_b16 all0)
      replace E_b4 := E_b4.keep K33
      replace E_b9 := E_b9.keep K33
      replace E_b12 := E_b12.keep K33
      replace E_b14 := E_b14.keep K33
      replace E_b16 := E_b16.keep K33
      refine OEnds.via (fun _ k_ => st33.trans k_) ?_
      show OEnds p e below s _ _ _ (T33.setTop (mkF m 148 #[.val (.int p0), .val (.int p1), .val (.long p2), .second, .val (.long p3), .second, .val (.int p4), .val (.ref b1), .val (.ref b4), .val (.ref b6), .val (.ref b9), .val kv, .val (.int (1 : Int32)), .val (.ref b12), .val (.ref b14), .val (.ref b16), .unset, .unset] [(.int (1 : Int32))]))
      refine OEnds.via (fun _ k_ => XS.pop X33.here hx rfl (hb hby at_148) rfl rfl k_) ?_
      show OEnds p e below s _ _ _ (T33.setTop (mkF m 149 #[.val (.int p0), .val (.int p1), .val (.long p2), .second, .val (.long p3), .second, .val (.int p4), .val (.ref b1), .val (.ref b4), .val (.ref b6), .val (.ref b9), .val kv, .val (.int (1 : Int32)), .val (.ref b12), .val (.ref b14), .val (.ref b16), .unset, .unset] []))
      refine OEnds.via (fun _ k_ => XS.iload X33.here hx rfl (hb hby at_149) rfl k_) ?_
      show OEnds p e below s _ _ _ (T33.setTop (mkF m 151 #[.val (.int p0), .val (.int p1), .val (.long p2), .second, .val (.long p3), .second, .val (.int p4), .val (.ref b1), .val (.ref b4), .val (.ref b6), .val (.ref b9), .val kv, .val (.int (1 : Int32)), .val (.ref b12), .val (.ref b14), .val (.ref b16), .unset, .unset] [(.int (1 : Int32))]))
      refine OEnds.via (fun _ k_ => XS.iconst X33.here hx rfl (hb hby at_151) k_) ?_
      show OEnds p e below s _ _ _ (T33.setTop (mkF m 152 #[.val (.int p0), .val (.int p1), .val (.long p2), .second, .val (.long p3), .second, .val (.int p4), .val (.ref b1), .val (.ref b4), .val (.ref b6), .val (.ref b9), .val kv, .val (.int (1 : Int32)), .val (.ref b12), .val (.ref b14), .val (.ref b16), .unset, .unset] [(.int (2 : Int32)), (.int (1 : Int32))]))
      refine OEnds.via (fun _ k_ => XS.icmpYes X33.here hx rfl (pc0 := 152) (pc' := 163) rfl (hb hby at_152) rfl (tlt (by decide : (1 : Int32) < (2 : Int32))).1 (by decide) (by decide) k_) ?_
      show OEnds p e below s _ _ _ (T33.setTop (mkF m 163 #[.val (.int p0), .val (.int p1), .val (.long p2), .second, .val (.long p3), .second, .val (.int p4), .val (.ref b1), .val (.ref b4), .val (.ref b6), .val (.ref b9), .val kv, .val (.int (1 : Int32)), .val (.ref b12), .val (.ref b14), .val (.ref b16), .unset, .unset] []))
      refine OEnds.via (fun _ k_ => XS.aload X33.here hx rfl (hb hby at_163) rfl rfl k_) ?_
      show OEnds p e below s _ _ _ (T33.setTop (mkF m 165 #[.val (.int p0), .val (.int p1), .val (.long p2), .second, .val (.long p3), .second, .val (.int p4), .val (.ref b1), .val (.ref b4), .val (.ref b6), .val (.ref b9), .val kv, .val (.int (1 : Int32)), .val (.ref b12), .val (.ref b14), .val (.ref b16), .unset, .unset] [(.ref b4)]))
      refine OEnds.via (fun _ k_ => XS.aload X33.here hx rfl (hb hby at_165) rfl hkv k_) ?_
      show OEnds p e below s _ _ _ (T33.setTop (mkF m 167 #[.val (.int p0), .val (.int p1), .val (.long p2), .second, .val (.long p3), .second, .val (.int p4), .val (.ref b1), .val (.ref b4), .val (.ref b6), .val (.ref b9), .val kv, .val (.int (1 : Int32)), .val (.ref b12), .val (.ref b14), .val (.ref b16), .unset, .unset] [kv, (.ref b4)]))
      refine OEnds.via (fun _ k_ => XS.lloadN X33.here hx rfl (hb hby at_167) rfl k_) ?_
      show OEnds p e below s _ _ _ (T33.setTop (mkF m 168 #[.val (.int p0), .val (.int p1), .val (.long p2), .second, .val (.long p3), .second, .val (.int p4), .val (.ref b1), .val (.ref b4), .val (.ref b6), .val (.ref b9), .val kv, .val (.int (1 : Int32)), .val (.ref b12), .val (.ref b14), .val (.ref b16), .unset, .unset] [(.long p2), kv, (.ref b4)]))
      refine OEnds.via (fun _ k_ => XS.lload X33.here hx rfl (hb hby at_168) rfl k_) ?_
      show OEnds p e below s _ _ _ (T33.setTop (mkF m 170 #[.val (.int p0), .val (.int p1), .val (.long p2), .second, .val (.long p3), .second, .val (.int p4), .val (.ref b1), .val (.ref b4), .val (.ref b6), .val (.ref b9), .val kv, .val (.int (1 : Int32)), .val (.ref b12), .val (.ref b14), .val (.ref b16), .unset, .unset] [(.long p3), (.long p2), kv, (.ref b4)]))
      refine OEnds.via (fun _ k_ => XS.aload X33.here hx rfl (hb hby at_170) rfl rfl k_) ?_
      show OEnds p e below s _ _ _ (T33.setTop (mkF m 172 #[.val (.int p0), .val (.int p1), .val (.long p2), .second, .val (.long p3), .second, .val (.int p4), .val (.ref b1), .val (.ref b4), .val (.ref b6), .val (.ref b9), .val kv, .val (.int (1 : Int32)), .val (.ref b12), .val (.ref b14), .val (.ref b16), .unset, .unset] [(.ref b16), (.long p3), (.long p2), kv, (.ref b4)]))
      obtain ⟨_, _, ⟨T34, L34, k34, n34⟩, -, X34, ⟨Lc34, hQ34, l34, y34, z34⟩, st34⟩ := Jvm.LawKit.callS X33 hx (y := (⟨"com/example/holdfast/holdfast/LockInfo", "held", "(Ljava/lang/String;Ljava/lang/String;JJLjava/util/List;)Lcom/example/holdfast/holdfast/LockInfo;"⟩ : MethodName)) hown (mvT hZ (hw _ (List.mem_of_getElem? (i := 96) rfl))) (mvT hZ (hw _ (List.mem_of_getElem? (i := 97) rfl))) (mvT hZ (hw _ (List.mem_of_getElem? (i := 98) rfl))) (mvT hZ (hw _ (List.mem_of_getElem? (i := 99) rfl))) (by decide) (backOf (W := 0) (rmHd1 l Z a0 hw [] b4 kv p2 p3 b16 d kd mr em b12 T33.heap n0 Od hkv G_elementData G_size E_b16 V_d E_b12 M E_d S_em) hZ (hw _ (List.mem_of_getElem? (i := 99) rfl)) (hw _ (List.mem_of_getElem? (i := 98) rfl)) (by decide) (by decide)) (g := (mkF m 172 #[.val (.int p0), .val (.int p1), .val (.long p2), .second, .val (.long p3), .second, .val (.int p4), .val (.ref b1), .val (.ref b4), .val (.ref b6), .val (.ref b9), .val kv, .val (.int (1 : Int32)), .val (.ref b12), .val (.ref b14), .val (.ref b16), .unset, .unset] [(.ref b16), (.long p3), (.long p2), kv, (.ref b4)])) rfl (by rw [hml]; rfl) (argsL := [(.ref b4), kv, (.long p2), (.long p3), (.ref b16)]) (rest := []) (lenOf pd_28Ljava2flang2fString3bLjava2flang2fString3bJJLjava2futil2fList3b29Lcom2fexample2fholdfast2fholdfast2fLockInfo3b rfl) rfl (by show 2 * 0 + _ ≤ _; exact Nat.le_of_eq rfl) (hb hby at_172) (fun _ _ => ⟨rfl, rfl, Nat.le_of_ble_eq_true rfl, Nat.le_of_ble_eq_true rfl⟩)
      dsimp only [Pt.U, Pt.locs, Pt.cells, Pt.slots] at X34 l34 y34 z34 st34 hQ34
      rw [l34, y34, z34] at X34
      replace X34 : Stand p l e room_1 s m #[(.int p0), (.int p1), (.long p2), (.long p3), (.int p4)] below meth c T34 _ 26 130 := X34.more (by decide) (by decide)
      obtain ⟨li, q, rfl, N34q, K34, ge_li, sz_li, E_li, G_name, G_held, G_holder, G_remainingLeaseMillis, G_fencingToken, G_readers, ge_q, sz_q, E_q, G_e0, G_e1⟩ := hQ34
      have ne_b4_li : b4 ≠ li := Nat.ne_of_lt (Nat.lt_of_lt_of_le E_b4.lt sz_li)
      have ne_b9_li : b9 ≠ li := Nat.ne_of_lt (Nat.lt_of_lt_of_le E_b9.lt sz_li)
      have ne_b12_li : b12 ≠ li := Nat.ne_of_lt (Nat.lt_of_lt_of_le E_b12.lt sz_li)
      have ne_b14_li : b14 ≠ li := Nat.ne_of_lt (Nat.lt_of_lt_of_le E_b14.lt sz_li)
      have ne_b16_li : b16 ≠ li := Nat.ne_of_lt (Nat.lt_of_lt_of_le E_b16.lt sz_li)
      have ne_d_li : d ≠ li := Nat.ne_of_lt (Nat.lt_of_lt_of_le V_d.lt sz_li)
      have ne_b4_q : b4 ≠ q := Nat.ne_of_lt (Nat.lt_of_lt_of_le E_b4.lt sz_q)
      have ne_b9_q : b9 ≠ q := Nat.ne_of_lt (Nat.lt_of_lt_of_le E_b9.lt sz_q)
      have ne_b12_q : b12 ≠ q := Nat.ne_of_lt (Nat.lt_of_lt_of_le E_b12.lt sz_q)
      have ne_b14_q : b14 ≠ q := Nat.ne_of_lt (Nat.lt_of_lt_of_le E_b14.lt sz_q)
      have ne_b16_q : b16 ≠ q := Nat.ne_of_lt (Nat.lt_of_lt_of_le E_b16.lt sz_q)
      have ne_d_q : d ≠ q := Nat.ne_of_lt (Nat.lt_of_lt_of_le V_d.lt sz_q)
      have N34 := Fr.app N33 N34q
      replace Od := Od.keep K34 all0
      replace E_b4 := E_b4.keep K34
      replace E_b9 := E_b9.keep K34
      replace E_b12 := E_b12.keep K34
      replace E_b14 := E_b14.keep K34
      replace E_b16 := E_b16.keep K34
      replace G_modCount := G_modCount.keep K34 nin0
      replace G_elementData := G_elementData.keep K34 nin0
      replace G_size := G_size.keep K34 nin0
      replace V_d := V_d.keep K34 nin0
      replace E_d := E_d.keep K34
      refine OEnds.via (fun _ k_ => st34 _ k_) ?_
      show OEnds p e below s _ _ _ (T34.setTop (mkF m 175 #[.val (.int p0), .val (.int p1), .val (.long p2), .second, .val (.long p3), .second, .val (.int p4), .val (.ref b1), .val (.ref b4), .val (.ref b6), .val (.ref b9), .val kv, .val (.int (1 : Int32)), .val (.ref b12), .val (.ref b14), .val (.ref b16), .unset, .unset] [(.ref li)]))
      refine OEnds.via (fun _ k_ => XS.astore X34.here hx rfl (hb hby at_175) rfl rfl (l' := #[.val (.int p0), .val (.int p1), .val (.long p2), .second, .val (.long p3), .second, .val (.int p4), .val (.ref b1), .val (.ref b4), .val (.ref b6), .val (.ref b9), .val kv, .val (.int (1 : Int32)), .val (.ref b12), .val (.ref b14), .val (.ref b16), .val (.ref li), .unset]) rfl k_) ?_
      show OEnds p e below s _ _ _ (T34.setTop (mkF m 177 #[.val (.int p0), .val (.int p1), .val (.long p2), .second, .val (.long p3), .second, .val (.int p4), .val (.ref b1), .val (.ref b4), .val (.ref b6), .val (.ref b9), .val kv, .val (.int (1 : Int32)), .val (.ref b12), .val (.ref b14), .val (.ref b16), .val (.ref li), .unset] []))
      refine OEnds.via (fun _ k_ => XS.aload X34.here hx rfl (hb hby at_177) rfl rfl k_) ?_
      show OEnds p e below s _ _ _ (T34.setTop (mkF m 179 #[.val (.int p0), .val (.int p1), .val (.long p2), .second, .val (.long p3), .second, .val (.int p4), .val (.ref b1), .val (.ref b4), .val (.ref b6), .val (.ref b9), .val kv, .val (.int (1 : Int32)), .val (.ref b12), .val (.ref b14), .val (.ref b16), .val (.ref li), .unset] [(.ref b16)]))
      refine OEnds.via (fun _ k_ => XS.aload X34.here hx rfl (hb hby at_179) rfl rfl k_) ?_
      show OEnds p e below s _ _ _ (T34.setTop (mkF m 181 #[.val (.int p0), .val (.int p1), .val (.long p2), .second, .val (.long p3), .second, .val (.int p4), .val (.ref b1), .val (.ref b4), .val (.ref b6), .val (.ref b9), .val kv, .val (.int (1 : Int32)), .val (.ref b12), .val (.ref b14), .val (.ref b16), .val (.ref li), .unset] [(.ref b12), (.ref b16)]))
      obtain ⟨cq35, kq35, q35a, q35b, q35c⟩ := isOf hZ rfl E_b16
      obtain ⟨_, _, ⟨T35, L35, k35, n35⟩, -, X35, ⟨Lc35, hQ35, l35, y35, z35⟩, st35⟩ := X34.virtualBack hx (y := (⟨"java/util/ArrayList", "add", "(Ljava/lang/Object;)Z"⟩ : MethodName)) (z := (⟨"java/util/ArrayList", "add", "(Ljava/lang/Object;)Z"⟩ : MethodName)) hown (mvT hZ (hw _ (List.mem_of_getElem? (i := 65) rfl))) (mvT hZ (hw _ (List.mem_of_getElem? (i := 66) rfl))) (notFace_of_selects (args := #[]) (mvT hZ (hw _ (List.mem_of_getElem? (i := 68) rfl)))) (mvT hZ (hw _ (List.mem_of_getElem? (i := 68) rfl))) (mvT hZ (hw _ (List.mem_of_getElem? (i := 67) rfl))) (by decide) (backOf (W := 0) (rmA1 l Z a0 hw [] b16 b12 ((0 : Int32) + (1 : Int32)) d kd b12 T34.heap n0 Od G_modCount G_elementData G_size E_b16 ge_b16 V_d ge_d O_d E_b12 ne_b12_b16 ne_b16_d) hZ (hw _ (List.mem_of_getElem? (i := 69) rfl)) (hw _ (List.mem_of_getElem? (i := 43) rfl)) (by decide) (by decide)) q35a q35c (g := (mkF m 181 #[.val (.int p0), .val (.int p1), .val (.long p2), .second, .val (.long p3), .second, .val (.int p4), .val (.ref b1), .val (.ref b4), .val (.ref b6), .val (.ref b9), .val kv, .val (.int (1 : Int32)), .val (.ref b12), .val (.ref b14), .val (.ref b16), .val (.ref li), .unset] [(.ref b12), (.ref b16)])) rfl (by rw [hml]; rfl) (Steps.refl _) (argsL := [(.ref b12)]) (rest := []) (lenOf pd_28Ljava2flang2fObject3b29Z rfl) rfl (by show 2 * 0 + _ ≤ _; exact Nat.le_of_eq rfl) (hb hby at_181) (fun _ _ => ⟨rfl, rfl, Nat.le_of_ble_eq_true rfl, Nat.le_of_ble_eq_true rfl⟩)
      dsimp only [Pt.U, Pt.locs, Pt.cells, Pt.slots] at X35 l35 y35 z35 st35 hQ35
      rw [l35, y35, z35] at X35
      replace X35 : Stand p l e room_1 s m #[(.int p0), (.int p1), (.long p2), (.long p3), (.int p4)] below meth c T35 _ 30 150 := X35.more (by decide) (by decide)
      obtain ⟨rfl, N35q, K35, -, G_modCount, G_elementData, G_size, V_d⟩ := hQ35
      have N35 := Fr.app N34 N35q
      replace Od := Od.keep K35 (allS ge_b16 (allS ge_d all0))
      replace E_b4 := E_b4.keep K35
      replace E_b9 := E_b9.keep K35
      replace E_b12 := E_b12.keep K35
      replace E_b14 := E_b14.keep K35
      replace E_b16 := E_b16.keep K35
      replace E_d := E_d.keep K35
      replace E_li := E_li.keep K35
      replace G_name := G_name.keep K35 (ninS (Ne.symm ne_b16_li) (ninS (Ne.symm ne_d_li) nin0))
      replace G_held := G_held.keep K35 (ninS (Ne.symm ne_b16_li) (ninS (Ne.symm ne_d_li) nin0))
      replace G_holder := G_holder.keep K35 (ninS (Ne.symm ne_b16_li) (ninS (Ne.symm ne_d_li) nin0))
      replace G_remainingLeaseMillis := G_remainingLeaseMillis.keep K35 (ninS (Ne.symm ne_b16_li) (ninS (Ne.symm ne_d_li) nin0))
      replace G_fencingToken := G_fencingToken.keep K35 (ninS (Ne.symm ne_b16_li) (ninS (Ne.symm ne_d_li) nin0))
      replace G_readers := G_readers.keep K35 (ninS (Ne.symm ne_b16_li) (ninS (Ne.symm ne_d_li) nin0))
      replace E_q := E_q.keep K35
      replace G_e0 := G_e0.keep K35 (ninS (Ne.symm ne_b16_q) (ninS (Ne.symm ne_d_q) nin0))
      replace G_e1 := G_e1.keep K35 (ninS (Ne.symm ne_b16_q) (ninS (Ne.symm ne_d_q) nin0))
      refine OEnds.via (fun _ k_ => st35.trans k_) ?_
      show OEnds p e below s _ _ _ (T35.setTop (mkF m 184 #[.val (.int p0), .val (.int p1), .val (.long p2), .second, .val (.long p3), .second, .val (.int p4), .val (.ref b1), .val (.ref b4), .val (.ref b6), .val (.ref b9), .val kv, .val (.int (1 : Int32)), .val (.ref b12), .val (.ref b14), .val (.ref b16), .val (.ref li), .unset] [(.int (1 : Int32))]))
      refine OEnds.via (fun _ k_ => XS.pop X35.here hx rfl (hb hby at_184) rfl rfl k_) ?_
      show OEnds p e below s _ _ _ (T35.setTop (mkF m 185 #[.val (.int p0), .val (.int p1), .val (.long p2), .second, .val (.long p3), .second, .val (.int p4), .val (.ref b1), .val (.ref b4), .val (.ref b6), .val (.ref b9), .val kv, .val (.int (1 : Int32)), .val (.ref b12), .val (.ref b14), .val (.ref b16), .val (.ref li), .unset] []))
      refine OEnds.via (fun _ k_ => XS.aload X35.here hx rfl (hb hby at_185) rfl rfl k_) ?_
      show OEnds p e below s _ _ _ (T35.setTop (mkF m 187 #[.val (.int p0), .val (.int p1), .val (.long p2), .second, .val (.long p3), .second, .val (.int p4), .val (.ref b1), .val (.ref b4), .val (.ref b6), .val (.ref b9), .val kv, .val (.int (1 : Int32)), .val (.ref b12), .val (.ref b14), .val (.ref b16), .val (.ref li), .unset] [(.ref b4)]))
      refine OEnds.via (fun _ k_ => XS.aload X35.here hx rfl (hb hby at_187) rfl rfl k_) ?_
      show OEnds p e below s _ _ _ (T35.setTop (mkF m 189 #[.val (.int p0), .val (.int p1), .val (.long p2), .second, .val (.long p3), .second, .val (.int p4), .val (.ref b1), .val (.ref b4), .val (.ref b6), .val (.ref b9), .val kv, .val (.int (1 : Int32)), .val (.ref b12), .val (.ref b14), .val (.ref b16), .val (.ref li), .unset] [(.ref li), (.ref b4)]))
      obtain ⟨cq36, kq36, q36a, q36b, q36c⟩ := isOf hZ rfl E_li
      obtain ⟨_, _, ⟨T36, L36, k36, n36⟩, -, X36, ⟨Lc36, hQ36, l36, y36, z36⟩, st36⟩ := X35.virtualBack hx (y := (⟨"com/example/holdfast/holdfast/LockInfo", "name", "()Ljava/lang/String;"⟩ : MethodName)) (z := (⟨"com/example/holdfast/holdfast/LockInfo", "name", "()Ljava/lang/String;"⟩ : MethodName)) hown (mvT hZ (hw _ (List.mem_of_getElem? (i := 204) rfl))) (mvT hZ (hw _ (List.mem_of_getElem? (i := 205) rfl))) (notFace_of_selects (args := #[]) (mvT hZ (hw _ (List.mem_of_getElem? (i := 207) rfl)))) (mvT hZ (hw _ (List.mem_of_getElem? (i := 207) rfl))) (mvT hZ (hw _ (List.mem_of_getElem? (i := 206) rfl))) (by decide) (backOf (W := 1) (rm_name l Z a0 hw [] li b4 T35.heap n0 Od G_name) hZ (hw _ (List.mem_of_getElem? (i := 208) rfl)) (hw _ (List.mem_of_getElem? (i := 98) rfl)) (by decide) (by decide)) q36a q36c (g := (mkF m 189 #[.val (.int p0), .val (.int p1), .val (.long p2), .second, .val (.long p3), .second, .val (.int p4), .val (.ref b1), .val (.ref b4), .val (.ref b6), .val (.ref b9), .val kv, .val (.int (1 : Int32)), .val (.ref b12), .val (.ref b14), .val (.ref b16), .val (.ref li), .unset] [(.ref li), (.ref b4)])) rfl (by rw [hml]; rfl) (Steps.refl _) (argsL := []) (rest := [(.ref b4)]) (lenOf pd_2829Ljava2flang2fString3b rfl) rfl (by show 2 * 0 + _ ≤ _; exact Nat.le_of_eq rfl) (hb hby at_189) (fun _ _ => ⟨rfl, rfl, Nat.le_of_ble_eq_true rfl, Nat.le_of_ble_eq_true rfl⟩)
      dsimp only [Pt.U, Pt.locs, Pt.cells, Pt.slots] at X36 l36 y36 z36 st36 hQ36
      rw [l36, y36, z36] at X36
      replace X36 : Stand p l e room_1 s m #[(.int p0), (.int p1), (.long p2), (.long p3), (.int p4)] below meth c T36 _ 30 150 := X36.more (by decide) (by decide)
      obtain ⟨rfl, N36q, e36⟩ := hQ36
      have N36 := Fr.app N35 N36q
      refine OEnds.via (fun _ k_ => st36.trans k_) ?_
      show OEnds p e below s _ _ _ (T36.setTop (mkF m 192 #[.val (.int p0), .val (.int p1), .val (.long p2), .second, .val (.long p3), .second, .val (.int p4), .val (.ref b1), .val (.ref b4), .val (.ref b6), .val (.ref b9), .val kv, .val (.int (1 : Int32)), .val (.ref b12), .val (.ref b14), .val (.ref b16), .val (.ref li), .unset] [(.ref b4), (.ref b4)]))
      obtain ⟨cq37, kq37, q37a, q37b, q37c⟩ := isOf hZ e36 E_b4
      obtain ⟨_, _, ⟨T37, L37, k37, n37⟩, -, X37, ⟨Lc37, hQ37, l37, y37, z37⟩, st37⟩ := X36.virtualBack hx (y := (⟨"java/lang/String", "equals", "(Ljava/lang/Object;)Z"⟩ : MethodName)) (z := (⟨"java/lang/String", "equals", "(Ljava/lang/Object;)Z"⟩ : MethodName)) hown (mvT hZ (hw _ (List.mem_of_getElem? (i := 209) rfl))) (mvT hZ (hw _ (List.mem_of_getElem? (i := 210) rfl))) (notFace_of_selects (args := #[]) (mvT hZ (hw _ (List.mem_of_getElem? (i := 212) rfl)))) (mvT hZ (hw _ (List.mem_of_getElem? (i := 212) rfl))) (mvT hZ (hw _ (List.mem_of_getElem? (i := 211) rfl))) (by decide) (backOf (W := 0) (rmSelf l Z a0 hw [] b4 T35.heap n0 Od ) hZ (hw _ (List.mem_of_getElem? (i := 213) rfl)) (hw _ (List.mem_of_getElem? (i := 3) rfl)) (by decide) (by decide)) q37a q37c (g := (mkF m 192 #[.val (.int p0), .val (.int p1), .val (.long p2), .second, .val (.long p3), .second, .val (.int p4), .val (.ref b1), .val (.ref b4), .val (.ref b6), .val (.ref b9), .val kv, .val (.int (1 : Int32)), .val (.ref b12), .val (.ref b14), .val (.ref b16), .val (.ref li), .unset] [(.ref b4), (.ref b4)])) rfl (by rw [hml]; rfl) (Steps.refl _) (argsL := [(.ref b4)]) (rest := []) (lenOf pd_28Ljava2flang2fObject3b29Z rfl) rfl (by show 2 * 0 + _ ≤ _; exact Nat.le_of_eq rfl) (hb hby at_192) (fun _ _ => ⟨rfl, e36, Nat.le_of_ble_eq_true rfl, Nat.le_of_ble_eq_true rfl⟩)
      dsimp only [Pt.U, Pt.locs, Pt.cells, Pt.slots] at X37 l37 y37 z37 st37 hQ37
      rw [l37, y37, z37] at X37
      replace X37 : Stand p l e room_1 s m #[(.int p0), (.int p1), (.long p2), (.long p3), (.int p4)] below meth c T37 _ 30 150 := X37.more (by decide) (by decide)
      obtain ⟨rfl, N37q, e37⟩ := hQ37
      have N37 := Fr.app N36 N37q
      refine OEnds.via (fun _ k_ => st37.trans k_) ?_
      show OEnds p e below s _ _ _ (T37.setTop (mkF m 195 #[.val (.int p0), .val (.int p1), .val (.long p2), .second, .val (.long p3), .second, .val (.int p4), .val (.ref b1), .val (.ref b4), .val (.ref b6), .val (.ref b9), .val kv, .val (.int (1 : Int32)), .val (.ref b12), .val (.ref b14), .val (.ref b16), .val (.ref li), .unset] [(.int (1 : Int32))]))
      refine OEnds.via (fun _ k_ => XS.ifYes X37.here hx rfl (pc0 := 195) (pc' := 200) rfl (hb hby at_195) rfl ((if0 _ _).trans (feq (by decide : ¬ ((1 : Int32) = (0 : Int32)))).2) (by decide) (by decide) k_) ?_
      show OEnds p e below s _ _ _ (T37.setTop (mkF m 200 #[.val (.int p0), .val (.int p1), .val (.long p2), .second, .val (.long p3), .second, .val (.int p4), .val (.ref b1), .val (.ref b4), .val (.ref b6), .val (.ref b9), .val kv, .val (.int (1 : Int32)), .val (.ref b12), .val (.ref b14), .val (.ref b16), .val (.ref li), .unset] []))
      refine OEnds.via (fun _ k_ => XS.aload X37.here hx rfl (hb hby at_200) rfl rfl k_) ?_
      show OEnds p e below s _ _ _ (T37.setTop (mkF m 202 #[.val (.int p0), .val (.int p1), .val (.long p2), .second, .val (.long p3), .second, .val (.int p4), .val (.ref b1), .val (.ref b4), .val (.ref b6), .val (.ref b9), .val kv, .val (.int (1 : Int32)), .val (.ref b12), .val (.ref b14), .val (.ref b16), .val (.ref li), .unset] [(.ref li)]))
      obtain ⟨cq38, kq38, q38a, q38b, q38c⟩ := isOf hZ e37 E_li
      obtain ⟨_, _, ⟨T38, L38, k38, n38⟩, -, X38, ⟨Lc38, hQ38, l38, y38, z38⟩, st38⟩ := X37.virtualBack hx (y := (⟨"com/example/holdfast/holdfast/LockInfo", "held", "()Z"⟩ : MethodName)) (z := (⟨"com/example/holdfast/holdfast/LockInfo", "held", "()Z"⟩ : MethodName)) hown (mvT hZ (hw _ (List.mem_of_getElem? (i := 214) rfl))) (mvT hZ (hw _ (List.mem_of_getElem? (i := 215) rfl))) (notFace_of_selects (args := #[]) (mvT hZ (hw _ (List.mem_of_getElem? (i := 217) rfl)))) (mvT hZ (hw _ (List.mem_of_getElem? (i := 217) rfl))) (mvT hZ (hw _ (List.mem_of_getElem? (i := 216) rfl))) (by decide) (backOf (W := 0) (rm_held l Z a0 hw [] li T35.heap n0 Od G_held) hZ (hw _ (List.mem_of_getElem? (i := 218) rfl)) (hw _ (List.mem_of_getElem? (i := 98) rfl)) (by decide) (by decide)) q38a q38c (g := (mkF m 202 #[.val (.int p0), .val (.int p1), .val (.long p2), .second, .val (.long p3), .second, .val (.int p4), .val (.ref b1), .val (.ref b4), .val (.ref b6), .val (.ref b9), .val kv, .val (.int (1 : Int32)), .val (.ref b12), .val (.ref b14), .val (.ref b16), .val (.ref li), .unset] [(.ref li)])) rfl (by rw [hml]; rfl) (Steps.refl _) (argsL := []) (rest := []) (lenOf pd_2829Z rfl) rfl (by show 2 * 0 + _ ≤ _; exact Nat.le_of_eq rfl) (hb hby at_202) (fun _ _ => ⟨rfl, e37, Nat.le_of_ble_eq_true rfl, Nat.le_of_ble_eq_true rfl⟩)
      dsimp only [Pt.U, Pt.locs, Pt.cells, Pt.slots] at X38 l38 y38 z38 st38 hQ38
      rw [l38, y38, z38] at X38
      replace X38 : Stand p l e room_1 s m #[(.int p0), (.int p1), (.long p2), (.long p3), (.int p4)] below meth c T38 _ 30 150 := X38.more (by decide) (by decide)
      obtain ⟨rfl, N38q, e38⟩ := hQ38
      have N38 := Fr.app N37 N38q
      refine OEnds.via (fun _ k_ => st38.trans k_) ?_
      show OEnds p e below s _ _ _ (T38.setTop (mkF m 205 #[.val (.int p0), .val (.int p1), .val (.long p2), .second, .val (.long p3), .second, .val (.int p4), .val (.ref b1), .val (.ref b4), .val (.ref b6), .val (.ref b9), .val kv, .val (.int (1 : Int32)), .val (.ref b12), .val (.ref b14), .val (.ref b16), .val (.ref li), .unset] [(.int (1 : Int32))]))
      refine OEnds.via (fun _ k_ => XS.ifYes X38.here hx rfl (pc0 := 205) (pc' := 210) rfl (hb hby at_205) rfl ((if0 _ _).trans (feq (by decide : ¬ ((1 : Int32) = (0 : Int32)))).2) (by decide) (by decide) k_) ?_
      show OEnds p e below s _ _ _ (T38.setTop (mkF m 210 #[.val (.int p0), .val (.int p1), .val (.long p2), .second, .val (.long p3), .second, .val (.int p4), .val (.ref b1), .val (.ref b4), .val (.ref b6), .val (.ref b9), .val kv, .val (.int (1 : Int32)), .val (.ref b12), .val (.ref b14), .val (.ref b16), .val (.ref li), .unset] []))
      rcases hcase with hkn | hkn
      · skip
        rw [hkn] at G_holder ⊢
        show OEnds p e below s _ _ _ (T38.setTop (mkF m 210 #[.val (.int p0), .val (.int p1), .val (.long p2), .second, .val (.long p3), .second, .val (.int p4), .val (.ref b1), .val (.ref b4), .val (.ref b6), .val (.ref b9), .val .null, .val (.int (1 : Int32)), .val (.ref b12), .val (.ref b14), .val (.ref b16), .val (.ref li), .unset] []))
        refine OEnds.via (fun _ k_ => XS.aload X38.here hx rfl (hb hby at_210) rfl rfl k_) ?_
        show OEnds p e below s _ _ _ (T38.setTop (mkF m 212 #[.val (.int p0), .val (.int p1), .val (.long p2), .second, .val (.long p3), .second, .val (.int p4), .val (.ref b1), .val (.ref b4), .val (.ref b6), .val (.ref b9), .val .null, .val (.int (1 : Int32)), .val (.ref b12), .val (.ref b14), .val (.ref b16), .val (.ref li), .unset] [(.ref li)]))
        obtain ⟨cq39, kq39, q39a, q39b, q39c⟩ := isOf hZ e38 E_li
        obtain ⟨_, _, ⟨T39, L39, k39, n39⟩, -, X39, ⟨Lc39, hQ39, l39, y39, z39⟩, st39⟩ := X38.virtualBack hx (y := (⟨"com/example/holdfast/holdfast/LockInfo", "heldAlone", "()Z"⟩ : MethodName)) (z := (⟨"com/example/holdfast/holdfast/LockInfo", "heldAlone", "()Z"⟩ : MethodName)) hown (mvT hZ (hw _ (List.mem_of_getElem? (i := 219) rfl))) (mvT hZ (hw _ (List.mem_of_getElem? (i := 220) rfl))) (notFace_of_selects (args := #[]) (mvT hZ (hw _ (List.mem_of_getElem? (i := 222) rfl)))) (mvT hZ (hw _ (List.mem_of_getElem? (i := 222) rfl))) (mvT hZ (hw _ (List.mem_of_getElem? (i := 221) rfl))) (by decide) (backOf (W := 0) (rm_aloneN l Z a0 hw [] li T35.heap n0 Od G_holder) hZ (hw _ (List.mem_of_getElem? (i := 223) rfl)) (hw _ (List.mem_of_getElem? (i := 98) rfl)) (by decide) (by decide)) q39a q39c (g := (mkF m 212 #[.val (.int p0), .val (.int p1), .val (.long p2), .second, .val (.long p3), .second, .val (.int p4), .val (.ref b1), .val (.ref b4), .val (.ref b6), .val (.ref b9), .val .null, .val (.int (1 : Int32)), .val (.ref b12), .val (.ref b14), .val (.ref b16), .val (.ref li), .unset] [(.ref li)])) rfl (by rw [hml]; rfl) (Steps.refl _) (argsL := []) (rest := []) (lenOf pd_2829Z rfl) rfl (by show 2 * 0 + _ ≤ _; exact Nat.le_of_eq rfl) (hb hby at_212) (fun _ _ => ⟨rfl, e38, Nat.le_of_ble_eq_true rfl, Nat.le_of_ble_eq_true rfl⟩)
        dsimp only [Pt.U, Pt.locs, Pt.cells, Pt.slots] at X39 l39 y39 z39 st39 hQ39
        rw [l39, y39, z39] at X39
        replace X39 : Stand p l e room_1 s m #[(.int p0), (.int p1), (.long p2), (.long p3), (.int p4)] below meth c T39 _ 30 150 := X39.more (by decide) (by decide)
        obtain ⟨rfl, N39q, e39⟩ := hQ39
        have N39 := Fr.app N38 N39q
        refine OEnds.via (fun _ k_ => st39.trans k_) ?_
        show OEnds p e below s _ _ _ (T39.setTop (mkF m 215 #[.val (.int p0), .val (.int p1), .val (.long p2), .second, .val (.long p3), .second, .val (.int p4), .val (.ref b1), .val (.ref b4), .val (.ref b6), .val (.ref b9), .val .null, .val (.int (1 : Int32)), .val (.ref b12), .val (.ref b14), .val (.ref b16), .val (.ref li), .unset] [(.int (0 : Int32))]))
        refine OEnds.via (fun _ k_ => XS.aload X39.here hx rfl (hb hby at_215) rfl rfl k_) ?_
        show OEnds p e below s _ _ _ (T39.setTop (mkF m 217 #[.val (.int p0), .val (.int p1), .val (.long p2), .second, .val (.long p3), .second, .val (.int p4), .val (.ref b1), .val (.ref b4), .val (.ref b6), .val (.ref b9), .val .null, .val (.int (1 : Int32)), .val (.ref b12), .val (.ref b14), .val (.ref b16), .val (.ref li), .unset] [.null, (.int (0 : Int32))]))
        refine OEnds.via (fun _ k_ => XS.ifnullYes X39.here hx rfl (pc0 := 217) (pc' := 224) rfl (hb hby at_217) rfl (by decide) (by decide) k_) ?_
        show OEnds p e below s _ _ _ (T39.setTop (mkF m 224 #[.val (.int p0), .val (.int p1), .val (.long p2), .second, .val (.long p3), .second, .val (.int p4), .val (.ref b1), .val (.ref b4), .val (.ref b6), .val (.ref b9), .val .null, .val (.int (1 : Int32)), .val (.ref b12), .val (.ref b14), .val (.ref b16), .val (.ref li), .unset] [(.int (0 : Int32))]))
        refine OEnds.via (fun _ k_ => XS.iconst X39.here hx rfl (hb hby at_224) k_) ?_
        show OEnds p e below s _ _ _ (T39.setTop (mkF m 225 #[.val (.int p0), .val (.int p1), .val (.long p2), .second, .val (.long p3), .second, .val (.int p4), .val (.ref b1), .val (.ref b4), .val (.ref b6), .val (.ref b9), .val .null, .val (.int (1 : Int32)), .val (.ref b12), .val (.ref b14), .val (.ref b16), .val (.ref li), .unset] [(.int (0 : Int32)), (.int (0 : Int32))]))
        refine OEnds.via (fun _ k_ => XS.icmpYes X39.here hx rfl (pc0 := 225) (pc' := 230) rfl (hb hby at_225) rfl (teq (by decide : (0 : Int32) = (0 : Int32))).1 (by decide) (by decide) k_) ?_
        show OEnds p e below s _ _ _ (T39.setTop (mkF m 230 #[.val (.int p0), .val (.int p1), .val (.long p2), .second, .val (.long p3), .second, .val (.int p4), .val (.ref b1), .val (.ref b4), .val (.ref b6), .val (.ref b9), .val .null, .val (.int (1 : Int32)), .val (.ref b12), .val (.ref b14), .val (.ref b16), .val (.ref li), .unset] []))
        refine OEnds.via (fun _ k_ => XS.aload X39.here hx rfl (hb hby at_230) rfl rfl k_) ?_
        show OEnds p e below s _ _ _ (T39.setTop (mkF m 232 #[.val (.int p0), .val (.int p1), .val (.long p2), .second, .val (.long p3), .second, .val (.int p4), .val (.ref b1), .val (.ref b4), .val (.ref b6), .val (.ref b9), .val .null, .val (.int (1 : Int32)), .val (.ref b12), .val (.ref b14), .val (.ref b16), .val (.ref li), .unset] [.null]))
        refine OEnds.via (fun _ k_ => XS.ifnullYes X39.here hx rfl (pc0 := 232) (pc' := 275) rfl (hb hby at_232) rfl (by decide) (by decide) k_) ?_
        show OEnds p e below s _ _ _ (T39.setTop (mkF m 275 #[.val (.int p0), .val (.int p1), .val (.long p2), .second, .val (.long p3), .second, .val (.int p4), .val (.ref b1), .val (.ref b4), .val (.ref b6), .val (.ref b9), .val .null, .val (.int (1 : Int32)), .val (.ref b12), .val (.ref b14), .val (.ref b16), .val (.ref li), .unset] []))
        refine OEnds.via (fun _ k_ => XS.aload X39.here hx rfl (hb hby at_275) rfl rfl k_) ?_
        show OEnds p e below s _ _ _ (T39.setTop (mkF m 277 #[.val (.int p0), .val (.int p1), .val (.long p2), .second, .val (.long p3), .second, .val (.int p4), .val (.ref b1), .val (.ref b4), .val (.ref b6), .val (.ref b9), .val .null, .val (.int (1 : Int32)), .val (.ref b12), .val (.ref b14), .val (.ref b16), .val (.ref li), .unset] [(.ref li)]))
        obtain ⟨cq40, kq40, q40a, q40b, q40c⟩ := isOf hZ e39 E_li
        obtain ⟨_, _, ⟨T40, L40, k40, n40⟩, -, X40, ⟨Lc40, hQ40, l40, y40, z40⟩, st40⟩ := X39.virtualBack hx (y := (⟨"com/example/holdfast/holdfast/LockInfo", "readers", "()Ljava/util/List;"⟩ : MethodName)) (z := (⟨"com/example/holdfast/holdfast/LockInfo", "readers", "()Ljava/util/List;"⟩ : MethodName)) hown (mvT hZ (hw _ (List.mem_of_getElem? (i := 244) rfl))) (mvT hZ (hw _ (List.mem_of_getElem? (i := 245) rfl))) (notFace_of_selects (args := #[]) (mvT hZ (hw _ (List.mem_of_getElem? (i := 247) rfl)))) (mvT hZ (hw _ (List.mem_of_getElem? (i := 247) rfl))) (mvT hZ (hw _ (List.mem_of_getElem? (i := 246) rfl))) (by decide) (backOf (W := 0) (rm_readers l Z a0 hw [] li q T35.heap n0 Od G_readers) hZ (hw _ (List.mem_of_getElem? (i := 248) rfl)) (hw _ (List.mem_of_getElem? (i := 98) rfl)) (by decide) (by decide)) q40a q40c (g := (mkF m 277 #[.val (.int p0), .val (.int p1), .val (.long p2), .second, .val (.long p3), .second, .val (.int p4), .val (.ref b1), .val (.ref b4), .val (.ref b6), .val (.ref b9), .val .null, .val (.int (1 : Int32)), .val (.ref b12), .val (.ref b14), .val (.ref b16), .val (.ref li), .unset] [(.ref li)])) rfl (by rw [hml]; rfl) (Steps.refl _) (argsL := []) (rest := []) (lenOf pd_2829Ljava2futil2fList3b rfl) rfl (by show 2 * 0 + _ ≤ _; exact Nat.le_of_eq rfl) (hb hby at_277) (fun _ _ => ⟨rfl, e39, Nat.le_of_ble_eq_true rfl, Nat.le_of_ble_eq_true rfl⟩)
        dsimp only [Pt.U, Pt.locs, Pt.cells, Pt.slots] at X40 l40 y40 z40 st40 hQ40
        rw [l40, y40, z40] at X40
        replace X40 : Stand p l e room_1 s m #[(.int p0), (.int p1), (.long p2), (.long p3), (.int p4)] below meth c T40 _ 30 150 := X40.more (by decide) (by decide)
        obtain ⟨rfl, N40q, e40⟩ := hQ40
        have N40 := Fr.app N39 N40q
        refine OEnds.via (fun _ k_ => st40.trans k_) ?_
        show OEnds p e below s _ _ _ (T40.setTop (mkF m 280 #[.val (.int p0), .val (.int p1), .val (.long p2), .second, .val (.long p3), .second, .val (.int p4), .val (.ref b1), .val (.ref b4), .val (.ref b6), .val (.ref b9), .val .null, .val (.int (1 : Int32)), .val (.ref b12), .val (.ref b14), .val (.ref b16), .val (.ref li), .unset] [(.ref q)]))
        refine OEnds.via (fun _ k_ => XS.astore X40.here hx rfl (hb hby at_280) rfl rfl (l' := #[.val (.int p0), .val (.int p1), .val (.long p2), .second, .val (.long p3), .second, .val (.int p4), .val (.ref b1), .val (.ref b4), .val (.ref b6), .val (.ref b9), .val .null, .val (.int (1 : Int32)), .val (.ref b12), .val (.ref b14), .val (.ref b16), .val (.ref li), .val (.ref q)]) rfl k_) ?_
        show OEnds p e below s _ _ _ (T40.setTop (mkF m 282 #[.val (.int p0), .val (.int p1), .val (.long p2), .second, .val (.long p3), .second, .val (.int p4), .val (.ref b1), .val (.ref b4), .val (.ref b6), .val (.ref b9), .val .null, .val (.int (1 : Int32)), .val (.ref b12), .val (.ref b14), .val (.ref b16), .val (.ref li), .val (.ref q)] []))
        refine OEnds.via (fun _ k_ => XS.aload X40.here hx rfl (hb hby at_282) rfl rfl k_) ?_
        show OEnds p e below s _ _ _ (T40.setTop (mkF m 284 #[.val (.int p0), .val (.int p1), .val (.long p2), .second, .val (.long p3), .second, .val (.int p4), .val (.ref b1), .val (.ref b4), .val (.ref b6), .val (.ref b9), .val .null, .val (.int (1 : Int32)), .val (.ref b12), .val (.ref b14), .val (.ref b16), .val (.ref li), .val (.ref q)] [(.ref q)]))
        obtain ⟨cq41, kq41, q41a, q41b, q41c⟩ := isOf hZ e40 E_q
        obtain ⟨_, _, ⟨T41, L41, k41, n41⟩, -, X41, ⟨Lc41, hQ41, l41, y41, z41⟩, st41⟩ := X40.interfaceBack hx (xi := (⟨"java/util/List", "size", "()I"⟩ : MethodName)) (y := (⟨"java/util/ImmutableCollections$List12", "size", "()I"⟩ : MethodName)) hown (mvT hZ (hw _ (List.mem_of_getElem? (i := 249) rfl))) (mvT hZ (hw _ (List.mem_of_getElem? (i := 250) rfl))) (mvT hZ (hw _ (List.mem_of_getElem? (i := 251) rfl))) (mvT hZ (hw _ (List.mem_of_getElem? (i := 252) rfl))) (mvT hZ (hw _ (List.mem_of_getElem? (i := 253) rfl))) (mvT hZ (hw _ (List.mem_of_getElem? (i := 254) rfl))) (mvT hZ (hw _ (List.mem_of_getElem? (i := 255) rfl))) (mvT hZ (hw _ (List.mem_of_getElem? (i := 256) rfl))) (by decide) (backOf (W := 0) (rmSz1 l Z a0 hw [] q em T35.heap n0 Od G_e1 S_em) hZ (hw _ (List.mem_of_getElem? (i := 257) rfl)) (hw _ (List.mem_of_getElem? (i := 174) rfl)) (by decide) (by decide)) q41a q41b q41c (g := (mkF m 284 #[.val (.int p0), .val (.int p1), .val (.long p2), .second, .val (.long p3), .second, .val (.int p4), .val (.ref b1), .val (.ref b4), .val (.ref b6), .val (.ref b9), .val .null, .val (.int (1 : Int32)), .val (.ref b12), .val (.ref b14), .val (.ref b16), .val (.ref li), .val (.ref q)] [(.ref q)])) rfl (by rw [hml]; rfl) (Steps.refl _) (argsL := []) (rest := []) (lenOf pd_2829I rfl) rfl (by show 2 * 0 + _ ≤ _; exact Nat.le_of_eq rfl) (hb hby at_284) (fun _ _ => ⟨rfl, e40, Nat.le_of_ble_eq_true rfl, Nat.le_of_ble_eq_true rfl⟩)
        dsimp only [Pt.U, Pt.locs, Pt.cells, Pt.slots] at X41 l41 y41 z41 st41 hQ41
        rw [l41, y41, z41] at X41
        replace X41 : Stand p l e room_1 s m #[(.int p0), (.int p1), (.long p2), (.long p3), (.int p4)] below meth c T41 _ 30 150 := X41.more (by decide) (by decide)
        obtain ⟨rfl, N41q, e41⟩ := hQ41
        have N41 := Fr.app N40 N41q
        refine OEnds.via (fun _ k_ => st41.trans k_) ?_
        show OEnds p e below s _ _ _ (T41.setTop (mkF m 289 #[.val (.int p0), .val (.int p1), .val (.long p2), .second, .val (.long p3), .second, .val (.int p4), .val (.ref b1), .val (.ref b4), .val (.ref b6), .val (.ref b9), .val .null, .val (.int (1 : Int32)), .val (.ref b12), .val (.ref b14), .val (.ref b16), .val (.ref li), .val (.ref q)] [(.int (1 : Int32))]))
        refine OEnds.via (fun _ k_ => XS.iload X41.here hx rfl (hb hby at_289) rfl k_) ?_
        show OEnds p e below s _ _ _ (T41.setTop (mkF m 291 #[.val (.int p0), .val (.int p1), .val (.long p2), .second, .val (.long p3), .second, .val (.int p4), .val (.ref b1), .val (.ref b4), .val (.ref b6), .val (.ref b9), .val .null, .val (.int (1 : Int32)), .val (.ref b12), .val (.ref b14), .val (.ref b16), .val (.ref li), .val (.ref q)] [(.int (1 : Int32)), (.int (1 : Int32))]))
        refine OEnds.via (fun _ k_ => XS.icmpYes X41.here hx rfl (pc0 := 291) (pc' := 296) rfl (hb hby at_291) rfl (teq (by decide : (1 : Int32) = (1 : Int32))).1 (by decide) (by decide) k_) ?_
        show OEnds p e below s _ _ _ (T41.setTop (mkF m 296 #[.val (.int p0), .val (.int p1), .val (.long p2), .second, .val (.long p3), .second, .val (.int p4), .val (.ref b1), .val (.ref b4), .val (.ref b6), .val (.ref b9), .val .null, .val (.int (1 : Int32)), .val (.ref b12), .val (.ref b14), .val (.ref b16), .val (.ref li), .val (.ref q)] []))
        refine OEnds.via (fun _ k_ => XS.iload X41.here hx rfl (hb hby at_296) rfl k_) ?_
        show OEnds p e below s _ _ _ (T41.setTop (mkF m 298 #[.val (.int p0), .val (.int p1), .val (.long p2), .second, .val (.long p3), .second, .val (.int p4), .val (.ref b1), .val (.ref b4), .val (.ref b6), .val (.ref b9), .val .null, .val (.int (1 : Int32)), .val (.ref b12), .val (.ref b14), .val (.ref b16), .val (.ref li), .val (.ref q)] [(.int (1 : Int32))]))
        refine OEnds.via (fun _ k_ => XS.iconst X41.here hx rfl (hb hby at_298) k_) ?_
        show OEnds p e below s _ _ _ (T41.setTop (mkF m 299 #[.val (.int p0), .val (.int p1), .val (.long p2), .second, .val (.long p3), .second, .val (.int p4), .val (.ref b1), .val (.ref b4), .val (.ref b6), .val (.ref b9), .val .null, .val (.int (1 : Int32)), .val (.ref b12), .val (.ref b14), .val (.ref b16), .val (.ref li), .val (.ref q)] [(.int (1 : Int32)), (.int (1 : Int32))]))
        refine OEnds.via (fun _ k_ => XS.icmpNo X41.here hx rfl (hb hby at_299) rfl (flt (by decide : ¬ ((1 : Int32) < (1 : Int32)))).1 k_) ?_
        show OEnds p e below s _ _ _ (T41.setTop (mkF m 302 #[.val (.int p0), .val (.int p1), .val (.long p2), .second, .val (.long p3), .second, .val (.int p4), .val (.ref b1), .val (.ref b4), .val (.ref b6), .val (.ref b9), .val .null, .val (.int (1 : Int32)), .val (.ref b12), .val (.ref b14), .val (.ref b16), .val (.ref li), .val (.ref q)] []))
        refine OEnds.via (fun _ k_ => XS.aload X41.here hx rfl (hb hby at_302) rfl rfl k_) ?_
        show OEnds p e below s _ _ _ (T41.setTop (mkF m 304 #[.val (.int p0), .val (.int p1), .val (.long p2), .second, .val (.long p3), .second, .val (.int p4), .val (.ref b1), .val (.ref b4), .val (.ref b6), .val (.ref b9), .val .null, .val (.int (1 : Int32)), .val (.ref b12), .val (.ref b14), .val (.ref b16), .val (.ref li), .val (.ref q)] [(.ref q)]))
        refine OEnds.via (fun _ k_ => XS.iconst X41.here hx rfl (hb hby at_304) k_) ?_
        show OEnds p e below s _ _ _ (T41.setTop (mkF m 305 #[.val (.int p0), .val (.int p1), .val (.long p2), .second, .val (.long p3), .second, .val (.int p4), .val (.ref b1), .val (.ref b4), .val (.ref b6), .val (.ref b9), .val .null, .val (.int (1 : Int32)), .val (.ref b12), .val (.ref b14), .val (.ref b16), .val (.ref li), .val (.ref q)] [(.int (0 : Int32)), (.ref q)]))
        obtain ⟨cq42, kq42, q42a, q42b, q42c⟩ := isOf hZ e41 E_q
        obtain ⟨_, _, ⟨T42, L42, k42, n42⟩, -, X42, ⟨Lc42, hQ42, l42, y42, z42⟩, st42⟩ := X41.interfaceBack hx (xi := (⟨"java/util/List", "get", "(I)Ljava/lang/Object;"⟩ : MethodName)) (y := (⟨"java/util/ImmutableCollections$List12", "get", "(I)Ljava/lang/Object;"⟩ : MethodName)) hown (mvT hZ (hw _ (List.mem_of_getElem? (i := 258) rfl))) (mvT hZ (hw _ (List.mem_of_getElem? (i := 259) rfl))) (mvT hZ (hw _ (List.mem_of_getElem? (i := 260) rfl))) (mvT hZ (hw _ (List.mem_of_getElem? (i := 261) rfl))) (mvT hZ (hw _ (List.mem_of_getElem? (i := 262) rfl))) (mvT hZ (hw _ (List.mem_of_getElem? (i := 263) rfl))) (mvT hZ (hw _ (List.mem_of_getElem? (i := 264) rfl))) (mvT hZ (hw _ (List.mem_of_getElem? (i := 256) rfl))) (by decide) (backOf (W := 0) (rmGt0 l Z a0 hw [] q b12 T35.heap n0 Od G_e0) hZ (hw _ (List.mem_of_getElem? (i := 265) rfl)) (hw _ (List.mem_of_getElem? (i := 174) rfl)) (by decide) (by decide)) q42a q42b q42c (g := (mkF m 305 #[.val (.int p0), .val (.int p1), .val (.long p2), .second, .val (.long p3), .second, .val (.int p4), .val (.ref b1), .val (.ref b4), .val (.ref b6), .val (.ref b9), .val .null, .val (.int (1 : Int32)), .val (.ref b12), .val (.ref b14), .val (.ref b16), .val (.ref li), .val (.ref q)] [(.int (0 : Int32)), (.ref q)])) rfl (by rw [hml]; rfl) (Steps.refl _) (argsL := [(.int (0 : Int32))]) (rest := []) (lenOf pd_28I29Ljava2flang2fObject3b rfl) rfl (by show 2 * 0 + _ ≤ _; exact Nat.le_of_eq rfl) (hb hby at_305) (fun _ _ => ⟨rfl, e41, Nat.le_of_ble_eq_true rfl, Nat.le_of_ble_eq_true rfl⟩)
        dsimp only [Pt.U, Pt.locs, Pt.cells, Pt.slots] at X42 l42 y42 z42 st42 hQ42
        rw [l42, y42, z42] at X42
        replace X42 : Stand p l e room_1 s m #[(.int p0), (.int p1), (.long p2), (.long p3), (.int p4)] below meth c T42 _ 30 150 := X42.more (by decide) (by decide)
        obtain ⟨rfl, N42q, e42⟩ := hQ42
        have N42 := Fr.app N41 N42q
        refine OEnds.via (fun _ k_ => st42.trans k_) ?_
        show OEnds p e below s _ _ _ (T42.setTop (mkF m 310 #[.val (.int p0), .val (.int p1), .val (.long p2), .second, .val (.long p3), .second, .val (.int p4), .val (.ref b1), .val (.ref b4), .val (.ref b6), .val (.ref b9), .val .null, .val (.int (1 : Int32)), .val (.ref b12), .val (.ref b14), .val (.ref b16), .val (.ref li), .val (.ref q)] [(.ref b12)]))
        refine OEnds.via (fun _ k_ => XS.aload X42.here hx rfl (hb hby at_310) rfl rfl k_) ?_
        show OEnds p e below s _ _ _ (T42.setTop (mkF m 312 #[.val (.int p0), .val (.int p1), .val (.long p2), .second, .val (.long p3), .second, .val (.int p4), .val (.ref b1), .val (.ref b4), .val (.ref b6), .val (.ref b9), .val .null, .val (.int (1 : Int32)), .val (.ref b12), .val (.ref b14), .val (.ref b16), .val (.ref li), .val (.ref q)] [(.ref b12), (.ref b12)]))
        refine OEnds.via (fun _ k_ => Jvm.RoadKit.acmp (g := (mkF m 312 #[.val (.int p0), .val (.int p1), .val (.long p2), .second, .val (.long p3), .second, .val (.int p4), .val (.ref b1), .val (.ref b4), .val (.ref b6), .val (.ref b9), .val .null, .val (.int (1 : Int32)), .val (.ref b12), .val (.ref b14), .val (.ref b16), .val (.ref li), .val (.ref q)] [(.ref b12), (.ref b12)])) X42 hx rfl rfl rfl (pc0 := 312) (pc' := 317) (same := true) rfl (hb hby at_312) rfl (decide_eq_true rfl) (by decide) (by decide) k_) ?_
        show OEnds p e below s _ _ _ (T42.setTop (mkF m 317 #[.val (.int p0), .val (.int p1), .val (.long p2), .second, .val (.long p3), .second, .val (.int p4), .val (.ref b1), .val (.ref b4), .val (.ref b6), .val (.ref b9), .val .null, .val (.int (1 : Int32)), .val (.ref b12), .val (.ref b14), .val (.ref b16), .val (.ref li), .val (.ref q)] []))
        refine OEnds.via (fun _ k_ => XS.iload X42.here hx rfl (hb hby at_317) rfl k_) ?_
        show OEnds p e below s _ _ _ (T42.setTop (mkF m 319 #[.val (.int p0), .val (.int p1), .val (.long p2), .second, .val (.long p3), .second, .val (.int p4), .val (.ref b1), .val (.ref b4), .val (.ref b6), .val (.ref b9), .val .null, .val (.int (1 : Int32)), .val (.ref b12), .val (.ref b14), .val (.ref b16), .val (.ref li), .val (.ref q)] [(.int (1 : Int32))]))
        refine OEnds.via (fun _ k_ => XS.iconst X42.here hx rfl (hb hby at_319) k_) ?_
        show OEnds p e below s _ _ _ (T42.setTop (mkF m 320 #[.val (.int p0), .val (.int p1), .val (.long p2), .second, .val (.long p3), .second, .val (.int p4), .val (.ref b1), .val (.ref b4), .val (.ref b6), .val (.ref b9), .val .null, .val (.int (1 : Int32)), .val (.ref b12), .val (.ref b14), .val (.ref b16), .val (.ref li), .val (.ref q)] [(.int (2 : Int32)), (.int (1 : Int32))]))
        refine OEnds.via (fun _ k_ => XS.icmpYes X42.here hx rfl (pc0 := 320) (pc' := 338) rfl (hb hby at_320) rfl (tlt (by decide : (1 : Int32) < (2 : Int32))).1 (by decide) (by decide) k_) ?_
        show OEnds p e below s _ _ _ (T42.setTop (mkF m 338 #[.val (.int p0), .val (.int p1), .val (.long p2), .second, .val (.long p3), .second, .val (.int p4), .val (.ref b1), .val (.ref b4), .val (.ref b6), .val (.ref b9), .val .null, .val (.int (1 : Int32)), .val (.ref b12), .val (.ref b14), .val (.ref b16), .val (.ref li), .val (.ref q)] []))
        refine OEnds.via (fun _ k_ => XS.iconst X42.here hx rfl (hb hby at_338) k_) ?_
        show OEnds p e below s _ _ _ (T42.setTop (mkF m 339 #[.val (.int p0), .val (.int p1), .val (.long p2), .second, .val (.long p3), .second, .val (.int p4), .val (.ref b1), .val (.ref b4), .val (.ref b6), .val (.ref b9), .val .null, .val (.int (1 : Int32)), .val (.ref b12), .val (.ref b14), .val (.ref b16), .val (.ref li), .val (.ref q)] [(.int (1 : Int32))]))
        refine OEnds.retN X42 hx hlk (t := .boolean) Bd.returns (by simp) (hb hby at_339) ?_ (by decide) (by decide)
        exact ⟨rfl, N42⟩
      · skip
        rw [hkn] at G_holder ⊢
        show OEnds p e below s _ _ _ (T38.setTop (mkF m 210 #[.val (.int p0), .val (.int p1), .val (.long p2), .second, .val (.long p3), .second, .val (.int p4), .val (.ref b1), .val (.ref b4), .val (.ref b6), .val (.ref b9), .val (.ref b9), .val (.int (1 : Int32)), .val (.ref b12), .val (.ref b14), .val (.ref b16), .val (.ref li), .unset] []))
        refine OEnds.via (fun _ k_ => XS.aload X38.here hx rfl (hb hby at_210) rfl rfl k_) ?_
        show OEnds p e below s _ _ _ (T38.setTop (mkF m 212 #[.val (.int p0), .val (.int p1), .val (.long p2), .second, .val (.long p3), .second, .val (.int p4), .val (.ref b1), .val (.ref b4), .val (.ref b6), .val (.ref b9), .val (.ref b9), .val (.int (1 : Int32)), .val (.ref b12), .val (.ref b14), .val (.ref b16), .val (.ref li), .unset] [(.ref li)]))
        obtain ⟨cq43, kq43, q43a, q43b, q43c⟩ := isOf hZ e38 E_li
        obtain ⟨_, _, ⟨T43, L43, k43, n43⟩, -, X43, ⟨Lc43, hQ43, l43, y43, z43⟩, st43⟩ := X38.virtualBack hx (y := (⟨"com/example/holdfast/holdfast/LockInfo", "heldAlone", "()Z"⟩ : MethodName)) (z := (⟨"com/example/holdfast/holdfast/LockInfo", "heldAlone", "()Z"⟩ : MethodName)) hown (mvT hZ (hw _ (List.mem_of_getElem? (i := 219) rfl))) (mvT hZ (hw _ (List.mem_of_getElem? (i := 220) rfl))) (notFace_of_selects (args := #[]) (mvT hZ (hw _ (List.mem_of_getElem? (i := 222) rfl)))) (mvT hZ (hw _ (List.mem_of_getElem? (i := 222) rfl))) (mvT hZ (hw _ (List.mem_of_getElem? (i := 221) rfl))) (by decide) (backOf (W := 0) (rm_aloneY l Z a0 hw [] li b9 T35.heap n0 Od G_holder) hZ (hw _ (List.mem_of_getElem? (i := 223) rfl)) (hw _ (List.mem_of_getElem? (i := 98) rfl)) (by decide) (by decide)) q43a q43c (g := (mkF m 212 #[.val (.int p0), .val (.int p1), .val (.long p2), .second, .val (.long p3), .second, .val (.int p4), .val (.ref b1), .val (.ref b4), .val (.ref b6), .val (.ref b9), .val (.ref b9), .val (.int (1 : Int32)), .val (.ref b12), .val (.ref b14), .val (.ref b16), .val (.ref li), .unset] [(.ref li)])) rfl (by rw [hml]; rfl) (Steps.refl _) (argsL := []) (rest := []) (lenOf pd_2829Z rfl) rfl (by show 2 * 0 + _ ≤ _; exact Nat.le_of_eq rfl) (hb hby at_212) (fun _ _ => ⟨rfl, e38, Nat.le_of_ble_eq_true rfl, Nat.le_of_ble_eq_true rfl⟩)
        dsimp only [Pt.U, Pt.locs, Pt.cells, Pt.slots] at X43 l43 y43 z43 st43 hQ43
        rw [l43, y43, z43] at X43
        replace X43 : Stand p l e room_1 s m #[(.int p0), (.int p1), (.long p2), (.long p3), (.int p4)] below meth c T43 _ 30 150 := X43.more (by decide) (by decide)
        obtain ⟨rfl, N43q, e43⟩ := hQ43
        have N43 := Fr.app N38 N43q
        refine OEnds.via (fun _ k_ => st43.trans k_) ?_
        show OEnds p e below s _ _ _ (T43.setTop (mkF m 215 #[.val (.int p0), .val (.int p1), .val (.long p2), .second, .val (.long p3), .second, .val (.int p4), .val (.ref b1), .val (.ref b4), .val (.ref b6), .val (.ref b9), .val (.ref b9), .val (.int (1 : Int32)), .val (.ref b12), .val (.ref b14), .val (.ref b16), .val (.ref li), .unset] [(.int (1 : Int32))]))
        refine OEnds.via (fun _ k_ => XS.aload X43.here hx rfl (hb hby at_215) rfl rfl k_) ?_
        show OEnds p e below s _ _ _ (T43.setTop (mkF m 217 #[.val (.int p0), .val (.int p1), .val (.long p2), .second, .val (.long p3), .second, .val (.int p4), .val (.ref b1), .val (.ref b4), .val (.ref b6), .val (.ref b9), .val (.ref b9), .val (.int (1 : Int32)), .val (.ref b12), .val (.ref b14), .val (.ref b16), .val (.ref li), .unset] [(.ref b9), (.int (1 : Int32))]))
        refine OEnds.via (fun _ k_ => XS.ifnullNo X43.here hx rfl (hb hby at_217) rfl k_) ?_
        show OEnds p e below s _ _ _ (T43.setTop (mkF m 220 #[.val (.int p0), .val (.int p1), .val (.long p2), .second, .val (.long p3), .second, .val (.int p4), .val (.ref b1), .val (.ref b4), .val (.ref b6), .val (.ref b9), .val (.ref b9), .val (.int (1 : Int32)), .val (.ref b12), .val (.ref b14), .val (.ref b16), .val (.ref li), .unset] [(.int (1 : Int32))]))
        refine OEnds.via (fun _ k_ => XS.iconst X43.here hx rfl (hb hby at_220) k_) ?_
        show OEnds p e below s _ _ _ (T43.setTop (mkF m 221 #[.val (.int p0), .val (.int p1), .val (.long p2), .second, .val (.long p3), .second, .val (.int p4), .val (.ref b1), .val (.ref b4), .val (.ref b6), .val (.ref b9), .val (.ref b9), .val (.int (1 : Int32)), .val (.ref b12), .val (.ref b14), .val (.ref b16), .val (.ref li), .unset] [(.int (1 : Int32)), (.int (1 : Int32))]))
        refine OEnds.via (fun _ k_ => XS.goto X43.here hx rfl (pc0 := 221) (pc' := 225) rfl (hb hby at_221) (by decide) (by decide) k_) ?_
        show OEnds p e below s _ _ _ (T43.setTop (mkF m 225 #[.val (.int p0), .val (.int p1), .val (.long p2), .second, .val (.long p3), .second, .val (.int p4), .val (.ref b1), .val (.ref b4), .val (.ref b6), .val (.ref b9), .val (.ref b9), .val (.int (1 : Int32)), .val (.ref b12), .val (.ref b14), .val (.ref b16), .val (.ref li), .unset] [(.int (1 : Int32)), (.int (1 : Int32))]))
        refine OEnds.via (fun _ k_ => XS.icmpYes X43.here hx rfl (pc0 := 225) (pc' := 230) rfl (hb hby at_225) rfl (teq (by decide : (1 : Int32) = (1 : Int32))).1 (by decide) (by decide) k_) ?_
        show OEnds p e below s _ _ _ (T43.setTop (mkF m 230 #[.val (.int p0), .val (.int p1), .val (.long p2), .second, .val (.long p3), .second, .val (.int p4), .val (.ref b1), .val (.ref b4), .val (.ref b6), .val (.ref b9), .val (.ref b9), .val (.int (1 : Int32)), .val (.ref b12), .val (.ref b14), .val (.ref b16), .val (.ref li), .unset] []))
        refine OEnds.via (fun _ k_ => XS.aload X43.here hx rfl (hb hby at_230) rfl rfl k_) ?_
        show OEnds p e below s _ _ _ (T43.setTop (mkF m 232 #[.val (.int p0), .val (.int p1), .val (.long p2), .second, .val (.long p3), .second, .val (.int p4), .val (.ref b1), .val (.ref b4), .val (.ref b6), .val (.ref b9), .val (.ref b9), .val (.int (1 : Int32)), .val (.ref b12), .val (.ref b14), .val (.ref b16), .val (.ref li), .unset] [(.ref b9)]))
        refine OEnds.via (fun _ k_ => XS.ifnullNo X43.here hx rfl (hb hby at_232) rfl k_) ?_
        show OEnds p e below s _ _ _ (T43.setTop (mkF m 235 #[.val (.int p0), .val (.int p1), .val (.long p2), .second, .val (.long p3), .second, .val (.int p4), .val (.ref b1), .val (.ref b4), .val (.ref b6), .val (.ref b9), .val (.ref b9), .val (.int (1 : Int32)), .val (.ref b12), .val (.ref b14), .val (.ref b16), .val (.ref li), .unset] []))
        refine OEnds.via (fun _ k_ => XS.aload X43.here hx rfl (hb hby at_235) rfl rfl k_) ?_
        show OEnds p e below s _ _ _ (T43.setTop (mkF m 237 #[.val (.int p0), .val (.int p1), .val (.long p2), .second, .val (.long p3), .second, .val (.int p4), .val (.ref b1), .val (.ref b4), .val (.ref b6), .val (.ref b9), .val (.ref b9), .val (.int (1 : Int32)), .val (.ref b12), .val (.ref b14), .val (.ref b16), .val (.ref li), .unset] [(.ref b9)]))
        refine OEnds.via (fun _ k_ => XS.aload X43.here hx rfl (hb hby at_237) rfl rfl k_) ?_
        show OEnds p e below s _ _ _ (T43.setTop (mkF m 239 #[.val (.int p0), .val (.int p1), .val (.long p2), .second, .val (.long p3), .second, .val (.int p4), .val (.ref b1), .val (.ref b4), .val (.ref b6), .val (.ref b9), .val (.ref b9), .val (.int (1 : Int32)), .val (.ref b12), .val (.ref b14), .val (.ref b16), .val (.ref li), .unset] [(.ref li), (.ref b9)]))
        obtain ⟨cq44, kq44, q44a, q44b, q44c⟩ := isOf hZ e43 E_li
        obtain ⟨_, _, ⟨T44, L44, k44, n44⟩, -, X44, ⟨Lc44, hQ44, l44, y44, z44⟩, st44⟩ := X43.virtualBack hx (y := (⟨"com/example/holdfast/holdfast/LockInfo", "holder", "()Ljava/lang/String;"⟩ : MethodName)) (z := (⟨"com/example/holdfast/holdfast/LockInfo", "holder", "()Ljava/lang/String;"⟩ : MethodName)) hown (mvT hZ (hw _ (List.mem_of_getElem? (i := 224) rfl))) (mvT hZ (hw _ (List.mem_of_getElem? (i := 225) rfl))) (notFace_of_selects (args := #[]) (mvT hZ (hw _ (List.mem_of_getElem? (i := 227) rfl)))) (mvT hZ (hw _ (List.mem_of_getElem? (i := 227) rfl))) (mvT hZ (hw _ (List.mem_of_getElem? (i := 226) rfl))) (by decide) (backOf (W := 1) (rm_holder l Z a0 hw [] li b9 T35.heap n0 Od G_holder E_li) hZ (hw _ (List.mem_of_getElem? (i := 228) rfl)) (hw _ (List.mem_of_getElem? (i := 98) rfl)) (by decide) (by decide)) q44a q44c (g := (mkF m 239 #[.val (.int p0), .val (.int p1), .val (.long p2), .second, .val (.long p3), .second, .val (.int p4), .val (.ref b1), .val (.ref b4), .val (.ref b6), .val (.ref b9), .val (.ref b9), .val (.int (1 : Int32)), .val (.ref b12), .val (.ref b14), .val (.ref b16), .val (.ref li), .unset] [(.ref li), (.ref b9)])) rfl (by rw [hml]; rfl) (Steps.refl _) (argsL := []) (rest := [(.ref b9)]) (lenOf pd_2829Ljava2flang2fString3b rfl) rfl (by show 2 * 0 + _ ≤ _; exact Nat.le_of_eq rfl) (hb hby at_239) (fun _ _ => ⟨rfl, e43, Nat.le_of_ble_eq_true rfl, Nat.le_of_ble_eq_true rfl⟩)
        dsimp only [Pt.U, Pt.locs, Pt.cells, Pt.slots] at X44 l44 y44 z44 st44 hQ44
        rw [l44, y44, z44] at X44
        replace X44 : Stand p l e room_1 s m #[(.int p0), (.int p1), (.long p2), (.long p3), (.int p4)] below meth c T44 _ 30 150 := X44.more (by decide) (by decide)
        obtain ⟨rfl, N44q, e44⟩ := hQ44
        have N44 := Fr.app N43 N44q
        refine OEnds.via (fun _ k_ => st44.trans k_) ?_
        show OEnds p e below s _ _ _ (T44.setTop (mkF m 242 #[.val (.int p0), .val (.int p1), .val (.long p2), .second, .val (.long p3), .second, .val (.int p4), .val (.ref b1), .val (.ref b4), .val (.ref b6), .val (.ref b9), .val (.ref b9), .val (.int (1 : Int32)), .val (.ref b12), .val (.ref b14), .val (.ref b16), .val (.ref li), .unset] [(.ref b9), (.ref b9)]))
        obtain ⟨cq45, kq45, q45a, q45b, q45c⟩ := isOf hZ e44 E_b9
        obtain ⟨_, _, ⟨T45, L45, k45, n45⟩, -, X45, ⟨Lc45, hQ45, l45, y45, z45⟩, st45⟩ := X44.virtualBack hx (y := (⟨"java/lang/String", "equals", "(Ljava/lang/Object;)Z"⟩ : MethodName)) (z := (⟨"java/lang/String", "equals", "(Ljava/lang/Object;)Z"⟩ : MethodName)) hown (mvT hZ (hw _ (List.mem_of_getElem? (i := 209) rfl))) (mvT hZ (hw _ (List.mem_of_getElem? (i := 210) rfl))) (notFace_of_selects (args := #[]) (mvT hZ (hw _ (List.mem_of_getElem? (i := 212) rfl)))) (mvT hZ (hw _ (List.mem_of_getElem? (i := 212) rfl))) (mvT hZ (hw _ (List.mem_of_getElem? (i := 211) rfl))) (by decide) (backOf (W := 0) (rmSelf l Z a0 hw [] b9 T35.heap n0 Od ) hZ (hw _ (List.mem_of_getElem? (i := 213) rfl)) (hw _ (List.mem_of_getElem? (i := 3) rfl)) (by decide) (by decide)) q45a q45c (g := (mkF m 242 #[.val (.int p0), .val (.int p1), .val (.long p2), .second, .val (.long p3), .second, .val (.int p4), .val (.ref b1), .val (.ref b4), .val (.ref b6), .val (.ref b9), .val (.ref b9), .val (.int (1 : Int32)), .val (.ref b12), .val (.ref b14), .val (.ref b16), .val (.ref li), .unset] [(.ref b9), (.ref b9)])) rfl (by rw [hml]; rfl) (Steps.refl _) (argsL := [(.ref b9)]) (rest := []) (lenOf pd_28Ljava2flang2fObject3b29Z rfl) rfl (by show 2 * 0 + _ ≤ _; exact Nat.le_of_eq rfl) (hb hby at_242) (fun _ _ => ⟨rfl, e44, Nat.le_of_ble_eq_true rfl, Nat.le_of_ble_eq_true rfl⟩)
        dsimp only [Pt.U, Pt.locs, Pt.cells, Pt.slots] at X45 l45 y45 z45 st45 hQ45
        rw [l45, y45, z45] at X45
        replace X45 : Stand p l e room_1 s m #[(.int p0), (.int p1), (.long p2), (.long p3), (.int p4)] below meth c T45 _ 30 150 := X45.more (by decide) (by decide)
        obtain ⟨rfl, N45q, e45⟩ := hQ45
        have N45 := Fr.app N44 N45q
        refine OEnds.via (fun _ k_ => st45.trans k_) ?_
        show OEnds p e below s _ _ _ (T45.setTop (mkF m 245 #[.val (.int p0), .val (.int p1), .val (.long p2), .second, .val (.long p3), .second, .val (.int p4), .val (.ref b1), .val (.ref b4), .val (.ref b6), .val (.ref b9), .val (.ref b9), .val (.int (1 : Int32)), .val (.ref b12), .val (.ref b14), .val (.ref b16), .val (.ref li), .unset] [(.int (1 : Int32))]))
        refine OEnds.via (fun _ k_ => XS.ifYes X45.here hx rfl (pc0 := 245) (pc' := 250) rfl (hb hby at_245) rfl ((if0 _ _).trans (feq (by decide : ¬ ((1 : Int32) = (0 : Int32)))).2) (by decide) (by decide) k_) ?_
        show OEnds p e below s _ _ _ (T45.setTop (mkF m 250 #[.val (.int p0), .val (.int p1), .val (.long p2), .second, .val (.long p3), .second, .val (.int p4), .val (.ref b1), .val (.ref b4), .val (.ref b6), .val (.ref b9), .val (.ref b9), .val (.int (1 : Int32)), .val (.ref b12), .val (.ref b14), .val (.ref b16), .val (.ref li), .unset] []))
        refine OEnds.via (fun _ k_ => XS.aload X45.here hx rfl (hb hby at_250) rfl rfl k_) ?_
        show OEnds p e below s _ _ _ (T45.setTop (mkF m 252 #[.val (.int p0), .val (.int p1), .val (.long p2), .second, .val (.long p3), .second, .val (.int p4), .val (.ref b1), .val (.ref b4), .val (.ref b6), .val (.ref b9), .val (.ref b9), .val (.int (1 : Int32)), .val (.ref b12), .val (.ref b14), .val (.ref b16), .val (.ref li), .unset] [(.ref li)]))
        obtain ⟨cq46, kq46, q46a, q46b, q46c⟩ := isOf hZ e45 E_li
        obtain ⟨_, _, ⟨T46, L46, k46, n46⟩, -, X46, ⟨Lc46, hQ46, l46, y46, z46⟩, st46⟩ := X45.virtualBack hx (y := (⟨"com/example/holdfast/holdfast/LockInfo", "remainingLeaseMillis", "()J"⟩ : MethodName)) (z := (⟨"com/example/holdfast/holdfast/LockInfo", "remainingLeaseMillis", "()J"⟩ : MethodName)) hown (mvT hZ (hw _ (List.mem_of_getElem? (i := 234) rfl))) (mvT hZ (hw _ (List.mem_of_getElem? (i := 235) rfl))) (notFace_of_selects (args := #[]) (mvT hZ (hw _ (List.mem_of_getElem? (i := 237) rfl)))) (mvT hZ (hw _ (List.mem_of_getElem? (i := 237) rfl))) (mvT hZ (hw _ (List.mem_of_getElem? (i := 236) rfl))) (by decide) (backOf (W := 0) (rm_remainingLeaseMillis l Z a0 hw [] li b9 p2 T35.heap n0 Od G_remainingLeaseMillis G_holder E_li) hZ (hw _ (List.mem_of_getElem? (i := 238) rfl)) (hw _ (List.mem_of_getElem? (i := 98) rfl)) (by decide) (by decide)) q46a q46c (g := (mkF m 252 #[.val (.int p0), .val (.int p1), .val (.long p2), .second, .val (.long p3), .second, .val (.int p4), .val (.ref b1), .val (.ref b4), .val (.ref b6), .val (.ref b9), .val (.ref b9), .val (.int (1 : Int32)), .val (.ref b12), .val (.ref b14), .val (.ref b16), .val (.ref li), .unset] [(.ref li)])) rfl (by rw [hml]; rfl) (Steps.refl _) (argsL := []) (rest := []) (lenOf pd_2829J rfl) rfl (by show 2 * 0 + _ ≤ _; exact Nat.le_of_eq rfl) (hb hby at_252) (fun _ _ => ⟨rfl, e45, Nat.le_of_ble_eq_true rfl, Nat.le_of_ble_eq_true rfl⟩)
        dsimp only [Pt.U, Pt.locs, Pt.cells, Pt.slots] at X46 l46 y46 z46 st46 hQ46
        rw [l46, y46, z46] at X46
        replace X46 : Stand p l e room_1 s m #[(.int p0), (.int p1), (.long p2), (.long p3), (.int p4)] below meth c T46 _ 30 150 := X46.more (by decide) (by decide)
        obtain ⟨rfl, N46q, e46⟩ := hQ46
        have N46 := Fr.app N45 N46q
        refine OEnds.via (fun _ k_ => st46.trans k_) ?_
        show OEnds p e below s _ _ _ (T46.setTop (mkF m 255 #[.val (.int p0), .val (.int p1), .val (.long p2), .second, .val (.long p3), .second, .val (.int p4), .val (.ref b1), .val (.ref b4), .val (.ref b6), .val (.ref b9), .val (.ref b9), .val (.int (1 : Int32)), .val (.ref b12), .val (.ref b14), .val (.ref b16), .val (.ref li), .unset] [(.long p2)]))
        refine OEnds.via (fun _ k_ => XS.lloadN X46.here hx rfl (hb hby at_255) rfl k_) ?_
        show OEnds p e below s _ _ _ (T46.setTop (mkF m 256 #[.val (.int p0), .val (.int p1), .val (.long p2), .second, .val (.long p3), .second, .val (.int p4), .val (.ref b1), .val (.ref b4), .val (.ref b6), .val (.ref b9), .val (.ref b9), .val (.int (1 : Int32)), .val (.ref b12), .val (.ref b14), .val (.ref b16), .val (.ref li), .unset] [(.long p2), (.long p2)]))
        refine OEnds.via (fun _ k_ => XS.lcmp X46.here hx rfl (hb hby at_256) rfl k_) ?_
        show OEnds p e below s _ _ _ (T46.setTop (mkF m 257 #[.val (.int p0), .val (.int p1), .val (.long p2), .second, .val (.long p3), .second, .val (.int p4), .val (.ref b1), .val (.ref b4), .val (.ref b6), .val (.ref b9), .val (.ref b9), .val (.int (1 : Int32)), .val (.ref b12), .val (.ref b14), .val (.ref b16), .val (.ref li), .unset] [(.int (lcmpW p2 p2))]))
        refine OEnds.via (fun _ k_ => XS.ifYes X46.here hx rfl (pc0 := 257) (pc' := 262) rfl (hb hby at_257) rfl ((if0 _ _).trans (teq (own_lc0 _)).1) (by decide) (by decide) k_) ?_
        show OEnds p e below s _ _ _ (T46.setTop (mkF m 262 #[.val (.int p0), .val (.int p1), .val (.long p2), .second, .val (.long p3), .second, .val (.int p4), .val (.ref b1), .val (.ref b4), .val (.ref b6), .val (.ref b9), .val (.ref b9), .val (.int (1 : Int32)), .val (.ref b12), .val (.ref b14), .val (.ref b16), .val (.ref li), .unset] []))
        refine OEnds.via (fun _ k_ => XS.aload X46.here hx rfl (hb hby at_262) rfl rfl k_) ?_
        show OEnds p e below s _ _ _ (T46.setTop (mkF m 264 #[.val (.int p0), .val (.int p1), .val (.long p2), .second, .val (.long p3), .second, .val (.int p4), .val (.ref b1), .val (.ref b4), .val (.ref b6), .val (.ref b9), .val (.ref b9), .val (.int (1 : Int32)), .val (.ref b12), .val (.ref b14), .val (.ref b16), .val (.ref li), .unset] [(.ref li)]))
        obtain ⟨cq47, kq47, q47a, q47b, q47c⟩ := isOf hZ e46 E_li
        obtain ⟨_, _, ⟨T47, L47, k47, n47⟩, -, X47, ⟨Lc47, hQ47, l47, y47, z47⟩, st47⟩ := X46.virtualBack hx (y := (⟨"com/example/holdfast/holdfast/LockInfo", "fencingToken", "()J"⟩ : MethodName)) (z := (⟨"com/example/holdfast/holdfast/LockInfo", "fencingToken", "()J"⟩ : MethodName)) hown (mvT hZ (hw _ (List.mem_of_getElem? (i := 239) rfl))) (mvT hZ (hw _ (List.mem_of_getElem? (i := 240) rfl))) (notFace_of_selects (args := #[]) (mvT hZ (hw _ (List.mem_of_getElem? (i := 242) rfl)))) (mvT hZ (hw _ (List.mem_of_getElem? (i := 242) rfl))) (mvT hZ (hw _ (List.mem_of_getElem? (i := 241) rfl))) (by decide) (backOf (W := 0) (rm_fencingToken l Z a0 hw [] li b9 p3 T35.heap n0 Od G_fencingToken G_holder E_li) hZ (hw _ (List.mem_of_getElem? (i := 243) rfl)) (hw _ (List.mem_of_getElem? (i := 98) rfl)) (by decide) (by decide)) q47a q47c (g := (mkF m 264 #[.val (.int p0), .val (.int p1), .val (.long p2), .second, .val (.long p3), .second, .val (.int p4), .val (.ref b1), .val (.ref b4), .val (.ref b6), .val (.ref b9), .val (.ref b9), .val (.int (1 : Int32)), .val (.ref b12), .val (.ref b14), .val (.ref b16), .val (.ref li), .unset] [(.ref li)])) rfl (by rw [hml]; rfl) (Steps.refl _) (argsL := []) (rest := []) (lenOf pd_2829J rfl) rfl (by show 2 * 0 + _ ≤ _; exact Nat.le_of_eq rfl) (hb hby at_264) (fun _ _ => ⟨rfl, e46, Nat.le_of_ble_eq_true rfl, Nat.le_of_ble_eq_true rfl⟩)
        dsimp only [Pt.U, Pt.locs, Pt.cells, Pt.slots] at X47 l47 y47 z47 st47 hQ47
        rw [l47, y47, z47] at X47
        replace X47 : Stand p l e room_1 s m #[(.int p0), (.int p1), (.long p2), (.long p3), (.int p4)] below meth c T47 _ 30 150 := X47.more (by decide) (by decide)
        obtain ⟨rfl, N47q, e47⟩ := hQ47
        have N47 := Fr.app N46 N47q
        refine OEnds.via (fun _ k_ => st47.trans k_) ?_
        show OEnds p e below s _ _ _ (T47.setTop (mkF m 267 #[.val (.int p0), .val (.int p1), .val (.long p2), .second, .val (.long p3), .second, .val (.int p4), .val (.ref b1), .val (.ref b4), .val (.ref b6), .val (.ref b9), .val (.ref b9), .val (.int (1 : Int32)), .val (.ref b12), .val (.ref b14), .val (.ref b16), .val (.ref li), .unset] [(.long p3)]))
        refine OEnds.via (fun _ k_ => XS.lload X47.here hx rfl (hb hby at_267) rfl k_) ?_
        show OEnds p e below s _ _ _ (T47.setTop (mkF m 269 #[.val (.int p0), .val (.int p1), .val (.long p2), .second, .val (.long p3), .second, .val (.int p4), .val (.ref b1), .val (.ref b4), .val (.ref b6), .val (.ref b9), .val (.ref b9), .val (.int (1 : Int32)), .val (.ref b12), .val (.ref b14), .val (.ref b16), .val (.ref li), .unset] [(.long p3), (.long p3)]))
        refine OEnds.via (fun _ k_ => XS.lcmp X47.here hx rfl (hb hby at_269) rfl k_) ?_
        show OEnds p e below s _ _ _ (T47.setTop (mkF m 270 #[.val (.int p0), .val (.int p1), .val (.long p2), .second, .val (.long p3), .second, .val (.int p4), .val (.ref b1), .val (.ref b4), .val (.ref b6), .val (.ref b9), .val (.ref b9), .val (.int (1 : Int32)), .val (.ref b12), .val (.ref b14), .val (.ref b16), .val (.ref li), .unset] [(.int (lcmpW p3 p3))]))
        refine OEnds.via (fun _ k_ => XS.ifYes X47.here hx rfl (pc0 := 270) (pc' := 275) rfl (hb hby at_270) rfl ((if0 _ _).trans (teq (own_lc0 _)).1) (by decide) (by decide) k_) ?_
        show OEnds p e below s _ _ _ (T47.setTop (mkF m 275 #[.val (.int p0), .val (.int p1), .val (.long p2), .second, .val (.long p3), .second, .val (.int p4), .val (.ref b1), .val (.ref b4), .val (.ref b6), .val (.ref b9), .val (.ref b9), .val (.int (1 : Int32)), .val (.ref b12), .val (.ref b14), .val (.ref b16), .val (.ref li), .unset] []))
        refine OEnds.via (fun _ k_ => XS.aload X47.here hx rfl (hb hby at_275) rfl rfl k_) ?_
        show OEnds p e below s _ _ _ (T47.setTop (mkF m 277 #[.val (.int p0), .val (.int p1), .val (.long p2), .second, .val (.long p3), .second, .val (.int p4), .val (.ref b1), .val (.ref b4), .val (.ref b6), .val (.ref b9), .val (.ref b9), .val (.int (1 : Int32)), .val (.ref b12), .val (.ref b14), .val (.ref b16), .val (.ref li), .unset] [(.ref li)]))
        obtain ⟨cq48, kq48, q48a, q48b, q48c⟩ := isOf hZ e47 E_li
        obtain ⟨_, _, ⟨T48, L48, k48, n48⟩, -, X48, ⟨Lc48, hQ48, l48, y48, z48⟩, st48⟩ := X47.virtualBack hx (y := (⟨"com/example/holdfast/holdfast/LockInfo", "readers", "()Ljava/util/List;"⟩ : MethodName)) (z := (⟨"com/example/holdfast/holdfast/LockInfo", "readers", "()Ljava/util/List;"⟩ : MethodName)) hown (mvT hZ (hw _ (List.mem_of_getElem? (i := 244) rfl))) (mvT hZ (hw _ (List.mem_of_getElem? (i := 245) rfl))) (notFace_of_selects (args := #[]) (mvT hZ (hw _ (List.mem_of_getElem? (i := 247) rfl)))) (mvT hZ (hw _ (List.mem_of_getElem? (i := 247) rfl))) (mvT hZ (hw _ (List.mem_of_getElem? (i := 246) rfl))) (by decide) (backOf (W := 0) (rm_readers l Z a0 hw [] li q T35.heap n0 Od G_readers) hZ (hw _ (List.mem_of_getElem? (i := 248) rfl)) (hw _ (List.mem_of_getElem? (i := 98) rfl)) (by decide) (by decide)) q48a q48c (g := (mkF m 277 #[.val (.int p0), .val (.int p1), .val (.long p2), .second, .val (.long p3), .second, .val (.int p4), .val (.ref b1), .val (.ref b4), .val (.ref b6), .val (.ref b9), .val (.ref b9), .val (.int (1 : Int32)), .val (.ref b12), .val (.ref b14), .val (.ref b16), .val (.ref li), .unset] [(.ref li)])) rfl (by rw [hml]; rfl) (Steps.refl _) (argsL := []) (rest := []) (lenOf pd_2829Ljava2futil2fList3b rfl) rfl (by show 2 * 0 + _ ≤ _; exact Nat.le_of_eq rfl) (hb hby at_277) (fun _ _ => ⟨rfl, e47, Nat.le_of_ble_eq_true rfl, Nat.le_of_ble_eq_true rfl⟩)
        dsimp only [Pt.U, Pt.locs, Pt.cells, Pt.slots] at X48 l48 y48 z48 st48 hQ48
        rw [l48, y48, z48] at X48
        replace X48 : Stand p l e room_1 s m #[(.int p0), (.int p1), (.long p2), (.long p3), (.int p4)] below meth c T48 _ 30 150 := X48.more (by decide) (by decide)
        obtain ⟨rfl, N48q, e48⟩ := hQ48
        have N48 := Fr.app N47 N48q
        refine OEnds.via (fun _ k_ => st48.trans k_) ?_
        show OEnds p e below s _ _ _ (T48.setTop (mkF m 280 #[.val (.int p0), .val (.int p1), .val (.long p2), .second, .val (.long p3), .second, .val (.int p4), .val (.ref b1), .val (.ref b4), .val (.ref b6), .val (.ref b9), .val (.ref b9), .val (.int (1 : Int32)), .val (.ref b12), .val (.ref b14), .val (.ref b16), .val (.ref li), .unset] [(.ref q)]))
        refine OEnds.via (fun _ k_ => XS.astore X48.here hx rfl (hb hby at_280) rfl rfl (l' := #[.val (.int p0), .val (.int p1), .val (.long p2), .second, .val (.long p3), .second, .val (.int p4), .val (.ref b1), .val (.ref b4), .val (.ref b6), .val (.ref b9), .val (.ref b9), .val (.int (1 : Int32)), .val (.ref b12), .val (.ref b14), .val (.ref b16), .val (.ref li), .val (.ref q)]) rfl k_) ?_
        show OEnds p e below s _ _ _ (T48.setTop (mkF m 282 #[.val (.int p0), .val (.int p1), .val (.long p2), .second, .val (.long p3), .second, .val (.int p4), .val (.ref b1), .val (.ref b4), .val (.ref b6), .val (.ref b9), .val (.ref b9), .val (.int (1 : Int32)), .val (.ref b12), .val (.ref b14), .val (.ref b16), .val (.ref li), .val (.ref q)] []))
        refine OEnds.via (fun _ k_ => XS.aload X48.here hx rfl (hb hby at_282) rfl rfl k_) ?_
        show OEnds p e below s _ _ _ (T48.setTop (mkF m 284 #[.val (.int p0), .val (.int p1), .val (.long p2), .second, .val (.long p3), .second, .val (.int p4), .val (.ref b1), .val (.ref b4), .val (.ref b6), .val (.ref b9), .val (.ref b9), .val (.int (1 : Int32)), .val (.ref b12), .val (.ref b14), .val (.ref b16), .val (.ref li), .val (.ref q)] [(.ref q)]))
        obtain ⟨cq49, kq49, q49a, q49b, q49c⟩ := isOf hZ e48 E_q
        obtain ⟨_, _, ⟨T49, L49, k49, n49⟩, -, X49, ⟨Lc49, hQ49, l49, y49, z49⟩, st49⟩ := X48.interfaceBack hx (xi := (⟨"java/util/List", "size", "()I"⟩ : MethodName)) (y := (⟨"java/util/ImmutableCollections$List12", "size", "()I"⟩ : MethodName)) hown (mvT hZ (hw _ (List.mem_of_getElem? (i := 249) rfl))) (mvT hZ (hw _ (List.mem_of_getElem? (i := 250) rfl))) (mvT hZ (hw _ (List.mem_of_getElem? (i := 251) rfl))) (mvT hZ (hw _ (List.mem_of_getElem? (i := 252) rfl))) (mvT hZ (hw _ (List.mem_of_getElem? (i := 253) rfl))) (mvT hZ (hw _ (List.mem_of_getElem? (i := 254) rfl))) (mvT hZ (hw _ (List.mem_of_getElem? (i := 255) rfl))) (mvT hZ (hw _ (List.mem_of_getElem? (i := 256) rfl))) (by decide) (backOf (W := 0) (rmSz1 l Z a0 hw [] q em T35.heap n0 Od G_e1 S_em) hZ (hw _ (List.mem_of_getElem? (i := 257) rfl)) (hw _ (List.mem_of_getElem? (i := 174) rfl)) (by decide) (by decide)) q49a q49b q49c (g := (mkF m 284 #[.val (.int p0), .val (.int p1), .val (.long p2), .second, .val (.long p3), .second, .val (.int p4), .val (.ref b1), .val (.ref b4), .val (.ref b6), .val (.ref b9), .val (.ref b9), .val (.int (1 : Int32)), .val (.ref b12), .val (.ref b14), .val (.ref b16), .val (.ref li), .val (.ref q)] [(.ref q)])) rfl (by rw [hml]; rfl) (Steps.refl _) (argsL := []) (rest := []) (lenOf pd_2829I rfl) rfl (by show 2 * 0 + _ ≤ _; exact Nat.le_of_eq rfl) (hb hby at_284) (fun _ _ => ⟨rfl, e48, Nat.le_of_ble_eq_true rfl, Nat.le_of_ble_eq_true rfl⟩)
        dsimp only [Pt.U, Pt.locs, Pt.cells, Pt.slots] at X49 l49 y49 z49 st49 hQ49
        rw [l49, y49, z49] at X49
        replace X49 : Stand p l e room_1 s m #[(.int p0), (.int p1), (.long p2), (.long p3), (.int p4)] below meth c T49 _ 30 150 := X49.more (by decide) (by decide)
        obtain ⟨rfl, N49q, e49⟩ := hQ49
        have N49 := Fr.app N48 N49q
        refine OEnds.via (fun _ k_ => st49.trans k_) ?_
        show OEnds p e below s _ _ _ (T49.setTop (mkF m 289 #[.val (.int p0), .val (.int p1), .val (.long p2), .second, .val (.long p3), .second, .val (.int p4), .val (.ref b1), .val (.ref b4), .val (.ref b6), .val (.ref b9), .val (.ref b9), .val (.int (1 : Int32)), .val (.ref b12), .val (.ref b14), .val (.ref b16), .val (.ref li), .val (.ref q)] [(.int (1 : Int32))]))
        refine OEnds.via (fun _ k_ => XS.iload X49.here hx rfl (hb hby at_289) rfl k_) ?_
        show OEnds p e below s _ _ _ (T49.setTop (mkF m 291 #[.val (.int p0), .val (.int p1), .val (.long p2), .second, .val (.long p3), .second, .val (.int p4), .val (.ref b1), .val (.ref b4), .val (.ref b6), .val (.ref b9), .val (.ref b9), .val (.int (1 : Int32)), .val (.ref b12), .val (.ref b14), .val (.ref b16), .val (.ref li), .val (.ref q)] [(.int (1 : Int32)), (.int (1 : Int32))]))
        refine OEnds.via (fun _ k_ => XS.icmpYes X49.here hx rfl (pc0 := 291) (pc' := 296) rfl (hb hby at_291) rfl (teq (by decide : (1 : Int32) = (1 : Int32))).1 (by decide) (by decide) k_) ?_
        show OEnds p e below s _ _ _ (T49.setTop (mkF m 296 #[.val (.int p0), .val (.int p1), .val (.long p2), .second, .val (.long p3), .second, .val (.int p4), .val (.ref b1), .val (.ref b4), .val (.ref b6), .val (.ref b9), .val (.ref b9), .val (.int (1 : Int32)), .val (.ref b12), .val (.ref b14), .val (.ref b16), .val (.ref li), .val (.ref q)] []))
        refine OEnds.via (fun _ k_ => XS.iload X49.here hx rfl (hb hby at_296) rfl k_) ?_
        show OEnds p e below s _ _ _ (T49.setTop (mkF m 298 #[.val (.int p0), .val (.int p1), .val (.long p2), .second, .val (.long p3), .second, .val (.int p4), .val (.ref b1), .val (.ref b4), .val (.ref b6), .val (.ref b9), .val (.ref b9), .val (.int (1 : Int32)), .val (.ref b12), .val (.ref b14), .val (.ref b16), .val (.ref li), .val (.ref q)] [(.int (1 : Int32))]))
        refine OEnds.via (fun _ k_ => XS.iconst X49.here hx rfl (hb hby at_298) k_) ?_
        show OEnds p e below s _ _ _ (T49.setTop (mkF m 299 #[.val (.int p0), .val (.int p1), .val (.long p2), .second, .val (.long p3), .second, .val (.int p4), .val (.ref b1), .val (.ref b4), .val (.ref b6), .val (.ref b9), .val (.ref b9), .val (.int (1 : Int32)), .val (.ref b12), .val (.ref b14), .val (.ref b16), .val (.ref li), .val (.ref q)] [(.int (1 : Int32)), (.int (1 : Int32))]))
        refine OEnds.via (fun _ k_ => XS.icmpNo X49.here hx rfl (hb hby at_299) rfl (flt (by decide : ¬ ((1 : Int32) < (1 : Int32)))).1 k_) ?_
        show OEnds p e below s _ _ _ (T49.setTop (mkF m 302 #[.val (.int p0), .val (.int p1), .val (.long p2), .second, .val (.long p3), .second, .val (.int p4), .val (.ref b1), .val (.ref b4), .val (.ref b6), .val (.ref b9), .val (.ref b9), .val (.int (1 : Int32)), .val (.ref b12), .val (.ref b14), .val (.ref b16), .val (.ref li), .val (.ref q)] []))
        refine OEnds.via (fun _ k_ => XS.aload X49.here hx rfl (hb hby at_302) rfl rfl k_) ?_
        show OEnds p e below s _ _ _ (T49.setTop (mkF m 304 #[.val (.int p0), .val (.int p1), .val (.long p2), .second, .val (.long p3), .second, .val (.int p4), .val (.ref b1), .val (.ref b4), .val (.ref b6), .val (.ref b9), .val (.ref b9), .val (.int (1 : Int32)), .val (.ref b12), .val (.ref b14), .val (.ref b16), .val (.ref li), .val (.ref q)] [(.ref q)]))
        refine OEnds.via (fun _ k_ => XS.iconst X49.here hx rfl (hb hby at_304) k_) ?_
        show OEnds p e below s _ _ _ (T49.setTop (mkF m 305 #[.val (.int p0), .val (.int p1), .val (.long p2), .second, .val (.long p3), .second, .val (.int p4), .val (.ref b1), .val (.ref b4), .val (.ref b6), .val (.ref b9), .val (.ref b9), .val (.int (1 : Int32)), .val (.ref b12), .val (.ref b14), .val (.ref b16), .val (.ref li), .val (.ref q)] [(.int (0 : Int32)), (.ref q)]))
        obtain ⟨cq50, kq50, q50a, q50b, q50c⟩ := isOf hZ e49 E_q
        obtain ⟨_, _, ⟨T50, L50, k50, n50⟩, -, X50, ⟨Lc50, hQ50, l50, y50, z50⟩, st50⟩ := X49.interfaceBack hx (xi := (⟨"java/util/List", "get", "(I)Ljava/lang/Object;"⟩ : MethodName)) (y := (⟨"java/util/ImmutableCollections$List12", "get", "(I)Ljava/lang/Object;"⟩ : MethodName)) hown (mvT hZ (hw _ (List.mem_of_getElem? (i := 258) rfl))) (mvT hZ (hw _ (List.mem_of_getElem? (i := 259) rfl))) (mvT hZ (hw _ (List.mem_of_getElem? (i := 260) rfl))) (mvT hZ (hw _ (List.mem_of_getElem? (i := 261) rfl))) (mvT hZ (hw _ (List.mem_of_getElem? (i := 262) rfl))) (mvT hZ (hw _ (List.mem_of_getElem? (i := 263) rfl))) (mvT hZ (hw _ (List.mem_of_getElem? (i := 264) rfl))) (mvT hZ (hw _ (List.mem_of_getElem? (i := 256) rfl))) (by decide) (backOf (W := 0) (rmGt0 l Z a0 hw [] q b12 T35.heap n0 Od G_e0) hZ (hw _ (List.mem_of_getElem? (i := 265) rfl)) (hw _ (List.mem_of_getElem? (i := 174) rfl)) (by decide) (by decide)) q50a q50b q50c (g := (mkF m 305 #[.val (.int p0), .val (.int p1), .val (.long p2), .second, .val (.long p3), .second, .val (.int p4), .val (.ref b1), .val (.ref b4), .val (.ref b6), .val (.ref b9), .val (.ref b9), .val (.int (1 : Int32)), .val (.ref b12), .val (.ref b14), .val (.ref b16), .val (.ref li), .val (.ref q)] [(.int (0 : Int32)), (.ref q)])) rfl (by rw [hml]; rfl) (Steps.refl _) (argsL := [(.int (0 : Int32))]) (rest := []) (lenOf pd_28I29Ljava2flang2fObject3b rfl) rfl (by show 2 * 0 + _ ≤ _; exact Nat.le_of_eq rfl) (hb hby at_305) (fun _ _ => ⟨rfl, e49, Nat.le_of_ble_eq_true rfl, Nat.le_of_ble_eq_true rfl⟩)
        dsimp only [Pt.U, Pt.locs, Pt.cells, Pt.slots] at X50 l50 y50 z50 st50 hQ50
        rw [l50, y50, z50] at X50
        replace X50 : Stand p l e room_1 s m #[(.int p0), (.int p1), (.long p2), (.long p3), (.int p4)] below meth c T50 _ 30 150 := X50.more (by decide) (by decide)
        obtain ⟨rfl, N50q, e50⟩ := hQ50
        have N50 := Fr.app N49 N50q
        refine OEnds.via (fun _ k_ => st50.trans k_) ?_
        show OEnds p e below s _ _ _ (T50.setTop (mkF m 310 #[.val (.int p0), .val (.int p1), .val (.long p2), .second, .val (.long p3), .second, .val (.int p4), .val (.ref b1), .val (.ref b4), .val (.ref b6), .val (.ref b9), .val (.ref b9), .val (.int (1 : Int32)), .val (.ref b12), .val (.ref b14), .val (.ref b16), .val (.ref li), .val (.ref q)] [(.ref b12)]))
        refine OEnds.via (fun _ k_ => XS.aload X50.here hx rfl (hb hby at_310) rfl rfl k_) ?_
        show OEnds p e below s _ _ _ (T50.setTop (mkF m 312 #[.val (.int p0), .val (.int p1), .val (.long p2), .second, .val (.long p3), .second, .val (.int p4), .val (.ref b1), .val (.ref b4), .val (.ref b6), .val (.ref b9), .val (.ref b9), .val (.int (1 : Int32)), .val (.ref b12), .val (.ref b14), .val (.ref b16), .val (.ref li), .val (.ref q)] [(.ref b12), (.ref b12)]))
        refine OEnds.via (fun _ k_ => Jvm.RoadKit.acmp (g := (mkF m 312 #[.val (.int p0), .val (.int p1), .val (.long p2), .second, .val (.long p3), .second, .val (.int p4), .val (.ref b1), .val (.ref b4), .val (.ref b6), .val (.ref b9), .val (.ref b9), .val (.int (1 : Int32)), .val (.ref b12), .val (.ref b14), .val (.ref b16), .val (.ref li), .val (.ref q)] [(.ref b12), (.ref b12)])) X50 hx rfl rfl rfl (pc0 := 312) (pc' := 317) (same := true) rfl (hb hby at_312) rfl (decide_eq_true rfl) (by decide) (by decide) k_) ?_
        show OEnds p e below s _ _ _ (T50.setTop (mkF m 317 #[.val (.int p0), .val (.int p1), .val (.long p2), .second, .val (.long p3), .second, .val (.int p4), .val (.ref b1), .val (.ref b4), .val (.ref b6), .val (.ref b9), .val (.ref b9), .val (.int (1 : Int32)), .val (.ref b12), .val (.ref b14), .val (.ref b16), .val (.ref li), .val (.ref q)] []))
        refine OEnds.via (fun _ k_ => XS.iload X50.here hx rfl (hb hby at_317) rfl k_) ?_
        show OEnds p e below s _ _ _ (T50.setTop (mkF m 319 #[.val (.int p0), .val (.int p1), .val (.long p2), .second, .val (.long p3), .second, .val (.int p4), .val (.ref b1), .val (.ref b4), .val (.ref b6), .val (.ref b9), .val (.ref b9), .val (.int (1 : Int32)), .val (.ref b12), .val (.ref b14), .val (.ref b16), .val (.ref li), .val (.ref q)] [(.int (1 : Int32))]))
        refine OEnds.via (fun _ k_ => XS.iconst X50.here hx rfl (hb hby at_319) k_) ?_
        show OEnds p e below s _ _ _ (T50.setTop (mkF m 320 #[.val (.int p0), .val (.int p1), .val (.long p2), .second, .val (.long p3), .second, .val (.int p4), .val (.ref b1), .val (.ref b4), .val (.ref b6), .val (.ref b9), .val (.ref b9), .val (.int (1 : Int32)), .val (.ref b12), .val (.ref b14), .val (.ref b16), .val (.ref li), .val (.ref q)] [(.int (2 : Int32)), (.int (1 : Int32))]))
        refine OEnds.via (fun _ k_ => XS.icmpYes X50.here hx rfl (pc0 := 320) (pc' := 338) rfl (hb hby at_320) rfl (tlt (by decide : (1 : Int32) < (2 : Int32))).1 (by decide) (by decide) k_) ?_
        show OEnds p e below s _ _ _ (T50.setTop (mkF m 338 #[.val (.int p0), .val (.int p1), .val (.long p2), .second, .val (.long p3), .second, .val (.int p4), .val (.ref b1), .val (.ref b4), .val (.ref b6), .val (.ref b9), .val (.ref b9), .val (.int (1 : Int32)), .val (.ref b12), .val (.ref b14), .val (.ref b16), .val (.ref li), .val (.ref q)] []))
        refine OEnds.via (fun _ k_ => XS.iconst X50.here hx rfl (hb hby at_338) k_) ?_
        show OEnds p e below s _ _ _ (T50.setTop (mkF m 339 #[.val (.int p0), .val (.int p1), .val (.long p2), .second, .val (.long p3), .second, .val (.int p4), .val (.ref b1), .val (.ref b4), .val (.ref b6), .val (.ref b9), .val (.ref b9), .val (.int (1 : Int32)), .val (.ref b12), .val (.ref b14), .val (.ref b16), .val (.ref li), .val (.ref q)] [(.int (1 : Int32))]))
        refine OEnds.retN X50 hx hlk (t := .boolean) Bd.returns (by simp) (hb hby at_339) ?_ (by decide) (by decide)
        exact ⟨rfl, N50⟩
    · skip
      rw [hk]
      show OEnds p e below s _ _ _ (T17.setTop (mkF m 135 #[.val (.int p0), .val (.int p1), .val (.long p2), .second, .val (.long p3), .second, .val (.int p4), .val (.ref b1), .val (.ref b4), .val (.ref b6), .val (.ref b9), .val kv, .val (.int (2 : Int32)), .val (.ref b12), .val (.ref b14), .val (.ref b16), .unset, .unset] []))
      refine OEnds.via (fun _ k_ => XS.iload X17.here hx rfl (hb hby at_135) rfl k_) ?_
      show OEnds p e below s _ _ _ (T17.setTop (mkF m 137 #[.val (.int p0), .val (.int p1), .val (.long p2), .second, .val (.long p3), .second, .val (.int p4), .val (.ref b1), .val (.ref b4), .val (.ref b6), .val (.ref b9), .val kv, .val (.int (2 : Int32)), .val (.ref b12), .val (.ref b14), .val (.ref b16), .unset, .unset] [(.int (2 : Int32))]))
      refine OEnds.via (fun _ k_ => XS.iconst X17.here hx rfl (hb hby at_137) k_) ?_
      show OEnds p e below s _ _ _ (T17.setTop (mkF m 138 #[.val (.int p0), .val (.int p1), .val (.long p2), .second, .val (.long p3), .second, .val (.int p4), .val (.ref b1), .val (.ref b4), .val (.ref b6), .val (.ref b9), .val kv, .val (.int (2 : Int32)), .val (.ref b12), .val (.ref b14), .val (.ref b16), .unset, .unset] [(.int (1 : Int32)), (.int (2 : Int32))]))
      refine OEnds.via (fun _ k_ => XS.icmpNo X17.here hx rfl (hb hby at_138) rfl (flt (by decide : ¬ ((2 : Int32) < (1 : Int32)))).1 k_) ?_
      show OEnds p e below s _ _ _ (T17.setTop (mkF m 141 #[.val (.int p0), .val (.int p1), .val (.long p2), .second, .val (.long p3), .second, .val (.int p4), .val (.ref b1), .val (.ref b4), .val (.ref b6), .val (.ref b9), .val kv, .val (.int (2 : Int32)), .val (.ref b12), .val (.ref b14), .val (.ref b16), .unset, .unset] []))
      refine OEnds.via (fun _ k_ => XS.aload X17.here hx rfl (hb hby at_141) rfl rfl k_) ?_
      show OEnds p e below s _ _ _ (T17.setTop (mkF m 143 #[.val (.int p0), .val (.int p1), .val (.long p2), .second, .val (.long p3), .second, .val (.int p4), .val (.ref b1), .val (.ref b4), .val (.ref b6), .val (.ref b9), .val kv, .val (.int (2 : Int32)), .val (.ref b12), .val (.ref b14), .val (.ref b16), .unset, .unset] [(.ref b16)]))
      refine OEnds.via (fun _ k_ => XS.aload X17.here hx rfl (hb hby at_143) rfl rfl k_) ?_
      show OEnds p e below s _ _ _ (T17.setTop (mkF m 145 #[.val (.int p0), .val (.int p1), .val (.long p2), .second, .val (.long p3), .second, .val (.int p4), .val (.ref b1), .val (.ref b4), .val (.ref b6), .val (.ref b9), .val kv, .val (.int (2 : Int32)), .val (.ref b12), .val (.ref b14), .val (.ref b16), .unset, .unset] [(.ref b12), (.ref b16)]))
      obtain ⟨cq51, kq51, q51a, q51b, q51c⟩ := isOf hZ rfl E_b16
      obtain ⟨_, _, ⟨T51, L51, k51, n51⟩, -, X51, ⟨Lc51, hQ51, l51, y51, z51⟩, st51⟩ := X17.virtualBack hx (y := (⟨"java/util/ArrayList", "add", "(Ljava/lang/Object;)Z"⟩ : MethodName)) (z := (⟨"java/util/ArrayList", "add", "(Ljava/lang/Object;)Z"⟩ : MethodName)) hown (mvT hZ (hw _ (List.mem_of_getElem? (i := 65) rfl))) (mvT hZ (hw _ (List.mem_of_getElem? (i := 66) rfl))) (notFace_of_selects (args := #[]) (mvT hZ (hw _ (List.mem_of_getElem? (i := 68) rfl)))) (mvT hZ (hw _ (List.mem_of_getElem? (i := 68) rfl))) (mvT hZ (hw _ (List.mem_of_getElem? (i := 67) rfl))) (by decide) (backOf (W := 0) (rmA0 l Z a0 hw [] b16 b12 (0 : Int32) dc kdc T17.heap n0 Od G_modCount G_elementData G_size E_b16 ge_b16 S_dc V_dc E_b12 ne_b12_b16) hZ (hw _ (List.mem_of_getElem? (i := 69) rfl)) (hw _ (List.mem_of_getElem? (i := 43) rfl)) (by decide) (by decide)) q51a q51c (g := (mkF m 145 #[.val (.int p0), .val (.int p1), .val (.long p2), .second, .val (.long p3), .second, .val (.int p4), .val (.ref b1), .val (.ref b4), .val (.ref b6), .val (.ref b9), .val kv, .val (.int (2 : Int32)), .val (.ref b12), .val (.ref b14), .val (.ref b16), .unset, .unset] [(.ref b12), (.ref b16)])) rfl (by rw [hml]; rfl) (Steps.refl _) (argsL := [(.ref b12)]) (rest := []) (lenOf pd_28Ljava2flang2fObject3b29Z rfl) rfl (by show 2 * 0 + _ ≤ _; exact Nat.le_of_eq rfl) (hb hby at_145) (fun _ _ => ⟨rfl, rfl, Nat.le_of_ble_eq_true rfl, Nat.le_of_ble_eq_true rfl⟩)
      dsimp only [Pt.U, Pt.locs, Pt.cells, Pt.slots] at X51 l51 y51 z51 st51 hQ51
      rw [l51, y51, z51] at X51
      replace X51 : Stand p l e room_1 s m #[(.int p0), (.int p1), (.long p2), (.long p3), (.int p4)] below meth c T51 _ 18 80 := X51.more (by decide) (by decide)
      obtain ⟨d, kd, rfl, N51q, K51, -, G_modCount, G_elementData, G_size, ge_d, sz_d, O_d, V_d, E_d⟩ := hQ51
      have ne_b4_d : b4 ≠ d := Nat.ne_of_lt (Nat.lt_of_lt_of_le E_b4.lt sz_d)
      have ne_b9_d : b9 ≠ d := Nat.ne_of_lt (Nat.lt_of_lt_of_le E_b9.lt sz_d)
      have ne_b12_d : b12 ≠ d := Nat.ne_of_lt (Nat.lt_of_lt_of_le E_b12.lt sz_d)
      have ne_b14_d : b14 ≠ d := Nat.ne_of_lt (Nat.lt_of_lt_of_le E_b14.lt sz_d)
      have ne_b16_d : b16 ≠ d := Nat.ne_of_lt (Nat.lt_of_lt_of_le E_b16.lt sz_d)
      have N51 := Fr.app N17 N51q
      replace Od := Od.keep K51 (allS ge_b16 all0)
      replace E_b4 := E_b4.keep K51
      replace E_b9 := E_b9.keep K51
      replace E_b12 := E_b12.keep K51
      replace E_b14 := E_b14.keep K51
      replace E_b16 := E_b16.keep K51
      refine OEnds.via (fun _ k_ => st51.trans k_) ?_
      show OEnds p e below s _ _ _ (T51.setTop (mkF m 148 #[.val (.int p0), .val (.int p1), .val (.long p2), .second, .val (.long p3), .second, .val (.int p4), .val (.ref b1), .val (.ref b4), .val (.ref b6), .val (.ref b9), .val kv, .val (.int (2 : Int32)), .val (.ref b12), .val (.ref b14), .val (.ref b16), .unset, .unset] [(.int (1 : Int32))]))
      refine OEnds.via (fun _ k_ => XS.pop X51.here hx rfl (hb hby at_148) rfl rfl k_) ?_
      show OEnds p e below s _ _ _ (T51.setTop (mkF m 149 #[.val (.int p0), .val (.int p1), .val (.long p2), .second, .val (.long p3), .second, .val (.int p4), .val (.ref b1), .val (.ref b4), .val (.ref b6), .val (.ref b9), .val kv, .val (.int (2 : Int32)), .val (.ref b12), .val (.ref b14), .val (.ref b16), .unset, .unset] []))
      refine OEnds.via (fun _ k_ => XS.iload X51.here hx rfl (hb hby at_149) rfl k_) ?_
      show OEnds p e below s _ _ _ (T51.setTop (mkF m 151 #[.val (.int p0), .val (.int p1), .val (.long p2), .second, .val (.long p3), .second, .val (.int p4), .val (.ref b1), .val (.ref b4), .val (.ref b6), .val (.ref b9), .val kv, .val (.int (2 : Int32)), .val (.ref b12), .val (.ref b14), .val (.ref b16), .unset, .unset] [(.int (2 : Int32))]))
      refine OEnds.via (fun _ k_ => XS.iconst X51.here hx rfl (hb hby at_151) k_) ?_
      show OEnds p e below s _ _ _ (T51.setTop (mkF m 152 #[.val (.int p0), .val (.int p1), .val (.long p2), .second, .val (.long p3), .second, .val (.int p4), .val (.ref b1), .val (.ref b4), .val (.ref b6), .val (.ref b9), .val kv, .val (.int (2 : Int32)), .val (.ref b12), .val (.ref b14), .val (.ref b16), .unset, .unset] [(.int (2 : Int32)), (.int (2 : Int32))]))
      refine OEnds.via (fun _ k_ => XS.icmpNo X51.here hx rfl (hb hby at_152) rfl (flt (by decide : ¬ ((2 : Int32) < (2 : Int32)))).1 k_) ?_
      show OEnds p e below s _ _ _ (T51.setTop (mkF m 155 #[.val (.int p0), .val (.int p1), .val (.long p2), .second, .val (.long p3), .second, .val (.int p4), .val (.ref b1), .val (.ref b4), .val (.ref b6), .val (.ref b9), .val kv, .val (.int (2 : Int32)), .val (.ref b12), .val (.ref b14), .val (.ref b16), .unset, .unset] []))
      refine OEnds.via (fun _ k_ => XS.aload X51.here hx rfl (hb hby at_155) rfl rfl k_) ?_
      show OEnds p e below s _ _ _ (T51.setTop (mkF m 157 #[.val (.int p0), .val (.int p1), .val (.long p2), .second, .val (.long p3), .second, .val (.int p4), .val (.ref b1), .val (.ref b4), .val (.ref b6), .val (.ref b9), .val kv, .val (.int (2 : Int32)), .val (.ref b12), .val (.ref b14), .val (.ref b16), .unset, .unset] [(.ref b16)]))
      refine OEnds.via (fun _ k_ => XS.aload X51.here hx rfl (hb hby at_157) rfl rfl k_) ?_
      show OEnds p e below s _ _ _ (T51.setTop (mkF m 159 #[.val (.int p0), .val (.int p1), .val (.long p2), .second, .val (.long p3), .second, .val (.int p4), .val (.ref b1), .val (.ref b4), .val (.ref b6), .val (.ref b9), .val kv, .val (.int (2 : Int32)), .val (.ref b12), .val (.ref b14), .val (.ref b16), .unset, .unset] [(.ref b14), (.ref b16)]))
      obtain ⟨cq52, kq52, q52a, q52b, q52c⟩ := isOf hZ rfl E_b16
      obtain ⟨_, _, ⟨T52, L52, k52, n52⟩, -, X52, ⟨Lc52, hQ52, l52, y52, z52⟩, st52⟩ := X51.virtualBack hx (y := (⟨"java/util/ArrayList", "add", "(Ljava/lang/Object;)Z"⟩ : MethodName)) (z := (⟨"java/util/ArrayList", "add", "(Ljava/lang/Object;)Z"⟩ : MethodName)) hown (mvT hZ (hw _ (List.mem_of_getElem? (i := 65) rfl))) (mvT hZ (hw _ (List.mem_of_getElem? (i := 66) rfl))) (notFace_of_selects (args := #[]) (mvT hZ (hw _ (List.mem_of_getElem? (i := 68) rfl)))) (mvT hZ (hw _ (List.mem_of_getElem? (i := 68) rfl))) (mvT hZ (hw _ (List.mem_of_getElem? (i := 67) rfl))) (by decide) (backOf (W := 0) (rmA1 l Z a0 hw [] b16 b14 ((0 : Int32) + (1 : Int32)) d kd b12 T51.heap n0 Od G_modCount G_elementData G_size E_b16 ge_b16 V_d ge_d O_d E_b14 ne_b14_b16 ne_b16_d) hZ (hw _ (List.mem_of_getElem? (i := 69) rfl)) (hw _ (List.mem_of_getElem? (i := 43) rfl)) (by decide) (by decide)) q52a q52c (g := (mkF m 159 #[.val (.int p0), .val (.int p1), .val (.long p2), .second, .val (.long p3), .second, .val (.int p4), .val (.ref b1), .val (.ref b4), .val (.ref b6), .val (.ref b9), .val kv, .val (.int (2 : Int32)), .val (.ref b12), .val (.ref b14), .val (.ref b16), .unset, .unset] [(.ref b14), (.ref b16)])) rfl (by rw [hml]; rfl) (Steps.refl _) (argsL := [(.ref b14)]) (rest := []) (lenOf pd_28Ljava2flang2fObject3b29Z rfl) rfl (by show 2 * 0 + _ ≤ _; exact Nat.le_of_eq rfl) (hb hby at_159) (fun _ _ => ⟨rfl, rfl, Nat.le_of_ble_eq_true rfl, Nat.le_of_ble_eq_true rfl⟩)
      dsimp only [Pt.U, Pt.locs, Pt.cells, Pt.slots] at X52 l52 y52 z52 st52 hQ52
      rw [l52, y52, z52] at X52
      replace X52 : Stand p l e room_1 s m #[(.int p0), (.int p1), (.long p2), (.long p3), (.int p4)] below meth c T52 _ 20 100 := X52.more (by decide) (by decide)
      obtain ⟨rfl, N52q, K52, -, G_modCount, G_elementData, G_size, V_d⟩ := hQ52
      have N52 := Fr.app N51 N52q
      replace Od := Od.keep K52 (allS ge_b16 (allS ge_d all0))
      replace E_b4 := E_b4.keep K52
      replace E_b9 := E_b9.keep K52
      replace E_b12 := E_b12.keep K52
      replace E_b14 := E_b14.keep K52
      replace E_b16 := E_b16.keep K52
      replace E_d := E_d.keep K52
      refine OEnds.via (fun _ k_ => st52.trans k_) ?_
      show OEnds p e below s _ _ _ (T52.setTop (mkF m 162 #[.val (.int p0), .val (.int p1), .val (.long p2), .second, .val (.long p3), .second, .val (.int p4), .val (.ref b1), .val (.ref b4), .val (.ref b6), .val (.ref b9), .val kv, .val (.int (2 : Int32)), .val (.ref b12), .val (.ref b14), .val (.ref b16), .unset, .unset] [(.int (1 : Int32))]))
      refine OEnds.via (fun _ k_ => XS.pop X52.here hx rfl (hb hby at_162) rfl rfl k_) ?_
      show OEnds p e below s _ _ _ (T52.setTop (mkF m 163 #[.val (.int p0), .val (.int p1), .val (.long p2), .second, .val (.long p3), .second, .val (.int p4), .val (.ref b1), .val (.ref b4), .val (.ref b6), .val (.ref b9), .val kv, .val (.int (2 : Int32)), .val (.ref b12), .val (.ref b14), .val (.ref b16), .unset, .unset] []))
      refine OEnds.via (fun _ k_ => XS.aload X52.here hx rfl (hb hby at_163) rfl rfl k_) ?_
      show OEnds p e below s _ _ _ (T52.setTop (mkF m 165 #[.val (.int p0), .val (.int p1), .val (.long p2), .second, .val (.long p3), .second, .val (.int p4), .val (.ref b1), .val (.ref b4), .val (.ref b6), .val (.ref b9), .val kv, .val (.int (2 : Int32)), .val (.ref b12), .val (.ref b14), .val (.ref b16), .unset, .unset] [(.ref b4)]))
      refine OEnds.via (fun _ k_ => XS.aload X52.here hx rfl (hb hby at_165) rfl hkv k_) ?_
      show OEnds p e below s _ _ _ (T52.setTop (mkF m 167 #[.val (.int p0), .val (.int p1), .val (.long p2), .second, .val (.long p3), .second, .val (.int p4), .val (.ref b1), .val (.ref b4), .val (.ref b6), .val (.ref b9), .val kv, .val (.int (2 : Int32)), .val (.ref b12), .val (.ref b14), .val (.ref b16), .unset, .unset] [kv, (.ref b4)]))
      refine OEnds.via (fun _ k_ => XS.lloadN X52.here hx rfl (hb hby at_167) rfl k_) ?_
      show OEnds p e below s _ _ _ (T52.setTop (mkF m 168 #[.val (.int p0), .val (.int p1), .val (.long p2), .second, .val (.long p3), .second, .val (.int p4), .val (.ref b1), .val (.ref b4), .val (.ref b6), .val (.ref b9), .val kv, .val (.int (2 : Int32)), .val (.ref b12), .val (.ref b14), .val (.ref b16), .unset, .unset] [(.long p2), kv, (.ref b4)]))
      refine OEnds.via (fun _ k_ => XS.lload X52.here hx rfl (hb hby at_168) rfl k_) ?_
      show OEnds p e below s _ _ _ (T52.setTop (mkF m 170 #[.val (.int p0), .val (.int p1), .val (.long p2), .second, .val (.long p3), .second, .val (.int p4), .val (.ref b1), .val (.ref b4), .val (.ref b6), .val (.ref b9), .val kv, .val (.int (2 : Int32)), .val (.ref b12), .val (.ref b14), .val (.ref b16), .unset, .unset] [(.long p3), (.long p2), kv, (.ref b4)]))
      refine OEnds.via (fun _ k_ => XS.aload X52.here hx rfl (hb hby at_170) rfl rfl k_) ?_
      show OEnds p e below s _ _ _ (T52.setTop (mkF m 172 #[.val (.int p0), .val (.int p1), .val (.long p2), .second, .val (.long p3), .second, .val (.int p4), .val (.ref b1), .val (.ref b4), .val (.ref b6), .val (.ref b9), .val kv, .val (.int (2 : Int32)), .val (.ref b12), .val (.ref b14), .val (.ref b16), .unset, .unset] [(.ref b16), (.long p3), (.long p2), kv, (.ref b4)]))
      obtain ⟨_, _, ⟨T53, L53, k53, n53⟩, -, X53, ⟨Lc53, hQ53, l53, y53, z53⟩, st53⟩ := Jvm.LawKit.callS X52 hx (y := (⟨"com/example/holdfast/holdfast/LockInfo", "held", "(Ljava/lang/String;Ljava/lang/String;JJLjava/util/List;)Lcom/example/holdfast/holdfast/LockInfo;"⟩ : MethodName)) hown (mvT hZ (hw _ (List.mem_of_getElem? (i := 96) rfl))) (mvT hZ (hw _ (List.mem_of_getElem? (i := 97) rfl))) (mvT hZ (hw _ (List.mem_of_getElem? (i := 98) rfl))) (mvT hZ (hw _ (List.mem_of_getElem? (i := 99) rfl))) (by decide) (backOf (W := 0) (rmHd2 l Z a0 hw [] b4 kv p2 p3 b16 d kd mr em b12 b14 T52.heap n0 Od hkv G_elementData G_size E_b16 V_d E_b12 E_b14 M E_d S_em) hZ (hw _ (List.mem_of_getElem? (i := 99) rfl)) (hw _ (List.mem_of_getElem? (i := 98) rfl)) (by decide) (by decide)) (g := (mkF m 172 #[.val (.int p0), .val (.int p1), .val (.long p2), .second, .val (.long p3), .second, .val (.int p4), .val (.ref b1), .val (.ref b4), .val (.ref b6), .val (.ref b9), .val kv, .val (.int (2 : Int32)), .val (.ref b12), .val (.ref b14), .val (.ref b16), .unset, .unset] [(.ref b16), (.long p3), (.long p2), kv, (.ref b4)])) rfl (by rw [hml]; rfl) (argsL := [(.ref b4), kv, (.long p2), (.long p3), (.ref b16)]) (rest := []) (lenOf pd_28Ljava2flang2fString3bLjava2flang2fString3bJJLjava2futil2fList3b29Lcom2fexample2fholdfast2fholdfast2fLockInfo3b rfl) rfl (by show 2 * 0 + _ ≤ _; exact Nat.le_of_eq rfl) (hb hby at_172) (fun _ _ => ⟨rfl, rfl, Nat.le_of_ble_eq_true rfl, Nat.le_of_ble_eq_true rfl⟩)
      dsimp only [Pt.U, Pt.locs, Pt.cells, Pt.slots] at X53 l53 y53 z53 st53 hQ53
      rw [l53, y53, z53] at X53
      replace X53 : Stand p l e room_1 s m #[(.int p0), (.int p1), (.long p2), (.long p3), (.int p4)] below meth c T53 _ 26 130 := X53.more (by decide) (by decide)
      obtain ⟨li, q, rfl, N53q, K53, ge_li, sz_li, E_li, G_name, G_held, G_holder, G_remainingLeaseMillis, G_fencingToken, G_readers, ge_q, sz_q, E_q, G_e0, G_e1⟩ := hQ53
      have ne_b4_li : b4 ≠ li := Nat.ne_of_lt (Nat.lt_of_lt_of_le E_b4.lt sz_li)
      have ne_b9_li : b9 ≠ li := Nat.ne_of_lt (Nat.lt_of_lt_of_le E_b9.lt sz_li)
      have ne_b12_li : b12 ≠ li := Nat.ne_of_lt (Nat.lt_of_lt_of_le E_b12.lt sz_li)
      have ne_b14_li : b14 ≠ li := Nat.ne_of_lt (Nat.lt_of_lt_of_le E_b14.lt sz_li)
      have ne_b16_li : b16 ≠ li := Nat.ne_of_lt (Nat.lt_of_lt_of_le E_b16.lt sz_li)
      have ne_d_li : d ≠ li := Nat.ne_of_lt (Nat.lt_of_lt_of_le E_d.lt sz_li)
      have ne_b4_q : b4 ≠ q := Nat.ne_of_lt (Nat.lt_of_lt_of_le E_b4.lt sz_q)
      have ne_b9_q : b9 ≠ q := Nat.ne_of_lt (Nat.lt_of_lt_of_le E_b9.lt sz_q)
      have ne_b12_q : b12 ≠ q := Nat.ne_of_lt (Nat.lt_of_lt_of_le E_b12.lt sz_q)
      have ne_b14_q : b14 ≠ q := Nat.ne_of_lt (Nat.lt_of_lt_of_le E_b14.lt sz_q)
      have ne_b16_q : b16 ≠ q := Nat.ne_of_lt (Nat.lt_of_lt_of_le E_b16.lt sz_q)
      have ne_d_q : d ≠ q := Nat.ne_of_lt (Nat.lt_of_lt_of_le E_d.lt sz_q)
      have N53 := Fr.app N52 N53q
      replace Od := Od.keep K53 all0
      replace E_b4 := E_b4.keep K53
      replace E_b9 := E_b9.keep K53
      replace E_b12 := E_b12.keep K53
      replace E_b14 := E_b14.keep K53
      replace E_b16 := E_b16.keep K53
      replace E_d := E_d.keep K53
      replace G_modCount := G_modCount.keep K53 nin0
      replace G_elementData := G_elementData.keep K53 nin0
      replace G_size := G_size.keep K53 nin0
      replace V_d := V_d.keep K53 nin0
      refine OEnds.via (fun _ k_ => st53 _ k_) ?_
      show OEnds p e below s _ _ _ (T53.setTop (mkF m 175 #[.val (.int p0), .val (.int p1), .val (.long p2), .second, .val (.long p3), .second, .val (.int p4), .val (.ref b1), .val (.ref b4), .val (.ref b6), .val (.ref b9), .val kv, .val (.int (2 : Int32)), .val (.ref b12), .val (.ref b14), .val (.ref b16), .unset, .unset] [(.ref li)]))
      refine OEnds.via (fun _ k_ => XS.astore X53.here hx rfl (hb hby at_175) rfl rfl (l' := #[.val (.int p0), .val (.int p1), .val (.long p2), .second, .val (.long p3), .second, .val (.int p4), .val (.ref b1), .val (.ref b4), .val (.ref b6), .val (.ref b9), .val kv, .val (.int (2 : Int32)), .val (.ref b12), .val (.ref b14), .val (.ref b16), .val (.ref li), .unset]) rfl k_) ?_
      show OEnds p e below s _ _ _ (T53.setTop (mkF m 177 #[.val (.int p0), .val (.int p1), .val (.long p2), .second, .val (.long p3), .second, .val (.int p4), .val (.ref b1), .val (.ref b4), .val (.ref b6), .val (.ref b9), .val kv, .val (.int (2 : Int32)), .val (.ref b12), .val (.ref b14), .val (.ref b16), .val (.ref li), .unset] []))
      refine OEnds.via (fun _ k_ => XS.aload X53.here hx rfl (hb hby at_177) rfl rfl k_) ?_
      show OEnds p e below s _ _ _ (T53.setTop (mkF m 179 #[.val (.int p0), .val (.int p1), .val (.long p2), .second, .val (.long p3), .second, .val (.int p4), .val (.ref b1), .val (.ref b4), .val (.ref b6), .val (.ref b9), .val kv, .val (.int (2 : Int32)), .val (.ref b12), .val (.ref b14), .val (.ref b16), .val (.ref li), .unset] [(.ref b16)]))
      refine OEnds.via (fun _ k_ => XS.aload X53.here hx rfl (hb hby at_179) rfl rfl k_) ?_
      show OEnds p e below s _ _ _ (T53.setTop (mkF m 181 #[.val (.int p0), .val (.int p1), .val (.long p2), .second, .val (.long p3), .second, .val (.int p4), .val (.ref b1), .val (.ref b4), .val (.ref b6), .val (.ref b9), .val kv, .val (.int (2 : Int32)), .val (.ref b12), .val (.ref b14), .val (.ref b16), .val (.ref li), .unset] [(.ref b12), (.ref b16)]))
      obtain ⟨cq54, kq54, q54a, q54b, q54c⟩ := isOf hZ rfl E_b16
      obtain ⟨_, _, ⟨T54, L54, k54, n54⟩, -, X54, ⟨Lc54, hQ54, l54, y54, z54⟩, st54⟩ := X53.virtualBack hx (y := (⟨"java/util/ArrayList", "add", "(Ljava/lang/Object;)Z"⟩ : MethodName)) (z := (⟨"java/util/ArrayList", "add", "(Ljava/lang/Object;)Z"⟩ : MethodName)) hown (mvT hZ (hw _ (List.mem_of_getElem? (i := 65) rfl))) (mvT hZ (hw _ (List.mem_of_getElem? (i := 66) rfl))) (notFace_of_selects (args := #[]) (mvT hZ (hw _ (List.mem_of_getElem? (i := 68) rfl)))) (mvT hZ (hw _ (List.mem_of_getElem? (i := 68) rfl))) (mvT hZ (hw _ (List.mem_of_getElem? (i := 67) rfl))) (by decide) (backOf (W := 0) (rmA2 l Z a0 hw [] b16 b12 (((0 : Int32) + (1 : Int32)) + (1 : Int32)) d kd b12 b14 T53.heap n0 Od G_modCount G_elementData G_size E_b16 ge_b16 V_d ge_d O_d E_b12 ne_b12_b16 ne_b16_d) hZ (hw _ (List.mem_of_getElem? (i := 69) rfl)) (hw _ (List.mem_of_getElem? (i := 43) rfl)) (by decide) (by decide)) q54a q54c (g := (mkF m 181 #[.val (.int p0), .val (.int p1), .val (.long p2), .second, .val (.long p3), .second, .val (.int p4), .val (.ref b1), .val (.ref b4), .val (.ref b6), .val (.ref b9), .val kv, .val (.int (2 : Int32)), .val (.ref b12), .val (.ref b14), .val (.ref b16), .val (.ref li), .unset] [(.ref b12), (.ref b16)])) rfl (by rw [hml]; rfl) (Steps.refl _) (argsL := [(.ref b12)]) (rest := []) (lenOf pd_28Ljava2flang2fObject3b29Z rfl) rfl (by show 2 * 0 + _ ≤ _; exact Nat.le_of_eq rfl) (hb hby at_181) (fun _ _ => ⟨rfl, rfl, Nat.le_of_ble_eq_true rfl, Nat.le_of_ble_eq_true rfl⟩)
      dsimp only [Pt.U, Pt.locs, Pt.cells, Pt.slots] at X54 l54 y54 z54 st54 hQ54
      rw [l54, y54, z54] at X54
      replace X54 : Stand p l e room_1 s m #[(.int p0), (.int p1), (.long p2), (.long p3), (.int p4)] below meth c T54 _ 30 150 := X54.more (by decide) (by decide)
      obtain ⟨rfl, N54q, K54, -, G_modCount, G_elementData, G_size, V_d⟩ := hQ54
      have N54 := Fr.app N53 N54q
      replace Od := Od.keep K54 (allS ge_b16 (allS ge_d all0))
      replace E_b4 := E_b4.keep K54
      replace E_b9 := E_b9.keep K54
      replace E_b12 := E_b12.keep K54
      replace E_b14 := E_b14.keep K54
      replace E_b16 := E_b16.keep K54
      replace E_d := E_d.keep K54
      replace E_li := E_li.keep K54
      replace G_name := G_name.keep K54 (ninS (Ne.symm ne_b16_li) (ninS (Ne.symm ne_d_li) nin0))
      replace G_held := G_held.keep K54 (ninS (Ne.symm ne_b16_li) (ninS (Ne.symm ne_d_li) nin0))
      replace G_holder := G_holder.keep K54 (ninS (Ne.symm ne_b16_li) (ninS (Ne.symm ne_d_li) nin0))
      replace G_remainingLeaseMillis := G_remainingLeaseMillis.keep K54 (ninS (Ne.symm ne_b16_li) (ninS (Ne.symm ne_d_li) nin0))
      replace G_fencingToken := G_fencingToken.keep K54 (ninS (Ne.symm ne_b16_li) (ninS (Ne.symm ne_d_li) nin0))
      replace G_readers := G_readers.keep K54 (ninS (Ne.symm ne_b16_li) (ninS (Ne.symm ne_d_li) nin0))
      replace E_q := E_q.keep K54
      replace G_e0 := G_e0.keep K54 (ninS (Ne.symm ne_b16_q) (ninS (Ne.symm ne_d_q) nin0))
      replace G_e1 := G_e1.keep K54 (ninS (Ne.symm ne_b16_q) (ninS (Ne.symm ne_d_q) nin0))
      refine OEnds.via (fun _ k_ => st54.trans k_) ?_
      show OEnds p e below s _ _ _ (T54.setTop (mkF m 184 #[.val (.int p0), .val (.int p1), .val (.long p2), .second, .val (.long p3), .second, .val (.int p4), .val (.ref b1), .val (.ref b4), .val (.ref b6), .val (.ref b9), .val kv, .val (.int (2 : Int32)), .val (.ref b12), .val (.ref b14), .val (.ref b16), .val (.ref li), .unset] [(.int (1 : Int32))]))
      refine OEnds.via (fun _ k_ => XS.pop X54.here hx rfl (hb hby at_184) rfl rfl k_) ?_
      show OEnds p e below s _ _ _ (T54.setTop (mkF m 185 #[.val (.int p0), .val (.int p1), .val (.long p2), .second, .val (.long p3), .second, .val (.int p4), .val (.ref b1), .val (.ref b4), .val (.ref b6), .val (.ref b9), .val kv, .val (.int (2 : Int32)), .val (.ref b12), .val (.ref b14), .val (.ref b16), .val (.ref li), .unset] []))
      refine OEnds.via (fun _ k_ => XS.aload X54.here hx rfl (hb hby at_185) rfl rfl k_) ?_
      show OEnds p e below s _ _ _ (T54.setTop (mkF m 187 #[.val (.int p0), .val (.int p1), .val (.long p2), .second, .val (.long p3), .second, .val (.int p4), .val (.ref b1), .val (.ref b4), .val (.ref b6), .val (.ref b9), .val kv, .val (.int (2 : Int32)), .val (.ref b12), .val (.ref b14), .val (.ref b16), .val (.ref li), .unset] [(.ref b4)]))
      refine OEnds.via (fun _ k_ => XS.aload X54.here hx rfl (hb hby at_187) rfl rfl k_) ?_
      show OEnds p e below s _ _ _ (T54.setTop (mkF m 189 #[.val (.int p0), .val (.int p1), .val (.long p2), .second, .val (.long p3), .second, .val (.int p4), .val (.ref b1), .val (.ref b4), .val (.ref b6), .val (.ref b9), .val kv, .val (.int (2 : Int32)), .val (.ref b12), .val (.ref b14), .val (.ref b16), .val (.ref li), .unset] [(.ref li), (.ref b4)]))
      obtain ⟨cq55, kq55, q55a, q55b, q55c⟩ := isOf hZ rfl E_li
      obtain ⟨_, _, ⟨T55, L55, k55, n55⟩, -, X55, ⟨Lc55, hQ55, l55, y55, z55⟩, st55⟩ := X54.virtualBack hx (y := (⟨"com/example/holdfast/holdfast/LockInfo", "name", "()Ljava/lang/String;"⟩ : MethodName)) (z := (⟨"com/example/holdfast/holdfast/LockInfo", "name", "()Ljava/lang/String;"⟩ : MethodName)) hown (mvT hZ (hw _ (List.mem_of_getElem? (i := 204) rfl))) (mvT hZ (hw _ (List.mem_of_getElem? (i := 205) rfl))) (notFace_of_selects (args := #[]) (mvT hZ (hw _ (List.mem_of_getElem? (i := 207) rfl)))) (mvT hZ (hw _ (List.mem_of_getElem? (i := 207) rfl))) (mvT hZ (hw _ (List.mem_of_getElem? (i := 206) rfl))) (by decide) (backOf (W := 1) (rm_name l Z a0 hw [] li b4 T54.heap n0 Od G_name) hZ (hw _ (List.mem_of_getElem? (i := 208) rfl)) (hw _ (List.mem_of_getElem? (i := 98) rfl)) (by decide) (by decide)) q55a q55c (g := (mkF m 189 #[.val (.int p0), .val (.int p1), .val (.long p2), .second, .val (.long p3), .second, .val (.int p4), .val (.ref b1), .val (.ref b4), .val (.ref b6), .val (.ref b9), .val kv, .val (.int (2 : Int32)), .val (.ref b12), .val (.ref b14), .val (.ref b16), .val (.ref li), .unset] [(.ref li), (.ref b4)])) rfl (by rw [hml]; rfl) (Steps.refl _) (argsL := []) (rest := [(.ref b4)]) (lenOf pd_2829Ljava2flang2fString3b rfl) rfl (by show 2 * 0 + _ ≤ _; exact Nat.le_of_eq rfl) (hb hby at_189) (fun _ _ => ⟨rfl, rfl, Nat.le_of_ble_eq_true rfl, Nat.le_of_ble_eq_true rfl⟩)
      dsimp only [Pt.U, Pt.locs, Pt.cells, Pt.slots] at X55 l55 y55 z55 st55 hQ55
      rw [l55, y55, z55] at X55
      replace X55 : Stand p l e room_1 s m #[(.int p0), (.int p1), (.long p2), (.long p3), (.int p4)] below meth c T55 _ 30 150 := X55.more (by decide) (by decide)
      obtain ⟨rfl, N55q, e55⟩ := hQ55
      have N55 := Fr.app N54 N55q
      refine OEnds.via (fun _ k_ => st55.trans k_) ?_
      show OEnds p e below s _ _ _ (T55.setTop (mkF m 192 #[.val (.int p0), .val (.int p1), .val (.long p2), .second, .val (.long p3), .second, .val (.int p4), .val (.ref b1), .val (.ref b4), .val (.ref b6), .val (.ref b9), .val kv, .val (.int (2 : Int32)), .val (.ref b12), .val (.ref b14), .val (.ref b16), .val (.ref li), .unset] [(.ref b4), (.ref b4)]))
      obtain ⟨cq56, kq56, q56a, q56b, q56c⟩ := isOf hZ e55 E_b4
      obtain ⟨_, _, ⟨T56, L56, k56, n56⟩, -, X56, ⟨Lc56, hQ56, l56, y56, z56⟩, st56⟩ := X55.virtualBack hx (y := (⟨"java/lang/String", "equals", "(Ljava/lang/Object;)Z"⟩ : MethodName)) (z := (⟨"java/lang/String", "equals", "(Ljava/lang/Object;)Z"⟩ : MethodName)) hown (mvT hZ (hw _ (List.mem_of_getElem? (i := 209) rfl))) (mvT hZ (hw _ (List.mem_of_getElem? (i := 210) rfl))) (notFace_of_selects (args := #[]) (mvT hZ (hw _ (List.mem_of_getElem? (i := 212) rfl)))) (mvT hZ (hw _ (List.mem_of_getElem? (i := 212) rfl))) (mvT hZ (hw _ (List.mem_of_getElem? (i := 211) rfl))) (by decide) (backOf (W := 0) (rmSelf l Z a0 hw [] b4 T54.heap n0 Od ) hZ (hw _ (List.mem_of_getElem? (i := 213) rfl)) (hw _ (List.mem_of_getElem? (i := 3) rfl)) (by decide) (by decide)) q56a q56c (g := (mkF m 192 #[.val (.int p0), .val (.int p1), .val (.long p2), .second, .val (.long p3), .second, .val (.int p4), .val (.ref b1), .val (.ref b4), .val (.ref b6), .val (.ref b9), .val kv, .val (.int (2 : Int32)), .val (.ref b12), .val (.ref b14), .val (.ref b16), .val (.ref li), .unset] [(.ref b4), (.ref b4)])) rfl (by rw [hml]; rfl) (Steps.refl _) (argsL := [(.ref b4)]) (rest := []) (lenOf pd_28Ljava2flang2fObject3b29Z rfl) rfl (by show 2 * 0 + _ ≤ _; exact Nat.le_of_eq rfl) (hb hby at_192) (fun _ _ => ⟨rfl, e55, Nat.le_of_ble_eq_true rfl, Nat.le_of_ble_eq_true rfl⟩)
      dsimp only [Pt.U, Pt.locs, Pt.cells, Pt.slots] at X56 l56 y56 z56 st56 hQ56
      rw [l56, y56, z56] at X56
      replace X56 : Stand p l e room_1 s m #[(.int p0), (.int p1), (.long p2), (.long p3), (.int p4)] below meth c T56 _ 30 150 := X56.more (by decide) (by decide)
      obtain ⟨rfl, N56q, e56⟩ := hQ56
      have N56 := Fr.app N55 N56q
      refine OEnds.via (fun _ k_ => st56.trans k_) ?_
      show OEnds p e below s _ _ _ (T56.setTop (mkF m 195 #[.val (.int p0), .val (.int p1), .val (.long p2), .second, .val (.long p3), .second, .val (.int p4), .val (.ref b1), .val (.ref b4), .val (.ref b6), .val (.ref b9), .val kv, .val (.int (2 : Int32)), .val (.ref b12), .val (.ref b14), .val (.ref b16), .val (.ref li), .unset] [(.int (1 : Int32))]))
      refine OEnds.via (fun _ k_ => XS.ifYes X56.here hx rfl (pc0 := 195) (pc' := 200) rfl (hb hby at_195) rfl ((if0 _ _).trans (feq (by decide : ¬ ((1 : Int32) = (0 : Int32)))).2) (by decide) (by decide) k_) ?_
      show OEnds p e below s _ _ _ (T56.setTop (mkF m 200 #[.val (.int p0), .val (.int p1), .val (.long p2), .second, .val (.long p3), .second, .val (.int p4), .val (.ref b1), .val (.ref b4), .val (.ref b6), .val (.ref b9), .val kv, .val (.int (2 : Int32)), .val (.ref b12), .val (.ref b14), .val (.ref b16), .val (.ref li), .unset] []))
      refine OEnds.via (fun _ k_ => XS.aload X56.here hx rfl (hb hby at_200) rfl rfl k_) ?_
      show OEnds p e below s _ _ _ (T56.setTop (mkF m 202 #[.val (.int p0), .val (.int p1), .val (.long p2), .second, .val (.long p3), .second, .val (.int p4), .val (.ref b1), .val (.ref b4), .val (.ref b6), .val (.ref b9), .val kv, .val (.int (2 : Int32)), .val (.ref b12), .val (.ref b14), .val (.ref b16), .val (.ref li), .unset] [(.ref li)]))
      obtain ⟨cq57, kq57, q57a, q57b, q57c⟩ := isOf hZ e56 E_li
      obtain ⟨_, _, ⟨T57, L57, k57, n57⟩, -, X57, ⟨Lc57, hQ57, l57, y57, z57⟩, st57⟩ := X56.virtualBack hx (y := (⟨"com/example/holdfast/holdfast/LockInfo", "held", "()Z"⟩ : MethodName)) (z := (⟨"com/example/holdfast/holdfast/LockInfo", "held", "()Z"⟩ : MethodName)) hown (mvT hZ (hw _ (List.mem_of_getElem? (i := 214) rfl))) (mvT hZ (hw _ (List.mem_of_getElem? (i := 215) rfl))) (notFace_of_selects (args := #[]) (mvT hZ (hw _ (List.mem_of_getElem? (i := 217) rfl)))) (mvT hZ (hw _ (List.mem_of_getElem? (i := 217) rfl))) (mvT hZ (hw _ (List.mem_of_getElem? (i := 216) rfl))) (by decide) (backOf (W := 0) (rm_held l Z a0 hw [] li T54.heap n0 Od G_held) hZ (hw _ (List.mem_of_getElem? (i := 218) rfl)) (hw _ (List.mem_of_getElem? (i := 98) rfl)) (by decide) (by decide)) q57a q57c (g := (mkF m 202 #[.val (.int p0), .val (.int p1), .val (.long p2), .second, .val (.long p3), .second, .val (.int p4), .val (.ref b1), .val (.ref b4), .val (.ref b6), .val (.ref b9), .val kv, .val (.int (2 : Int32)), .val (.ref b12), .val (.ref b14), .val (.ref b16), .val (.ref li), .unset] [(.ref li)])) rfl (by rw [hml]; rfl) (Steps.refl _) (argsL := []) (rest := []) (lenOf pd_2829Z rfl) rfl (by show 2 * 0 + _ ≤ _; exact Nat.le_of_eq rfl) (hb hby at_202) (fun _ _ => ⟨rfl, e56, Nat.le_of_ble_eq_true rfl, Nat.le_of_ble_eq_true rfl⟩)
      dsimp only [Pt.U, Pt.locs, Pt.cells, Pt.slots] at X57 l57 y57 z57 st57 hQ57
      rw [l57, y57, z57] at X57
      replace X57 : Stand p l e room_1 s m #[(.int p0), (.int p1), (.long p2), (.long p3), (.int p4)] below meth c T57 _ 30 150 := X57.more (by decide) (by decide)
      obtain ⟨rfl, N57q, e57⟩ := hQ57
      have N57 := Fr.app N56 N57q
      refine OEnds.via (fun _ k_ => st57.trans k_) ?_
      show OEnds p e below s _ _ _ (T57.setTop (mkF m 205 #[.val (.int p0), .val (.int p1), .val (.long p2), .second, .val (.long p3), .second, .val (.int p4), .val (.ref b1), .val (.ref b4), .val (.ref b6), .val (.ref b9), .val kv, .val (.int (2 : Int32)), .val (.ref b12), .val (.ref b14), .val (.ref b16), .val (.ref li), .unset] [(.int (1 : Int32))]))
      refine OEnds.via (fun _ k_ => XS.ifYes X57.here hx rfl (pc0 := 205) (pc' := 210) rfl (hb hby at_205) rfl ((if0 _ _).trans (feq (by decide : ¬ ((1 : Int32) = (0 : Int32)))).2) (by decide) (by decide) k_) ?_
      show OEnds p e below s _ _ _ (T57.setTop (mkF m 210 #[.val (.int p0), .val (.int p1), .val (.long p2), .second, .val (.long p3), .second, .val (.int p4), .val (.ref b1), .val (.ref b4), .val (.ref b6), .val (.ref b9), .val kv, .val (.int (2 : Int32)), .val (.ref b12), .val (.ref b14), .val (.ref b16), .val (.ref li), .unset] []))
      rcases hcase with hkn | hkn
      · skip
        rw [hkn] at G_holder ⊢
        show OEnds p e below s _ _ _ (T57.setTop (mkF m 210 #[.val (.int p0), .val (.int p1), .val (.long p2), .second, .val (.long p3), .second, .val (.int p4), .val (.ref b1), .val (.ref b4), .val (.ref b6), .val (.ref b9), .val .null, .val (.int (2 : Int32)), .val (.ref b12), .val (.ref b14), .val (.ref b16), .val (.ref li), .unset] []))
        refine OEnds.via (fun _ k_ => XS.aload X57.here hx rfl (hb hby at_210) rfl rfl k_) ?_
        show OEnds p e below s _ _ _ (T57.setTop (mkF m 212 #[.val (.int p0), .val (.int p1), .val (.long p2), .second, .val (.long p3), .second, .val (.int p4), .val (.ref b1), .val (.ref b4), .val (.ref b6), .val (.ref b9), .val .null, .val (.int (2 : Int32)), .val (.ref b12), .val (.ref b14), .val (.ref b16), .val (.ref li), .unset] [(.ref li)]))
        obtain ⟨cq58, kq58, q58a, q58b, q58c⟩ := isOf hZ e57 E_li
        obtain ⟨_, _, ⟨T58, L58, k58, n58⟩, -, X58, ⟨Lc58, hQ58, l58, y58, z58⟩, st58⟩ := X57.virtualBack hx (y := (⟨"com/example/holdfast/holdfast/LockInfo", "heldAlone", "()Z"⟩ : MethodName)) (z := (⟨"com/example/holdfast/holdfast/LockInfo", "heldAlone", "()Z"⟩ : MethodName)) hown (mvT hZ (hw _ (List.mem_of_getElem? (i := 219) rfl))) (mvT hZ (hw _ (List.mem_of_getElem? (i := 220) rfl))) (notFace_of_selects (args := #[]) (mvT hZ (hw _ (List.mem_of_getElem? (i := 222) rfl)))) (mvT hZ (hw _ (List.mem_of_getElem? (i := 222) rfl))) (mvT hZ (hw _ (List.mem_of_getElem? (i := 221) rfl))) (by decide) (backOf (W := 0) (rm_aloneN l Z a0 hw [] li T54.heap n0 Od G_holder) hZ (hw _ (List.mem_of_getElem? (i := 223) rfl)) (hw _ (List.mem_of_getElem? (i := 98) rfl)) (by decide) (by decide)) q58a q58c (g := (mkF m 212 #[.val (.int p0), .val (.int p1), .val (.long p2), .second, .val (.long p3), .second, .val (.int p4), .val (.ref b1), .val (.ref b4), .val (.ref b6), .val (.ref b9), .val .null, .val (.int (2 : Int32)), .val (.ref b12), .val (.ref b14), .val (.ref b16), .val (.ref li), .unset] [(.ref li)])) rfl (by rw [hml]; rfl) (Steps.refl _) (argsL := []) (rest := []) (lenOf pd_2829Z rfl) rfl (by show 2 * 0 + _ ≤ _; exact Nat.le_of_eq rfl) (hb hby at_212) (fun _ _ => ⟨rfl, e57, Nat.le_of_ble_eq_true rfl, Nat.le_of_ble_eq_true rfl⟩)
        dsimp only [Pt.U, Pt.locs, Pt.cells, Pt.slots] at X58 l58 y58 z58 st58 hQ58
        rw [l58, y58, z58] at X58
        replace X58 : Stand p l e room_1 s m #[(.int p0), (.int p1), (.long p2), (.long p3), (.int p4)] below meth c T58 _ 30 150 := X58.more (by decide) (by decide)
        obtain ⟨rfl, N58q, e58⟩ := hQ58
        have N58 := Fr.app N57 N58q
        refine OEnds.via (fun _ k_ => st58.trans k_) ?_
        show OEnds p e below s _ _ _ (T58.setTop (mkF m 215 #[.val (.int p0), .val (.int p1), .val (.long p2), .second, .val (.long p3), .second, .val (.int p4), .val (.ref b1), .val (.ref b4), .val (.ref b6), .val (.ref b9), .val .null, .val (.int (2 : Int32)), .val (.ref b12), .val (.ref b14), .val (.ref b16), .val (.ref li), .unset] [(.int (0 : Int32))]))
        refine OEnds.via (fun _ k_ => XS.aload X58.here hx rfl (hb hby at_215) rfl rfl k_) ?_
        show OEnds p e below s _ _ _ (T58.setTop (mkF m 217 #[.val (.int p0), .val (.int p1), .val (.long p2), .second, .val (.long p3), .second, .val (.int p4), .val (.ref b1), .val (.ref b4), .val (.ref b6), .val (.ref b9), .val .null, .val (.int (2 : Int32)), .val (.ref b12), .val (.ref b14), .val (.ref b16), .val (.ref li), .unset] [.null, (.int (0 : Int32))]))
        refine OEnds.via (fun _ k_ => XS.ifnullYes X58.here hx rfl (pc0 := 217) (pc' := 224) rfl (hb hby at_217) rfl (by decide) (by decide) k_) ?_
        show OEnds p e below s _ _ _ (T58.setTop (mkF m 224 #[.val (.int p0), .val (.int p1), .val (.long p2), .second, .val (.long p3), .second, .val (.int p4), .val (.ref b1), .val (.ref b4), .val (.ref b6), .val (.ref b9), .val .null, .val (.int (2 : Int32)), .val (.ref b12), .val (.ref b14), .val (.ref b16), .val (.ref li), .unset] [(.int (0 : Int32))]))
        refine OEnds.via (fun _ k_ => XS.iconst X58.here hx rfl (hb hby at_224) k_) ?_
        show OEnds p e below s _ _ _ (T58.setTop (mkF m 225 #[.val (.int p0), .val (.int p1), .val (.long p2), .second, .val (.long p3), .second, .val (.int p4), .val (.ref b1), .val (.ref b4), .val (.ref b6), .val (.ref b9), .val .null, .val (.int (2 : Int32)), .val (.ref b12), .val (.ref b14), .val (.ref b16), .val (.ref li), .unset] [(.int (0 : Int32)), (.int (0 : Int32))]))
        refine OEnds.via (fun _ k_ => XS.icmpYes X58.here hx rfl (pc0 := 225) (pc' := 230) rfl (hb hby at_225) rfl (teq (by decide : (0 : Int32) = (0 : Int32))).1 (by decide) (by decide) k_) ?_
        show OEnds p e below s _ _ _ (T58.setTop (mkF m 230 #[.val (.int p0), .val (.int p1), .val (.long p2), .second, .val (.long p3), .second, .val (.int p4), .val (.ref b1), .val (.ref b4), .val (.ref b6), .val (.ref b9), .val .null, .val (.int (2 : Int32)), .val (.ref b12), .val (.ref b14), .val (.ref b16), .val (.ref li), .unset] []))
        refine OEnds.via (fun _ k_ => XS.aload X58.here hx rfl (hb hby at_230) rfl rfl k_) ?_
        show OEnds p e below s _ _ _ (T58.setTop (mkF m 232 #[.val (.int p0), .val (.int p1), .val (.long p2), .second, .val (.long p3), .second, .val (.int p4), .val (.ref b1), .val (.ref b4), .val (.ref b6), .val (.ref b9), .val .null, .val (.int (2 : Int32)), .val (.ref b12), .val (.ref b14), .val (.ref b16), .val (.ref li), .unset] [.null]))
        refine OEnds.via (fun _ k_ => XS.ifnullYes X58.here hx rfl (pc0 := 232) (pc' := 275) rfl (hb hby at_232) rfl (by decide) (by decide) k_) ?_
        show OEnds p e below s _ _ _ (T58.setTop (mkF m 275 #[.val (.int p0), .val (.int p1), .val (.long p2), .second, .val (.long p3), .second, .val (.int p4), .val (.ref b1), .val (.ref b4), .val (.ref b6), .val (.ref b9), .val .null, .val (.int (2 : Int32)), .val (.ref b12), .val (.ref b14), .val (.ref b16), .val (.ref li), .unset] []))
        refine OEnds.via (fun _ k_ => XS.aload X58.here hx rfl (hb hby at_275) rfl rfl k_) ?_
        show OEnds p e below s _ _ _ (T58.setTop (mkF m 277 #[.val (.int p0), .val (.int p1), .val (.long p2), .second, .val (.long p3), .second, .val (.int p4), .val (.ref b1), .val (.ref b4), .val (.ref b6), .val (.ref b9), .val .null, .val (.int (2 : Int32)), .val (.ref b12), .val (.ref b14), .val (.ref b16), .val (.ref li), .unset] [(.ref li)]))
        obtain ⟨cq59, kq59, q59a, q59b, q59c⟩ := isOf hZ e58 E_li
        obtain ⟨_, _, ⟨T59, L59, k59, n59⟩, -, X59, ⟨Lc59, hQ59, l59, y59, z59⟩, st59⟩ := X58.virtualBack hx (y := (⟨"com/example/holdfast/holdfast/LockInfo", "readers", "()Ljava/util/List;"⟩ : MethodName)) (z := (⟨"com/example/holdfast/holdfast/LockInfo", "readers", "()Ljava/util/List;"⟩ : MethodName)) hown (mvT hZ (hw _ (List.mem_of_getElem? (i := 244) rfl))) (mvT hZ (hw _ (List.mem_of_getElem? (i := 245) rfl))) (notFace_of_selects (args := #[]) (mvT hZ (hw _ (List.mem_of_getElem? (i := 247) rfl)))) (mvT hZ (hw _ (List.mem_of_getElem? (i := 247) rfl))) (mvT hZ (hw _ (List.mem_of_getElem? (i := 246) rfl))) (by decide) (backOf (W := 0) (rm_readers l Z a0 hw [] li q T54.heap n0 Od G_readers) hZ (hw _ (List.mem_of_getElem? (i := 248) rfl)) (hw _ (List.mem_of_getElem? (i := 98) rfl)) (by decide) (by decide)) q59a q59c (g := (mkF m 277 #[.val (.int p0), .val (.int p1), .val (.long p2), .second, .val (.long p3), .second, .val (.int p4), .val (.ref b1), .val (.ref b4), .val (.ref b6), .val (.ref b9), .val .null, .val (.int (2 : Int32)), .val (.ref b12), .val (.ref b14), .val (.ref b16), .val (.ref li), .unset] [(.ref li)])) rfl (by rw [hml]; rfl) (Steps.refl _) (argsL := []) (rest := []) (lenOf pd_2829Ljava2futil2fList3b rfl) rfl (by show 2 * 0 + _ ≤ _; exact Nat.le_of_eq rfl) (hb hby at_277) (fun _ _ => ⟨rfl, e58, Nat.le_of_ble_eq_true rfl, Nat.le_of_ble_eq_true rfl⟩)
        dsimp only [Pt.U, Pt.locs, Pt.cells, Pt.slots] at X59 l59 y59 z59 st59 hQ59
        rw [l59, y59, z59] at X59
        replace X59 : Stand p l e room_1 s m #[(.int p0), (.int p1), (.long p2), (.long p3), (.int p4)] below meth c T59 _ 30 150 := X59.more (by decide) (by decide)
        obtain ⟨rfl, N59q, e59⟩ := hQ59
        have N59 := Fr.app N58 N59q
        refine OEnds.via (fun _ k_ => st59.trans k_) ?_
        show OEnds p e below s _ _ _ (T59.setTop (mkF m 280 #[.val (.int p0), .val (.int p1), .val (.long p2), .second, .val (.long p3), .second, .val (.int p4), .val (.ref b1), .val (.ref b4), .val (.ref b6), .val (.ref b9), .val .null, .val (.int (2 : Int32)), .val (.ref b12), .val (.ref b14), .val (.ref b16), .val (.ref li), .unset] [(.ref q)]))
        refine OEnds.via (fun _ k_ => XS.astore X59.here hx rfl (hb hby at_280) rfl rfl (l' := #[.val (.int p0), .val (.int p1), .val (.long p2), .second, .val (.long p3), .second, .val (.int p4), .val (.ref b1), .val (.ref b4), .val (.ref b6), .val (.ref b9), .val .null, .val (.int (2 : Int32)), .val (.ref b12), .val (.ref b14), .val (.ref b16), .val (.ref li), .val (.ref q)]) rfl k_) ?_
        show OEnds p e below s _ _ _ (T59.setTop (mkF m 282 #[.val (.int p0), .val (.int p1), .val (.long p2), .second, .val (.long p3), .second, .val (.int p4), .val (.ref b1), .val (.ref b4), .val (.ref b6), .val (.ref b9), .val .null, .val (.int (2 : Int32)), .val (.ref b12), .val (.ref b14), .val (.ref b16), .val (.ref li), .val (.ref q)] []))
        refine OEnds.via (fun _ k_ => XS.aload X59.here hx rfl (hb hby at_282) rfl rfl k_) ?_
        show OEnds p e below s _ _ _ (T59.setTop (mkF m 284 #[.val (.int p0), .val (.int p1), .val (.long p2), .second, .val (.long p3), .second, .val (.int p4), .val (.ref b1), .val (.ref b4), .val (.ref b6), .val (.ref b9), .val .null, .val (.int (2 : Int32)), .val (.ref b12), .val (.ref b14), .val (.ref b16), .val (.ref li), .val (.ref q)] [(.ref q)]))
        obtain ⟨cq60, kq60, q60a, q60b, q60c⟩ := isOf hZ e59 E_q
        obtain ⟨_, _, ⟨T60, L60, k60, n60⟩, -, X60, ⟨Lc60, hQ60, l60, y60, z60⟩, st60⟩ := X59.interfaceBack hx (xi := (⟨"java/util/List", "size", "()I"⟩ : MethodName)) (y := (⟨"java/util/ImmutableCollections$List12", "size", "()I"⟩ : MethodName)) hown (mvT hZ (hw _ (List.mem_of_getElem? (i := 249) rfl))) (mvT hZ (hw _ (List.mem_of_getElem? (i := 250) rfl))) (mvT hZ (hw _ (List.mem_of_getElem? (i := 251) rfl))) (mvT hZ (hw _ (List.mem_of_getElem? (i := 252) rfl))) (mvT hZ (hw _ (List.mem_of_getElem? (i := 253) rfl))) (mvT hZ (hw _ (List.mem_of_getElem? (i := 254) rfl))) (mvT hZ (hw _ (List.mem_of_getElem? (i := 255) rfl))) (mvT hZ (hw _ (List.mem_of_getElem? (i := 256) rfl))) (by decide) (backOf (W := 0) (rmSz2 l Z a0 hw [] q em b14 T54.heap n0 Od G_e1 S_em (Ne.symm (Od.ne E_em.lt ge_b14))) hZ (hw _ (List.mem_of_getElem? (i := 257) rfl)) (hw _ (List.mem_of_getElem? (i := 174) rfl)) (by decide) (by decide)) q60a q60b q60c (g := (mkF m 284 #[.val (.int p0), .val (.int p1), .val (.long p2), .second, .val (.long p3), .second, .val (.int p4), .val (.ref b1), .val (.ref b4), .val (.ref b6), .val (.ref b9), .val .null, .val (.int (2 : Int32)), .val (.ref b12), .val (.ref b14), .val (.ref b16), .val (.ref li), .val (.ref q)] [(.ref q)])) rfl (by rw [hml]; rfl) (Steps.refl _) (argsL := []) (rest := []) (lenOf pd_2829I rfl) rfl (by show 2 * 0 + _ ≤ _; exact Nat.le_of_eq rfl) (hb hby at_284) (fun _ _ => ⟨rfl, e59, Nat.le_of_ble_eq_true rfl, Nat.le_of_ble_eq_true rfl⟩)
        dsimp only [Pt.U, Pt.locs, Pt.cells, Pt.slots] at X60 l60 y60 z60 st60 hQ60
        rw [l60, y60, z60] at X60
        replace X60 : Stand p l e room_1 s m #[(.int p0), (.int p1), (.long p2), (.long p3), (.int p4)] below meth c T60 _ 30 150 := X60.more (by decide) (by decide)
        obtain ⟨rfl, N60q, e60⟩ := hQ60
        have N60 := Fr.app N59 N60q
        refine OEnds.via (fun _ k_ => st60.trans k_) ?_
        show OEnds p e below s _ _ _ (T60.setTop (mkF m 289 #[.val (.int p0), .val (.int p1), .val (.long p2), .second, .val (.long p3), .second, .val (.int p4), .val (.ref b1), .val (.ref b4), .val (.ref b6), .val (.ref b9), .val .null, .val (.int (2 : Int32)), .val (.ref b12), .val (.ref b14), .val (.ref b16), .val (.ref li), .val (.ref q)] [(.int (2 : Int32))]))
        refine OEnds.via (fun _ k_ => XS.iload X60.here hx rfl (hb hby at_289) rfl k_) ?_
        show OEnds p e below s _ _ _ (T60.setTop (mkF m 291 #[.val (.int p0), .val (.int p1), .val (.long p2), .second, .val (.long p3), .second, .val (.int p4), .val (.ref b1), .val (.ref b4), .val (.ref b6), .val (.ref b9), .val .null, .val (.int (2 : Int32)), .val (.ref b12), .val (.ref b14), .val (.ref b16), .val (.ref li), .val (.ref q)] [(.int (2 : Int32)), (.int (2 : Int32))]))
        refine OEnds.via (fun _ k_ => XS.icmpYes X60.here hx rfl (pc0 := 291) (pc' := 296) rfl (hb hby at_291) rfl (teq (by decide : (2 : Int32) = (2 : Int32))).1 (by decide) (by decide) k_) ?_
        show OEnds p e below s _ _ _ (T60.setTop (mkF m 296 #[.val (.int p0), .val (.int p1), .val (.long p2), .second, .val (.long p3), .second, .val (.int p4), .val (.ref b1), .val (.ref b4), .val (.ref b6), .val (.ref b9), .val .null, .val (.int (2 : Int32)), .val (.ref b12), .val (.ref b14), .val (.ref b16), .val (.ref li), .val (.ref q)] []))
        refine OEnds.via (fun _ k_ => XS.iload X60.here hx rfl (hb hby at_296) rfl k_) ?_
        show OEnds p e below s _ _ _ (T60.setTop (mkF m 298 #[.val (.int p0), .val (.int p1), .val (.long p2), .second, .val (.long p3), .second, .val (.int p4), .val (.ref b1), .val (.ref b4), .val (.ref b6), .val (.ref b9), .val .null, .val (.int (2 : Int32)), .val (.ref b12), .val (.ref b14), .val (.ref b16), .val (.ref li), .val (.ref q)] [(.int (2 : Int32))]))
        refine OEnds.via (fun _ k_ => XS.iconst X60.here hx rfl (hb hby at_298) k_) ?_
        show OEnds p e below s _ _ _ (T60.setTop (mkF m 299 #[.val (.int p0), .val (.int p1), .val (.long p2), .second, .val (.long p3), .second, .val (.int p4), .val (.ref b1), .val (.ref b4), .val (.ref b6), .val (.ref b9), .val .null, .val (.int (2 : Int32)), .val (.ref b12), .val (.ref b14), .val (.ref b16), .val (.ref li), .val (.ref q)] [(.int (1 : Int32)), (.int (2 : Int32))]))
        refine OEnds.via (fun _ k_ => XS.icmpNo X60.here hx rfl (hb hby at_299) rfl (flt (by decide : ¬ ((2 : Int32) < (1 : Int32)))).1 k_) ?_
        show OEnds p e below s _ _ _ (T60.setTop (mkF m 302 #[.val (.int p0), .val (.int p1), .val (.long p2), .second, .val (.long p3), .second, .val (.int p4), .val (.ref b1), .val (.ref b4), .val (.ref b6), .val (.ref b9), .val .null, .val (.int (2 : Int32)), .val (.ref b12), .val (.ref b14), .val (.ref b16), .val (.ref li), .val (.ref q)] []))
        refine OEnds.via (fun _ k_ => XS.aload X60.here hx rfl (hb hby at_302) rfl rfl k_) ?_
        show OEnds p e below s _ _ _ (T60.setTop (mkF m 304 #[.val (.int p0), .val (.int p1), .val (.long p2), .second, .val (.long p3), .second, .val (.int p4), .val (.ref b1), .val (.ref b4), .val (.ref b6), .val (.ref b9), .val .null, .val (.int (2 : Int32)), .val (.ref b12), .val (.ref b14), .val (.ref b16), .val (.ref li), .val (.ref q)] [(.ref q)]))
        refine OEnds.via (fun _ k_ => XS.iconst X60.here hx rfl (hb hby at_304) k_) ?_
        show OEnds p e below s _ _ _ (T60.setTop (mkF m 305 #[.val (.int p0), .val (.int p1), .val (.long p2), .second, .val (.long p3), .second, .val (.int p4), .val (.ref b1), .val (.ref b4), .val (.ref b6), .val (.ref b9), .val .null, .val (.int (2 : Int32)), .val (.ref b12), .val (.ref b14), .val (.ref b16), .val (.ref li), .val (.ref q)] [(.int (0 : Int32)), (.ref q)]))
        obtain ⟨cq61, kq61, q61a, q61b, q61c⟩ := isOf hZ e60 E_q
        obtain ⟨_, _, ⟨T61, L61, k61, n61⟩, -, X61, ⟨Lc61, hQ61, l61, y61, z61⟩, st61⟩ := X60.interfaceBack hx (xi := (⟨"java/util/List", "get", "(I)Ljava/lang/Object;"⟩ : MethodName)) (y := (⟨"java/util/ImmutableCollections$List12", "get", "(I)Ljava/lang/Object;"⟩ : MethodName)) hown (mvT hZ (hw _ (List.mem_of_getElem? (i := 258) rfl))) (mvT hZ (hw _ (List.mem_of_getElem? (i := 259) rfl))) (mvT hZ (hw _ (List.mem_of_getElem? (i := 260) rfl))) (mvT hZ (hw _ (List.mem_of_getElem? (i := 261) rfl))) (mvT hZ (hw _ (List.mem_of_getElem? (i := 262) rfl))) (mvT hZ (hw _ (List.mem_of_getElem? (i := 263) rfl))) (mvT hZ (hw _ (List.mem_of_getElem? (i := 264) rfl))) (mvT hZ (hw _ (List.mem_of_getElem? (i := 256) rfl))) (by decide) (backOf (W := 0) (rmGt0 l Z a0 hw [] q b12 T54.heap n0 Od G_e0) hZ (hw _ (List.mem_of_getElem? (i := 265) rfl)) (hw _ (List.mem_of_getElem? (i := 174) rfl)) (by decide) (by decide)) q61a q61b q61c (g := (mkF m 305 #[.val (.int p0), .val (.int p1), .val (.long p2), .second, .val (.long p3), .second, .val (.int p4), .val (.ref b1), .val (.ref b4), .val (.ref b6), .val (.ref b9), .val .null, .val (.int (2 : Int32)), .val (.ref b12), .val (.ref b14), .val (.ref b16), .val (.ref li), .val (.ref q)] [(.int (0 : Int32)), (.ref q)])) rfl (by rw [hml]; rfl) (Steps.refl _) (argsL := [(.int (0 : Int32))]) (rest := []) (lenOf pd_28I29Ljava2flang2fObject3b rfl) rfl (by show 2 * 0 + _ ≤ _; exact Nat.le_of_eq rfl) (hb hby at_305) (fun _ _ => ⟨rfl, e60, Nat.le_of_ble_eq_true rfl, Nat.le_of_ble_eq_true rfl⟩)
        dsimp only [Pt.U, Pt.locs, Pt.cells, Pt.slots] at X61 l61 y61 z61 st61 hQ61
        rw [l61, y61, z61] at X61
        replace X61 : Stand p l e room_1 s m #[(.int p0), (.int p1), (.long p2), (.long p3), (.int p4)] below meth c T61 _ 30 150 := X61.more (by decide) (by decide)
        obtain ⟨rfl, N61q, e61⟩ := hQ61
        have N61 := Fr.app N60 N61q
        refine OEnds.via (fun _ k_ => st61.trans k_) ?_
        show OEnds p e below s _ _ _ (T61.setTop (mkF m 310 #[.val (.int p0), .val (.int p1), .val (.long p2), .second, .val (.long p3), .second, .val (.int p4), .val (.ref b1), .val (.ref b4), .val (.ref b6), .val (.ref b9), .val .null, .val (.int (2 : Int32)), .val (.ref b12), .val (.ref b14), .val (.ref b16), .val (.ref li), .val (.ref q)] [(.ref b12)]))
        refine OEnds.via (fun _ k_ => XS.aload X61.here hx rfl (hb hby at_310) rfl rfl k_) ?_
        show OEnds p e below s _ _ _ (T61.setTop (mkF m 312 #[.val (.int p0), .val (.int p1), .val (.long p2), .second, .val (.long p3), .second, .val (.int p4), .val (.ref b1), .val (.ref b4), .val (.ref b6), .val (.ref b9), .val .null, .val (.int (2 : Int32)), .val (.ref b12), .val (.ref b14), .val (.ref b16), .val (.ref li), .val (.ref q)] [(.ref b12), (.ref b12)]))
        refine OEnds.via (fun _ k_ => Jvm.RoadKit.acmp (g := (mkF m 312 #[.val (.int p0), .val (.int p1), .val (.long p2), .second, .val (.long p3), .second, .val (.int p4), .val (.ref b1), .val (.ref b4), .val (.ref b6), .val (.ref b9), .val .null, .val (.int (2 : Int32)), .val (.ref b12), .val (.ref b14), .val (.ref b16), .val (.ref li), .val (.ref q)] [(.ref b12), (.ref b12)])) X61 hx rfl rfl rfl (pc0 := 312) (pc' := 317) (same := true) rfl (hb hby at_312) rfl (decide_eq_true rfl) (by decide) (by decide) k_) ?_
        show OEnds p e below s _ _ _ (T61.setTop (mkF m 317 #[.val (.int p0), .val (.int p1), .val (.long p2), .second, .val (.long p3), .second, .val (.int p4), .val (.ref b1), .val (.ref b4), .val (.ref b6), .val (.ref b9), .val .null, .val (.int (2 : Int32)), .val (.ref b12), .val (.ref b14), .val (.ref b16), .val (.ref li), .val (.ref q)] []))
        refine OEnds.via (fun _ k_ => XS.iload X61.here hx rfl (hb hby at_317) rfl k_) ?_
        show OEnds p e below s _ _ _ (T61.setTop (mkF m 319 #[.val (.int p0), .val (.int p1), .val (.long p2), .second, .val (.long p3), .second, .val (.int p4), .val (.ref b1), .val (.ref b4), .val (.ref b6), .val (.ref b9), .val .null, .val (.int (2 : Int32)), .val (.ref b12), .val (.ref b14), .val (.ref b16), .val (.ref li), .val (.ref q)] [(.int (2 : Int32))]))
        refine OEnds.via (fun _ k_ => XS.iconst X61.here hx rfl (hb hby at_319) k_) ?_
        show OEnds p e below s _ _ _ (T61.setTop (mkF m 320 #[.val (.int p0), .val (.int p1), .val (.long p2), .second, .val (.long p3), .second, .val (.int p4), .val (.ref b1), .val (.ref b4), .val (.ref b6), .val (.ref b9), .val .null, .val (.int (2 : Int32)), .val (.ref b12), .val (.ref b14), .val (.ref b16), .val (.ref li), .val (.ref q)] [(.int (2 : Int32)), (.int (2 : Int32))]))
        refine OEnds.via (fun _ k_ => XS.icmpNo X61.here hx rfl (hb hby at_320) rfl (flt (by decide : ¬ ((2 : Int32) < (2 : Int32)))).1 k_) ?_
        show OEnds p e below s _ _ _ (T61.setTop (mkF m 323 #[.val (.int p0), .val (.int p1), .val (.long p2), .second, .val (.long p3), .second, .val (.int p4), .val (.ref b1), .val (.ref b4), .val (.ref b6), .val (.ref b9), .val .null, .val (.int (2 : Int32)), .val (.ref b12), .val (.ref b14), .val (.ref b16), .val (.ref li), .val (.ref q)] []))
        refine OEnds.via (fun _ k_ => XS.aload X61.here hx rfl (hb hby at_323) rfl rfl k_) ?_
        show OEnds p e below s _ _ _ (T61.setTop (mkF m 325 #[.val (.int p0), .val (.int p1), .val (.long p2), .second, .val (.long p3), .second, .val (.int p4), .val (.ref b1), .val (.ref b4), .val (.ref b6), .val (.ref b9), .val .null, .val (.int (2 : Int32)), .val (.ref b12), .val (.ref b14), .val (.ref b16), .val (.ref li), .val (.ref q)] [(.ref q)]))
        refine OEnds.via (fun _ k_ => XS.iconst X61.here hx rfl (hb hby at_325) k_) ?_
        show OEnds p e below s _ _ _ (T61.setTop (mkF m 326 #[.val (.int p0), .val (.int p1), .val (.long p2), .second, .val (.long p3), .second, .val (.int p4), .val (.ref b1), .val (.ref b4), .val (.ref b6), .val (.ref b9), .val .null, .val (.int (2 : Int32)), .val (.ref b12), .val (.ref b14), .val (.ref b16), .val (.ref li), .val (.ref q)] [(.int (1 : Int32)), (.ref q)]))
        obtain ⟨cq62, kq62, q62a, q62b, q62c⟩ := isOf hZ e61 E_q
        obtain ⟨_, _, ⟨T62, L62, k62, n62⟩, -, X62, ⟨Lc62, hQ62, l62, y62, z62⟩, st62⟩ := X61.interfaceBack hx (xi := (⟨"java/util/List", "get", "(I)Ljava/lang/Object;"⟩ : MethodName)) (y := (⟨"java/util/ImmutableCollections$List12", "get", "(I)Ljava/lang/Object;"⟩ : MethodName)) hown (mvT hZ (hw _ (List.mem_of_getElem? (i := 258) rfl))) (mvT hZ (hw _ (List.mem_of_getElem? (i := 259) rfl))) (mvT hZ (hw _ (List.mem_of_getElem? (i := 260) rfl))) (mvT hZ (hw _ (List.mem_of_getElem? (i := 261) rfl))) (mvT hZ (hw _ (List.mem_of_getElem? (i := 262) rfl))) (mvT hZ (hw _ (List.mem_of_getElem? (i := 263) rfl))) (mvT hZ (hw _ (List.mem_of_getElem? (i := 264) rfl))) (mvT hZ (hw _ (List.mem_of_getElem? (i := 256) rfl))) (by decide) (backOf (W := 0) (rmGt1 l Z a0 hw [] q em b14 T54.heap n0 Od G_e1 S_em (Ne.symm (Od.ne E_em.lt ge_b14))) hZ (hw _ (List.mem_of_getElem? (i := 265) rfl)) (hw _ (List.mem_of_getElem? (i := 174) rfl)) (by decide) (by decide)) q62a q62b q62c (g := (mkF m 326 #[.val (.int p0), .val (.int p1), .val (.long p2), .second, .val (.long p3), .second, .val (.int p4), .val (.ref b1), .val (.ref b4), .val (.ref b6), .val (.ref b9), .val .null, .val (.int (2 : Int32)), .val (.ref b12), .val (.ref b14), .val (.ref b16), .val (.ref li), .val (.ref q)] [(.int (1 : Int32)), (.ref q)])) rfl (by rw [hml]; rfl) (Steps.refl _) (argsL := [(.int (1 : Int32))]) (rest := []) (lenOf pd_28I29Ljava2flang2fObject3b rfl) rfl (by show 2 * 0 + _ ≤ _; exact Nat.le_of_eq rfl) (hb hby at_326) (fun _ _ => ⟨rfl, e61, Nat.le_of_ble_eq_true rfl, Nat.le_of_ble_eq_true rfl⟩)
        dsimp only [Pt.U, Pt.locs, Pt.cells, Pt.slots] at X62 l62 y62 z62 st62 hQ62
        rw [l62, y62, z62] at X62
        replace X62 : Stand p l e room_1 s m #[(.int p0), (.int p1), (.long p2), (.long p3), (.int p4)] below meth c T62 _ 30 150 := X62.more (by decide) (by decide)
        obtain ⟨rfl, N62q, e62⟩ := hQ62
        have N62 := Fr.app N61 N62q
        refine OEnds.via (fun _ k_ => st62.trans k_) ?_
        show OEnds p e below s _ _ _ (T62.setTop (mkF m 331 #[.val (.int p0), .val (.int p1), .val (.long p2), .second, .val (.long p3), .second, .val (.int p4), .val (.ref b1), .val (.ref b4), .val (.ref b6), .val (.ref b9), .val .null, .val (.int (2 : Int32)), .val (.ref b12), .val (.ref b14), .val (.ref b16), .val (.ref li), .val (.ref q)] [(.ref b14)]))
        refine OEnds.via (fun _ k_ => XS.aload X62.here hx rfl (hb hby at_331) rfl rfl k_) ?_
        show OEnds p e below s _ _ _ (T62.setTop (mkF m 333 #[.val (.int p0), .val (.int p1), .val (.long p2), .second, .val (.long p3), .second, .val (.int p4), .val (.ref b1), .val (.ref b4), .val (.ref b6), .val (.ref b9), .val .null, .val (.int (2 : Int32)), .val (.ref b12), .val (.ref b14), .val (.ref b16), .val (.ref li), .val (.ref q)] [(.ref b14), (.ref b14)]))
        refine OEnds.via (fun _ k_ => Jvm.RoadKit.acmp (g := (mkF m 333 #[.val (.int p0), .val (.int p1), .val (.long p2), .second, .val (.long p3), .second, .val (.int p4), .val (.ref b1), .val (.ref b4), .val (.ref b6), .val (.ref b9), .val .null, .val (.int (2 : Int32)), .val (.ref b12), .val (.ref b14), .val (.ref b16), .val (.ref li), .val (.ref q)] [(.ref b14), (.ref b14)])) X62 hx rfl rfl rfl (pc0 := 333) (pc' := 338) (same := true) rfl (hb hby at_333) rfl (decide_eq_true rfl) (by decide) (by decide) k_) ?_
        show OEnds p e below s _ _ _ (T62.setTop (mkF m 338 #[.val (.int p0), .val (.int p1), .val (.long p2), .second, .val (.long p3), .second, .val (.int p4), .val (.ref b1), .val (.ref b4), .val (.ref b6), .val (.ref b9), .val .null, .val (.int (2 : Int32)), .val (.ref b12), .val (.ref b14), .val (.ref b16), .val (.ref li), .val (.ref q)] []))
        refine OEnds.via (fun _ k_ => XS.iconst X62.here hx rfl (hb hby at_338) k_) ?_
        show OEnds p e below s _ _ _ (T62.setTop (mkF m 339 #[.val (.int p0), .val (.int p1), .val (.long p2), .second, .val (.long p3), .second, .val (.int p4), .val (.ref b1), .val (.ref b4), .val (.ref b6), .val (.ref b9), .val .null, .val (.int (2 : Int32)), .val (.ref b12), .val (.ref b14), .val (.ref b16), .val (.ref li), .val (.ref q)] [(.int (1 : Int32))]))
        refine OEnds.retN X62 hx hlk (t := .boolean) Bd.returns (by simp) (hb hby at_339) ?_ (by decide) (by decide)
        exact ⟨rfl, N62⟩
      · skip
        rw [hkn] at G_holder ⊢
        show OEnds p e below s _ _ _ (T57.setTop (mkF m 210 #[.val (.int p0), .val (.int p1), .val (.long p2), .second, .val (.long p3), .second, .val (.int p4), .val (.ref b1), .val (.ref b4), .val (.ref b6), .val (.ref b9), .val (.ref b9), .val (.int (2 : Int32)), .val (.ref b12), .val (.ref b14), .val (.ref b16), .val (.ref li), .unset] []))
        refine OEnds.via (fun _ k_ => XS.aload X57.here hx rfl (hb hby at_210) rfl rfl k_) ?_
        show OEnds p e below s _ _ _ (T57.setTop (mkF m 212 #[.val (.int p0), .val (.int p1), .val (.long p2), .second, .val (.long p3), .second, .val (.int p4), .val (.ref b1), .val (.ref b4), .val (.ref b6), .val (.ref b9), .val (.ref b9), .val (.int (2 : Int32)), .val (.ref b12), .val (.ref b14), .val (.ref b16), .val (.ref li), .unset] [(.ref li)]))
        obtain ⟨cq63, kq63, q63a, q63b, q63c⟩ := isOf hZ e57 E_li
        obtain ⟨_, _, ⟨T63, L63, k63, n63⟩, -, X63, ⟨Lc63, hQ63, l63, y63, z63⟩, st63⟩ := X57.virtualBack hx (y := (⟨"com/example/holdfast/holdfast/LockInfo", "heldAlone", "()Z"⟩ : MethodName)) (z := (⟨"com/example/holdfast/holdfast/LockInfo", "heldAlone", "()Z"⟩ : MethodName)) hown (mvT hZ (hw _ (List.mem_of_getElem? (i := 219) rfl))) (mvT hZ (hw _ (List.mem_of_getElem? (i := 220) rfl))) (notFace_of_selects (args := #[]) (mvT hZ (hw _ (List.mem_of_getElem? (i := 222) rfl)))) (mvT hZ (hw _ (List.mem_of_getElem? (i := 222) rfl))) (mvT hZ (hw _ (List.mem_of_getElem? (i := 221) rfl))) (by decide) (backOf (W := 0) (rm_aloneY l Z a0 hw [] li b9 T54.heap n0 Od G_holder) hZ (hw _ (List.mem_of_getElem? (i := 223) rfl)) (hw _ (List.mem_of_getElem? (i := 98) rfl)) (by decide) (by decide)) q63a q63c (g := (mkF m 212 #[.val (.int p0), .val (.int p1), .val (.long p2), .second, .val (.long p3), .second, .val (.int p4), .val (.ref b1), .val (.ref b4), .val (.ref b6), .val (.ref b9), .val (.ref b9), .val (.int (2 : Int32)), .val (.ref b12), .val (.ref b14), .val (.ref b16), .val (.ref li), .unset] [(.ref li)])) rfl (by rw [hml]; rfl) (Steps.refl _) (argsL := []) (rest := []) (lenOf pd_2829Z rfl) rfl (by show 2 * 0 + _ ≤ _; exact Nat.le_of_eq rfl) (hb hby at_212) (fun _ _ => ⟨rfl, e57, Nat.le_of_ble_eq_true rfl, Nat.le_of_ble_eq_true rfl⟩)
        dsimp only [Pt.U, Pt.locs, Pt.cells, Pt.slots] at X63 l63 y63 z63 st63 hQ63
        rw [l63, y63, z63] at X63
        replace X63 : Stand p l e room_1 s m #[(.int p0), (.int p1), (.long p2), (.long p3), (.int p4)] below meth c T63 _ 30 150 := X63.more (by decide) (by decide)
        obtain ⟨rfl, N63q, e63⟩ := hQ63
        have N63 := Fr.app N57 N63q
        refine OEnds.via (fun _ k_ => st63.trans k_) ?_
        show OEnds p e below s _ _ _ (T63.setTop (mkF m 215 #[.val (.int p0), .val (.int p1), .val (.long p2), .second, .val (.long p3), .second, .val (.int p4), .val (.ref b1), .val (.ref b4), .val (.ref b6), .val (.ref b9), .val (.ref b9), .val (.int (2 : Int32)), .val (.ref b12), .val (.ref b14), .val (.ref b16), .val (.ref li), .unset] [(.int (1 : Int32))]))
        refine OEnds.via (fun _ k_ => XS.aload X63.here hx rfl (hb hby at_215) rfl rfl k_) ?_
        show OEnds p e below s _ _ _ (T63.setTop (mkF m 217 #[.val (.int p0), .val (.int p1), .val (.long p2), .second, .val (.long p3), .second, .val (.int p4), .val (.ref b1), .val (.ref b4), .val (.ref b6), .val (.ref b9), .val (.ref b9), .val (.int (2 : Int32)), .val (.ref b12), .val (.ref b14), .val (.ref b16), .val (.ref li), .unset] [(.ref b9), (.int (1 : Int32))]))
        refine OEnds.via (fun _ k_ => XS.ifnullNo X63.here hx rfl (hb hby at_217) rfl k_) ?_
        show OEnds p e below s _ _ _ (T63.setTop (mkF m 220 #[.val (.int p0), .val (.int p1), .val (.long p2), .second, .val (.long p3), .second, .val (.int p4), .val (.ref b1), .val (.ref b4), .val (.ref b6), .val (.ref b9), .val (.ref b9), .val (.int (2 : Int32)), .val (.ref b12), .val (.ref b14), .val (.ref b16), .val (.ref li), .unset] [(.int (1 : Int32))]))
        refine OEnds.via (fun _ k_ => XS.iconst X63.here hx rfl (hb hby at_220) k_) ?_
        show OEnds p e below s _ _ _ (T63.setTop (mkF m 221 #[.val (.int p0), .val (.int p1), .val (.long p2), .second, .val (.long p3), .second, .val (.int p4), .val (.ref b1), .val (.ref b4), .val (.ref b6), .val (.ref b9), .val (.ref b9), .val (.int (2 : Int32)), .val (.ref b12), .val (.ref b14), .val (.ref b16), .val (.ref li), .unset] [(.int (1 : Int32)), (.int (1 : Int32))]))
        refine OEnds.via (fun _ k_ => XS.goto X63.here hx rfl (pc0 := 221) (pc' := 225) rfl (hb hby at_221) (by decide) (by decide) k_) ?_
        show OEnds p e below s _ _ _ (T63.setTop (mkF m 225 #[.val (.int p0), .val (.int p1), .val (.long p2), .second, .val (.long p3), .second, .val (.int p4), .val (.ref b1), .val (.ref b4), .val (.ref b6), .val (.ref b9), .val (.ref b9), .val (.int (2 : Int32)), .val (.ref b12), .val (.ref b14), .val (.ref b16), .val (.ref li), .unset] [(.int (1 : Int32)), (.int (1 : Int32))]))
        refine OEnds.via (fun _ k_ => XS.icmpYes X63.here hx rfl (pc0 := 225) (pc' := 230) rfl (hb hby at_225) rfl (teq (by decide : (1 : Int32) = (1 : Int32))).1 (by decide) (by decide) k_) ?_
        show OEnds p e below s _ _ _ (T63.setTop (mkF m 230 #[.val (.int p0), .val (.int p1), .val (.long p2), .second, .val (.long p3), .second, .val (.int p4), .val (.ref b1), .val (.ref b4), .val (.ref b6), .val (.ref b9), .val (.ref b9), .val (.int (2 : Int32)), .val (.ref b12), .val (.ref b14), .val (.ref b16), .val (.ref li), .unset] []))
        refine OEnds.via (fun _ k_ => XS.aload X63.here hx rfl (hb hby at_230) rfl rfl k_) ?_
        show OEnds p e below s _ _ _ (T63.setTop (mkF m 232 #[.val (.int p0), .val (.int p1), .val (.long p2), .second, .val (.long p3), .second, .val (.int p4), .val (.ref b1), .val (.ref b4), .val (.ref b6), .val (.ref b9), .val (.ref b9), .val (.int (2 : Int32)), .val (.ref b12), .val (.ref b14), .val (.ref b16), .val (.ref li), .unset] [(.ref b9)]))
        refine OEnds.via (fun _ k_ => XS.ifnullNo X63.here hx rfl (hb hby at_232) rfl k_) ?_
        show OEnds p e below s _ _ _ (T63.setTop (mkF m 235 #[.val (.int p0), .val (.int p1), .val (.long p2), .second, .val (.long p3), .second, .val (.int p4), .val (.ref b1), .val (.ref b4), .val (.ref b6), .val (.ref b9), .val (.ref b9), .val (.int (2 : Int32)), .val (.ref b12), .val (.ref b14), .val (.ref b16), .val (.ref li), .unset] []))
        refine OEnds.via (fun _ k_ => XS.aload X63.here hx rfl (hb hby at_235) rfl rfl k_) ?_
        show OEnds p e below s _ _ _ (T63.setTop (mkF m 237 #[.val (.int p0), .val (.int p1), .val (.long p2), .second, .val (.long p3), .second, .val (.int p4), .val (.ref b1), .val (.ref b4), .val (.ref b6), .val (.ref b9), .val (.ref b9), .val (.int (2 : Int32)), .val (.ref b12), .val (.ref b14), .val (.ref b16), .val (.ref li), .unset] [(.ref b9)]))
        refine OEnds.via (fun _ k_ => XS.aload X63.here hx rfl (hb hby at_237) rfl rfl k_) ?_
        show OEnds p e below s _ _ _ (T63.setTop (mkF m 239 #[.val (.int p0), .val (.int p1), .val (.long p2), .second, .val (.long p3), .second, .val (.int p4), .val (.ref b1), .val (.ref b4), .val (.ref b6), .val (.ref b9), .val (.ref b9), .val (.int (2 : Int32)), .val (.ref b12), .val (.ref b14), .val (.ref b16), .val (.ref li), .unset] [(.ref li), (.ref b9)]))
        obtain ⟨cq64, kq64, q64a, q64b, q64c⟩ := isOf hZ e63 E_li
        obtain ⟨_, _, ⟨T64, L64, k64, n64⟩, -, X64, ⟨Lc64, hQ64, l64, y64, z64⟩, st64⟩ := X63.virtualBack hx (y := (⟨"com/example/holdfast/holdfast/LockInfo", "holder", "()Ljava/lang/String;"⟩ : MethodName)) (z := (⟨"com/example/holdfast/holdfast/LockInfo", "holder", "()Ljava/lang/String;"⟩ : MethodName)) hown (mvT hZ (hw _ (List.mem_of_getElem? (i := 224) rfl))) (mvT hZ (hw _ (List.mem_of_getElem? (i := 225) rfl))) (notFace_of_selects (args := #[]) (mvT hZ (hw _ (List.mem_of_getElem? (i := 227) rfl)))) (mvT hZ (hw _ (List.mem_of_getElem? (i := 227) rfl))) (mvT hZ (hw _ (List.mem_of_getElem? (i := 226) rfl))) (by decide) (backOf (W := 1) (rm_holder l Z a0 hw [] li b9 T54.heap n0 Od G_holder E_li) hZ (hw _ (List.mem_of_getElem? (i := 228) rfl)) (hw _ (List.mem_of_getElem? (i := 98) rfl)) (by decide) (by decide)) q64a q64c (g := (mkF m 239 #[.val (.int p0), .val (.int p1), .val (.long p2), .second, .val (.long p3), .second, .val (.int p4), .val (.ref b1), .val (.ref b4), .val (.ref b6), .val (.ref b9), .val (.ref b9), .val (.int (2 : Int32)), .val (.ref b12), .val (.ref b14), .val (.ref b16), .val (.ref li), .unset] [(.ref li), (.ref b9)])) rfl (by rw [hml]; rfl) (Steps.refl _) (argsL := []) (rest := [(.ref b9)]) (lenOf pd_2829Ljava2flang2fString3b rfl) rfl (by show 2 * 0 + _ ≤ _; exact Nat.le_of_eq rfl) (hb hby at_239) (fun _ _ => ⟨rfl, e63, Nat.le_of_ble_eq_true rfl, Nat.le_of_ble_eq_true rfl⟩)
        dsimp only [Pt.U, Pt.locs, Pt.cells, Pt.slots] at X64 l64 y64 z64 st64 hQ64
        rw [l64, y64, z64] at X64
        replace X64 : Stand p l e room_1 s m #[(.int p0), (.int p1), (.long p2), (.long p3), (.int p4)] below meth c T64 _ 30 150 := X64.more (by decide) (by decide)
        obtain ⟨rfl, N64q, e64⟩ := hQ64
        have N64 := Fr.app N63 N64q
        refine OEnds.via (fun _ k_ => st64.trans k_) ?_
        show OEnds p e below s _ _ _ (T64.setTop (mkF m 242 #[.val (.int p0), .val (.int p1), .val (.long p2), .second, .val (.long p3), .second, .val (.int p4), .val (.ref b1), .val (.ref b4), .val (.ref b6), .val (.ref b9), .val (.ref b9), .val (.int (2 : Int32)), .val (.ref b12), .val (.ref b14), .val (.ref b16), .val (.ref li), .unset] [(.ref b9), (.ref b9)]))
        obtain ⟨cq65, kq65, q65a, q65b, q65c⟩ := isOf hZ e64 E_b9
        obtain ⟨_, _, ⟨T65, L65, k65, n65⟩, -, X65, ⟨Lc65, hQ65, l65, y65, z65⟩, st65⟩ := X64.virtualBack hx (y := (⟨"java/lang/String", "equals", "(Ljava/lang/Object;)Z"⟩ : MethodName)) (z := (⟨"java/lang/String", "equals", "(Ljava/lang/Object;)Z"⟩ : MethodName)) hown (mvT hZ (hw _ (List.mem_of_getElem? (i := 209) rfl))) (mvT hZ (hw _ (List.mem_of_getElem? (i := 210) rfl))) (notFace_of_selects (args := #[]) (mvT hZ (hw _ (List.mem_of_getElem? (i := 212) rfl)))) (mvT hZ (hw _ (List.mem_of_getElem? (i := 212) rfl))) (mvT hZ (hw _ (List.mem_of_getElem? (i := 211) rfl))) (by decide) (backOf (W := 0) (rmSelf l Z a0 hw [] b9 T54.heap n0 Od ) hZ (hw _ (List.mem_of_getElem? (i := 213) rfl)) (hw _ (List.mem_of_getElem? (i := 3) rfl)) (by decide) (by decide)) q65a q65c (g := (mkF m 242 #[.val (.int p0), .val (.int p1), .val (.long p2), .second, .val (.long p3), .second, .val (.int p4), .val (.ref b1), .val (.ref b4), .val (.ref b6), .val (.ref b9), .val (.ref b9), .val (.int (2 : Int32)), .val (.ref b12), .val (.ref b14), .val (.ref b16), .val (.ref li), .unset] [(.ref b9), (.ref b9)])) rfl (by rw [hml]; rfl) (Steps.refl _) (argsL := [(.ref b9)]) (rest := []) (lenOf pd_28Ljava2flang2fObject3b29Z rfl) rfl (by show 2 * 0 + _ ≤ _; exact Nat.le_of_eq rfl) (hb hby at_242) (fun _ _ => ⟨rfl, e64, Nat.le_of_ble_eq_true rfl, Nat.le_of_ble_eq_true rfl⟩)
        dsimp only [Pt.U, Pt.locs, Pt.cells, Pt.slots] at X65 l65 y65 z65 st65 hQ65
        rw [l65, y65, z65] at X65
        replace X65 : Stand p l e room_1 s m #[(.int p0), (.int p1), (.long p2), (.long p3), (.int p4)] below meth c T65 _ 30 150 := X65.more (by decide) (by decide)
        obtain ⟨rfl, N65q, e65⟩ := hQ65
        have N65 := Fr.app N64 N65q
        refine OEnds.via (fun _ k_ => st65.trans k_) ?_
        show OEnds p e below s _ _ _ (T65.setTop (mkF m 245 #[.val (.int p0), .val (.int p1), .val (.long p2), .second, .val (.long p3), .second, .val (.int p4), .val (.ref b1), .val (.ref b4), .val (.ref b6), .val (.ref b9), .val (.ref b9), .val (.int (2 : Int32)), .val (.ref b12), .val (.ref b14), .val (.ref b16), .val (.ref li), .unset] [(.int (1 : Int32))]))
        refine OEnds.via (fun _ k_ => XS.ifYes X65.here hx rfl (pc0 := 245) (pc' := 250) rfl (hb hby at_245) rfl ((if0 _ _).trans (feq (by decide : ¬ ((1 : Int32) = (0 : Int32)))).2) (by decide) (by decide) k_) ?_
        show OEnds p e below s _ _ _ (T65.setTop (mkF m 250 #[.val (.int p0), .val (.int p1), .val (.long p2), .second, .val (.long p3), .second, .val (.int p4), .val (.ref b1), .val (.ref b4), .val (.ref b6), .val (.ref b9), .val (.ref b9), .val (.int (2 : Int32)), .val (.ref b12), .val (.ref b14), .val (.ref b16), .val (.ref li), .unset] []))
        refine OEnds.via (fun _ k_ => XS.aload X65.here hx rfl (hb hby at_250) rfl rfl k_) ?_
        show OEnds p e below s _ _ _ (T65.setTop (mkF m 252 #[.val (.int p0), .val (.int p1), .val (.long p2), .second, .val (.long p3), .second, .val (.int p4), .val (.ref b1), .val (.ref b4), .val (.ref b6), .val (.ref b9), .val (.ref b9), .val (.int (2 : Int32)), .val (.ref b12), .val (.ref b14), .val (.ref b16), .val (.ref li), .unset] [(.ref li)]))
        obtain ⟨cq66, kq66, q66a, q66b, q66c⟩ := isOf hZ e65 E_li
        obtain ⟨_, _, ⟨T66, L66, k66, n66⟩, -, X66, ⟨Lc66, hQ66, l66, y66, z66⟩, st66⟩ := X65.virtualBack hx (y := (⟨"com/example/holdfast/holdfast/LockInfo", "remainingLeaseMillis", "()J"⟩ : MethodName)) (z := (⟨"com/example/holdfast/holdfast/LockInfo", "remainingLeaseMillis", "()J"⟩ : MethodName)) hown (mvT hZ (hw _ (List.mem_of_getElem? (i := 234) rfl))) (mvT hZ (hw _ (List.mem_of_getElem? (i := 235) rfl))) (notFace_of_selects (args := #[]) (mvT hZ (hw _ (List.mem_of_getElem? (i := 237) rfl)))) (mvT hZ (hw _ (List.mem_of_getElem? (i := 237) rfl))) (mvT hZ (hw _ (List.mem_of_getElem? (i := 236) rfl))) (by decide) (backOf (W := 0) (rm_remainingLeaseMillis l Z a0 hw [] li b9 p2 T54.heap n0 Od G_remainingLeaseMillis G_holder E_li) hZ (hw _ (List.mem_of_getElem? (i := 238) rfl)) (hw _ (List.mem_of_getElem? (i := 98) rfl)) (by decide) (by decide)) q66a q66c (g := (mkF m 252 #[.val (.int p0), .val (.int p1), .val (.long p2), .second, .val (.long p3), .second, .val (.int p4), .val (.ref b1), .val (.ref b4), .val (.ref b6), .val (.ref b9), .val (.ref b9), .val (.int (2 : Int32)), .val (.ref b12), .val (.ref b14), .val (.ref b16), .val (.ref li), .unset] [(.ref li)])) rfl (by rw [hml]; rfl) (Steps.refl _) (argsL := []) (rest := []) (lenOf pd_2829J rfl) rfl (by show 2 * 0 + _ ≤ _; exact Nat.le_of_eq rfl) (hb hby at_252) (fun _ _ => ⟨rfl, e65, Nat.le_of_ble_eq_true rfl, Nat.le_of_ble_eq_true rfl⟩)
        dsimp only [Pt.U, Pt.locs, Pt.cells, Pt.slots] at X66 l66 y66 z66 st66 hQ66
        rw [l66, y66, z66] at X66
        replace X66 : Stand p l e room_1 s m #[(.int p0), (.int p1), (.long p2), (.long p3), (.int p4)] below meth c T66 _ 30 150 := X66.more (by decide) (by decide)
        obtain ⟨rfl, N66q, e66⟩ := hQ66
        have N66 := Fr.app N65 N66q
        refine OEnds.via (fun _ k_ => st66.trans k_) ?_
        show OEnds p e below s _ _ _ (T66.setTop (mkF m 255 #[.val (.int p0), .val (.int p1), .val (.long p2), .second, .val (.long p3), .second, .val (.int p4), .val (.ref b1), .val (.ref b4), .val (.ref b6), .val (.ref b9), .val (.ref b9), .val (.int (2 : Int32)), .val (.ref b12), .val (.ref b14), .val (.ref b16), .val (.ref li), .unset] [(.long p2)]))
        refine OEnds.via (fun _ k_ => XS.lloadN X66.here hx rfl (hb hby at_255) rfl k_) ?_
        show OEnds p e below s _ _ _ (T66.setTop (mkF m 256 #[.val (.int p0), .val (.int p1), .val (.long p2), .second, .val (.long p3), .second, .val (.int p4), .val (.ref b1), .val (.ref b4), .val (.ref b6), .val (.ref b9), .val (.ref b9), .val (.int (2 : Int32)), .val (.ref b12), .val (.ref b14), .val (.ref b16), .val (.ref li), .unset] [(.long p2), (.long p2)]))
        refine OEnds.via (fun _ k_ => XS.lcmp X66.here hx rfl (hb hby at_256) rfl k_) ?_
        show OEnds p e below s _ _ _ (T66.setTop (mkF m 257 #[.val (.int p0), .val (.int p1), .val (.long p2), .second, .val (.long p3), .second, .val (.int p4), .val (.ref b1), .val (.ref b4), .val (.ref b6), .val (.ref b9), .val (.ref b9), .val (.int (2 : Int32)), .val (.ref b12), .val (.ref b14), .val (.ref b16), .val (.ref li), .unset] [(.int (lcmpW p2 p2))]))
        refine OEnds.via (fun _ k_ => XS.ifYes X66.here hx rfl (pc0 := 257) (pc' := 262) rfl (hb hby at_257) rfl ((if0 _ _).trans (teq (own_lc0 _)).1) (by decide) (by decide) k_) ?_
        show OEnds p e below s _ _ _ (T66.setTop (mkF m 262 #[.val (.int p0), .val (.int p1), .val (.long p2), .second, .val (.long p3), .second, .val (.int p4), .val (.ref b1), .val (.ref b4), .val (.ref b6), .val (.ref b9), .val (.ref b9), .val (.int (2 : Int32)), .val (.ref b12), .val (.ref b14), .val (.ref b16), .val (.ref li), .unset] []))
        refine OEnds.via (fun _ k_ => XS.aload X66.here hx rfl (hb hby at_262) rfl rfl k_) ?_
        show OEnds p e below s _ _ _ (T66.setTop (mkF m 264 #[.val (.int p0), .val (.int p1), .val (.long p2), .second, .val (.long p3), .second, .val (.int p4), .val (.ref b1), .val (.ref b4), .val (.ref b6), .val (.ref b9), .val (.ref b9), .val (.int (2 : Int32)), .val (.ref b12), .val (.ref b14), .val (.ref b16), .val (.ref li), .unset] [(.ref li)]))
        obtain ⟨cq67, kq67, q67a, q67b, q67c⟩ := isOf hZ e66 E_li
        obtain ⟨_, _, ⟨T67, L67, k67, n67⟩, -, X67, ⟨Lc67, hQ67, l67, y67, z67⟩, st67⟩ := X66.virtualBack hx (y := (⟨"com/example/holdfast/holdfast/LockInfo", "fencingToken", "()J"⟩ : MethodName)) (z := (⟨"com/example/holdfast/holdfast/LockInfo", "fencingToken", "()J"⟩ : MethodName)) hown (mvT hZ (hw _ (List.mem_of_getElem? (i := 239) rfl))) (mvT hZ (hw _ (List.mem_of_getElem? (i := 240) rfl))) (notFace_of_selects (args := #[]) (mvT hZ (hw _ (List.mem_of_getElem? (i := 242) rfl)))) (mvT hZ (hw _ (List.mem_of_getElem? (i := 242) rfl))) (mvT hZ (hw _ (List.mem_of_getElem? (i := 241) rfl))) (by decide) (backOf (W := 0) (rm_fencingToken l Z a0 hw [] li b9 p3 T54.heap n0 Od G_fencingToken G_holder E_li) hZ (hw _ (List.mem_of_getElem? (i := 243) rfl)) (hw _ (List.mem_of_getElem? (i := 98) rfl)) (by decide) (by decide)) q67a q67c (g := (mkF m 264 #[.val (.int p0), .val (.int p1), .val (.long p2), .second, .val (.long p3), .second, .val (.int p4), .val (.ref b1), .val (.ref b4), .val (.ref b6), .val (.ref b9), .val (.ref b9), .val (.int (2 : Int32)), .val (.ref b12), .val (.ref b14), .val (.ref b16), .val (.ref li), .unset] [(.ref li)])) rfl (by rw [hml]; rfl) (Steps.refl _) (argsL := []) (rest := []) (lenOf pd_2829J rfl) rfl (by show 2 * 0 + _ ≤ _; exact Nat.le_of_eq rfl) (hb hby at_264) (fun _ _ => ⟨rfl, e66, Nat.le_of_ble_eq_true rfl, Nat.le_of_ble_eq_true rfl⟩)
        dsimp only [Pt.U, Pt.locs, Pt.cells, Pt.slots] at X67 l67 y67 z67 st67 hQ67
        rw [l67, y67, z67] at X67
        replace X67 : Stand p l e room_1 s m #[(.int p0), (.int p1), (.long p2), (.long p3), (.int p4)] below meth c T67 _ 30 150 := X67.more (by decide) (by decide)
        obtain ⟨rfl, N67q, e67⟩ := hQ67
        have N67 := Fr.app N66 N67q
        refine OEnds.via (fun _ k_ => st67.trans k_) ?_
        show OEnds p e below s _ _ _ (T67.setTop (mkF m 267 #[.val (.int p0), .val (.int p1), .val (.long p2), .second, .val (.long p3), .second, .val (.int p4), .val (.ref b1), .val (.ref b4), .val (.ref b6), .val (.ref b9), .val (.ref b9), .val (.int (2 : Int32)), .val (.ref b12), .val (.ref b14), .val (.ref b16), .val (.ref li), .unset] [(.long p3)]))
        refine OEnds.via (fun _ k_ => XS.lload X67.here hx rfl (hb hby at_267) rfl k_) ?_
        show OEnds p e below s _ _ _ (T67.setTop (mkF m 269 #[.val (.int p0), .val (.int p1), .val (.long p2), .second, .val (.long p3), .second, .val (.int p4), .val (.ref b1), .val (.ref b4), .val (.ref b6), .val (.ref b9), .val (.ref b9), .val (.int (2 : Int32)), .val (.ref b12), .val (.ref b14), .val (.ref b16), .val (.ref li), .unset] [(.long p3), (.long p3)]))
        refine OEnds.via (fun _ k_ => XS.lcmp X67.here hx rfl (hb hby at_269) rfl k_) ?_
        show OEnds p e below s _ _ _ (T67.setTop (mkF m 270 #[.val (.int p0), .val (.int p1), .val (.long p2), .second, .val (.long p3), .second, .val (.int p4), .val (.ref b1), .val (.ref b4), .val (.ref b6), .val (.ref b9), .val (.ref b9), .val (.int (2 : Int32)), .val (.ref b12), .val (.ref b14), .val (.ref b16), .val (.ref li), .unset] [(.int (lcmpW p3 p3))]))
        refine OEnds.via (fun _ k_ => XS.ifYes X67.here hx rfl (pc0 := 270) (pc' := 275) rfl (hb hby at_270) rfl ((if0 _ _).trans (teq (own_lc0 _)).1) (by decide) (by decide) k_) ?_
        show OEnds p e below s _ _ _ (T67.setTop (mkF m 275 #[.val (.int p0), .val (.int p1), .val (.long p2), .second, .val (.long p3), .second, .val (.int p4), .val (.ref b1), .val (.ref b4), .val (.ref b6), .val (.ref b9), .val (.ref b9), .val (.int (2 : Int32)), .val (.ref b12), .val (.ref b14), .val (.ref b16), .val (.ref li), .unset] []))
        refine OEnds.via (fun _ k_ => XS.aload X67.here hx rfl (hb hby at_275) rfl rfl k_) ?_
        show OEnds p e below s _ _ _ (T67.setTop (mkF m 277 #[.val (.int p0), .val (.int p1), .val (.long p2), .second, .val (.long p3), .second, .val (.int p4), .val (.ref b1), .val (.ref b4), .val (.ref b6), .val (.ref b9), .val (.ref b9), .val (.int (2 : Int32)), .val (.ref b12), .val (.ref b14), .val (.ref b16), .val (.ref li), .unset] [(.ref li)]))
        obtain ⟨cq68, kq68, q68a, q68b, q68c⟩ := isOf hZ e67 E_li
        obtain ⟨_, _, ⟨T68, L68, k68, n68⟩, -, X68, ⟨Lc68, hQ68, l68, y68, z68⟩, st68⟩ := X67.virtualBack hx (y := (⟨"com/example/holdfast/holdfast/LockInfo", "readers", "()Ljava/util/List;"⟩ : MethodName)) (z := (⟨"com/example/holdfast/holdfast/LockInfo", "readers", "()Ljava/util/List;"⟩ : MethodName)) hown (mvT hZ (hw _ (List.mem_of_getElem? (i := 244) rfl))) (mvT hZ (hw _ (List.mem_of_getElem? (i := 245) rfl))) (notFace_of_selects (args := #[]) (mvT hZ (hw _ (List.mem_of_getElem? (i := 247) rfl)))) (mvT hZ (hw _ (List.mem_of_getElem? (i := 247) rfl))) (mvT hZ (hw _ (List.mem_of_getElem? (i := 246) rfl))) (by decide) (backOf (W := 0) (rm_readers l Z a0 hw [] li q T54.heap n0 Od G_readers) hZ (hw _ (List.mem_of_getElem? (i := 248) rfl)) (hw _ (List.mem_of_getElem? (i := 98) rfl)) (by decide) (by decide)) q68a q68c (g := (mkF m 277 #[.val (.int p0), .val (.int p1), .val (.long p2), .second, .val (.long p3), .second, .val (.int p4), .val (.ref b1), .val (.ref b4), .val (.ref b6), .val (.ref b9), .val (.ref b9), .val (.int (2 : Int32)), .val (.ref b12), .val (.ref b14), .val (.ref b16), .val (.ref li), .unset] [(.ref li)])) rfl (by rw [hml]; rfl) (Steps.refl _) (argsL := []) (rest := []) (lenOf pd_2829Ljava2futil2fList3b rfl) rfl (by show 2 * 0 + _ ≤ _; exact Nat.le_of_eq rfl) (hb hby at_277) (fun _ _ => ⟨rfl, e67, Nat.le_of_ble_eq_true rfl, Nat.le_of_ble_eq_true rfl⟩)
        dsimp only [Pt.U, Pt.locs, Pt.cells, Pt.slots] at X68 l68 y68 z68 st68 hQ68
        rw [l68, y68, z68] at X68
        replace X68 : Stand p l e room_1 s m #[(.int p0), (.int p1), (.long p2), (.long p3), (.int p4)] below meth c T68 _ 30 150 := X68.more (by decide) (by decide)
        obtain ⟨rfl, N68q, e68⟩ := hQ68
        have N68 := Fr.app N67 N68q
        refine OEnds.via (fun _ k_ => st68.trans k_) ?_
        show OEnds p e below s _ _ _ (T68.setTop (mkF m 280 #[.val (.int p0), .val (.int p1), .val (.long p2), .second, .val (.long p3), .second, .val (.int p4), .val (.ref b1), .val (.ref b4), .val (.ref b6), .val (.ref b9), .val (.ref b9), .val (.int (2 : Int32)), .val (.ref b12), .val (.ref b14), .val (.ref b16), .val (.ref li), .unset] [(.ref q)]))
        refine OEnds.via (fun _ k_ => XS.astore X68.here hx rfl (hb hby at_280) rfl rfl (l' := #[.val (.int p0), .val (.int p1), .val (.long p2), .second, .val (.long p3), .second, .val (.int p4), .val (.ref b1), .val (.ref b4), .val (.ref b6), .val (.ref b9), .val (.ref b9), .val (.int (2 : Int32)), .val (.ref b12), .val (.ref b14), .val (.ref b16), .val (.ref li), .val (.ref q)]) rfl k_) ?_
        show OEnds p e below s _ _ _ (T68.setTop (mkF m 282 #[.val (.int p0), .val (.int p1), .val (.long p2), .second, .val (.long p3), .second, .val (.int p4), .val (.ref b1), .val (.ref b4), .val (.ref b6), .val (.ref b9), .val (.ref b9), .val (.int (2 : Int32)), .val (.ref b12), .val (.ref b14), .val (.ref b16), .val (.ref li), .val (.ref q)] []))
        refine OEnds.via (fun _ k_ => XS.aload X68.here hx rfl (hb hby at_282) rfl rfl k_) ?_
        show OEnds p e below s _ _ _ (T68.setTop (mkF m 284 #[.val (.int p0), .val (.int p1), .val (.long p2), .second, .val (.long p3), .second, .val (.int p4), .val (.ref b1), .val (.ref b4), .val (.ref b6), .val (.ref b9), .val (.ref b9), .val (.int (2 : Int32)), .val (.ref b12), .val (.ref b14), .val (.ref b16), .val (.ref li), .val (.ref q)] [(.ref q)]))
        obtain ⟨cq69, kq69, q69a, q69b, q69c⟩ := isOf hZ e68 E_q
        obtain ⟨_, _, ⟨T69, L69, k69, n69⟩, -, X69, ⟨Lc69, hQ69, l69, y69, z69⟩, st69⟩ := X68.interfaceBack hx (xi := (⟨"java/util/List", "size", "()I"⟩ : MethodName)) (y := (⟨"java/util/ImmutableCollections$List12", "size", "()I"⟩ : MethodName)) hown (mvT hZ (hw _ (List.mem_of_getElem? (i := 249) rfl))) (mvT hZ (hw _ (List.mem_of_getElem? (i := 250) rfl))) (mvT hZ (hw _ (List.mem_of_getElem? (i := 251) rfl))) (mvT hZ (hw _ (List.mem_of_getElem? (i := 252) rfl))) (mvT hZ (hw _ (List.mem_of_getElem? (i := 253) rfl))) (mvT hZ (hw _ (List.mem_of_getElem? (i := 254) rfl))) (mvT hZ (hw _ (List.mem_of_getElem? (i := 255) rfl))) (mvT hZ (hw _ (List.mem_of_getElem? (i := 256) rfl))) (by decide) (backOf (W := 0) (rmSz2 l Z a0 hw [] q em b14 T54.heap n0 Od G_e1 S_em (Ne.symm (Od.ne E_em.lt ge_b14))) hZ (hw _ (List.mem_of_getElem? (i := 257) rfl)) (hw _ (List.mem_of_getElem? (i := 174) rfl)) (by decide) (by decide)) q69a q69b q69c (g := (mkF m 284 #[.val (.int p0), .val (.int p1), .val (.long p2), .second, .val (.long p3), .second, .val (.int p4), .val (.ref b1), .val (.ref b4), .val (.ref b6), .val (.ref b9), .val (.ref b9), .val (.int (2 : Int32)), .val (.ref b12), .val (.ref b14), .val (.ref b16), .val (.ref li), .val (.ref q)] [(.ref q)])) rfl (by rw [hml]; rfl) (Steps.refl _) (argsL := []) (rest := []) (lenOf pd_2829I rfl) rfl (by show 2 * 0 + _ ≤ _; exact Nat.le_of_eq rfl) (hb hby at_284) (fun _ _ => ⟨rfl, e68, Nat.le_of_ble_eq_true rfl, Nat.le_of_ble_eq_true rfl⟩)
        dsimp only [Pt.U, Pt.locs, Pt.cells, Pt.slots] at X69 l69 y69 z69 st69 hQ69
        rw [l69, y69, z69] at X69
        replace X69 : Stand p l e room_1 s m #[(.int p0), (.int p1), (.long p2), (.long p3), (.int p4)] below meth c T69 _ 30 150 := X69.more (by decide) (by decide)
        obtain ⟨rfl, N69q, e69⟩ := hQ69
        have N69 := Fr.app N68 N69q
        refine OEnds.via (fun _ k_ => st69.trans k_) ?_
        show OEnds p e below s _ _ _ (T69.setTop (mkF m 289 #[.val (.int p0), .val (.int p1), .val (.long p2), .second, .val (.long p3), .second, .val (.int p4), .val (.ref b1), .val (.ref b4), .val (.ref b6), .val (.ref b9), .val (.ref b9), .val (.int (2 : Int32)), .val (.ref b12), .val (.ref b14), .val (.ref b16), .val (.ref li), .val (.ref q)] [(.int (2 : Int32))]))
        refine OEnds.via (fun _ k_ => XS.iload X69.here hx rfl (hb hby at_289) rfl k_) ?_
        show OEnds p e below s _ _ _ (T69.setTop (mkF m 291 #[.val (.int p0), .val (.int p1), .val (.long p2), .second, .val (.long p3), .second, .val (.int p4), .val (.ref b1), .val (.ref b4), .val (.ref b6), .val (.ref b9), .val (.ref b9), .val (.int (2 : Int32)), .val (.ref b12), .val (.ref b14), .val (.ref b16), .val (.ref li), .val (.ref q)] [(.int (2 : Int32)), (.int (2 : Int32))]))
        refine OEnds.via (fun _ k_ => XS.icmpYes X69.here hx rfl (pc0 := 291) (pc' := 296) rfl (hb hby at_291) rfl (teq (by decide : (2 : Int32) = (2 : Int32))).1 (by decide) (by decide) k_) ?_
        show OEnds p e below s _ _ _ (T69.setTop (mkF m 296 #[.val (.int p0), .val (.int p1), .val (.long p2), .second, .val (.long p3), .second, .val (.int p4), .val (.ref b1), .val (.ref b4), .val (.ref b6), .val (.ref b9), .val (.ref b9), .val (.int (2 : Int32)), .val (.ref b12), .val (.ref b14), .val (.ref b16), .val (.ref li), .val (.ref q)] []))
        refine OEnds.via (fun _ k_ => XS.iload X69.here hx rfl (hb hby at_296) rfl k_) ?_
        show OEnds p e below s _ _ _ (T69.setTop (mkF m 298 #[.val (.int p0), .val (.int p1), .val (.long p2), .second, .val (.long p3), .second, .val (.int p4), .val (.ref b1), .val (.ref b4), .val (.ref b6), .val (.ref b9), .val (.ref b9), .val (.int (2 : Int32)), .val (.ref b12), .val (.ref b14), .val (.ref b16), .val (.ref li), .val (.ref q)] [(.int (2 : Int32))]))
        refine OEnds.via (fun _ k_ => XS.iconst X69.here hx rfl (hb hby at_298) k_) ?_
        show OEnds p e below s _ _ _ (T69.setTop (mkF m 299 #[.val (.int p0), .val (.int p1), .val (.long p2), .second, .val (.long p3), .second, .val (.int p4), .val (.ref b1), .val (.ref b4), .val (.ref b6), .val (.ref b9), .val (.ref b9), .val (.int (2 : Int32)), .val (.ref b12), .val (.ref b14), .val (.ref b16), .val (.ref li), .val (.ref q)] [(.int (1 : Int32)), (.int (2 : Int32))]))
        refine OEnds.via (fun _ k_ => XS.icmpNo X69.here hx rfl (hb hby at_299) rfl (flt (by decide : ¬ ((2 : Int32) < (1 : Int32)))).1 k_) ?_
        show OEnds p e below s _ _ _ (T69.setTop (mkF m 302 #[.val (.int p0), .val (.int p1), .val (.long p2), .second, .val (.long p3), .second, .val (.int p4), .val (.ref b1), .val (.ref b4), .val (.ref b6), .val (.ref b9), .val (.ref b9), .val (.int (2 : Int32)), .val (.ref b12), .val (.ref b14), .val (.ref b16), .val (.ref li), .val (.ref q)] []))
        refine OEnds.via (fun _ k_ => XS.aload X69.here hx rfl (hb hby at_302) rfl rfl k_) ?_
        show OEnds p e below s _ _ _ (T69.setTop (mkF m 304 #[.val (.int p0), .val (.int p1), .val (.long p2), .second, .val (.long p3), .second, .val (.int p4), .val (.ref b1), .val (.ref b4), .val (.ref b6), .val (.ref b9), .val (.ref b9), .val (.int (2 : Int32)), .val (.ref b12), .val (.ref b14), .val (.ref b16), .val (.ref li), .val (.ref q)] [(.ref q)]))
        refine OEnds.via (fun _ k_ => XS.iconst X69.here hx rfl (hb hby at_304) k_) ?_
        show OEnds p e below s _ _ _ (T69.setTop (mkF m 305 #[.val (.int p0), .val (.int p1), .val (.long p2), .second, .val (.long p3), .second, .val (.int p4), .val (.ref b1), .val (.ref b4), .val (.ref b6), .val (.ref b9), .val (.ref b9), .val (.int (2 : Int32)), .val (.ref b12), .val (.ref b14), .val (.ref b16), .val (.ref li), .val (.ref q)] [(.int (0 : Int32)), (.ref q)]))
        obtain ⟨cq70, kq70, q70a, q70b, q70c⟩ := isOf hZ e69 E_q
        obtain ⟨_, _, ⟨T70, L70, k70, n70⟩, -, X70, ⟨Lc70, hQ70, l70, y70, z70⟩, st70⟩ := X69.interfaceBack hx (xi := (⟨"java/util/List", "get", "(I)Ljava/lang/Object;"⟩ : MethodName)) (y := (⟨"java/util/ImmutableCollections$List12", "get", "(I)Ljava/lang/Object;"⟩ : MethodName)) hown (mvT hZ (hw _ (List.mem_of_getElem? (i := 258) rfl))) (mvT hZ (hw _ (List.mem_of_getElem? (i := 259) rfl))) (mvT hZ (hw _ (List.mem_of_getElem? (i := 260) rfl))) (mvT hZ (hw _ (List.mem_of_getElem? (i := 261) rfl))) (mvT hZ (hw _ (List.mem_of_getElem? (i := 262) rfl))) (mvT hZ (hw _ (List.mem_of_getElem? (i := 263) rfl))) (mvT hZ (hw _ (List.mem_of_getElem? (i := 264) rfl))) (mvT hZ (hw _ (List.mem_of_getElem? (i := 256) rfl))) (by decide) (backOf (W := 0) (rmGt0 l Z a0 hw [] q b12 T54.heap n0 Od G_e0) hZ (hw _ (List.mem_of_getElem? (i := 265) rfl)) (hw _ (List.mem_of_getElem? (i := 174) rfl)) (by decide) (by decide)) q70a q70b q70c (g := (mkF m 305 #[.val (.int p0), .val (.int p1), .val (.long p2), .second, .val (.long p3), .second, .val (.int p4), .val (.ref b1), .val (.ref b4), .val (.ref b6), .val (.ref b9), .val (.ref b9), .val (.int (2 : Int32)), .val (.ref b12), .val (.ref b14), .val (.ref b16), .val (.ref li), .val (.ref q)] [(.int (0 : Int32)), (.ref q)])) rfl (by rw [hml]; rfl) (Steps.refl _) (argsL := [(.int (0 : Int32))]) (rest := []) (lenOf pd_28I29Ljava2flang2fObject3b rfl) rfl (by show 2 * 0 + _ ≤ _; exact Nat.le_of_eq rfl) (hb hby at_305) (fun _ _ => ⟨rfl, e69, Nat.le_of_ble_eq_true rfl, Nat.le_of_ble_eq_true rfl⟩)
        dsimp only [Pt.U, Pt.locs, Pt.cells, Pt.slots] at X70 l70 y70 z70 st70 hQ70
        rw [l70, y70, z70] at X70
        replace X70 : Stand p l e room_1 s m #[(.int p0), (.int p1), (.long p2), (.long p3), (.int p4)] below meth c T70 _ 30 150 := X70.more (by decide) (by decide)
        obtain ⟨rfl, N70q, e70⟩ := hQ70
        have N70 := Fr.app N69 N70q
        refine OEnds.via (fun _ k_ => st70.trans k_) ?_
        show OEnds p e below s _ _ _ (T70.setTop (mkF m 310 #[.val (.int p0), .val (.int p1), .val (.long p2), .second, .val (.long p3), .second, .val (.int p4), .val (.ref b1), .val (.ref b4), .val (.ref b6), .val (.ref b9), .val (.ref b9), .val (.int (2 : Int32)), .val (.ref b12), .val (.ref b14), .val (.ref b16), .val (.ref li), .val (.ref q)] [(.ref b12)]))
        refine OEnds.via (fun _ k_ => XS.aload X70.here hx rfl (hb hby at_310) rfl rfl k_) ?_
        show OEnds p e below s _ _ _ (T70.setTop (mkF m 312 #[.val (.int p0), .val (.int p1), .val (.long p2), .second, .val (.long p3), .second, .val (.int p4), .val (.ref b1), .val (.ref b4), .val (.ref b6), .val (.ref b9), .val (.ref b9), .val (.int (2 : Int32)), .val (.ref b12), .val (.ref b14), .val (.ref b16), .val (.ref li), .val (.ref q)] [(.ref b12), (.ref b12)]))
        refine OEnds.via (fun _ k_ => Jvm.RoadKit.acmp (g := (mkF m 312 #[.val (.int p0), .val (.int p1), .val (.long p2), .second, .val (.long p3), .second, .val (.int p4), .val (.ref b1), .val (.ref b4), .val (.ref b6), .val (.ref b9), .val (.ref b9), .val (.int (2 : Int32)), .val (.ref b12), .val (.ref b14), .val (.ref b16), .val (.ref li), .val (.ref q)] [(.ref b12), (.ref b12)])) X70 hx rfl rfl rfl (pc0 := 312) (pc' := 317) (same := true) rfl (hb hby at_312) rfl (decide_eq_true rfl) (by decide) (by decide) k_) ?_
        show OEnds p e below s _ _ _ (T70.setTop (mkF m 317 #[.val (.int p0), .val (.int p1), .val (.long p2), .second, .val (.long p3), .second, .val (.int p4), .val (.ref b1), .val (.ref b4), .val (.ref b6), .val (.ref b9), .val (.ref b9), .val (.int (2 : Int32)), .val (.ref b12), .val (.ref b14), .val (.ref b16), .val (.ref li), .val (.ref q)] []))
        refine OEnds.via (fun _ k_ => XS.iload X70.here hx rfl (hb hby at_317) rfl k_) ?_
        show OEnds p e below s _ _ _ (T70.setTop (mkF m 319 #[.val (.int p0), .val (.int p1), .val (.long p2), .second, .val (.long p3), .second, .val (.int p4), .val (.ref b1), .val (.ref b4), .val (.ref b6), .val (.ref b9), .val (.ref b9), .val (.int (2 : Int32)), .val (.ref b12), .val (.ref b14), .val (.ref b16), .val (.ref li), .val (.ref q)] [(.int (2 : Int32))]))
        refine OEnds.via (fun _ k_ => XS.iconst X70.here hx rfl (hb hby at_319) k_) ?_
        show OEnds p e below s _ _ _ (T70.setTop (mkF m 320 #[.val (.int p0), .val (.int p1), .val (.long p2), .second, .val (.long p3), .second, .val (.int p4), .val (.ref b1), .val (.ref b4), .val (.ref b6), .val (.ref b9), .val (.ref b9), .val (.int (2 : Int32)), .val (.ref b12), .val (.ref b14), .val (.ref b16), .val (.ref li), .val (.ref q)] [(.int (2 : Int32)), (.int (2 : Int32))]))
        refine OEnds.via (fun _ k_ => XS.icmpNo X70.here hx rfl (hb hby at_320) rfl (flt (by decide : ¬ ((2 : Int32) < (2 : Int32)))).1 k_) ?_
        show OEnds p e below s _ _ _ (T70.setTop (mkF m 323 #[.val (.int p0), .val (.int p1), .val (.long p2), .second, .val (.long p3), .second, .val (.int p4), .val (.ref b1), .val (.ref b4), .val (.ref b6), .val (.ref b9), .val (.ref b9), .val (.int (2 : Int32)), .val (.ref b12), .val (.ref b14), .val (.ref b16), .val (.ref li), .val (.ref q)] []))
        refine OEnds.via (fun _ k_ => XS.aload X70.here hx rfl (hb hby at_323) rfl rfl k_) ?_
        show OEnds p e below s _ _ _ (T70.setTop (mkF m 325 #[.val (.int p0), .val (.int p1), .val (.long p2), .second, .val (.long p3), .second, .val (.int p4), .val (.ref b1), .val (.ref b4), .val (.ref b6), .val (.ref b9), .val (.ref b9), .val (.int (2 : Int32)), .val (.ref b12), .val (.ref b14), .val (.ref b16), .val (.ref li), .val (.ref q)] [(.ref q)]))
        refine OEnds.via (fun _ k_ => XS.iconst X70.here hx rfl (hb hby at_325) k_) ?_
        show OEnds p e below s _ _ _ (T70.setTop (mkF m 326 #[.val (.int p0), .val (.int p1), .val (.long p2), .second, .val (.long p3), .second, .val (.int p4), .val (.ref b1), .val (.ref b4), .val (.ref b6), .val (.ref b9), .val (.ref b9), .val (.int (2 : Int32)), .val (.ref b12), .val (.ref b14), .val (.ref b16), .val (.ref li), .val (.ref q)] [(.int (1 : Int32)), (.ref q)]))
        obtain ⟨cq71, kq71, q71a, q71b, q71c⟩ := isOf hZ e70 E_q
        obtain ⟨_, _, ⟨T71, L71, k71, n71⟩, -, X71, ⟨Lc71, hQ71, l71, y71, z71⟩, st71⟩ := X70.interfaceBack hx (xi := (⟨"java/util/List", "get", "(I)Ljava/lang/Object;"⟩ : MethodName)) (y := (⟨"java/util/ImmutableCollections$List12", "get", "(I)Ljava/lang/Object;"⟩ : MethodName)) hown (mvT hZ (hw _ (List.mem_of_getElem? (i := 258) rfl))) (mvT hZ (hw _ (List.mem_of_getElem? (i := 259) rfl))) (mvT hZ (hw _ (List.mem_of_getElem? (i := 260) rfl))) (mvT hZ (hw _ (List.mem_of_getElem? (i := 261) rfl))) (mvT hZ (hw _ (List.mem_of_getElem? (i := 262) rfl))) (mvT hZ (hw _ (List.mem_of_getElem? (i := 263) rfl))) (mvT hZ (hw _ (List.mem_of_getElem? (i := 264) rfl))) (mvT hZ (hw _ (List.mem_of_getElem? (i := 256) rfl))) (by decide) (backOf (W := 0) (rmGt1 l Z a0 hw [] q em b14 T54.heap n0 Od G_e1 S_em (Ne.symm (Od.ne E_em.lt ge_b14))) hZ (hw _ (List.mem_of_getElem? (i := 265) rfl)) (hw _ (List.mem_of_getElem? (i := 174) rfl)) (by decide) (by decide)) q71a q71b q71c (g := (mkF m 326 #[.val (.int p0), .val (.int p1), .val (.long p2), .second, .val (.long p3), .second, .val (.int p4), .val (.ref b1), .val (.ref b4), .val (.ref b6), .val (.ref b9), .val (.ref b9), .val (.int (2 : Int32)), .val (.ref b12), .val (.ref b14), .val (.ref b16), .val (.ref li), .val (.ref q)] [(.int (1 : Int32)), (.ref q)])) rfl (by rw [hml]; rfl) (Steps.refl _) (argsL := [(.int (1 : Int32))]) (rest := []) (lenOf pd_28I29Ljava2flang2fObject3b rfl) rfl (by show 2 * 0 + _ ≤ _; exact Nat.le_of_eq rfl) (hb hby at_326) (fun _ _ => ⟨rfl, e70, Nat.le_of_ble_eq_true rfl, Nat.le_of_ble_eq_true rfl⟩)
        dsimp only [Pt.U, Pt.locs, Pt.cells, Pt.slots] at X71 l71 y71 z71 st71 hQ71
        rw [l71, y71, z71] at X71
        replace X71 : Stand p l e room_1 s m #[(.int p0), (.int p1), (.long p2), (.long p3), (.int p4)] below meth c T71 _ 30 150 := X71.more (by decide) (by decide)
        obtain ⟨rfl, N71q, e71⟩ := hQ71
        have N71 := Fr.app N70 N71q
        refine OEnds.via (fun _ k_ => st71.trans k_) ?_
        show OEnds p e below s _ _ _ (T71.setTop (mkF m 331 #[.val (.int p0), .val (.int p1), .val (.long p2), .second, .val (.long p3), .second, .val (.int p4), .val (.ref b1), .val (.ref b4), .val (.ref b6), .val (.ref b9), .val (.ref b9), .val (.int (2 : Int32)), .val (.ref b12), .val (.ref b14), .val (.ref b16), .val (.ref li), .val (.ref q)] [(.ref b14)]))
        refine OEnds.via (fun _ k_ => XS.aload X71.here hx rfl (hb hby at_331) rfl rfl k_) ?_
        show OEnds p e below s _ _ _ (T71.setTop (mkF m 333 #[.val (.int p0), .val (.int p1), .val (.long p2), .second, .val (.long p3), .second, .val (.int p4), .val (.ref b1), .val (.ref b4), .val (.ref b6), .val (.ref b9), .val (.ref b9), .val (.int (2 : Int32)), .val (.ref b12), .val (.ref b14), .val (.ref b16), .val (.ref li), .val (.ref q)] [(.ref b14), (.ref b14)]))
        refine OEnds.via (fun _ k_ => Jvm.RoadKit.acmp (g := (mkF m 333 #[.val (.int p0), .val (.int p1), .val (.long p2), .second, .val (.long p3), .second, .val (.int p4), .val (.ref b1), .val (.ref b4), .val (.ref b6), .val (.ref b9), .val (.ref b9), .val (.int (2 : Int32)), .val (.ref b12), .val (.ref b14), .val (.ref b16), .val (.ref li), .val (.ref q)] [(.ref b14), (.ref b14)])) X71 hx rfl rfl rfl (pc0 := 333) (pc' := 338) (same := true) rfl (hb hby at_333) rfl (decide_eq_true rfl) (by decide) (by decide) k_) ?_
        show OEnds p e below s _ _ _ (T71.setTop (mkF m 338 #[.val (.int p0), .val (.int p1), .val (.long p2), .second, .val (.long p3), .second, .val (.int p4), .val (.ref b1), .val (.ref b4), .val (.ref b6), .val (.ref b9), .val (.ref b9), .val (.int (2 : Int32)), .val (.ref b12), .val (.ref b14), .val (.ref b16), .val (.ref li), .val (.ref q)] []))
        refine OEnds.via (fun _ k_ => XS.iconst X71.here hx rfl (hb hby at_338) k_) ?_
        show OEnds p e below s _ _ _ (T71.setTop (mkF m 339 #[.val (.int p0), .val (.int p1), .val (.long p2), .second, .val (.long p3), .second, .val (.int p4), .val (.ref b1), .val (.ref b4), .val (.ref b6), .val (.ref b9), .val (.ref b9), .val (.int (2 : Int32)), .val (.ref b12), .val (.ref b14), .val (.ref b16), .val (.ref li), .val (.ref q)] [(.int (1 : Int32))]))
        refine OEnds.retN X71 hx hlk (t := .boolean) Bd.returns (by simp) (hb hby at_339) ?_ (by decide) (by decide)
        exact ⟨rfl, N71⟩
  by_cases hc82_71 : (p4 &&& (1 : Int32)) = (0 : Int32)
  · skip
    refine OEnds.via (fun _ k_ => XS.ifYes X10.here hx rfl (pc0 := 82) (pc' := 89) rfl (hb hby at_82) rfl ((if0 _ _).trans (teq hc82_71).1) (by decide) (by decide) k_) ?_
    show OEnds p e below s _ _ _ (T10.setTop (mkF m 89 #[.val (.int p0), .val (.int p1), .val (.long p2), .second, .val (.long p3), .second, .val (.int p4), .val (.ref b1), .val (.ref b4), .val (.ref b6), .val (.ref b9), .unset, .unset, .unset, .unset, .unset, .unset, .unset] []))
    refine OEnds.via (fun _ k_ => XS.aload X10.here hx rfl (hb hby at_89) rfl rfl k_) ?_
    show OEnds p e below s _ _ _ (T10.setTop (mkF m 91 #[.val (.int p0), .val (.int p1), .val (.long p2), .second, .val (.long p3), .second, .val (.int p4), .val (.ref b1), .val (.ref b4), .val (.ref b6), .val (.ref b9), .unset, .unset, .unset, .unset, .unset, .unset, .unset] [(.ref b9)]))
    exact J11 (.ref b9) rfl (Or.inr rfl)
  · skip
    refine OEnds.via (fun _ k_ => XS.ifNo X10.here hx rfl (hb hby at_82) rfl ((if0 _ _).trans (feq hc82_71).1) k_) ?_
    show OEnds p e below s _ _ _ (T10.setTop (mkF m 85 #[.val (.int p0), .val (.int p1), .val (.long p2), .second, .val (.long p3), .second, .val (.int p4), .val (.ref b1), .val (.ref b4), .val (.ref b6), .val (.ref b9), .unset, .unset, .unset, .unset, .unset, .unset, .unset] []))
    refine OEnds.via (fun _ k_ => XS.aconstNull X10.here hx rfl (hb hby at_85) k_) ?_
    show OEnds p e below s _ _ _ (T10.setTop (mkF m 86 #[.val (.int p0), .val (.int p1), .val (.long p2), .second, .val (.long p3), .second, .val (.int p4), .val (.ref b1), .val (.ref b4), .val (.ref b6), .val (.ref b9), .unset, .unset, .unset, .unset, .unset, .unset, .unset] [.null]))
    refine OEnds.via (fun _ k_ => XS.goto X10.here hx rfl (pc0 := 86) (pc' := 91) rfl (hb hby at_86) (by decide) (by decide) k_) ?_
    show OEnds p e below s _ _ _ (T10.setTop (mkF m 91 #[.val (.int p0), .val (.int p1), .val (.long p2), .second, .val (.long p3), .second, .val (.int p4), .val (.ref b1), .val (.ref b4), .val (.ref b6), .val (.ref b9), .unset, .unset, .unset, .unset, .unset, .unset, .unset] [.null]))
    exact J11 .null rfl (Or.inl rfl)
set_option maxRecDepth 65536 in
set_option maxHeartbeats 40000000 in
theorem comes_1 {Post : Tables → Env → Array Value → State → Outcome → State → Prop} (hpost : ∀ tb e args s v u, (limb_1_1.after args s (.returned v) u = true ∧ limb_1_2.after args s (.returned v) u = true ∧ True) → FrameEnd s (.returned v) u (Jvm.fieldLocs frame_1_writes args s ++ Jvm.arrayLocs frame_1_arrays args s ++ Jvm.staticLocs frame_1_statics s) 40 192 → Post tb e args s (.returned v) u) :
    ArmFor flags0 classFile x code maxLocals ret World_1 tables_1 room_1 Calls_1 rest_1 Pre_1 Post := by
  intro l hfl _ _ p e ha hc hk s m args below hf hA hF happ hP
  obtain ⟨hcalls, hrest, hpre⟩ := hP
  obtain ⟨-, -, -, hnamed, -, -, -, hat⟩ := (Spec.applies_iff hf).mp happ
  obtain ⟨hg, hn⟩ := and_e (Cond.before_iff.mp (show (Jvm.Cond.and given_1 narrow_1).before args s = true from hpre))
  obtain ⟨g1, g2⟩ := and_e hg
  obtain ⟨g3, g4⟩ := and_e g2
  obtain ⟨g5, g6⟩ := and_e g4
  obtain ⟨g7, g8⟩ := and_e g6
  obtain ⟨g9, g10⟩ := and_e g8
  obtain ⟨w0, w1, w2, w3, w4, rfl⟩ : ∃ w0 w1 w2 w3 w4 : Value, args = #[w0, w1, w2, w3, w4] := by
    have hs : args.size = 5 := by simpa [Cond.value, given_1] using g1
    obtain ⟨L⟩ := args
    match L, hs with
    | [w0, w1, w2, w3, w4], _ => exact ⟨w0, w1, w2, w3, w4, rfl⟩
  have hw := fun d (hd : d ∈ tables_1) => atoms_spec (ws := Jvm.Cond.code x code maxLocals ret :: tables_1) hat d (List.mem_cons_of_mem _ hd)
  have hfit : Fit s := fun {y c} hc i hi => by
    obtain ⟨ha, rfl⟩ := Array.getElem?_eq_some_iff.mp hc
    have q := List.all_eq_true.mp ((Array.all_eq_true_iff_forall_mem.mp hF) _ (Array.getElem_mem ha)) i (List.mem_range.mpr hi)
    simpa [Array.getElem?_eq_getElem hi] using q
  obtain ⟨hsets, hown0⟩ := atoms_of _ (rest_1_c_eq ▸ (show rest_1_c.before _ s = true from hrest))
  have hr0 := Cond.before_iff.mp hown0
  obtain ⟨i0, ei0⟩ := is_v g3
  obtain rfl : w0 = (.int i0) := Option.some.inj ei0
  obtain ⟨i1, ei1⟩ := is_v g5
  obtain rfl : w1 = (.int i1) := Option.some.inj ei1
  obtain ⟨i2, ei2⟩ := isL_v g7
  obtain rfl : w2 = (.long i2) := Option.some.inj ei2
  obtain ⟨i3, ei3⟩ := isL_v g9
  obtain rfl : w3 = (.long i3) := Option.some.inj ei3
  obtain ⟨i4, ei4⟩ := is_v g10
  obtain rfl : w4 = (.int i4) := Option.some.inj ei4
  obtain ⟨a_EMPTY_ELEMENTDATA, ev_a_EMPTY_ELEMENTDATA⟩ := arr_v (Cond.before_iff.mp (hsets _ (List.mem_of_getElem? (i := 12) rfl)))
  have S_a_EMPTY_ELEMENTDATA : Sta s s.heap "java/util/ArrayList" "EMPTY_ELEMENTDATA" "[Ljava/lang/Object;" (.ref a_EMPTY_ELEMENTDATA) := Sta.start ev_a_EMPTY_ELEMENTDATA (Or.inl (hsets _ (List.mem_of_getElem? (i := 10) rfl)))
  obtain ⟨cl_a_EMPTY_ELEMENTDATA, Ar_a_EMPTY_ELEMENTDATA⟩ := Arr.start ev_a_EMPTY_ELEMENTDATA (Cond.before_iff.mp (hsets _ (List.mem_of_getElem? (i := 12) rfl)))
  have E_a_EMPTY_ELEMENTDATA : Exa s s.heap a_EMPTY_ELEMENTDATA "[Ljava/lang/Object;" := Exa.start ev_a_EMPTY_ELEMENTDATA (Cond.before_iff.mp (hsets _ (List.mem_of_getElem? (i := 13) rfl)))
  obtain ⟨a_DEFAULTCAPACITY_EMPTY_ELEMENTDATA, ev_a_DEFAULTCAPACITY_EMPTY_ELEMENTDATA⟩ := arr_v (Cond.before_iff.mp (hsets _ (List.mem_of_getElem? (i := 15) rfl)))
  have S_a_DEFAULTCAPACITY_EMPTY_ELEMENTDATA : Sta s s.heap "java/util/ArrayList" "DEFAULTCAPACITY_EMPTY_ELEMENTDATA" "[Ljava/lang/Object;" (.ref a_DEFAULTCAPACITY_EMPTY_ELEMENTDATA) := Sta.start ev_a_DEFAULTCAPACITY_EMPTY_ELEMENTDATA (Or.inr ⟨(hw _ (List.mem_of_getElem? (i := 43) rfl)), (hsets _ (List.mem_of_getElem? (i := 11) rfl))⟩)
  obtain ⟨cl_a_DEFAULTCAPACITY_EMPTY_ELEMENTDATA, Ar_a_DEFAULTCAPACITY_EMPTY_ELEMENTDATA⟩ := Arr.start ev_a_DEFAULTCAPACITY_EMPTY_ELEMENTDATA (Cond.before_iff.mp (hsets _ (List.mem_of_getElem? (i := 15) rfl)))
  have E_a_DEFAULTCAPACITY_EMPTY_ELEMENTDATA : Exa s s.heap a_DEFAULTCAPACITY_EMPTY_ELEMENTDATA "[Ljava/lang/Object;" := Exa.start ev_a_DEFAULTCAPACITY_EMPTY_ELEMENTDATA (Cond.before_iff.mp (hsets _ (List.mem_of_getElem? (i := 16) rfl)))
  obtain ⟨a_EMPTY, ev_a_EMPTY⟩ := exa_v (Cond.before_iff.mp (hsets _ (List.mem_of_getElem? (i := 20) rfl)))
  have S_a_EMPTY : Sta s s.heap "java/util/ImmutableCollections" "EMPTY" "Ljava/lang/Object;" (.ref a_EMPTY) := Sta.start ev_a_EMPTY (Or.inl (hsets _ (List.mem_of_getElem? (i := 19) rfl)))
  have E_a_EMPTY : Exa s s.heap a_EMPTY "java/lang/Object" := Exa.start ev_a_EMPTY (Cond.before_iff.mp (hsets _ (List.mem_of_getElem? (i := 20) rfl)))
  obtain ⟨a_EMPTY_LIST, ev_a_EMPTY_LIST⟩ := exa_v (Cond.before_iff.mp (hsets _ (List.mem_of_getElem? (i := 26) rfl)))
  have S_a_EMPTY_LIST : Sta s s.heap "java/util/ImmutableCollections" "EMPTY_LIST" "Ljava/util/ImmutableCollections$ListN;" (.ref a_EMPTY_LIST) := Sta.start ev_a_EMPTY_LIST (Or.inl (hsets _ (List.mem_of_getElem? (i := 28) rfl)))
  have E_a_EMPTY_LIST : Exa s s.heap a_EMPTY_LIST "java/util/ImmutableCollections$ListN" := Exa.start ev_a_EMPTY_LIST (Cond.before_iff.mp (hsets _ (List.mem_of_getElem? (i := 26) rfl)))
  have E_a_EMPTY_LIST : Exa s s.heap a_EMPTY_LIST "java/util/ImmutableCollections$ListN" := Exa.start ev_a_EMPTY_LIST (Cond.before_iff.mp (hsets _ (List.mem_of_getElem? (i := 29) rfl)))
  obtain ⟨a_EMPTY_LIST_elements, ev_a_EMPTY_LIST_elements⟩ := arr_v (Cond.before_iff.mp (hsets _ (List.mem_of_getElem? (i := 30) rfl)))
  have F_elements_a_EMPTY_LIST : Fld s s.heap a_EMPTY_LIST "java/util/ImmutableCollections$ListN" "elements" "[Ljava/lang/Object;" (.ref a_EMPTY_LIST_elements) := Fld.start ((fld_at ev_a_EMPTY_LIST).symm.trans ev_a_EMPTY_LIST_elements)
  obtain ⟨cl_a_EMPTY_LIST_elements, Ar_a_EMPTY_LIST_elements⟩ := Arr.start ev_a_EMPTY_LIST_elements (Cond.before_iff.mp (hsets _ (List.mem_of_getElem? (i := 30) rfl)))
  have E_a_EMPTY_LIST_elements : Exa s s.heap a_EMPTY_LIST_elements "[Ljava/lang/Object;" := Exa.start ev_a_EMPTY_LIST_elements (Cond.before_iff.mp (hsets _ (List.mem_of_getElem? (i := 31) rfl)))
  obtain ⟨a_COMPACT_STRINGS, ev_a_COMPACT_STRINGS⟩ := is_v (Cond.before_iff.mp (hsets _ (List.mem_of_getElem? (i := 1) rfl)))
  have S_a_COMPACT_STRINGS : Sta s s.heap "java/lang/String" "COMPACT_STRINGS" "Z" (.int a_COMPACT_STRINGS) := Sta.start ev_a_COMPACT_STRINGS (Or.inl (hsets _ (List.mem_of_getElem? (i := 0) rfl)))
  obtain ⟨a_SIOOBE_FORMATTER, ev_a_SIOOBE_FORMATTER, rf_a_SIOOBE_FORMATTER⟩ := isR_v (Cond.before_iff.mp (hsets _ (List.mem_of_getElem? (i := 8) rfl)))
  have S_a_SIOOBE_FORMATTER : Sta s s.heap "jdk/internal/util/Preconditions" "SIOOBE_FORMATTER" "Ljava/util/function/BiFunction;" a_SIOOBE_FORMATTER := Sta.start ev_a_SIOOBE_FORMATTER (Or.inl (hsets _ (List.mem_of_getElem? (i := 7) rfl)))
  obtain ⟨L31_a_EMPTY_ELEMENTDATA, L_a_EMPTY_ELEMENTDATA⟩ := own_len (Cond.before_iff.mp (hsets _ (List.mem_of_getElem? (i := 14) rfl))) ev_a_EMPTY_ELEMENTDATA Ar_a_EMPTY_ELEMENTDATA
  obtain ⟨L31_a_DEFAULTCAPACITY_EMPTY_ELEMENTDATA, L_a_DEFAULTCAPACITY_EMPTY_ELEMENTDATA⟩ := own_len (Cond.before_iff.mp (hsets _ (List.mem_of_getElem? (i := 17) rfl))) ev_a_DEFAULTCAPACITY_EMPTY_ELEMENTDATA Ar_a_DEFAULTCAPACITY_EMPTY_ELEMENTDATA
  obtain ⟨L31_a_EMPTY_LIST_elements, L_a_EMPTY_LIST_elements⟩ := own_len (Cond.before_iff.mp (hsets _ (List.mem_of_getElem? (i := 32) rfl))) ev_a_EMPTY_LIST_elements Ar_a_EMPTY_LIST_elements
  have F_allowNulls_a_EMPTY_LIST : Fld s s.heap a_EMPTY_LIST "java/util/ImmutableCollections$ListN" "allowNulls" "Z" (.int (0 : Int32)) := Fld.start ((fld_at ev_a_EMPTY_LIST).symm.trans (own_eqint (Cond.before_iff.mp (hsets _ (List.mem_of_getElem? (i := 33) rfl)))))
  have nz_a_COMPACT_STRINGS : ¬ (a_COMPACT_STRINGS = (0 : Int32)) := gotF (Cond.eq_ints ev_a_COMPACT_STRINGS (Term.int_eval (0))) (not_v (Cond.before_iff.mp (hsets _ (List.mem_of_getElem? (i := 2) rfl))))
  obtain ⟨⟨cM, kM, mr, m1, m2, m3, m4⟩, -⟩ := hcalls
  have M : Mir s "[Ljava/lang/Object;" mr := ⟨cM, kM, m1, m2, m3, m4⟩
  have V_a_DEFAULTCAPACITY_EMPTY_ELEMENTDATA : Arv s s.heap a_DEFAULTCAPACITY_EMPTY_ELEMENTDATA cl_a_DEFAULTCAPACITY_EMPTY_ELEMENTDATA.cls (.object "java/lang/Object") (0 : Int32) [] .null := Arv.start hfit Ar_a_DEFAULTCAPACITY_EMPTY_ELEMENTDATA L31_a_DEFAULTCAPACITY_EMPTY_ELEMENTDATA L_a_DEFAULTCAPACITY_EMPTY_ELEMENTDATA (by decide) rfl trivial
  have V_a_EMPTY_LIST_elements : Arv s s.heap a_EMPTY_LIST_elements cl_a_EMPTY_LIST_elements.cls (.object "java/lang/Object") (0 : Int32) [] .null := Arv.start hfit Ar_a_EMPTY_LIST_elements L31_a_EMPTY_LIST_elements L_a_EMPTY_LIST_elements (by decide) rfl trivial
  obtain ⟨n, o, h1, h2, h3, _, L, rfl, ⟨rfl, N⟩, hq⟩ := rm0 l s _ hw tables_1 i0 i1 i2 i3 i4 a_COMPACT_STRINGS a_DEFAULTCAPACITY_EMPTY_ELEMENTDATA cl_a_DEFAULTCAPACITY_EMPTY_ELEMENTDATA.cls mr a_EMPTY a_EMPTY_LIST a_EMPTY_LIST_elements cl_a_EMPTY_LIST_elements.cls s.heap s.heap.size (Old.start s) S_a_COMPACT_STRINGS nz_a_COMPACT_STRINGS S_a_DEFAULTCAPACITY_EMPTY_ELEMENTDATA V_a_DEFAULTCAPACITY_EMPTY_ELEMENTDATA M S_a_EMPTY S_a_EMPTY_LIST E_a_EMPTY E_a_EMPTY_LIST F_elements_a_EMPTY_LIST V_a_EMPTY_LIST_elements p e ha hc hk s m _ below hf ((Spec.applies_iff_loose hf).mp happ).1 ⟨rfl, State.Warmed39.refl s, rfl⟩ trivial
  refine ⟨n, _, h1, h2, h3, hpost _ _ _ _ _ _ ⟨Cond.after_iff.mpr rfl, Cond.after_iff.mpr (eq_i res_at (Term.int_eval (1)) rfl), trivial⟩ ⟨hq.1, hq.2.1, (hq.2.2.sift fun y hy => Or.inr (N y hy)).mono (by decide) (by decide)⟩⟩
theorem main_1_1 : Claimed_1_1 := comes_1 fun _ _ _ _ _ _ h hF => ⟨h.1, hF⟩
theorem main_1_2 : Claimed_1_2 := comes_1 fun _ _ _ _ _ _ h hF => ⟨h.2.1, hF⟩
end Jvm.Pilot.@@N@@
namespace Jvm.Pilot.@@N@@
open Jvm Jvm.ClassFile Sem Op Lib Jvm.Free Jvm.Stand Jvm.Pilot.@@N@@.Jvm.D
/-! MADE BY PROGRAM (witnessworld.py) out of the Statement's table words and the real class files: 40 classes; the members and pool entries that the words name. The judged class is class 1, her method 1. -/
namespace start1
open Jvm.ClassFile
def u (s : String) : CpInfo := .utf8 (stringToUtf16 s)
/-- a pool by its gaps: so many unusable entries, then the entry; so many at the end -/
def gap : Nat → List CpInfo → List CpInfo
  | 0, r => r
  | n + 1, r => .unusable :: gap n r
def poolList (es : List (Nat × CpInfo)) (last : Nat) : List CpInfo := es.foldr (fun e r => gap e.1 (e.2 :: r)) (gap last [])
def pool (es : List (Nat × CpInfo)) (last : Nat) : Array CpInfo := ⟨poolList es last⟩
def fileOf (pool : Array CpInfo) (this : Nat) (attrs : Array Attribute := #[]) (ms : Array MethodInfo := #[]) (fl : Nat := 33) (sup : Nat := 0) (ifs : Array Nat := #[]) (fds : Array FieldInfo := #[]) : ClassFile where
  minorVersion := 0
  majorVersion := 65
  constantPool := pool
  accessFlags := fl
  thisClass := this
  superClass := sup
  interfaces := ifs
  fields := fds
  methods := ms
  attributes := attrs
def plain (name : String) (sup : Option ClassId) : Class where
  name := name
  kind := .ordinary
  loader := none
  accessFlags := 33
  super := sup
  interfaces := #[]
  cf := none
  fields := #[]
  methods := #[]
  instanceTypes := #[]
  staticTypes := #[]
  resolved := #[]
  callSites := []
  init := .initialized
  statics := none
  mirror := none

def pool0 : Array CpInfo := pool [(5, u "<init>"), (0, u "()V"), (1, .class_ 10), (1, u "java/lang/Object"), (0, u "getClass"), (0, u "()Ljava/lang/Class;")] 111

def k0c0 : Code := { maxStack := 0, maxLocals := 1, code := object_method_1_code, exceptionTable := #[], attributes := #[] }
def k0m0 : Method := { name := "<init>", desc := "()V", sig := { parameters := [], returnType := none }, accessFlags := 1, code := some k0c0 }
def k0m1 : Method := { name := "getClass", desc := "()Ljava/lang/Class;", sig := { parameters := [], returnType := some (.object "java/lang/Class") }, accessFlags := 273, code := none }
/-- java/lang/Object -/
def k0 : Class := { plain "java/lang/Object" none with
  accessFlags := 33
  interfaces := #[]
  cf := some (fileOf pool0 8 #[] #[{ accessFlags := 1, nameIndex := 5, descriptorIndex := 6, attributes := #[] }, { accessFlags := 273, nameIndex := 11, descriptorIndex := 12, attributes := #[] }] 33 0 #[] #[])
  fields := #[]
  methods := #[k0m0, k0m1]
  instanceTypes := #[]
  staticTypes := #[]
  resolved := Array.replicate 124 none
  statics := none }

def pool1 : Array CpInfo := pool [(2, .class_ 4), (0, .nameAndType 5 6), (0, u "java/lang/Object"), (0, u "<init>"), (0, u "()V"), (0, .class_ 8), (0, u "java/lang/String"), (0, .methodref 7 10), (0, .nameAndType 5 11), (0, u "([C)V"), (0, .class_ 13), (0, u "com/example/holdfast/holdfast/LockInfo$Reader"), (0, .methodref 12 15), (0, .nameAndType 5 16), (0, u "(Ljava/lang/String;J)V"), (0, .class_ 18), (0, u "java/util/ArrayList"), (0, .methodref 17 3), (0, .methodref 17 21), (0, .nameAndType 22 23), (0, u "add"), (0, u "(Ljava/lang/Object;)Z"), (0, .methodref 25 26), (0, .class_ 27), (0, .nameAndType 28 29), (0, u "com/example/holdfast/holdfast/LockInfo"), (0, u "held"), (0, u "(Ljava/lang/String;Ljava/lang/String;JJLjava/util/List;)Lcom/example/holdfast/holdfast/LockInfo;"), (0, .methodref 25 31), (0, .nameAndType 32 33), (0, u "name"), (0, u "()Ljava/lang/String;"), (0, .methodref 7 35), (0, .nameAndType 36 23), (0, u "equals"), (0, .methodref 25 38), (0, .nameAndType 28 39), (0, u "()Z"), (0, .methodref 25 41), (0, .nameAndType 42 39), (0, u "heldAlone"), (0, .methodref 25 44), (0, .nameAndType 45 33), (0, u "holder"), (0, .methodref 25 47), (0, .nameAndType 48 49), (0, u "remainingLeaseMillis"), (0, u "()J"), (0, .methodref 25 51), (0, .nameAndType 52 49), (0, u "fencingToken"), (0, .methodref 25 54), (0, .nameAndType 55 56), (0, u "readers"), (0, u "()Ljava/util/List;"), (0, .interfaceMethodref 58 59), (0, .class_ 60), (0, .nameAndType 61 62), (0, u "java/util/List"), (0, u "size"), (0, u "()I"), (0, .interfaceMethodref 58 64), (0, .nameAndType 65 66), (0, u "get"), (0, u "(I)Ljava/lang/Object;"), (0, .class_ 68), (0, u "com/example/holdfast/holdfast/LockInfoHeldPinLaw"), (2, u "law"), (0, u "(IIJJI)Z")] 7

def k1m0 : Method := { name := "<init>", desc := "()V", sig := { parameters := [], returnType := none }, accessFlags := 1, code := none }
def k1c1 : Code := { maxStack := 7, maxLocals := 18, code := code, exceptionTable := #[], attributes := #[] }
def k1m1 : Method := { name := "law", desc := "(IIJJI)Z", sig := { parameters := [.int, .int, .long, .long, .int], returnType := some .boolean }, accessFlags := 9, code := some k1c1 }
/-- com/example/holdfast/holdfast/LockInfoHeldPinLaw -/
def k1 : Class := { plain "com/example/holdfast/holdfast/LockInfoHeldPinLaw" (some 0) with
  accessFlags := 49
  interfaces := #[]
  cf := some (fileOf pool1 67 #[] #[{ accessFlags := 1, nameIndex := 5, descriptorIndex := 6, attributes := #[] }, { accessFlags := 9, nameIndex := 71, descriptorIndex := 72, attributes := #[] }] 49 2 #[] #[])
  fields := #[]
  methods := #[k1m0, k1m1]
  instanceTypes := #[]
  staticTypes := #[]
  resolved := Array.replicate 80 none
  statics := none }

def pool2 : Array CpInfo := pool [(1, .class_ 2), (0, u "java/io/Serializable"), (0, .class_ 4), (0, u "java/lang/Object")] 2

/-- java/io/Serializable -/
def k2 : Class := { plain "java/io/Serializable" (some 0) with
  accessFlags := 1537
  interfaces := #[]
  cf := some (fileOf pool2 1 #[] #[] 1537 3 #[] #[])
  fields := #[]
  methods := #[]
  instanceTypes := #[]
  staticTypes := #[]
  resolved := Array.replicate 7 none
  statics := none }

def pool3 : Array CpInfo := pool [(1, .class_ 2), (0, u "java/lang/Comparable"), (0, .class_ 4), (0, u "java/lang/Object")] 7

/-- java/lang/Comparable -/
def k3 : Class := { plain "java/lang/Comparable" (some 0) with
  accessFlags := 1537
  interfaces := #[]
  cf := some (fileOf pool3 1 #[] #[] 1537 3 #[] #[])
  fields := #[]
  methods := #[]
  instanceTypes := #[]
  staticTypes := #[]
  resolved := Array.replicate 12 none
  statics := none }

def pool4 : Array CpInfo := pool [(2, .class_ 4), (1, u "java/lang/CharSequence"), (42, .class_ 48), (0, u "java/lang/CharSequence$1CodePointIterator"), (10, .class_ 60), (0, u "java/lang/CharSequence$1CharIterator"), (5, .class_ 67), (0, u "java/lang/Object")] 63

/-- java/lang/CharSequence -/
def k4 : Class := { plain "java/lang/CharSequence" (some 0) with
  accessFlags := 1537
  interfaces := #[]
  cf := some (fileOf pool4 2 #[.nestMembers #[47, 59]] #[] 1537 66 #[] #[])
  fields := #[]
  methods := #[]
  instanceTypes := #[]
  staticTypes := #[]
  resolved := Array.replicate 131 none
  statics := none }

def pool5 : Array CpInfo := pool [(1, .class_ 2), (0, u "java/lang/constant/Constable"), (0, .class_ 4), (0, u "java/lang/Object")] 6

/-- java/lang/constant/Constable -/
def k5 : Class := { plain "java/lang/constant/Constable" (some 0) with
  accessFlags := 1537
  interfaces := #[]
  cf := some (fileOf pool5 1 #[] #[] 1537 3 #[] #[])
  fields := #[]
  methods := #[]
  instanceTypes := #[]
  staticTypes := #[]
  resolved := Array.replicate 11 none
  statics := none }

def pool6 : Array CpInfo := pool [(1, .class_ 2), (0, u "java/lang/constant/ConstantDesc"), (0, .class_ 4), (0, u "java/lang/Object")] 32

/-- java/lang/constant/ConstantDesc -/
def k6 : Class := { plain "java/lang/constant/ConstantDesc" (some 0) with
  accessFlags := 1537
  interfaces := #[]
  cf := some (fileOf pool6 1 #[] #[] 1537 3 #[] #[])
  fields := #[]
  methods := #[]
  instanceTypes := #[]
  staticTypes := #[]
  resolved := Array.replicate 37 none
  statics := none }

def pool7 : Array CpInfo := pool [(1, .methodref 2 3), (0, .class_ 4), (0, .nameAndType 5 6), (0, u "java/lang/Object"), (0, u "<init>"), (0, u "()V"), (2, .fieldref 10 11), (0, .class_ 12), (0, .nameAndType 13 14), (0, u "java/lang/String"), (0, u "value"), (0, u "[B"), (0, .fieldref 10 16), (0, .nameAndType 17 18), (0, u "coder"), (0, u "B"), (2, u "hash"), (0, u "I"), (2, u "hashIsZero"), (0, u "Z"), (0, .methodref 10 28), (0, .nameAndType 5 29), (0, u "([CIILjava/lang/Void;)V"), (8, .fieldref 10 39), (0, .nameAndType 40 26), (0, u "COMPACT_STRINGS"), (1, .class_ 44), (1, u "java/lang/StringUTF16"), (0, u "compress"), (1, .methodref 42 48), (0, .nameAndType 49 50), (0, u "coderFromArrayLen"), (0, u "([BI)B"), (126, .methodref 42 178), (0, .nameAndType 45 179), (0, u "([CII)[B"), (363, u "equals"), (29, u "(Ljava/lang/Object;)Z"), (1, .class_ 576), (0, u "java/lang/CharSequence"), (22, u "CASE_INSENSITIVE_ORDER"), (0, u "Ljava/util/Comparator;"), (409, u "([C)V"), (90, u "serialPersistentFields"), (0, u "[Ljava/io/ObjectStreamField;"), (0, .class_ 1104), (0, u "java/lang/String$CaseInsensitiveComparator"), (1, .class_ 1107), (0, u "java/io/Serializable"), (0, .class_ 1109), (0, u "java/lang/Comparable"), (0, .class_ 1111), (0, u "java/lang/constant/Constable"), (0, .class_ 1113), (0, u "java/lang/constant/ConstantDesc"), (2, u "serialVersionUID"), (0, u "J"), (3, u "REPL"), (0, u "C"), (2, u "LATIN1"), (1, u "UTF16")] 323

def k7m0 : Method := { name := "<init>", desc := "()V", sig := { parameters := [], returnType := none }, accessFlags := 1, code := none }
def k7c1 : Code := { maxStack := 5, maxLocals := 2, code := jdk_42_method_3_code, exceptionTable := #[], attributes := #[] }
def k7m1 : Method := { name := "<init>", desc := "([C)V", sig := { parameters := [(.array .char)], returnType := none }, accessFlags := 1, code := some k7c1 }
def k7c2 : Code := { maxStack := 2, maxLocals := 3, code := jdk_42_method_66_code, exceptionTable := #[], attributes := #[] }
def k7m2 : Method := { name := "equals", desc := "(Ljava/lang/Object;)Z", sig := { parameters := [(.object "java/lang/Object")], returnType := some .boolean }, accessFlags := 1, code := some k7c2 }
def k7c3 : Code := { maxStack := 4, maxLocals := 6, code := jdk_42_method_149_code, exceptionTable := #[], attributes := #[] }
def k7m3 : Method := { name := "<init>", desc := "([CIILjava/lang/Void;)V", sig := { parameters := [(.array .char), .int, .int, (.object "java/lang/Void")], returnType := none }, accessFlags := 2, code := some k7c3 }
/-- java/lang/String -/
def k7 : Class := { plain "java/lang/String" (some 0) with
  accessFlags := 49
  interfaces := #[2, 3, 4, 5, 6]
  cf := some (fileOf pool7 10 #[.nestMembers #[1103]] #[{ accessFlags := 1, nameIndex := 5, descriptorIndex := 6, attributes := #[] }, { accessFlags := 1, nameIndex := 5, descriptorIndex := 1010, attributes := #[] }, { accessFlags := 1, nameIndex := 543, descriptorIndex := 573, attributes := #[] }, { accessFlags := 2, nameIndex := 5, descriptorIndex := 29, attributes := #[] }] 49 2 #[1106, 1108, 575, 1110, 1112] #[{ accessFlags := 18, nameIndex := 13, descriptorIndex := 14, attributes := #[] }, { accessFlags := 18, nameIndex := 17, descriptorIndex := 18, attributes := #[] }, { accessFlags := 2, nameIndex := 21, descriptorIndex := 22, attributes := #[] }, { accessFlags := 2, nameIndex := 25, descriptorIndex := 26, attributes := #[] }, { accessFlags := 26, nameIndex := 1116, descriptorIndex := 1117, attributes := #[] }, { accessFlags := 24, nameIndex := 40, descriptorIndex := 26, attributes := #[] }, { accessFlags := 26, nameIndex := 1101, descriptorIndex := 1102, attributes := #[] }, { accessFlags := 26, nameIndex := 1121, descriptorIndex := 1122, attributes := #[] }, { accessFlags := 25, nameIndex := 599, descriptorIndex := 600, attributes := #[] }, { accessFlags := 24, nameIndex := 1125, descriptorIndex := 18, attributes := #[] }, { accessFlags := 24, nameIndex := 1127, descriptorIndex := 18, attributes := #[] }])
  fields := #[{ name := "value", type := (.array .byte), accessFlags := 18, slot := 0, constantValue := 0 }, { name := "coder", type := .byte, accessFlags := 18, slot := 1, constantValue := 0 }, { name := "hash", type := .int, accessFlags := 2, slot := 2, constantValue := 0 }, { name := "hashIsZero", type := .boolean, accessFlags := 2, slot := 3, constantValue := 0 }, { name := "serialVersionUID", type := .long, accessFlags := 26, slot := 0, constantValue := 0 }, { name := "COMPACT_STRINGS", type := .boolean, accessFlags := 24, slot := 1, constantValue := 0 }, { name := "serialPersistentFields", type := (.array (.object "java/io/ObjectStreamField")), accessFlags := 26, slot := 2, constantValue := 0 }, { name := "REPL", type := .char, accessFlags := 26, slot := 3, constantValue := 0 }, { name := "CASE_INSENSITIVE_ORDER", type := (.object "java/util/Comparator"), accessFlags := 25, slot := 4, constantValue := 0 }, { name := "LATIN1", type := .byte, accessFlags := 24, slot := 5, constantValue := 0 }, { name := "UTF16", type := .byte, accessFlags := 24, slot := 6, constantValue := 0 }]
  methods := #[k7m0, k7m1, k7m2, k7m3]
  instanceTypes := #[(.array .byte), .byte, .int, .boolean]
  staticTypes := #[.long, .boolean, (.array (.object "java/io/ObjectStreamField")), .char, (.object "java/util/Comparator"), .byte, .byte]
  resolved := Array.replicate 1451 none
  statics := some 0 }

def pool8 : Array CpInfo := pool [(6, .class_ 8), (1, u "java/lang/Object"), (0, u "<init>"), (0, u "()V"), (1, .class_ 14), (1, u "java/lang/StringUTF16"), (31, u "$assertionsDisabled"), (0, u "Z"), (13, u "HI_BYTE_SHIFT"), (0, u "I"), (2, u "LO_BYTE_SHIFT"), (49, .methodref 12 116), (0, .nameAndType 117 118), (0, u "compress"), (0, u "([CI[BII)I"), (3, u "([CII)[B"), (138, u "coderFromArrayLen"), (0, u "([BI)B"), (106, .class_ 371), (1, u "java/lang/StringUTF16$LinesSpliterator"), (58, u "MAX_LENGTH"), (196, .class_ 628), (0, u "java/lang/StringUTF16$CodePointsSpliterator"), (0, .class_ 630), (0, u "java/lang/StringUTF16$CharsSpliterator")] 4

def k8m0 : Method := { name := "<init>", desc := "()V", sig := { parameters := [], returnType := none }, accessFlags := 0, code := none }
def k8c1 : Code := { maxStack := 2, maxLocals := 2, code := jdk_52_method_15_code, exceptionTable := #[], attributes := #[] }
def k8m1 : Method := { name := "coderFromArrayLen", desc := "([BI)B", sig := { parameters := [(.array .byte), .int], returnType := some .byte }, accessFlags := 8, code := some k8c1 }
def k8c2 : Code := { maxStack := 5, maxLocals := 6, code := jdk_52_method_16_code, exceptionTable := #[], attributes := #[] }
def k8m2 : Method := { name := "compress", desc := "([CII)[B", sig := { parameters := [(.array .char), .int, .int], returnType := some (.array .byte) }, accessFlags := 9, code := some k8c2 }
def k8c3 : Code := { maxStack := 3, maxLocals := 7, code := jdk_52_method_21_code, exceptionTable := #[], attributes := #[] }
def k8m3 : Method := { name := "compress", desc := "([CI[BII)I", sig := { parameters := [(.array .char), .int, (.array .byte), .int, .int], returnType := some .int }, accessFlags := 9, code := some k8c3 }
/-- java/lang/StringUTF16 -/
def k8 : Class := { plain "java/lang/StringUTF16" (some 0) with
  accessFlags := 48
  interfaces := #[]
  cf := some (fileOf pool8 12 #[.nestMembers #[627, 629, 369]] #[{ accessFlags := 0, nameIndex := 9, descriptorIndex := 10, attributes := #[] }, { accessFlags := 8, nameIndex := 261, descriptorIndex := 262, attributes := #[] }, { accessFlags := 9, nameIndex := 117, descriptorIndex := 122, attributes := #[] }, { accessFlags := 9, nameIndex := 117, descriptorIndex := 118, attributes := #[] }] 48 6 #[] #[{ accessFlags := 26, nameIndex := 61, descriptorIndex := 62, attributes := #[] }, { accessFlags := 26, nameIndex := 65, descriptorIndex := 62, attributes := #[] }, { accessFlags := 24, nameIndex := 430, descriptorIndex := 62, attributes := #[] }, { accessFlags := 4120, nameIndex := 46, descriptorIndex := 47, attributes := #[] }])
  fields := #[{ name := "HI_BYTE_SHIFT", type := .int, accessFlags := 26, slot := 0, constantValue := 0 }, { name := "LO_BYTE_SHIFT", type := .int, accessFlags := 26, slot := 1, constantValue := 0 }, { name := "MAX_LENGTH", type := .int, accessFlags := 24, slot := 2, constantValue := 0 }, { name := "$assertionsDisabled", type := .boolean, accessFlags := 4120, slot := 3, constantValue := 0 }]
  methods := #[k8m0, k8m1, k8m2, k8m3]
  instanceTypes := #[]
  staticTypes := #[.int, .int, .int, .boolean]
  resolved := Array.replicate 635 none
  statics := none }

def pool9 : Array CpInfo := pool [(1, .methodref 2 3), (0, .class_ 4), (0, .nameAndType 5 6), (0, u "java/lang/Object"), (0, u "<init>"), (0, u "()V"), (0, .fieldref 8 9), (0, .class_ 10), (0, .nameAndType 11 12), (0, u "com/example/holdfast/holdfast/LockInfo$Reader"), (0, u "holder"), (0, u "Ljava/lang/String;"), (0, .fieldref 8 14), (0, .nameAndType 15 16), (0, u "remainingLeaseMillis"), (0, u "J"), (0, u "(Ljava/lang/String;J)V"), (7, .class_ 26), (0, u "com/example/holdfast/holdfast/LockInfo")] 2

def k9c0 : Code := { maxStack := 3, maxLocals := 4, code := prog_11_method_1_code, exceptionTable := #[], attributes := #[] }
def k9m0 : Method := { name := "<init>", desc := "(Ljava/lang/String;J)V", sig := { parameters := [(.object "java/lang/String"), .long], returnType := none }, accessFlags := 0, code := some k9c0 }
/-- com/example/holdfast/holdfast/LockInfo$Reader -/
def k9 : Class := { plain "com/example/holdfast/holdfast/LockInfo$Reader" (some 0) with
  accessFlags := 49
  interfaces := #[]
  cf := some (fileOf pool9 8 #[.nestHost 25] #[{ accessFlags := 0, nameIndex := 5, descriptorIndex := 17, attributes := #[] }] 49 2 #[] #[{ accessFlags := 18, nameIndex := 11, descriptorIndex := 12, attributes := #[] }, { accessFlags := 18, nameIndex := 15, descriptorIndex := 16, attributes := #[] }])
  fields := #[{ name := "holder", type := (.object "java/lang/String"), accessFlags := 18, slot := 0, constantValue := 0 }, { name := "remainingLeaseMillis", type := .long, accessFlags := 18, slot := 1, constantValue := 0 }]
  methods := #[k9m0]
  instanceTypes := #[(.object "java/lang/String"), .long]
  staticTypes := #[]
  resolved := Array.replicate 29 none
  statics := none }

def pool10 : Array CpInfo := pool [(8, .class_ 10), (1, u "java/lang/Iterable"), (24, .class_ 36), (0, u "java/lang/Object")] 25

/-- java/lang/Iterable -/
def k10 : Class := { plain "java/lang/Iterable" (some 0) with
  accessFlags := 1537
  interfaces := #[]
  cf := some (fileOf pool10 8 #[] #[] 1537 35 #[] #[])
  fields := #[]
  methods := #[]
  instanceTypes := #[]
  staticTypes := #[]
  resolved := Array.replicate 62 none
  statics := none }

def pool11 : Array CpInfo := pool [(10, .class_ 12), (1, u "java/util/Collection"), (0, u "toArray"), (16, u "()Z"), (29, .class_ 61), (0, u "java/lang/Object"), (0, .class_ 63), (0, u "java/lang/Iterable"), (2, u "isEmpty"), (3, u "()[Ljava/lang/Object;")] 44

def k11m0 : Method := { name := "isEmpty", desc := "()Z", sig := { parameters := [], returnType := some .boolean }, accessFlags := 1025, code := none }
def k11m1 : Method := { name := "toArray", desc := "()[Ljava/lang/Object;", sig := { parameters := [], returnType := some (.array (.object "java/lang/Object")) }, accessFlags := 1025, code := none }
/-- java/util/Collection -/
def k11 : Class := { plain "java/util/Collection" (some 0) with
  accessFlags := 1537
  interfaces := #[10]
  cf := some (fileOf pool11 10 #[] #[{ accessFlags := 1025, nameIndex := 66, descriptorIndex := 30, attributes := #[] }, { accessFlags := 1025, nameIndex := 13, descriptorIndex := 70, attributes := #[] }] 1537 60 #[62] #[])
  fields := #[]
  methods := #[k11m0, k11m1]
  instanceTypes := #[]
  staticTypes := #[]
  resolved := Array.replicate 115 none
  statics := none }

def pool12 : Array CpInfo := pool [(1, .methodref 2 3), (0, .class_ 4), (0, .nameAndType 5 6), (0, u "java/lang/Object"), (0, u "<init>"), (0, u "()V"), (1, .class_ 10), (1, u "java/util/AbstractCollection"), (66, .class_ 78), (0, u "java/util/Collection")] 81

def k12c0 : Code := { maxStack := 1, maxLocals := 1, code := jdk_22_method_1_code, exceptionTable := #[], attributes := #[] }
def k12m0 : Method := { name := "<init>", desc := "()V", sig := { parameters := [], returnType := none }, accessFlags := 4, code := some k12c0 }
/-- java/util/AbstractCollection -/
def k12 : Class := { plain "java/util/AbstractCollection" (some 0) with
  accessFlags := 1057
  interfaces := #[11]
  cf := some (fileOf pool12 8 #[] #[{ accessFlags := 4, nameIndex := 5, descriptorIndex := 6, attributes := #[] }] 1057 2 #[77] #[])
  fields := #[]
  methods := #[k12m0]
  instanceTypes := #[]
  staticTypes := #[]
  resolved := Array.replicate 160 none
  statics := none }

def pool13 : Array CpInfo := pool [(8, .class_ 10), (1, u "java/util/SequencedCollection"), (15, .class_ 27), (0, u "java/lang/Object"), (0, .class_ 29), (0, u "java/util/Collection")] 27

/-- java/util/SequencedCollection -/
def k13 : Class := { plain "java/util/SequencedCollection" (some 0) with
  accessFlags := 1537
  interfaces := #[11]
  cf := some (fileOf pool13 8 #[] #[] 1537 26 #[28] #[])
  fields := #[]
  methods := #[]
  instanceTypes := #[]
  staticTypes := #[]
  resolved := Array.replicate 57 none
  statics := none }

def pool14 : Array CpInfo := pool [(8, .class_ 10), (1, u "java/util/List"), (20, u "(Ljava/lang/Object;)V"), (16, u "<init>"), (26, u "get"), (0, u "(I)Ljava/lang/Object;"), (2, u "size"), (0, u "()I"), (7, u "of"), (1, .fieldref 91 92), (0, .class_ 93), (0, .nameAndType 94 95), (0, u "java/util/ImmutableCollections"), (0, u "EMPTY_LIST"), (0, u "Ljava/util/ImmutableCollections$ListN;"), (0, .class_ 97), (0, u "java/util/ImmutableCollections$List12"), (0, .methodref 96 99), (0, .nameAndType 48 31), (0, .methodref 96 101), (0, .nameAndType 48 102), (0, u "(Ljava/lang/Object;Ljava/lang/Object;)V"), (0, .class_ 104), (0, u "java/lang/Object"), (3, u "([Ljava/lang/Object;)Ljava/util/List;"), (3, .methodref 91 113), (0, .nameAndType 114 115), (0, u "listCopy"), (0, u "(Ljava/util/Collection;)Ljava/util/List;"), (3, u "()Ljava/util/List;"), (0, .class_ 121), (0, u "java/util/SequencedCollection"), (112, u "copyOf")] 16

def k14m0 : Method := { name := "size", desc := "()I", sig := { parameters := [], returnType := some .int }, accessFlags := 1025, code := none }
def k14m1 : Method := { name := "get", desc := "(I)Ljava/lang/Object;", sig := { parameters := [.int], returnType := some (.object "java/lang/Object") }, accessFlags := 1025, code := none }
def k14c2 : Code := { maxStack := 1, maxLocals := 0, code := jdk_40_method_36_code, exceptionTable := #[], attributes := #[] }
def k14m2 : Method := { name := "of", desc := "()Ljava/util/List;", sig := { parameters := [], returnType := some (.object "java/util/List") }, accessFlags := 9, code := some k14c2 }
def k14c3 : Code := { maxStack := 5, maxLocals := 2, code := jdk_40_method_47_code, exceptionTable := #[], attributes := #[] }
def k14m3 : Method := { name := "of", desc := "([Ljava/lang/Object;)Ljava/util/List;", sig := { parameters := [(.array (.object "java/lang/Object"))], returnType := some (.object "java/util/List") }, accessFlags := 137, code := some k14c3 }
def k14c4 : Code := { maxStack := 1, maxLocals := 1, code := jdk_40_method_48_code, exceptionTable := #[], attributes := #[] }
def k14m4 : Method := { name := "copyOf", desc := "(Ljava/util/Collection;)Ljava/util/List;", sig := { parameters := [(.object "java/util/Collection")], returnType := some (.object "java/util/List") }, accessFlags := 9, code := some k14c4 }
/-- java/util/List -/
def k14 : Class := { plain "java/util/List" (some 0) with
  accessFlags := 1537
  interfaces := #[13]
  cf := some (fileOf pool14 8 #[] #[{ accessFlags := 1025, nameIndex := 79, descriptorIndex := 80, attributes := #[] }, { accessFlags := 1025, nameIndex := 75, descriptorIndex := 76, attributes := #[] }, { accessFlags := 9, nameIndex := 88, descriptorIndex := 119, attributes := #[] }, { accessFlags := 137, nameIndex := 88, descriptorIndex := 108, attributes := #[] }, { accessFlags := 9, nameIndex := 234, descriptorIndex := 115, attributes := #[] }] 1537 103 #[120] #[])
  fields := #[]
  methods := #[k14m0, k14m1, k14m2, k14m3, k14m4]
  instanceTypes := #[]
  staticTypes := #[]
  resolved := Array.replicate 251 none
  statics := none }

def pool15 : Array CpInfo := pool [(1, .methodref 2 3), (0, .class_ 4), (0, .nameAndType 5 6), (0, u "java/util/AbstractCollection"), (0, u "<init>"), (0, u "()V"), (0, .fieldref 8 9), (0, .class_ 10), (0, .nameAndType 11 12), (0, u "java/util/AbstractList"), (0, u "modCount"), (0, u "I"), (64, .class_ 78), (0, u "java/util/AbstractList$Itr"), (3, .class_ 83), (0, u "java/util/AbstractList$ListItr"), (9, .class_ 94), (0, u "java/util/AbstractList$RandomAccessSubList"), (3, .class_ 99), (0, u "java/util/AbstractList$SubList"), (33, .class_ 134), (0, u "java/util/List"), (73, .class_ 209), (0, u "java/util/AbstractList$SubList$1"), (0, .class_ 211), (0, u "java/util/AbstractList$RandomAccessSpliterator")] 6

def k15c0 : Code := { maxStack := 2, maxLocals := 1, code := jdk_39_method_1_code, exceptionTable := #[], attributes := #[] }
def k15m0 : Method := { name := "<init>", desc := "()V", sig := { parameters := [], returnType := none }, accessFlags := 4, code := some k15c0 }
/-- java/util/AbstractList -/
def k15 : Class := { plain "java/util/AbstractList" (some 12) with
  accessFlags := 1057
  interfaces := #[14]
  cf := some (fileOf pool15 8 #[.nestMembers #[93, 98, 208, 210, 82, 77]] #[{ accessFlags := 4, nameIndex := 5, descriptorIndex := 6, attributes := #[] }] 1057 2 #[133] #[{ accessFlags := 132, nameIndex := 11, descriptorIndex := 12, attributes := #[] }])
  fields := #[{ name := "modCount", type := .int, accessFlags := 132, slot := 0, constantValue := 0 }]
  methods := #[k15m0]
  instanceTypes := #[.int]
  staticTypes := #[]
  resolved := Array.replicate 218 none
  statics := none }

def pool16 : Array CpInfo := pool [(1, .class_ 2), (0, u "java/util/RandomAccess"), (0, .class_ 4), (0, u "java/lang/Object")] 2

/-- java/util/RandomAccess -/
def k16 : Class := { plain "java/util/RandomAccess" (some 0) with
  accessFlags := 1537
  interfaces := #[]
  cf := some (fileOf pool16 1 #[] #[] 1537 3 #[] #[])
  fields := #[]
  methods := #[]
  instanceTypes := #[]
  staticTypes := #[]
  resolved := Array.replicate 7 none
  statics := none }

def pool17 : Array CpInfo := pool [(1, .class_ 2), (0, u "java/lang/Cloneable"), (0, .class_ 4), (0, u "java/lang/Object")] 2

/-- java/lang/Cloneable -/
def k17 : Class := { plain "java/lang/Cloneable" (some 0) with
  accessFlags := 1537
  interfaces := #[]
  cf := some (fileOf pool17 1 #[] #[] 1537 3 #[] #[])
  fields := #[]
  methods := #[]
  instanceTypes := #[]
  staticTypes := #[]
  resolved := Array.replicate 7 none
  statics := none }

def pool18 : Array CpInfo := pool [(1, .methodref 2 3), (0, .class_ 4), (0, .nameAndType 5 6), (0, u "java/util/AbstractList"), (0, u "<init>"), (0, u "()V"), (0, .class_ 8), (0, u "java/lang/Object"), (0, .fieldref 10 11), (0, .class_ 12), (0, .nameAndType 13 14), (0, u "java/util/ArrayList"), (0, u "elementData"), (0, u "[Ljava/lang/Object;"), (2, u "EMPTY_ELEMENTDATA"), (21, .fieldref 10 40), (0, .nameAndType 41 14), (0, u "DEFAULTCAPACITY_EMPTY_ELEMENTDATA"), (4, u "toArray"), (0, u "()[Ljava/lang/Object;"), (0, .fieldref 10 49), (0, .nameAndType 50 51), (0, u "size"), (0, u "I"), (6, .class_ 60), (1, u "java/util/Arrays"), (0, u "copyOf"), (1, .fieldref 10 64), (0, .nameAndType 65 51), (0, u "modCount"), (0, .methodref 58 67), (0, .nameAndType 61 68), (0, u "([Ljava/lang/Object;I)[Ljava/lang/Object;"), (0, .methodref 10 70), (0, .nameAndType 71 72), (0, u "grow"), (0, u "(I)[Ljava/lang/Object;"), (6, .methodref 80 81), (0, .class_ 82), (0, .nameAndType 83 84), (0, u "java/lang/Math"), (0, u "max"), (0, u "(II)I"), (11, u "(Ljava/lang/Object;)Z"), (32, .methodref 10 130), (0, .nameAndType 71 47), (0, .methodref 10 132), (0, .nameAndType 133 134), (0, u "add"), (0, u "(Ljava/lang/Object;[Ljava/lang/Object;I)V"), (13, .class_ 149), (0, u "java/util/List"), (23, u "()Z"), (88, .class_ 263), (0, u "java/util/ArrayList$ListItr"), (3, .class_ 268), (0, u "java/util/ArrayList$Itr"), (7, .class_ 277), (0, u "java/util/ArrayList$SubList"), (12, .class_ 291), (0, u "java/util/ArrayList$ArrayListSpliterator"), (37, .class_ 330), (0, u "java/util/RandomAccess"), (0, .class_ 332), (0, u "java/lang/Cloneable"), (0, .class_ 334), (0, u "java/io/Serializable"), (0, u "serialVersionUID"), (0, u "J"), (3, u "DEFAULT_CAPACITY"), (22, u "isEmpty"), (136, .class_ 501), (0, u "java/util/ArrayList$SubList$2"), (0, .class_ 503), (0, u "java/util/ArrayList$SubList$1")] 5

def k18c0 : Code := { maxStack := 2, maxLocals := 1, code := jdk_38_method_2_code, exceptionTable := #[], attributes := #[] }
def k18m0 : Method := { name := "<init>", desc := "()V", sig := { parameters := [], returnType := none }, accessFlags := 1, code := some k18c0 }
def k18c1 : Code := { maxStack := 4, maxLocals := 4, code := jdk_38_method_6_code, exceptionTable := #[], attributes := #[] }
def k18m1 : Method := { name := "grow", desc := "(I)[Ljava/lang/Object;", sig := { parameters := [.int], returnType := some (.array (.object "java/lang/Object")) }, accessFlags := 2, code := some k18c1 }
def k18c2 : Code := { maxStack := 3, maxLocals := 1, code := jdk_38_method_7_code, exceptionTable := #[], attributes := #[] }
def k18m2 : Method := { name := "grow", desc := "()[Ljava/lang/Object;", sig := { parameters := [], returnType := some (.array (.object "java/lang/Object")) }, accessFlags := 2, code := some k18c2 }
def k18c3 : Code := { maxStack := 1, maxLocals := 1, code := jdk_38_method_9_code, exceptionTable := #[], attributes := #[] }
def k18m3 : Method := { name := "isEmpty", desc := "()Z", sig := { parameters := [], returnType := some .boolean }, accessFlags := 1, code := some k18c3 }
def k18c4 : Code := { maxStack := 2, maxLocals := 1, code := jdk_38_method_16_code, exceptionTable := #[], attributes := #[] }
def k18m4 : Method := { name := "toArray", desc := "()[Ljava/lang/Object;", sig := { parameters := [], returnType := some (.array (.object "java/lang/Object")) }, accessFlags := 1, code := some k18c4 }
def k18c5 : Code := { maxStack := 3, maxLocals := 4, code := jdk_38_method_24_code, exceptionTable := #[], attributes := #[] }
def k18m5 : Method := { name := "add", desc := "(Ljava/lang/Object;[Ljava/lang/Object;I)V", sig := { parameters := [(.object "java/lang/Object"), (.array (.object "java/lang/Object")), .int], returnType := none }, accessFlags := 2, code := some k18c5 }
def k18c6 : Code := { maxStack := 4, maxLocals := 2, code := jdk_38_method_25_code, exceptionTable := #[], attributes := #[] }
def k18m6 : Method := { name := "add", desc := "(Ljava/lang/Object;)Z", sig := { parameters := [(.object "java/lang/Object")], returnType := some .boolean }, accessFlags := 1, code := some k18c6 }
/-- java/util/ArrayList -/
def k18 : Class := { plain "java/util/ArrayList" (some 15) with
  accessFlags := 33
  interfaces := #[14, 16, 17, 2]
  cf := some (fileOf pool18 10 #[.nestMembers #[290, 276, 500, 502, 262, 267]] #[{ accessFlags := 1, nameIndex := 5, descriptorIndex := 6, attributes := #[] }, { accessFlags := 2, nameIndex := 71, descriptorIndex := 72, attributes := #[] }, { accessFlags := 2, nameIndex := 71, descriptorIndex := 47, attributes := #[] }, { accessFlags := 1, nameIndex := 363, descriptorIndex := 173, attributes := #[] }, { accessFlags := 1, nameIndex := 46, descriptorIndex := 47, attributes := #[] }, { accessFlags := 2, nameIndex := 133, descriptorIndex := 134, attributes := #[] }, { accessFlags := 1, nameIndex := 133, descriptorIndex := 96, attributes := #[] }] 33 2 #[148, 329, 331, 333] #[{ accessFlags := 26, nameIndex := 335, descriptorIndex := 336, attributes := #[] }, { accessFlags := 26, nameIndex := 340, descriptorIndex := 51, attributes := #[] }, { accessFlags := 26, nameIndex := 17, descriptorIndex := 14, attributes := #[] }, { accessFlags := 26, nameIndex := 41, descriptorIndex := 14, attributes := #[] }, { accessFlags := 128, nameIndex := 13, descriptorIndex := 14, attributes := #[] }, { accessFlags := 2, nameIndex := 50, descriptorIndex := 51, attributes := #[] }])
  fields := #[{ name := "serialVersionUID", type := .long, accessFlags := 26, slot := 0, constantValue := 0 }, { name := "DEFAULT_CAPACITY", type := .int, accessFlags := 26, slot := 1, constantValue := 0 }, { name := "EMPTY_ELEMENTDATA", type := (.array (.object "java/lang/Object")), accessFlags := 26, slot := 2, constantValue := 0 }, { name := "DEFAULTCAPACITY_EMPTY_ELEMENTDATA", type := (.array (.object "java/lang/Object")), accessFlags := 26, slot := 3, constantValue := 0 }, { name := "elementData", type := (.array (.object "java/lang/Object")), accessFlags := 128, slot := 1, constantValue := 0 }, { name := "size", type := .int, accessFlags := 2, slot := 2, constantValue := 0 }]
  methods := #[k18m0, k18m1, k18m2, k18m3, k18m4, k18m5, k18m6]
  instanceTypes := #[.int, (.array (.object "java/lang/Object")), .int]
  staticTypes := #[.long, .int, (.array (.object "java/lang/Object")), (.array (.object "java/lang/Object"))]
  resolved := Array.replicate 509 none
  statics := some 1 }

def pool19 : Array CpInfo := pool [(1, .class_ 2), (0, u "java/lang/Math"), (1, .class_ 6), (1, u "java/lang/Object"), (0, u "<init>"), (0, u "()V"), (89, .class_ 100), (1, u "java/lang/Math$RandomNumberGeneratorHolder"), (71, u "negativeZeroFloatBits"), (0, u "J"), (2, u "negativeZeroDoubleBits"), (21, u "max"), (2, u "min"), (43, u "$assertionsDisabled"), (0, u "Z"), (88, u "(II)I"), (2, u "twoToTheDoubleScaleDown"), (0, u "D"), (4, u "twoToTheDoubleScaleUp"), (9, u "E"), (3, u "PI"), (2, u "TAU"), (2, u "DEGREES_TO_RADIANS"), (0, u "RADIANS_TO_DEGREES")] 94

def k19m0 : Method := { name := "<init>", desc := "()V", sig := { parameters := [], returnType := none }, accessFlags := 2, code := none }
def k19c1 : Code := { maxStack := 2, maxLocals := 2, code := jdk_29_method_65_code, exceptionTable := #[], attributes := #[] }
def k19m1 : Method := { name := "max", desc := "(II)I", sig := { parameters := [.int, .int], returnType := some .int }, accessFlags := 9, code := some k19c1 }
def k19c2 : Code := { maxStack := 2, maxLocals := 2, code := jdk_29_method_69_code, exceptionTable := #[], attributes := #[] }
def k19m2 : Method := { name := "min", desc := "(II)I", sig := { parameters := [.int, .int], returnType := some .int }, accessFlags := 9, code := some k19c2 }
/-- java/lang/Math -/
def k19 : Class := { plain "java/lang/Math" (some 0) with
  accessFlags := 49
  interfaces := #[]
  cf := some (fileOf pool19 1 #[.nestMembers #[98]] #[{ accessFlags := 2, nameIndex := 7, descriptorIndex := 8, attributes := #[] }, { accessFlags := 9, nameIndex := 198, descriptorIndex := 335, attributes := #[] }, { accessFlags := 9, nameIndex := 201, descriptorIndex := 335, attributes := #[] }] 49 4 #[] #[{ accessFlags := 25, nameIndex := 354, descriptorIndex := 339, attributes := #[] }, { accessFlags := 25, nameIndex := 358, descriptorIndex := 339, attributes := #[] }, { accessFlags := 25, nameIndex := 361, descriptorIndex := 339, attributes := #[] }, { accessFlags := 26, nameIndex := 364, descriptorIndex := 339, attributes := #[] }, { accessFlags := 26, nameIndex := 365, descriptorIndex := 339, attributes := #[] }, { accessFlags := 26, nameIndex := 172, descriptorIndex := 173, attributes := #[] }, { accessFlags := 26, nameIndex := 176, descriptorIndex := 173, attributes := #[] }, { accessFlags := 8, nameIndex := 344, descriptorIndex := 339, attributes := #[] }, { accessFlags := 8, nameIndex := 338, descriptorIndex := 339, attributes := #[] }, { accessFlags := 4120, nameIndex := 245, descriptorIndex := 246, attributes := #[] }])
  fields := #[{ name := "E", type := .double, accessFlags := 25, slot := 0, constantValue := 0 }, { name := "PI", type := .double, accessFlags := 25, slot := 1, constantValue := 0 }, { name := "TAU", type := .double, accessFlags := 25, slot := 2, constantValue := 0 }, { name := "DEGREES_TO_RADIANS", type := .double, accessFlags := 26, slot := 3, constantValue := 0 }, { name := "RADIANS_TO_DEGREES", type := .double, accessFlags := 26, slot := 4, constantValue := 0 }, { name := "negativeZeroFloatBits", type := .long, accessFlags := 26, slot := 5, constantValue := 0 }, { name := "negativeZeroDoubleBits", type := .long, accessFlags := 26, slot := 6, constantValue := 0 }, { name := "twoToTheDoubleScaleUp", type := .double, accessFlags := 8, slot := 7, constantValue := 0 }, { name := "twoToTheDoubleScaleDown", type := .double, accessFlags := 8, slot := 8, constantValue := 0 }, { name := "$assertionsDisabled", type := .boolean, accessFlags := 4120, slot := 9, constantValue := 0 }]
  methods := #[k19m0, k19m1, k19m2]
  instanceTypes := #[]
  staticTypes := #[.double, .double, .double, .double, .double, .long, .long, .double, .double, .boolean]
  resolved := Array.replicate 460 none
  statics := none }

def pool20 : Array CpInfo := pool [(1, .methodref 2 3), (0, .class_ 4), (0, .nameAndType 5 6), (0, u "java/lang/Object"), (0, u "<init>"), (0, u "()V"), (0, .fieldref 8 9), (0, .class_ 10), (0, .nameAndType 11 12), (0, u "com/example/holdfast/holdfast/LockInfo"), (0, u "name"), (0, u "Ljava/lang/String;"), (0, .fieldref 8 14), (0, .nameAndType 15 16), (0, u "held"), (0, u "Z"), (0, .fieldref 8 18), (0, .nameAndType 19 12), (0, u "holder"), (0, .fieldref 8 21), (0, .nameAndType 22 23), (0, u "remainingLeaseMillis"), (0, u "J"), (0, .fieldref 8 25), (0, .nameAndType 26 23), (0, u "fencingToken"), (0, .interfaceMethodref 28 29), (0, .class_ 30), (0, .nameAndType 31 32), (0, u "java/util/List"), (0, u "copyOf"), (0, u "(Ljava/util/Collection;)Ljava/util/List;"), (0, .fieldref 8 34), (0, .nameAndType 35 36), (0, u "readers"), (0, u "Ljava/util/List;"), (5, u "()Ljava/util/List;"), (0, .methodref 8 44), (0, .nameAndType 5 45), (0, u "(Ljava/lang/String;ZLjava/lang/String;JJLjava/util/List;)V"), (2, u "(Ljava/lang/String;Ljava/lang/String;JJLjava/util/List;)Lcom/example/holdfast/holdfast/LockInfo;"), (0, .methodref 8 50), (0, .nameAndType 51 6), (0, u "checkHeldAlone"), (0, .methodref 8 53), (0, .nameAndType 54 55), (0, u "heldAlone"), (0, u "()Z"), (22, u "()Ljava/lang/String;"), (1, u "()J"), (6, .class_ 88), (0, u "com/example/holdfast/holdfast/LockInfo$Reader")] 16

def k20c0 : Code := { maxStack := 3, maxLocals := 9, code := prog_10_method_1_code, exceptionTable := #[], attributes := #[] }
def k20m0 : Method := { name := "<init>", desc := "(Ljava/lang/String;ZLjava/lang/String;JJLjava/util/List;)V", sig := { parameters := [(.object "java/lang/String"), .boolean, (.object "java/lang/String"), .long, .long, (.object "java/util/List")], returnType := none }, accessFlags := 2, code := some k20c0 }
def k20c1 : Code := { maxStack := 10, maxLocals := 7, code := prog_10_method_4_code, exceptionTable := #[], attributes := #[] }
def k20m1 : Method := { name := "held", desc := "(Ljava/lang/String;Ljava/lang/String;JJLjava/util/List;)Lcom/example/holdfast/holdfast/LockInfo;", sig := { parameters := [(.object "java/lang/String"), (.object "java/lang/String"), .long, .long, (.object "java/util/List")], returnType := some (.object "com/example/holdfast/holdfast/LockInfo") }, accessFlags := 8, code := some k20c1 }
def k20c2 : Code := { maxStack := 1, maxLocals := 1, code := prog_10_method_5_code, exceptionTable := #[], attributes := #[] }
def k20m2 : Method := { name := "name", desc := "()Ljava/lang/String;", sig := { parameters := [], returnType := some (.object "java/lang/String") }, accessFlags := 1, code := some k20c2 }
def k20c3 : Code := { maxStack := 1, maxLocals := 1, code := prog_10_method_6_code, exceptionTable := #[], attributes := #[] }
def k20m3 : Method := { name := "held", desc := "()Z", sig := { parameters := [], returnType := some .boolean }, accessFlags := 1, code := some k20c3 }
def k20c4 : Code := { maxStack := 1, maxLocals := 1, code := prog_10_method_7_code, exceptionTable := #[], attributes := #[] }
def k20m4 : Method := { name := "heldAlone", desc := "()Z", sig := { parameters := [], returnType := some .boolean }, accessFlags := 1, code := some k20c4 }
def k20c5 : Code := { maxStack := 1, maxLocals := 1, code := prog_10_method_8_code, exceptionTable := #[], attributes := #[] }
def k20m5 : Method := { name := "holder", desc := "()Ljava/lang/String;", sig := { parameters := [], returnType := some (.object "java/lang/String") }, accessFlags := 1, code := some k20c5 }
def k20c6 : Code := { maxStack := 2, maxLocals := 1, code := prog_10_method_9_code, exceptionTable := #[], attributes := #[] }
def k20m6 : Method := { name := "remainingLeaseMillis", desc := "()J", sig := { parameters := [], returnType := some .long }, accessFlags := 1, code := some k20c6 }
def k20c7 : Code := { maxStack := 2, maxLocals := 1, code := prog_10_method_10_code, exceptionTable := #[], attributes := #[] }
def k20m7 : Method := { name := "fencingToken", desc := "()J", sig := { parameters := [], returnType := some .long }, accessFlags := 1, code := some k20c7 }
def k20c8 : Code := { maxStack := 1, maxLocals := 1, code := prog_10_method_11_code, exceptionTable := #[], attributes := #[] }
def k20m8 : Method := { name := "readers", desc := "()Ljava/util/List;", sig := { parameters := [], returnType := some (.object "java/util/List") }, accessFlags := 1, code := some k20c8 }
def k20c9 : Code := { maxStack := 4, maxLocals := 1, code := prog_10_method_12_code, exceptionTable := #[], attributes := #[] }
def k20m9 : Method := { name := "checkHeldAlone", desc := "()V", sig := { parameters := [], returnType := none }, accessFlags := 2, code := some k20c9 }
/-- com/example/holdfast/holdfast/LockInfo -/
def k20 : Class := { plain "com/example/holdfast/holdfast/LockInfo" (some 0) with
  accessFlags := 49
  interfaces := #[]
  cf := some (fileOf pool20 8 #[.nestMembers #[87]] #[{ accessFlags := 2, nameIndex := 5, descriptorIndex := 45, attributes := #[] }, { accessFlags := 8, nameIndex := 15, descriptorIndex := 48, attributes := #[] }, { accessFlags := 1, nameIndex := 11, descriptorIndex := 78, attributes := #[] }, { accessFlags := 1, nameIndex := 15, descriptorIndex := 55, attributes := #[] }, { accessFlags := 1, nameIndex := 54, descriptorIndex := 55, attributes := #[] }, { accessFlags := 1, nameIndex := 19, descriptorIndex := 78, attributes := #[] }, { accessFlags := 1, nameIndex := 22, descriptorIndex := 80, attributes := #[] }, { accessFlags := 1, nameIndex := 26, descriptorIndex := 80, attributes := #[] }, { accessFlags := 1, nameIndex := 35, descriptorIndex := 42, attributes := #[] }, { accessFlags := 2, nameIndex := 51, descriptorIndex := 6, attributes := #[] }] 49 2 #[] #[{ accessFlags := 18, nameIndex := 11, descriptorIndex := 12, attributes := #[] }, { accessFlags := 18, nameIndex := 15, descriptorIndex := 16, attributes := #[] }, { accessFlags := 18, nameIndex := 19, descriptorIndex := 12, attributes := #[] }, { accessFlags := 18, nameIndex := 22, descriptorIndex := 23, attributes := #[] }, { accessFlags := 18, nameIndex := 26, descriptorIndex := 23, attributes := #[] }, { accessFlags := 18, nameIndex := 35, descriptorIndex := 36, attributes := #[] }])
  fields := #[{ name := "name", type := (.object "java/lang/String"), accessFlags := 18, slot := 0, constantValue := 0 }, { name := "held", type := .boolean, accessFlags := 18, slot := 1, constantValue := 0 }, { name := "holder", type := (.object "java/lang/String"), accessFlags := 18, slot := 2, constantValue := 0 }, { name := "remainingLeaseMillis", type := .long, accessFlags := 18, slot := 3, constantValue := 0 }, { name := "fencingToken", type := .long, accessFlags := 18, slot := 4, constantValue := 0 }, { name := "readers", type := (.object "java/util/List"), accessFlags := 18, slot := 5, constantValue := 0 }]
  methods := #[k20m0, k20m1, k20m2, k20m3, k20m4, k20m5, k20m6, k20m7, k20m8, k20m9]
  instanceTypes := #[(.object "java/lang/String"), .boolean, (.object "java/lang/String"), .long, .long, (.object "java/util/List")]
  staticTypes := #[]
  resolved := Array.replicate 105 none
  statics := none }

def pool21 : Array CpInfo := pool [(2, .class_ 4), (1, u "java/lang/Object"), (0, u "<init>"), (0, u "()V"), (3, .class_ 11), (0, u "java/util/ImmutableCollections$List12"), (0, .class_ 13), (0, u "java/util/ImmutableCollections$ListN"), (3, u "Z"), (0, .class_ 19), (0, u "java/util/List"), (0, .interfaceMethodref 21 22), (0, .class_ 23), (0, .nameAndType 24 25), (0, u "java/util/Collection"), (0, u "isEmpty"), (0, u "()Z"), (0, .interfaceMethodref 18 27), (0, .nameAndType 28 29), (0, u "of"), (0, u "()Ljava/util/List;"), (0, .interfaceMethodref 21 31), (0, .nameAndType 32 33), (0, u "toArray"), (0, u "()[Ljava/lang/Object;"), (0, .interfaceMethodref 18 35), (0, .nameAndType 28 36), (0, u "([Ljava/lang/Object;)Ljava/util/List;"), (10, .class_ 49), (1, u "java/util/ImmutableCollections"), (0, u "$assertionsDisabled"), (5, u "[Ljava/lang/Object;"), (5, u "EMPTY_LIST"), (0, u "Ljava/util/ImmutableCollections$ListN;"), (8, u "EMPTY_LIST_NULLS"), (22, u "SALT32L"), (0, u "J"), (2, u "REVERSE"), (6, u "archivedObjects"), (2, u "EMPTY"), (0, u "Ljava/lang/Object;"), (0, .class_ 112), (0, u "java/util/ImmutableCollections$SetN"), (5, u "EMPTY_SET"), (0, u "Ljava/util/ImmutableCollections$SetN;"), (0, .class_ 121), (0, u "java/util/ImmutableCollections$MapN"), (3, u "EMPTY_MAP"), (0, u "Ljava/util/ImmutableCollections$MapN;"), (4, u "EXPAND_FACTOR"), (0, u "I"), (9, u "listCopy"), (0, u "(Ljava/util/Collection;)Ljava/util/List;"), (25, .class_ 170), (0, u "java/util/ImmutableCollections$MapN$MapNIterator"), (0, .class_ 172), (0, u "java/util/ImmutableCollections$MapN$1"), (0, .class_ 174), (0, u "java/util/ImmutableCollections$Map1"), (0, .class_ 176), (0, u "java/util/ImmutableCollections$AbstractImmutableMap"), (0, .class_ 178), (0, u "java/util/ImmutableCollections$SetN$SetNIterator"), (0, .class_ 180), (0, u "java/util/ImmutableCollections$Set12"), (0, .class_ 182), (0, u "java/util/ImmutableCollections$Set12$1"), (0, .class_ 184), (0, u "java/util/ImmutableCollections$AbstractImmutableSet"), (0, .class_ 186), (0, u "java/util/ImmutableCollections$SubList"), (0, .class_ 188), (0, u "java/util/ImmutableCollections$ListItr"), (0, .class_ 190), (0, u "java/util/ImmutableCollections$AbstractImmutableList"), (0, .class_ 192), (0, u "java/util/ImmutableCollections$AbstractImmutableCollection"), (0, .class_ 194), (0, u "java/util/ImmutableCollections$Access"), (0, .class_ 196), (0, u "java/util/ImmutableCollections$Access$1")] 16

def k21m0 : Method := { name := "<init>", desc := "()V", sig := { parameters := [], returnType := none }, accessFlags := 2, code := none }
def k21c1 : Code := { maxStack := 1, maxLocals := 2, code := jdk_56_method_3_code, exceptionTable := #[], attributes := #[] }
def k21m1 : Method := { name := "listCopy", desc := "(Ljava/util/Collection;)Ljava/util/List;", sig := { parameters := [(.object "java/util/Collection")], returnType := some (.object "java/util/List") }, accessFlags := 8, code := some k21c1 }
/-- java/util/ImmutableCollections -/
def k21 : Class := { plain "java/util/ImmutableCollections" (some 0) with
  accessFlags := 32
  interfaces := #[]
  cf := some (fileOf pool21 47 #[.nestMembers #[120, 169, 171, 173, 175, 111, 177, 179, 181, 183, 12, 10, 185, 187, 189, 191, 193, 195]] #[{ accessFlags := 2, nameIndex := 5, descriptorIndex := 6, attributes := #[] }, { accessFlags := 8, nameIndex := 142, descriptorIndex := 143, attributes := #[] }] 32 2 #[] #[{ accessFlags := 26, nameIndex := 95, descriptorIndex := 96, attributes := #[] }, { accessFlags := 26, nameIndex := 99, descriptorIndex := 17, attributes := #[] }, { accessFlags := 10, nameIndex := 106, descriptorIndex := 56, attributes := #[] }, { accessFlags := 26, nameIndex := 109, descriptorIndex := 110, attributes := #[] }, { accessFlags := 24, nameIndex := 62, descriptorIndex := 63, attributes := #[] }, { accessFlags := 24, nameIndex := 72, descriptorIndex := 63, attributes := #[] }, { accessFlags := 24, nameIndex := 118, descriptorIndex := 119, attributes := #[] }, { accessFlags := 24, nameIndex := 125, descriptorIndex := 126, attributes := #[] }, { accessFlags := 24, nameIndex := 131, descriptorIndex := 132, attributes := #[] }, { accessFlags := 4120, nameIndex := 50, descriptorIndex := 17, attributes := #[] }])
  fields := #[{ name := "SALT32L", type := .long, accessFlags := 26, slot := 0, constantValue := 0 }, { name := "REVERSE", type := .boolean, accessFlags := 26, slot := 1, constantValue := 0 }, { name := "archivedObjects", type := (.array (.object "java/lang/Object")), accessFlags := 10, slot := 2, constantValue := 0 }, { name := "EMPTY", type := (.object "java/lang/Object"), accessFlags := 26, slot := 3, constantValue := 0 }, { name := "EMPTY_LIST", type := (.object "java/util/ImmutableCollections$ListN"), accessFlags := 24, slot := 4, constantValue := 0 }, { name := "EMPTY_LIST_NULLS", type := (.object "java/util/ImmutableCollections$ListN"), accessFlags := 24, slot := 5, constantValue := 0 }, { name := "EMPTY_SET", type := (.object "java/util/ImmutableCollections$SetN"), accessFlags := 24, slot := 6, constantValue := 0 }, { name := "EMPTY_MAP", type := (.object "java/util/ImmutableCollections$MapN"), accessFlags := 24, slot := 7, constantValue := 0 }, { name := "EXPAND_FACTOR", type := .int, accessFlags := 24, slot := 8, constantValue := 0 }, { name := "$assertionsDisabled", type := .boolean, accessFlags := 4120, slot := 9, constantValue := 0 }]
  methods := #[k21m0, k21m1]
  instanceTypes := #[]
  staticTypes := #[.long, .boolean, (.array (.object "java/lang/Object")), (.object "java/lang/Object"), (.object "java/util/ImmutableCollections$ListN"), (.object "java/util/ImmutableCollections$ListN"), (.object "java/util/ImmutableCollections$SetN"), (.object "java/util/ImmutableCollections$MapN"), .int, .boolean]
  resolved := Array.replicate 213 none
  statics := some 2 }

def pool22 : Array CpInfo := pool [(1, .methodref 2 3), (0, .class_ 4), (0, .nameAndType 5 6), (0, u "java/util/AbstractCollection"), (0, u "<init>"), (0, u "()V"), (1, .class_ 10), (1, u "java/util/ImmutableCollections"), (2, .class_ 14), (0, u "java/util/ImmutableCollections$AbstractImmutableCollection")] 41

def k22c0 : Code := { maxStack := 1, maxLocals := 1, code := jdk_47_method_1_code, exceptionTable := #[], attributes := #[] }
def k22m0 : Method := { name := "<init>", desc := "()V", sig := { parameters := [], returnType := none }, accessFlags := 0, code := some k22c0 }
/-- java/util/ImmutableCollections$AbstractImmutableCollection -/
def k22 : Class := { plain "java/util/ImmutableCollections$AbstractImmutableCollection" (some 12) with
  accessFlags := 1056
  interfaces := #[]
  cf := some (fileOf pool22 13 #[.nestHost 8] #[{ accessFlags := 0, nameIndex := 5, descriptorIndex := 6, attributes := #[] }] 1056 2 #[] #[])
  fields := #[]
  methods := #[k22m0]
  instanceTypes := #[]
  staticTypes := #[]
  resolved := Array.replicate 56 none
  statics := none }

def pool23 : Array CpInfo := pool [(1, .methodref 2 3), (0, .class_ 4), (0, .nameAndType 5 6), (0, u "java/util/ImmutableCollections$AbstractImmutableCollection"), (0, u "<init>"), (0, u "()V"), (1, .class_ 10), (1, u "java/util/ImmutableCollections"), (3, .class_ 16), (1, u "java/util/ImmutableCollections$AbstractImmutableList"), (60, .class_ 78), (0, u "java/util/List"), (45, .class_ 125), (0, u "java/util/RandomAccess")] 70

def k23c0 : Code := { maxStack := 1, maxLocals := 1, code := jdk_46_method_1_code, exceptionTable := #[], attributes := #[] }
def k23m0 : Method := { name := "<init>", desc := "()V", sig := { parameters := [], returnType := none }, accessFlags := 0, code := some k23c0 }
/-- java/util/ImmutableCollections$AbstractImmutableList -/
def k23 : Class := { plain "java/util/ImmutableCollections$AbstractImmutableList" (some 22) with
  accessFlags := 1056
  interfaces := #[14, 16]
  cf := some (fileOf pool23 14 #[.nestHost 8] #[{ accessFlags := 0, nameIndex := 5, descriptorIndex := 6, attributes := #[] }] 1056 2 #[77, 124] #[])
  fields := #[]
  methods := #[k23m0]
  instanceTypes := #[]
  staticTypes := #[]
  resolved := Array.replicate 196 none
  statics := none }

def pool24 : Array CpInfo := pool [(1, .methodref 2 3), (0, .class_ 4), (0, .nameAndType 5 6), (0, u "java/util/ImmutableCollections$AbstractImmutableList"), (0, u "<init>"), (0, u "()V"), (0, .methodref 8 9), (0, .class_ 10), (0, .nameAndType 11 12), (0, u "java/util/Objects"), (0, u "requireNonNull"), (0, u "(Ljava/lang/Object;)Ljava/lang/Object;"), (0, .fieldref 14 15), (0, .class_ 16), (0, .nameAndType 17 18), (0, u "java/util/ImmutableCollections$List12"), (0, u "e0"), (0, u "Ljava/lang/Object;"), (0, .fieldref 20 21), (0, .class_ 22), (0, .nameAndType 23 18), (0, u "java/util/ImmutableCollections"), (0, u "EMPTY"), (0, .fieldref 14 25), (0, .nameAndType 26 18), (0, u "e1"), (24, u "size"), (0, u "()I"), (17, .class_ 71), (0, u "java/io/Serializable"), (4, u "(Ljava/lang/Object;)V"), (8, u "(Ljava/lang/Object;Ljava/lang/Object;)V"), (4, u "get"), (0, u "(I)Ljava/lang/Object;")] 33

def k24c0 : Code := { maxStack := 2, maxLocals := 2, code := jdk_44_method_1_code, exceptionTable := #[], attributes := #[] }
def k24m0 : Method := { name := "<init>", desc := "(Ljava/lang/Object;)V", sig := { parameters := [(.object "java/lang/Object")], returnType := none }, accessFlags := 0, code := some k24c0 }
def k24c1 : Code := { maxStack := 2, maxLocals := 3, code := jdk_44_method_2_code, exceptionTable := #[], attributes := #[] }
def k24m1 : Method := { name := "<init>", desc := "(Ljava/lang/Object;Ljava/lang/Object;)V", sig := { parameters := [(.object "java/lang/Object"), (.object "java/lang/Object")], returnType := none }, accessFlags := 0, code := some k24c1 }
def k24c2 : Code := { maxStack := 2, maxLocals := 1, code := jdk_44_method_3_code, exceptionTable := #[], attributes := #[] }
def k24m2 : Method := { name := "size", desc := "()I", sig := { parameters := [], returnType := some .int }, accessFlags := 1, code := some k24c2 }
def k24c3 : Code := { maxStack := 2, maxLocals := 2, code := jdk_44_method_5_code, exceptionTable := #[], attributes := #[] }
def k24m3 : Method := { name := "get", desc := "(I)Ljava/lang/Object;", sig := { parameters := [.int], returnType := some (.object "java/lang/Object") }, accessFlags := 1, code := some k24c3 }
/-- java/util/ImmutableCollections$List12 -/
def k24 : Class := { plain "java/util/ImmutableCollections$List12" (some 23) with
  accessFlags := 48
  interfaces := #[2]
  cf := some (fileOf pool24 14 #[.nestHost 20] #[{ accessFlags := 0, nameIndex := 5, descriptorIndex := 76, attributes := #[] }, { accessFlags := 0, nameIndex := 5, descriptorIndex := 85, attributes := #[] }, { accessFlags := 1, nameIndex := 51, descriptorIndex := 52, attributes := #[] }, { accessFlags := 1, nameIndex := 90, descriptorIndex := 91, attributes := #[] }] 48 2 #[70] #[{ accessFlags := 18, nameIndex := 17, descriptorIndex := 18, attributes := #[] }, { accessFlags := 18, nameIndex := 26, descriptorIndex := 18, attributes := #[] }])
  fields := #[{ name := "e0", type := (.object "java/lang/Object"), accessFlags := 18, slot := 0, constantValue := 0 }, { name := "e1", type := (.object "java/lang/Object"), accessFlags := 18, slot := 1, constantValue := 0 }]
  methods := #[k24m0, k24m1, k24m2, k24m3]
  instanceTypes := #[(.object "java/lang/Object"), (.object "java/lang/Object")]
  staticTypes := #[]
  resolved := Array.replicate 125 none
  statics := none }

def pool25 : Array CpInfo := pool [(2, .class_ 4), (1, u "java/util/ImmutableCollections$AbstractImmutableList"), (2, .fieldref 8 9), (0, .class_ 10), (0, .nameAndType 11 12), (0, u "java/util/ImmutableCollections$ListN"), (0, u "elements"), (0, u "[Ljava/lang/Object;"), (2, u "allowNulls"), (0, u "Z"), (42, .class_ 60), (0, u "java/io/Serializable"), (16, u "size"), (0, u "()I"), (35, .class_ 115), (0, u "java/util/ImmutableCollections")] 3

def k25c0 : Code := { maxStack := 1, maxLocals := 1, code := jdk_45_method_3_code, exceptionTable := #[], attributes := #[] }
def k25m0 : Method := { name := "size", desc := "()I", sig := { parameters := [], returnType := some .int }, accessFlags := 1, code := some k25c0 }
/-- java/util/ImmutableCollections$ListN -/
def k25 : Class := { plain "java/util/ImmutableCollections$ListN" (some 23) with
  accessFlags := 48
  interfaces := #[2]
  cf := some (fileOf pool25 8 #[.nestHost 114] #[{ accessFlags := 1, nameIndex := 77, descriptorIndex := 78, attributes := #[] }] 48 2 #[59] #[{ accessFlags := 18, nameIndex := 11, descriptorIndex := 12, attributes := #[] }, { accessFlags := 18, nameIndex := 15, descriptorIndex := 16, attributes := #[] }])
  fields := #[{ name := "elements", type := (.array (.object "java/lang/Object")), accessFlags := 18, slot := 0, constantValue := 0 }, { name := "allowNulls", type := .boolean, accessFlags := 18, slot := 1, constantValue := 0 }]
  methods := #[k25m0]
  instanceTypes := #[(.array (.object "java/lang/Object")), .boolean]
  staticTypes := #[]
  resolved := Array.replicate 119 none
  statics := none }

def pool26 : Array CpInfo := pool [(2, .class_ 4), (1, u "java/lang/Object"), (0, u "<init>"), (0, u "()V"), (7, .class_ 16), (1, u "java/util/Arrays"), (57, .class_ 76), (1, u "java/util/Arrays$NaturalOrder"), (9, .methodref 2 87), (0, .nameAndType 88 89), (0, u "getClass"), (0, u "()Ljava/lang/Class;"), (20, .class_ 111), (0, u "[Ljava/lang/Object;"), (1, .class_ 115), (1, u "java/util/Arrays$LegacyMergeSort"), (1, u "Z"), (32, .methodref 151 152), (0, .class_ 153), (0, .nameAndType 154 155), (0, u "java/lang/System"), (0, u "arraycopy"), (0, u "(Ljava/lang/Object;ILjava/lang/Object;II)V"), (144, .methodref 14 301), (0, .nameAndType 302 303), (0, u "copyOf"), (0, u "([Ljava/lang/Object;ILjava/lang/Class;)[Ljava/lang/Object;"), (0, .methodref 305 306), (0, .class_ 307), (0, .nameAndType 308 309), (0, u "java/lang/Math"), (0, u "min"), (0, u "(II)I"), (65, .class_ 376), (0, u "java/util/Arrays$ArrayList"), (68, u "$assertionsDisabled"), (269, u "MIN_ARRAY_SORT_GRAN"), (0, u "I"), (2, u "INSERTIONSORT_THRESHOLD"), (140, u "([Ljava/lang/Object;I)[Ljava/lang/Object;"), (114, .class_ 976), (0, u "java/util/Arrays$ArrayItr")] 52

def k26m0 : Method := { name := "<init>", desc := "()V", sig := { parameters := [], returnType := none }, accessFlags := 2, code := none }
def k26c1 : Code := { maxStack := 3, maxLocals := 2, code := jdk_65_method_119_code, exceptionTable := #[], attributes := #[] }
def k26m1 : Method := { name := "copyOf", desc := "([Ljava/lang/Object;I)[Ljava/lang/Object;", sig := { parameters := [(.array (.object "java/lang/Object")), .int], returnType := some (.array (.object "java/lang/Object")) }, accessFlags := 9, code := some k26c1 }
def k26c2 : Code := { maxStack := 6, maxLocals := 4, code := jdk_65_method_120_code, exceptionTable := #[], attributes := #[] }
def k26m2 : Method := { name := "copyOf", desc := "([Ljava/lang/Object;ILjava/lang/Class;)[Ljava/lang/Object;", sig := { parameters := [(.array (.object "java/lang/Object")), .int, (.object "java/lang/Class")], returnType := some (.array (.object "java/lang/Object")) }, accessFlags := 9, code := some k26c2 }
/-- java/util/Arrays -/
def k26 : Class := { plain "java/util/Arrays" (some 0) with
  accessFlags := 49
  interfaces := #[]
  cf := some (fileOf pool26 14 #[.nestMembers #[975, 375, 113, 74]] #[{ accessFlags := 2, nameIndex := 5, descriptorIndex := 6, attributes := #[] }, { accessFlags := 9, nameIndex := 302, descriptorIndex := 860, attributes := #[] }, { accessFlags := 9, nameIndex := 302, descriptorIndex := 303, attributes := #[] }] 49 2 #[] #[{ accessFlags := 26, nameIndex := 715, descriptorIndex := 716, attributes := #[] }, { accessFlags := 26, nameIndex := 719, descriptorIndex := 716, attributes := #[] }, { accessFlags := 4120, nameIndex := 445, descriptorIndex := 117, attributes := #[] }])
  fields := #[{ name := "MIN_ARRAY_SORT_GRAN", type := .int, accessFlags := 26, slot := 0, constantValue := 0 }, { name := "INSERTIONSORT_THRESHOLD", type := .int, accessFlags := 26, slot := 1, constantValue := 0 }, { name := "$assertionsDisabled", type := .boolean, accessFlags := 4120, slot := 2, constantValue := 0 }]
  methods := #[k26m0, k26m1, k26m2]
  instanceTypes := #[]
  staticTypes := #[.int, .int, .boolean]
  resolved := Array.replicate 1029 none
  statics := none }

def pool27 : Array CpInfo := pool [(2, .class_ 4), (1, u "java/lang/Object"), (0, u "<init>"), (0, u "()V"), (1, .class_ 10), (1, u "java/lang/System"), (0, u "allowSecurityManager"), (0, u "I"), (16, u "cons"), (0, u "Ljava/io/Console;"), (77, .class_ 110), (1, u "java/lang/System$CallersHolder"), (43, u "initialErrStream"), (0, u "Ljava/io/PrintStream;"), (19, u "security"), (0, u "Ljava/lang/SecurityManager;"), (31, .class_ 209), (0, u "java/lang/System$1"), (7, u "props"), (0, u "Ljava/util/Properties;"), (2, u "lineSeparator"), (0, u "Ljava/lang/String;"), (96, .class_ 321), (1, u "java/lang/System$LoggerFinder"), (5, .class_ 328), (0, u "java/lang/System$Logger"), (67, u "err"), (2, u "out"), (91, u "notSupportedJnuEncoding"), (15, u "in"), (17, u "initialIn"), (0, u "Ljava/io/InputStream;"), (35, u "bootLayer"), (0, u "Ljava/lang/ModuleLayer;"), (99, .class_ 664), (0, u "java/lang/System$2"), (9, u "NEVER"), (2, u "MAYBE"), (49, u "arraycopy"), (0, u "(Ljava/lang/Object;ILjava/lang/Object;II)V"), (72, .class_ 802), (0, u "java/lang/System$Logger$Level")] 31

def k27m0 : Method := { name := "<init>", desc := "()V", sig := { parameters := [], returnType := none }, accessFlags := 2, code := none }
def k27m1 : Method := { name := "arraycopy", desc := "(Ljava/lang/Object;ILjava/lang/Object;II)V", sig := { parameters := [(.object "java/lang/Object"), .int, (.object "java/lang/Object"), .int, .int], returnType := none }, accessFlags := 265, code := none }
/-- java/lang/System -/
def k27 : Class := { plain "java/lang/System" (some 0) with
  accessFlags := 49
  interfaces := #[]
  cf := some (fileOf pool27 8 #[.nestMembers #[319, 327, 801, 108, 663, 208]] #[{ accessFlags := 2, nameIndex := 5, descriptorIndex := 6, attributes := #[] }, { accessFlags := 265, nameIndex := 727, descriptorIndex := 728, attributes := #[] }] 49 2 #[] #[{ accessFlags := 25, nameIndex := 507, descriptorIndex := 526, attributes := #[] }, { accessFlags := 25, nameIndex := 399, descriptorIndex := 155, attributes := #[] }, { accessFlags := 25, nameIndex := 396, descriptorIndex := 155, attributes := #[] }, { accessFlags := 10, nameIndex := 525, descriptorIndex := 526, attributes := #[] }, { accessFlags := 26, nameIndex := 674, descriptorIndex := 12, attributes := #[] }, { accessFlags := 26, nameIndex := 677, descriptorIndex := 12, attributes := #[] }, { accessFlags := 10, nameIndex := 11, descriptorIndex := 12, attributes := #[] }, { accessFlags := 74, nameIndex := 175, descriptorIndex := 176, attributes := #[] }, { accessFlags := 10, nameIndex := 491, descriptorIndex := 222, attributes := #[] }, { accessFlags := 74, nameIndex := 29, descriptorIndex := 30, attributes := #[] }, { accessFlags := 74, nameIndex := 154, descriptorIndex := 155, attributes := #[] }, { accessFlags := 10, nameIndex := 217, descriptorIndex := 218, attributes := #[] }, { accessFlags := 10, nameIndex := 221, descriptorIndex := 222, attributes := #[] }, { accessFlags := 8, nameIndex := 562, descriptorIndex := 563, attributes := #[] }])
  fields := #[{ name := "in", type := (.object "java/io/InputStream"), accessFlags := 25, slot := 0, constantValue := 0 }, { name := "out", type := (.object "java/io/PrintStream"), accessFlags := 25, slot := 1, constantValue := 0 }, { name := "err", type := (.object "java/io/PrintStream"), accessFlags := 25, slot := 2, constantValue := 0 }, { name := "initialIn", type := (.object "java/io/InputStream"), accessFlags := 10, slot := 3, constantValue := 0 }, { name := "NEVER", type := .int, accessFlags := 26, slot := 4, constantValue := 0 }, { name := "MAYBE", type := .int, accessFlags := 26, slot := 5, constantValue := 0 }, { name := "allowSecurityManager", type := .int, accessFlags := 10, slot := 6, constantValue := 0 }, { name := "security", type := (.object "java/lang/SecurityManager"), accessFlags := 74, slot := 7, constantValue := 0 }, { name := "notSupportedJnuEncoding", type := (.object "java/lang/String"), accessFlags := 10, slot := 8, constantValue := 0 }, { name := "cons", type := (.object "java/io/Console"), accessFlags := 74, slot := 9, constantValue := 0 }, { name := "initialErrStream", type := (.object "java/io/PrintStream"), accessFlags := 74, slot := 10, constantValue := 0 }, { name := "props", type := (.object "java/util/Properties"), accessFlags := 10, slot := 11, constantValue := 0 }, { name := "lineSeparator", type := (.object "java/lang/String"), accessFlags := 10, slot := 12, constantValue := 0 }, { name := "bootLayer", type := (.object "java/lang/ModuleLayer"), accessFlags := 8, slot := 13, constantValue := 0 }]
  methods := #[k27m0, k27m1]
  instanceTypes := #[]
  staticTypes := #[(.object "java/io/InputStream"), (.object "java/io/PrintStream"), (.object "java/io/PrintStream"), (.object "java/io/InputStream"), .int, .int, .int, (.object "java/lang/SecurityManager"), (.object "java/lang/String"), (.object "java/io/Console"), (.object "java/io/PrintStream"), (.object "java/util/Properties"), (.object "java/lang/String"), (.object "java/lang/ModuleLayer")]
  resolved := Array.replicate 834 none
  statics := none }

def pool28 : Array CpInfo := pool [(2, .class_ 4), (1, u "java/lang/Object"), (0, u "<init>"), (0, u "()V"), (35, .class_ 44), (1, u "java/util/Objects"), (0, u "requireNonNull"), (0, u "(Ljava/lang/Object;)Ljava/lang/Object;")] 137

def k28m0 : Method := { name := "<init>", desc := "()V", sig := { parameters := [], returnType := none }, accessFlags := 2, code := none }
def k28c1 : Code := { maxStack := 2, maxLocals := 1, code := jdk_31_method_10_code, exceptionTable := #[], attributes := #[] }
def k28m1 : Method := { name := "requireNonNull", desc := "(Ljava/lang/Object;)Ljava/lang/Object;", sig := { parameters := [(.object "java/lang/Object")], returnType := some (.object "java/lang/Object") }, accessFlags := 9, code := some k28c1 }
/-- java/util/Objects -/
def k28 : Class := { plain "java/util/Objects" (some 0) with
  accessFlags := 49
  interfaces := #[]
  cf := some (fileOf pool28 42 #[] #[{ accessFlags := 2, nameIndex := 5, descriptorIndex := 6, attributes := #[] }, { accessFlags := 9, nameIndex := 45, descriptorIndex := 46, attributes := #[] }] 49 2 #[] #[])
  fields := #[]
  methods := #[k28m0, k28m1]
  instanceTypes := #[]
  staticTypes := #[]
  resolved := Array.replicate 184 none
  statics := none }

def pool29 : Array CpInfo := pool [(4, .class_ 6), (1, u "java/lang/Object"), (0, u "<init>"), (0, u "()V"), (5, .class_ 16), (1, u "java/lang/StringLatin1"), (104, u "$assertionsDisabled"), (0, u "Z"), (98, .class_ 223), (1, u "java/lang/StringLatin1$LinesSpliterator"), (166, .class_ 391), (0, u "java/lang/StringLatin1$CharsSpliterator")] 3

def k29m0 : Method := { name := "<init>", desc := "()V", sig := { parameters := [], returnType := none }, accessFlags := 0, code := none }
/-- java/lang/StringLatin1 -/
def k29 : Class := { plain "java/lang/StringLatin1" (some 0) with
  accessFlags := 48
  interfaces := #[]
  cf := some (fileOf pool29 14 #[.nestMembers #[390, 221]] #[{ accessFlags := 0, nameIndex := 7, descriptorIndex := 8, attributes := #[] }] 48 4 #[] #[{ accessFlags := 4120, nameIndex := 121, descriptorIndex := 122, attributes := #[] }])
  fields := #[{ name := "$assertionsDisabled", type := .boolean, accessFlags := 4120, slot := 0, constantValue := 0 }]
  methods := #[k29m0]
  instanceTypes := #[]
  staticTypes := #[.boolean]
  resolved := Array.replicate 395 none
  statics := none }

def pool30 : Array CpInfo := pool [(2, .class_ 4), (1, u "java/lang/Object"), (0, u "<init>"), (0, u "()V"), (17, .class_ 26), (1, u "jdk/internal/util/Preconditions"), (28, .class_ 56), (0, u "jdk/internal/util/Preconditions$4"), (57, .class_ 115), (0, u "jdk/internal/util/Preconditions$1"), (7, u "SIOOBE_FORMATTER"), (0, u "Ljava/util/function/BiFunction;"), (0, .class_ 126), (0, u "jdk/internal/util/Preconditions$2"), (3, u "AIOOBE_FORMATTER"), (0, .class_ 132), (0, u "jdk/internal/util/Preconditions$3"), (3, u "IOOBE_FORMATTER")] 57

def k30m0 : Method := { name := "<init>", desc := "()V", sig := { parameters := [], returnType := none }, accessFlags := 1, code := none }
/-- jdk/internal/util/Preconditions -/
def k30 : Class := { plain "jdk/internal/util/Preconditions" (some 0) with
  accessFlags := 33
  interfaces := #[]
  cf := some (fileOf pool30 24 #[.nestMembers #[55, 131, 125, 114]] #[{ accessFlags := 1, nameIndex := 5, descriptorIndex := 6, attributes := #[] }] 33 2 #[] #[{ accessFlags := 25, nameIndex := 123, descriptorIndex := 124, attributes := #[] }, { accessFlags := 25, nameIndex := 130, descriptorIndex := 124, attributes := #[] }, { accessFlags := 25, nameIndex := 136, descriptorIndex := 124, attributes := #[] }])
  fields := #[{ name := "SIOOBE_FORMATTER", type := (.object "java/util/function/BiFunction"), accessFlags := 25, slot := 0, constantValue := 0 }, { name := "AIOOBE_FORMATTER", type := (.object "java/util/function/BiFunction"), accessFlags := 25, slot := 1, constantValue := 0 }, { name := "IOOBE_FORMATTER", type := (.object "java/util/function/BiFunction"), accessFlags := 25, slot := 2, constantValue := 0 }]
  methods := #[k30m0]
  instanceTypes := #[]
  staticTypes := #[(.object "java/util/function/BiFunction"), (.object "java/util/function/BiFunction"), (.object "java/util/function/BiFunction")]
  resolved := Array.replicate 194 none
  statics := some 3 }

def pool31 : Array CpInfo := pool [(9, u "<init>"), (6, .class_ 18), (1, u "java/lang/Object"), (0, u "()V"), (1, .class_ 23), (1, u "jdk/internal/util/ArraysSupport"), (0, u "LOG2_ARRAY_LONG_INDEX_SCALE"), (0, u "I"), (2, u "U"), (0, u "Ljdk/internal/misc/Unsafe;"), (8, u "BIG_ENDIAN"), (0, u "Z"), (8, u "LOG2_BYTE_BIT_SIZE"), (4, u "LOG2_ARRAY_INT_INDEX_SCALE"), (54, u "JLA"), (0, u "Ljdk/internal/access/JavaLangAccess;"), (11, u "LOG2_ARRAY_BOOLEAN_INDEX_SCALE"), (9, u "LOG2_ARRAY_BYTE_INDEX_SCALE"), (5, u "LOG2_ARRAY_CHAR_INDEX_SCALE"), (5, u "LOG2_ARRAY_SHORT_INDEX_SCALE"), (18, u "LOG2_ARRAY_FLOAT_INDEX_SCALE"), (24, u "LOG2_ARRAY_DOUBLE_INDEX_SCALE"), (89, u "T_BOOLEAN"), (2, u "T_CHAR"), (1, u "T_FLOAT"), (1, u "T_DOUBLE"), (1, u "T_BYTE"), (1, u "T_SHORT"), (1, u "T_INT"), (1, u "T_LONG"), (1, u "SOFT_MAX_ARRAY_LENGTH")] 83

def k31m0 : Method := { name := "<init>", desc := "()V", sig := { parameters := [], returnType := none }, accessFlags := 2, code := none }
/-- jdk/internal/util/ArraysSupport -/
def k31 : Class := { plain "jdk/internal/util/ArraysSupport" (some 0) with
  accessFlags := 33
  interfaces := #[]
  cf := some (fileOf pool31 21 #[] #[{ accessFlags := 2, nameIndex := 9, descriptorIndex := 19, attributes := #[] }] 33 16 #[] #[{ accessFlags := 24, nameIndex := 28, descriptorIndex := 29, attributes := #[] }, { accessFlags := 26, nameIndex := 38, descriptorIndex := 39, attributes := #[] }, { accessFlags := 25, nameIndex := 121, descriptorIndex := 25, attributes := #[] }, { accessFlags := 25, nameIndex := 131, descriptorIndex := 25, attributes := #[] }, { accessFlags := 25, nameIndex := 137, descriptorIndex := 25, attributes := #[] }, { accessFlags := 25, nameIndex := 143, descriptorIndex := 25, attributes := #[] }, { accessFlags := 25, nameIndex := 53, descriptorIndex := 25, attributes := #[] }, { accessFlags := 25, nameIndex := 24, descriptorIndex := 25, attributes := #[] }, { accessFlags := 25, nameIndex := 162, descriptorIndex := 25, attributes := #[] }, { accessFlags := 25, nameIndex := 187, descriptorIndex := 25, attributes := #[] }, { accessFlags := 26, nameIndex := 48, descriptorIndex := 25, attributes := #[] }, { accessFlags := 25, nameIndex := 277, descriptorIndex := 25, attributes := #[] }, { accessFlags := 25, nameIndex := 280, descriptorIndex := 25, attributes := #[] }, { accessFlags := 25, nameIndex := 282, descriptorIndex := 25, attributes := #[] }, { accessFlags := 25, nameIndex := 284, descriptorIndex := 25, attributes := #[] }, { accessFlags := 25, nameIndex := 286, descriptorIndex := 25, attributes := #[] }, { accessFlags := 25, nameIndex := 288, descriptorIndex := 25, attributes := #[] }, { accessFlags := 25, nameIndex := 290, descriptorIndex := 25, attributes := #[] }, { accessFlags := 25, nameIndex := 292, descriptorIndex := 25, attributes := #[] }, { accessFlags := 26, nameIndex := 108, descriptorIndex := 109, attributes := #[] }, { accessFlags := 25, nameIndex := 294, descriptorIndex := 25, attributes := #[] }])
  fields := #[{ name := "U", type := (.object "jdk/internal/misc/Unsafe"), accessFlags := 24, slot := 0, constantValue := 0 }, { name := "BIG_ENDIAN", type := .boolean, accessFlags := 26, slot := 1, constantValue := 0 }, { name := "LOG2_ARRAY_BOOLEAN_INDEX_SCALE", type := .int, accessFlags := 25, slot := 2, constantValue := 0 }, { name := "LOG2_ARRAY_BYTE_INDEX_SCALE", type := .int, accessFlags := 25, slot := 3, constantValue := 0 }, { name := "LOG2_ARRAY_CHAR_INDEX_SCALE", type := .int, accessFlags := 25, slot := 4, constantValue := 0 }, { name := "LOG2_ARRAY_SHORT_INDEX_SCALE", type := .int, accessFlags := 25, slot := 5, constantValue := 0 }, { name := "LOG2_ARRAY_INT_INDEX_SCALE", type := .int, accessFlags := 25, slot := 6, constantValue := 0 }, { name := "LOG2_ARRAY_LONG_INDEX_SCALE", type := .int, accessFlags := 25, slot := 7, constantValue := 0 }, { name := "LOG2_ARRAY_FLOAT_INDEX_SCALE", type := .int, accessFlags := 25, slot := 8, constantValue := 0 }, { name := "LOG2_ARRAY_DOUBLE_INDEX_SCALE", type := .int, accessFlags := 25, slot := 9, constantValue := 0 }, { name := "LOG2_BYTE_BIT_SIZE", type := .int, accessFlags := 26, slot := 10, constantValue := 0 }, { name := "T_BOOLEAN", type := .int, accessFlags := 25, slot := 11, constantValue := 0 }, { name := "T_CHAR", type := .int, accessFlags := 25, slot := 12, constantValue := 0 }, { name := "T_FLOAT", type := .int, accessFlags := 25, slot := 13, constantValue := 0 }, { name := "T_DOUBLE", type := .int, accessFlags := 25, slot := 14, constantValue := 0 }, { name := "T_BYTE", type := .int, accessFlags := 25, slot := 15, constantValue := 0 }, { name := "T_SHORT", type := .int, accessFlags := 25, slot := 16, constantValue := 0 }, { name := "T_INT", type := .int, accessFlags := 25, slot := 17, constantValue := 0 }, { name := "T_LONG", type := .int, accessFlags := 25, slot := 18, constantValue := 0 }, { name := "JLA", type := (.object "jdk/internal/access/JavaLangAccess"), accessFlags := 26, slot := 19, constantValue := 0 }, { name := "SOFT_MAX_ARRAY_LENGTH", type := .int, accessFlags := 25, slot := 20, constantValue := 0 }]
  methods := #[k31m0]
  instanceTypes := #[]
  staticTypes := #[(.object "jdk/internal/misc/Unsafe"), .boolean, .int, .int, .int, .int, .int, .int, .int, .int, .int, .int, .int, .int, .int, .int, .int, .int, .int, (.object "jdk/internal/access/JavaLangAccess"), .int]
  resolved := Array.replicate 378 none
  statics := none }

def pool32 : Array CpInfo := pool [(1, u "java/lang/Class"), (0, .class_ 1), (0, u "java/lang/Object"), (0, .class_ 3)] 0

/-- java/lang/Class -/
def k32 : Class := { plain "java/lang/Class" (some 0) with
  accessFlags := 49
  interfaces := #[]
  cf := some (fileOf pool32 2 #[] #[] 49 4 #[] #[])
  fields := #[]
  methods := #[]
  instanceTypes := #[]
  staticTypes := #[]
  resolved := Array.replicate 5 none
  statics := none }

/-- the primitive byte -/
def k33 : Class := { plain "byte" none with kind := .primitive 'B', accessFlags := 0x411 }
/-- [B -/
def k34 : Class := { plain "[B" (some 0) with kind := .array 33 .byte, interfaces := #[17, 2], accessFlags := 1041 }

/-- the primitive char -/
def k35 : Class := { plain "char" none with kind := .primitive 'C', accessFlags := 0x411 }
/-- [C -/
def k36 : Class := { plain "[C" (some 0) with kind := .array 35 .char, interfaces := #[17, 2], accessFlags := 1041 }

/-- the primitive int -/
def k37 : Class := { plain "int" none with kind := .primitive 'I', accessFlags := 0x411 }
/-- [I -/
def k38 : Class := { plain "[I" (some 0) with kind := .array 37 .int, interfaces := #[17, 2], accessFlags := 1041 }

/-- [Ljava/lang/Object; -/
def k39 : Class := { plain "[Ljava/lang/Object;" (some 0) with kind := .array 0 (.object "java/lang/Object"), interfaces := #[17, 2], accessFlags := 1041, mirror := some 4 }

def heap : Heap := #[{ cls := 7, slots := #[.long 0, .int 1, .null, .int 0, .null, .int 0, .int 0], vm := .statics 7 },
  { cls := 18, slots := #[.long 0, .int 0, .ref 5, .ref 6], vm := .statics 18 },
  { cls := 21, slots := #[.long 0, .int 0, .null, .ref 7, .ref 8, .null, .null, .null, .int 0, .int 1], vm := .statics 21 },
  { cls := 30, slots := #[.null, .null, .null], vm := .statics 30 },
  { cls := 32, slots := #[], vm := .mirror 39 },
  { cls := 39, slots := #[], vm := .none },
  { cls := 39, slots := #[], vm := .none },
  { cls := 0, slots := #[], vm := .none },
  { cls := 25, slots := #[.ref 5, .int 0], vm := .none }]
def classes : Array Class := #[k0, k1, k2, k3, k4, k5, k6, k7, k8, k9, k10, k11, k12, k13, k14, k15, k16, k17, k18, k19, k20, k21, k22, k23, k24, k25, k26, k27, k28, k29, k30, k31, k32, k33, k34, k35, k36, k37, k38, k39]
def interned : List (Array UInt16 × Addr) := []
def slotsUsed : Nat := 26
def theMethod : MethodId := ⟨1, 1⟩
def args0 : Array Value := #[.int 1, .int 2, .long 3, .long 4, .int 5]
def aboutOver (below : List Frame) : State where
  vm := { classes := classes, interned := interned.toArray }
  heap := heap
  slotsUsed := slotsUsed
  threads := #[{ frames := .invoking theMethod args0 :: below }]
def below0 : List Frame := [.native { method := ⟨0, 0⟩, args := #[] }]
def about1 : State := aboutOver below0
def p0 : Program := .bare "" "" ""
def e0 : Env := launch0.env 0 0 0
theorem w_frames : about1.frames = Frame.invoking theMethod args0 :: below0 := rfl
set_option maxRecDepth 65536 in
theorem w_args : argsFit about1.vm theMethod args0 = true := by decide +kernel
set_option maxRecDepth 65536 in
theorem w_heap : heapFits about1 = true := by decide +kernel
set_option maxRecDepth 65536 in
theorem w_runnable : about1.curStatus? = some .runnable := by decide +kernel
set_option maxRecDepth 65536 in
theorem w_alone : about1.alone = true := by decide +kernel
set_option maxRecDepth 65536 in
theorem w_named : about1.methodNamed? x = some theMethod := by decide +kernel
set_option maxRecDepth 65536 in
theorem w_hears : about1.hears theMethod below0 = true := by decide +kernel
set_option maxRecDepth 65536 in
theorem w_ripe : about1.ripe theMethod args0 below0 = true := by decide +kernel
theorem w_running : about1.status = .running := rfl
set_option maxRecDepth 65536 in
theorem w_room : about1.hasRoom e0.platform room_1 = true :=
  launch0.hasRoom_least _ room_1 (by decide +kernel) (by decide +kernel) (by decide +kernel) (by decide +kernel) (by decide +kernel) (by decide +kernel)
theorem allAtoms_all (ts : List Jvm.Cond) (a : Array Jvm.Value) (st : Jvm.State) : (allAtoms ts).before a st = ts.all (fun c => c.before a st) := by
  induction ts with
  | nil => rfl
  | cons c t ih =>
    show (Jvm.Cond.and c (allAtoms t)).before a st = _
    rw [Jvm.Cond.before_and, ih, List.all_cons]
def words1 : List Jvm.Cond := Jvm.Cond.code x code maxLocals ret :: tables_1
/-- a 'code' word, met by the world's own term for the bytes: nothing is compared byte by byte -/
theorem code_word {y : MethodName} {bytes : ByteArray} {mx : Nat} {rt : Option FieldType} {a : Array Value} {s : State} {m : MethodId} {meth : Method} {c : Code} (h1 : s.methodNamed? y = some m) (h2 : s.vm.method? m = some meth) (h3 : meth.code = some c) (h4 : c.code = bytes)
    (h5 : (c.maxLocals == mx && c.exceptionTable.isEmpty && decide (c.maxStack ≤ mostOperands) && decide (meth.sig.returnType = rt) && !meth.locks && decide (parseMethodDescriptor y.desc = some meth.sig)) = true) : (Jvm.Cond.code y bytes mx rt).before a s = true := by
  simp only [Bool.and_eq_true, beq_iff_eq, Bool.not_eq_true', decide_eq_true_eq] at h5
  obtain ⟨⟨⟨⟨⟨g1, g2⟩, g3⟩, g4⟩, g5⟩, g6⟩ := h5
  simp [Cond.before, Cond.holds, Cond.value, h1, h2, h3, h4, g1, g2, g3, g4, g5, g6]
def isCode : Jvm.Cond → Bool
  | .code _ _ _ _ => true
  | _ => false
theorem all_split {L : List Jvm.Cond} {P : Jvm.Cond → Bool} (h1 : L.all (fun c => isCode c || P c) = true) (h2 : ∀ c ∈ L.filter isCode, P c = true) : L.all P = true := by
  refine List.all_eq_true.mpr fun c hc => ?_
  have h := List.all_eq_true.mp h1 c hc
  rcases Bool.eq_false_or_eq_true (isCode c) with hi | hi
  · exact h2 c (List.mem_filter.mpr ⟨hc, hi⟩)
  · simpa [hi] using h
set_option maxRecDepth 65536 in
theorem w_c0 : (Jvm.Cond.code x code maxLocals ret).before args0 about1 = true := code_word (m := ⟨1, 1⟩) (meth := k1m1) (c := k1c1) (by decide +kernel) rfl rfl rfl (by decide +kernel)
set_option maxRecDepth 65536 in
theorem w_c1 : (Jvm.Cond.code ({ cls := "java/lang/String", name := "<init>", desc := "([C)V" } : Jvm.MethodName) jdk_42_method_3_code (2 : Nat) (Option.none : Option Jvm.ClassFile.FieldType)).before args0 about1 = true := code_word (m := ⟨7, 1⟩) (meth := k7m1) (c := k7c1) (by decide +kernel) rfl rfl rfl (by decide +kernel)
set_option maxRecDepth 65536 in
theorem w_c2 : (Jvm.Cond.code ({ cls := "java/lang/String", name := "<init>", desc := "([CIILjava/lang/Void;)V" } : Jvm.MethodName) jdk_42_method_149_code (6 : Nat) (Option.none : Option Jvm.ClassFile.FieldType)).before args0 about1 = true := code_word (m := ⟨7, 3⟩) (meth := k7m3) (c := k7c3) (by decide +kernel) rfl rfl rfl (by decide +kernel)
set_option maxRecDepth 65536 in
theorem w_c3 : (Jvm.Cond.code ({ cls := "java/lang/Object", name := "<init>", desc := "()V" } : Jvm.MethodName) object_method_1_code (1 : Nat) (Option.none : Option Jvm.ClassFile.FieldType)).before args0 about1 = true := code_word (m := ⟨0, 0⟩) (meth := k0m0) (c := k0c0) (by decide +kernel) rfl rfl rfl (by decide +kernel)
set_option maxRecDepth 65536 in
theorem w_c4 : (Jvm.Cond.code ({ cls := "java/lang/StringUTF16", name := "compress", desc := "([CII)[B" } : Jvm.MethodName) jdk_52_method_16_code (6 : Nat) (Option.some (Jvm.ClassFile.FieldType.array Jvm.ClassFile.FieldType.byte))).before args0 about1 = true := code_word (m := ⟨8, 2⟩) (meth := k8m2) (c := k8c2) (by decide +kernel) rfl rfl rfl (by decide +kernel)
set_option maxRecDepth 65536 in
theorem w_c5 : (Jvm.Cond.code ({ cls := "java/lang/StringUTF16", name := "compress", desc := "([CI[BII)I" } : Jvm.MethodName) jdk_52_method_21_code (7 : Nat) (Option.some Jvm.ClassFile.FieldType.int)).before args0 about1 = true := code_word (m := ⟨8, 3⟩) (meth := k8m3) (c := k8c3) (by decide +kernel) rfl rfl rfl (by decide +kernel)
set_option maxRecDepth 65536 in
theorem w_c6 : (Jvm.Cond.code ({ cls := "java/lang/StringUTF16", name := "coderFromArrayLen", desc := "([BI)B" } : Jvm.MethodName) jdk_52_method_15_code (2 : Nat) (Option.some Jvm.ClassFile.FieldType.byte)).before args0 about1 = true := code_word (m := ⟨8, 1⟩) (meth := k8m1) (c := k8c1) (by decide +kernel) rfl rfl rfl (by decide +kernel)
set_option maxRecDepth 65536 in
theorem w_c7 : (Jvm.Cond.code ({ cls := "com/example/holdfast/holdfast/LockInfo$Reader", name := "<init>", desc := "(Ljava/lang/String;J)V" } : Jvm.MethodName) prog_11_method_1_code (4 : Nat) (Option.none : Option Jvm.ClassFile.FieldType)).before args0 about1 = true := code_word (m := ⟨9, 0⟩) (meth := k9m0) (c := k9c0) (by decide +kernel) rfl rfl rfl (by decide +kernel)
set_option maxRecDepth 65536 in
theorem w_c8 : (Jvm.Cond.code ({ cls := "java/util/ArrayList", name := "<init>", desc := "()V" } : Jvm.MethodName) jdk_38_method_2_code (1 : Nat) (Option.none : Option Jvm.ClassFile.FieldType)).before args0 about1 = true := code_word (m := ⟨18, 0⟩) (meth := k18m0) (c := k18c0) (by decide +kernel) rfl rfl rfl (by decide +kernel)
set_option maxRecDepth 65536 in
theorem w_c9 : (Jvm.Cond.code ({ cls := "java/util/AbstractList", name := "<init>", desc := "()V" } : Jvm.MethodName) jdk_39_method_1_code (1 : Nat) (Option.none : Option Jvm.ClassFile.FieldType)).before args0 about1 = true := code_word (m := ⟨15, 0⟩) (meth := k15m0) (c := k15c0) (by decide +kernel) rfl rfl rfl (by decide +kernel)
set_option maxRecDepth 65536 in
theorem w_c10 : (Jvm.Cond.code ({ cls := "java/util/AbstractCollection", name := "<init>", desc := "()V" } : Jvm.MethodName) jdk_22_method_1_code (1 : Nat) (Option.none : Option Jvm.ClassFile.FieldType)).before args0 about1 = true := code_word (m := ⟨12, 0⟩) (meth := k12m0) (c := k12c0) (by decide +kernel) rfl rfl rfl (by decide +kernel)
set_option maxRecDepth 65536 in
theorem w_c11 : (Jvm.Cond.code ({ cls := "java/util/ArrayList", name := "add", desc := "(Ljava/lang/Object;)Z" } : Jvm.MethodName) jdk_38_method_25_code (2 : Nat) (Option.some Jvm.ClassFile.FieldType.boolean)).before args0 about1 = true := code_word (m := ⟨18, 6⟩) (meth := k18m6) (c := k18c6) (by decide +kernel) rfl rfl rfl (by decide +kernel)
set_option maxRecDepth 65536 in
theorem w_c12 : (Jvm.Cond.code ({ cls := "java/util/ArrayList", name := "add", desc := "(Ljava/lang/Object;[Ljava/lang/Object;I)V" } : Jvm.MethodName) jdk_38_method_24_code (4 : Nat) (Option.none : Option Jvm.ClassFile.FieldType)).before args0 about1 = true := code_word (m := ⟨18, 5⟩) (meth := k18m5) (c := k18c5) (by decide +kernel) rfl rfl rfl (by decide +kernel)
set_option maxRecDepth 65536 in
theorem w_c13 : (Jvm.Cond.code ({ cls := "java/util/ArrayList", name := "grow", desc := "()[Ljava/lang/Object;" } : Jvm.MethodName) jdk_38_method_7_code (1 : Nat) (Option.some (Jvm.ClassFile.FieldType.array (Jvm.ClassFile.FieldType.object "java/lang/Object")))).before args0 about1 = true := code_word (m := ⟨18, 2⟩) (meth := k18m2) (c := k18c2) (by decide +kernel) rfl rfl rfl (by decide +kernel)
set_option maxRecDepth 65536 in
theorem w_c14 : (Jvm.Cond.code ({ cls := "java/util/ArrayList", name := "grow", desc := "(I)[Ljava/lang/Object;" } : Jvm.MethodName) jdk_38_method_6_code (4 : Nat) (Option.some (Jvm.ClassFile.FieldType.array (Jvm.ClassFile.FieldType.object "java/lang/Object")))).before args0 about1 = true := code_word (m := ⟨18, 1⟩) (meth := k18m1) (c := k18c1) (by decide +kernel) rfl rfl rfl (by decide +kernel)
set_option maxRecDepth 65536 in
theorem w_c15 : (Jvm.Cond.code ({ cls := "java/lang/Math", name := "max", desc := "(II)I" } : Jvm.MethodName) jdk_29_method_65_code (2 : Nat) (Option.some Jvm.ClassFile.FieldType.int)).before args0 about1 = true := code_word (m := ⟨19, 1⟩) (meth := k19m1) (c := k19c1) (by decide +kernel) rfl rfl rfl (by decide +kernel)
set_option maxRecDepth 65536 in
theorem w_c16 : (Jvm.Cond.code ({ cls := "com/example/holdfast/holdfast/LockInfo", name := "held", desc := "(Ljava/lang/String;Ljava/lang/String;JJLjava/util/List;)Lcom/example/holdfast/holdfast/LockInfo;" } : Jvm.MethodName) prog_10_method_4_code (7 : Nat) (Option.some (Jvm.ClassFile.FieldType.object "com/example/holdfast/holdfast/LockInfo"))).before args0 about1 = true := code_word (m := ⟨20, 1⟩) (meth := k20m1) (c := k20c1) (by decide +kernel) rfl rfl rfl (by decide +kernel)
set_option maxRecDepth 65536 in
theorem w_c17 : (Jvm.Cond.code ({ cls := "com/example/holdfast/holdfast/LockInfo", name := "<init>", desc := "(Ljava/lang/String;ZLjava/lang/String;JJLjava/util/List;)V" } : Jvm.MethodName) prog_10_method_1_code (9 : Nat) (Option.none : Option Jvm.ClassFile.FieldType)).before args0 about1 = true := code_word (m := ⟨20, 0⟩) (meth := k20m0) (c := k20c0) (by decide +kernel) rfl rfl rfl (by decide +kernel)
set_option maxRecDepth 65536 in
theorem w_c18 : (Jvm.Cond.code ({ cls := "java/util/List", name := "copyOf", desc := "(Ljava/util/Collection;)Ljava/util/List;" } : Jvm.MethodName) jdk_40_method_48_code (1 : Nat) (Option.some (Jvm.ClassFile.FieldType.object "java/util/List"))).before args0 about1 = true := code_word (m := ⟨14, 4⟩) (meth := k14m4) (c := k14c4) (by decide +kernel) rfl rfl rfl (by decide +kernel)
set_option maxRecDepth 65536 in
theorem w_c19 : (Jvm.Cond.code ({ cls := "java/util/ImmutableCollections", name := "listCopy", desc := "(Ljava/util/Collection;)Ljava/util/List;" } : Jvm.MethodName) jdk_56_method_3_code (2 : Nat) (Option.some (Jvm.ClassFile.FieldType.object "java/util/List"))).before args0 about1 = true := code_word (m := ⟨21, 1⟩) (meth := k21m1) (c := k21c1) (by decide +kernel) rfl rfl rfl (by decide +kernel)
set_option maxRecDepth 65536 in
theorem w_c20 : (Jvm.Cond.code ({ cls := "java/util/ArrayList", name := "isEmpty", desc := "()Z" } : Jvm.MethodName) jdk_38_method_9_code (1 : Nat) (Option.some Jvm.ClassFile.FieldType.boolean)).before args0 about1 = true := code_word (m := ⟨18, 3⟩) (meth := k18m3) (c := k18c3) (by decide +kernel) rfl rfl rfl (by decide +kernel)
set_option maxRecDepth 65536 in
theorem w_c21 : (Jvm.Cond.code ({ cls := "java/util/ArrayList", name := "toArray", desc := "()[Ljava/lang/Object;" } : Jvm.MethodName) jdk_38_method_16_code (1 : Nat) (Option.some (Jvm.ClassFile.FieldType.array (Jvm.ClassFile.FieldType.object "java/lang/Object")))).before args0 about1 = true := code_word (m := ⟨18, 4⟩) (meth := k18m4) (c := k18c4) (by decide +kernel) rfl rfl rfl (by decide +kernel)
set_option maxRecDepth 65536 in
theorem w_c22 : (Jvm.Cond.code ({ cls := "java/util/Arrays", name := "copyOf", desc := "([Ljava/lang/Object;I)[Ljava/lang/Object;" } : Jvm.MethodName) jdk_65_method_119_code (2 : Nat) (Option.some (Jvm.ClassFile.FieldType.array (Jvm.ClassFile.FieldType.object "java/lang/Object")))).before args0 about1 = true := code_word (m := ⟨26, 1⟩) (meth := k26m1) (c := k26c1) (by decide +kernel) rfl rfl rfl (by decide +kernel)
set_option maxRecDepth 65536 in
theorem w_c23 : (Jvm.Cond.code ({ cls := "java/util/Arrays", name := "copyOf", desc := "([Ljava/lang/Object;ILjava/lang/Class;)[Ljava/lang/Object;" } : Jvm.MethodName) jdk_65_method_120_code (4 : Nat) (Option.some (Jvm.ClassFile.FieldType.array (Jvm.ClassFile.FieldType.object "java/lang/Object")))).before args0 about1 = true := code_word (m := ⟨26, 2⟩) (meth := k26m2) (c := k26c2) (by decide +kernel) rfl rfl rfl (by decide +kernel)
set_option maxRecDepth 65536 in
theorem w_c24 : (Jvm.Cond.code ({ cls := "java/lang/Math", name := "min", desc := "(II)I" } : Jvm.MethodName) jdk_29_method_69_code (2 : Nat) (Option.some Jvm.ClassFile.FieldType.int)).before args0 about1 = true := code_word (m := ⟨19, 2⟩) (meth := k19m2) (c := k19c2) (by decide +kernel) rfl rfl rfl (by decide +kernel)
set_option maxRecDepth 65536 in
theorem w_c25 : (Jvm.Cond.code ({ cls := "java/util/List", name := "of", desc := "([Ljava/lang/Object;)Ljava/util/List;" } : Jvm.MethodName) jdk_40_method_47_code (2 : Nat) (Option.some (Jvm.ClassFile.FieldType.object "java/util/List"))).before args0 about1 = true := code_word (m := ⟨14, 3⟩) (meth := k14m3) (c := k14c3) (by decide +kernel) rfl rfl rfl (by decide +kernel)
set_option maxRecDepth 65536 in
theorem w_c26 : (Jvm.Cond.code ({ cls := "java/util/ImmutableCollections$List12", name := "<init>", desc := "(Ljava/lang/Object;)V" } : Jvm.MethodName) jdk_44_method_1_code (2 : Nat) (Option.none : Option Jvm.ClassFile.FieldType)).before args0 about1 = true := code_word (m := ⟨24, 0⟩) (meth := k24m0) (c := k24c0) (by decide +kernel) rfl rfl rfl (by decide +kernel)
set_option maxRecDepth 65536 in
theorem w_c27 : (Jvm.Cond.code ({ cls := "java/util/ImmutableCollections$AbstractImmutableList", name := "<init>", desc := "()V" } : Jvm.MethodName) jdk_46_method_1_code (1 : Nat) (Option.none : Option Jvm.ClassFile.FieldType)).before args0 about1 = true := code_word (m := ⟨23, 0⟩) (meth := k23m0) (c := k23c0) (by decide +kernel) rfl rfl rfl (by decide +kernel)
set_option maxRecDepth 65536 in
theorem w_c28 : (Jvm.Cond.code ({ cls := "java/util/ImmutableCollections$AbstractImmutableCollection", name := "<init>", desc := "()V" } : Jvm.MethodName) jdk_47_method_1_code (1 : Nat) (Option.none : Option Jvm.ClassFile.FieldType)).before args0 about1 = true := code_word (m := ⟨22, 0⟩) (meth := k22m0) (c := k22c0) (by decide +kernel) rfl rfl rfl (by decide +kernel)
set_option maxRecDepth 65536 in
theorem w_c29 : (Jvm.Cond.code ({ cls := "java/util/Objects", name := "requireNonNull", desc := "(Ljava/lang/Object;)Ljava/lang/Object;" } : Jvm.MethodName) jdk_31_method_10_code (1 : Nat) (Option.some (Jvm.ClassFile.FieldType.object "java/lang/Object"))).before args0 about1 = true := code_word (m := ⟨28, 1⟩) (meth := k28m1) (c := k28c1) (by decide +kernel) rfl rfl rfl (by decide +kernel)
set_option maxRecDepth 65536 in
theorem w_c30 : (Jvm.Cond.code ({ cls := "com/example/holdfast/holdfast/LockInfo", name := "name", desc := "()Ljava/lang/String;" } : Jvm.MethodName) prog_10_method_5_code (1 : Nat) (Option.some (Jvm.ClassFile.FieldType.object "java/lang/String"))).before args0 about1 = true := code_word (m := ⟨20, 2⟩) (meth := k20m2) (c := k20c2) (by decide +kernel) rfl rfl rfl (by decide +kernel)
set_option maxRecDepth 65536 in
theorem w_c31 : (Jvm.Cond.code ({ cls := "java/lang/String", name := "equals", desc := "(Ljava/lang/Object;)Z" } : Jvm.MethodName) jdk_42_method_66_code (3 : Nat) (Option.some Jvm.ClassFile.FieldType.boolean)).before args0 about1 = true := code_word (m := ⟨7, 2⟩) (meth := k7m2) (c := k7c2) (by decide +kernel) rfl rfl rfl (by decide +kernel)
set_option maxRecDepth 65536 in
theorem w_c32 : (Jvm.Cond.code ({ cls := "com/example/holdfast/holdfast/LockInfo", name := "held", desc := "()Z" } : Jvm.MethodName) prog_10_method_6_code (1 : Nat) (Option.some Jvm.ClassFile.FieldType.boolean)).before args0 about1 = true := code_word (m := ⟨20, 3⟩) (meth := k20m3) (c := k20c3) (by decide +kernel) rfl rfl rfl (by decide +kernel)
set_option maxRecDepth 65536 in
theorem w_c33 : (Jvm.Cond.code ({ cls := "com/example/holdfast/holdfast/LockInfo", name := "heldAlone", desc := "()Z" } : Jvm.MethodName) prog_10_method_7_code (1 : Nat) (Option.some Jvm.ClassFile.FieldType.boolean)).before args0 about1 = true := code_word (m := ⟨20, 4⟩) (meth := k20m4) (c := k20c4) (by decide +kernel) rfl rfl rfl (by decide +kernel)
set_option maxRecDepth 65536 in
theorem w_c34 : (Jvm.Cond.code ({ cls := "com/example/holdfast/holdfast/LockInfo", name := "holder", desc := "()Ljava/lang/String;" } : Jvm.MethodName) prog_10_method_8_code (1 : Nat) (Option.some (Jvm.ClassFile.FieldType.object "java/lang/String"))).before args0 about1 = true := code_word (m := ⟨20, 5⟩) (meth := k20m5) (c := k20c5) (by decide +kernel) rfl rfl rfl (by decide +kernel)
set_option maxRecDepth 65536 in
theorem w_c35 : (Jvm.Cond.code ({ cls := "com/example/holdfast/holdfast/LockInfo", name := "checkHeldAlone", desc := "()V" } : Jvm.MethodName) prog_10_method_12_code (1 : Nat) (Option.none : Option Jvm.ClassFile.FieldType)).before args0 about1 = true := code_word (m := ⟨20, 9⟩) (meth := k20m9) (c := k20c9) (by decide +kernel) rfl rfl rfl (by decide +kernel)
set_option maxRecDepth 65536 in
theorem w_c36 : (Jvm.Cond.code ({ cls := "com/example/holdfast/holdfast/LockInfo", name := "remainingLeaseMillis", desc := "()J" } : Jvm.MethodName) prog_10_method_9_code (1 : Nat) (Option.some Jvm.ClassFile.FieldType.long)).before args0 about1 = true := code_word (m := ⟨20, 6⟩) (meth := k20m6) (c := k20c6) (by decide +kernel) rfl rfl rfl (by decide +kernel)
set_option maxRecDepth 65536 in
theorem w_c37 : (Jvm.Cond.code ({ cls := "com/example/holdfast/holdfast/LockInfo", name := "fencingToken", desc := "()J" } : Jvm.MethodName) prog_10_method_10_code (1 : Nat) (Option.some Jvm.ClassFile.FieldType.long)).before args0 about1 = true := code_word (m := ⟨20, 7⟩) (meth := k20m7) (c := k20c7) (by decide +kernel) rfl rfl rfl (by decide +kernel)
set_option maxRecDepth 65536 in
theorem w_c38 : (Jvm.Cond.code ({ cls := "com/example/holdfast/holdfast/LockInfo", name := "readers", desc := "()Ljava/util/List;" } : Jvm.MethodName) prog_10_method_11_code (1 : Nat) (Option.some (Jvm.ClassFile.FieldType.object "java/util/List"))).before args0 about1 = true := code_word (m := ⟨20, 8⟩) (meth := k20m8) (c := k20c8) (by decide +kernel) rfl rfl rfl (by decide +kernel)
set_option maxRecDepth 65536 in
theorem w_c39 : (Jvm.Cond.code ({ cls := "java/util/ImmutableCollections$List12", name := "size", desc := "()I" } : Jvm.MethodName) jdk_44_method_3_code (1 : Nat) (Option.some Jvm.ClassFile.FieldType.int)).before args0 about1 = true := code_word (m := ⟨24, 2⟩) (meth := k24m2) (c := k24c2) (by decide +kernel) rfl rfl rfl (by decide +kernel)
set_option maxRecDepth 65536 in
theorem w_c40 : (Jvm.Cond.code ({ cls := "java/util/ImmutableCollections$List12", name := "get", desc := "(I)Ljava/lang/Object;" } : Jvm.MethodName) jdk_44_method_5_code (2 : Nat) (Option.some (Jvm.ClassFile.FieldType.object "java/lang/Object"))).before args0 about1 = true := code_word (m := ⟨24, 3⟩) (meth := k24m3) (c := k24c3) (by decide +kernel) rfl rfl rfl (by decide +kernel)
set_option maxRecDepth 65536 in
theorem w_c41 : (Jvm.Cond.code ({ cls := "java/util/List", name := "of", desc := "()Ljava/util/List;" } : Jvm.MethodName) jdk_40_method_36_code (0 : Nat) (Option.some (Jvm.ClassFile.FieldType.object "java/util/List"))).before args0 about1 = true := code_word (m := ⟨14, 2⟩) (meth := k14m2) (c := k14c2) (by decide +kernel) rfl rfl rfl (by decide +kernel)
set_option maxRecDepth 65536 in
theorem w_c42 : (Jvm.Cond.code ({ cls := "java/util/ImmutableCollections$ListN", name := "size", desc := "()I" } : Jvm.MethodName) jdk_45_method_3_code (1 : Nat) (Option.some Jvm.ClassFile.FieldType.int)).before args0 about1 = true := code_word (m := ⟨25, 0⟩) (meth := k25m0) (c := k25c0) (by decide +kernel) rfl rfl rfl (by decide +kernel)
set_option maxRecDepth 65536 in
theorem w_c43 : (Jvm.Cond.code ({ cls := "java/util/ImmutableCollections$List12", name := "<init>", desc := "(Ljava/lang/Object;Ljava/lang/Object;)V" } : Jvm.MethodName) jdk_44_method_2_code (3 : Nat) (Option.none : Option Jvm.ClassFile.FieldType)).before args0 about1 = true := code_word (m := ⟨24, 1⟩) (meth := k24m1) (c := k24c1) (by decide +kernel) rfl rfl rfl (by decide +kernel)
def codes1 : List Jvm.Cond := [Jvm.Cond.code x code maxLocals ret, Jvm.Cond.code ({ cls := "java/lang/String", name := "<init>", desc := "([C)V" } : Jvm.MethodName) jdk_42_method_3_code (2 : Nat) (Option.none : Option Jvm.ClassFile.FieldType), Jvm.Cond.code ({ cls := "java/lang/String", name := "<init>", desc := "([CIILjava/lang/Void;)V" } : Jvm.MethodName) jdk_42_method_149_code (6 : Nat) (Option.none : Option Jvm.ClassFile.FieldType), Jvm.Cond.code ({ cls := "java/lang/Object", name := "<init>", desc := "()V" } : Jvm.MethodName) object_method_1_code (1 : Nat) (Option.none : Option Jvm.ClassFile.FieldType), Jvm.Cond.code ({ cls := "java/lang/StringUTF16", name := "compress", desc := "([CII)[B" } : Jvm.MethodName) jdk_52_method_16_code (6 : Nat) (Option.some (Jvm.ClassFile.FieldType.array Jvm.ClassFile.FieldType.byte)), Jvm.Cond.code ({ cls := "java/lang/StringUTF16", name := "compress", desc := "([CI[BII)I" } : Jvm.MethodName) jdk_52_method_21_code (7 : Nat) (Option.some Jvm.ClassFile.FieldType.int), Jvm.Cond.code ({ cls := "java/lang/StringUTF16", name := "coderFromArrayLen", desc := "([BI)B" } : Jvm.MethodName) jdk_52_method_15_code (2 : Nat) (Option.some Jvm.ClassFile.FieldType.byte), Jvm.Cond.code ({ cls := "com/example/holdfast/holdfast/LockInfo$Reader", name := "<init>", desc := "(Ljava/lang/String;J)V" } : Jvm.MethodName) prog_11_method_1_code (4 : Nat) (Option.none : Option Jvm.ClassFile.FieldType), Jvm.Cond.code ({ cls := "java/util/ArrayList", name := "<init>", desc := "()V" } : Jvm.MethodName) jdk_38_method_2_code (1 : Nat) (Option.none : Option Jvm.ClassFile.FieldType), Jvm.Cond.code ({ cls := "java/util/AbstractList", name := "<init>", desc := "()V" } : Jvm.MethodName) jdk_39_method_1_code (1 : Nat) (Option.none : Option Jvm.ClassFile.FieldType), Jvm.Cond.code ({ cls := "java/util/AbstractCollection", name := "<init>", desc := "()V" } : Jvm.MethodName) jdk_22_method_1_code (1 : Nat) (Option.none : Option Jvm.ClassFile.FieldType), Jvm.Cond.code ({ cls := "java/util/ArrayList", name := "add", desc := "(Ljava/lang/Object;)Z" } : Jvm.MethodName) jdk_38_method_25_code (2 : Nat) (Option.some Jvm.ClassFile.FieldType.boolean), Jvm.Cond.code ({ cls := "java/util/ArrayList", name := "add", desc := "(Ljava/lang/Object;[Ljava/lang/Object;I)V" } : Jvm.MethodName) jdk_38_method_24_code (4 : Nat) (Option.none : Option Jvm.ClassFile.FieldType), Jvm.Cond.code ({ cls := "java/util/ArrayList", name := "grow", desc := "()[Ljava/lang/Object;" } : Jvm.MethodName) jdk_38_method_7_code (1 : Nat) (Option.some (Jvm.ClassFile.FieldType.array (Jvm.ClassFile.FieldType.object "java/lang/Object"))), Jvm.Cond.code ({ cls := "java/util/ArrayList", name := "grow", desc := "(I)[Ljava/lang/Object;" } : Jvm.MethodName) jdk_38_method_6_code (4 : Nat) (Option.some (Jvm.ClassFile.FieldType.array (Jvm.ClassFile.FieldType.object "java/lang/Object"))), Jvm.Cond.code ({ cls := "java/lang/Math", name := "max", desc := "(II)I" } : Jvm.MethodName) jdk_29_method_65_code (2 : Nat) (Option.some Jvm.ClassFile.FieldType.int), Jvm.Cond.code ({ cls := "com/example/holdfast/holdfast/LockInfo", name := "held", desc := "(Ljava/lang/String;Ljava/lang/String;JJLjava/util/List;)Lcom/example/holdfast/holdfast/LockInfo;" } : Jvm.MethodName) prog_10_method_4_code (7 : Nat) (Option.some (Jvm.ClassFile.FieldType.object "com/example/holdfast/holdfast/LockInfo")), Jvm.Cond.code ({ cls := "com/example/holdfast/holdfast/LockInfo", name := "<init>", desc := "(Ljava/lang/String;ZLjava/lang/String;JJLjava/util/List;)V" } : Jvm.MethodName) prog_10_method_1_code (9 : Nat) (Option.none : Option Jvm.ClassFile.FieldType), Jvm.Cond.code ({ cls := "java/util/List", name := "copyOf", desc := "(Ljava/util/Collection;)Ljava/util/List;" } : Jvm.MethodName) jdk_40_method_48_code (1 : Nat) (Option.some (Jvm.ClassFile.FieldType.object "java/util/List")), Jvm.Cond.code ({ cls := "java/util/ImmutableCollections", name := "listCopy", desc := "(Ljava/util/Collection;)Ljava/util/List;" } : Jvm.MethodName) jdk_56_method_3_code (2 : Nat) (Option.some (Jvm.ClassFile.FieldType.object "java/util/List")), Jvm.Cond.code ({ cls := "java/util/ArrayList", name := "isEmpty", desc := "()Z" } : Jvm.MethodName) jdk_38_method_9_code (1 : Nat) (Option.some Jvm.ClassFile.FieldType.boolean), Jvm.Cond.code ({ cls := "java/util/ArrayList", name := "toArray", desc := "()[Ljava/lang/Object;" } : Jvm.MethodName) jdk_38_method_16_code (1 : Nat) (Option.some (Jvm.ClassFile.FieldType.array (Jvm.ClassFile.FieldType.object "java/lang/Object"))), Jvm.Cond.code ({ cls := "java/util/Arrays", name := "copyOf", desc := "([Ljava/lang/Object;I)[Ljava/lang/Object;" } : Jvm.MethodName) jdk_65_method_119_code (2 : Nat) (Option.some (Jvm.ClassFile.FieldType.array (Jvm.ClassFile.FieldType.object "java/lang/Object"))), Jvm.Cond.code ({ cls := "java/util/Arrays", name := "copyOf", desc := "([Ljava/lang/Object;ILjava/lang/Class;)[Ljava/lang/Object;" } : Jvm.MethodName) jdk_65_method_120_code (4 : Nat) (Option.some (Jvm.ClassFile.FieldType.array (Jvm.ClassFile.FieldType.object "java/lang/Object"))), Jvm.Cond.code ({ cls := "java/lang/Math", name := "min", desc := "(II)I" } : Jvm.MethodName) jdk_29_method_69_code (2 : Nat) (Option.some Jvm.ClassFile.FieldType.int), Jvm.Cond.code ({ cls := "java/util/List", name := "of", desc := "([Ljava/lang/Object;)Ljava/util/List;" } : Jvm.MethodName) jdk_40_method_47_code (2 : Nat) (Option.some (Jvm.ClassFile.FieldType.object "java/util/List")), Jvm.Cond.code ({ cls := "java/util/ImmutableCollections$List12", name := "<init>", desc := "(Ljava/lang/Object;)V" } : Jvm.MethodName) jdk_44_method_1_code (2 : Nat) (Option.none : Option Jvm.ClassFile.FieldType), Jvm.Cond.code ({ cls := "java/util/ImmutableCollections$AbstractImmutableList", name := "<init>", desc := "()V" } : Jvm.MethodName) jdk_46_method_1_code (1 : Nat) (Option.none : Option Jvm.ClassFile.FieldType), Jvm.Cond.code ({ cls := "java/util/ImmutableCollections$AbstractImmutableCollection", name := "<init>", desc := "()V" } : Jvm.MethodName) jdk_47_method_1_code (1 : Nat) (Option.none : Option Jvm.ClassFile.FieldType), Jvm.Cond.code ({ cls := "java/util/Objects", name := "requireNonNull", desc := "(Ljava/lang/Object;)Ljava/lang/Object;" } : Jvm.MethodName) jdk_31_method_10_code (1 : Nat) (Option.some (Jvm.ClassFile.FieldType.object "java/lang/Object")), Jvm.Cond.code ({ cls := "com/example/holdfast/holdfast/LockInfo", name := "name", desc := "()Ljava/lang/String;" } : Jvm.MethodName) prog_10_method_5_code (1 : Nat) (Option.some (Jvm.ClassFile.FieldType.object "java/lang/String")), Jvm.Cond.code ({ cls := "java/lang/String", name := "equals", desc := "(Ljava/lang/Object;)Z" } : Jvm.MethodName) jdk_42_method_66_code (3 : Nat) (Option.some Jvm.ClassFile.FieldType.boolean), Jvm.Cond.code ({ cls := "com/example/holdfast/holdfast/LockInfo", name := "held", desc := "()Z" } : Jvm.MethodName) prog_10_method_6_code (1 : Nat) (Option.some Jvm.ClassFile.FieldType.boolean), Jvm.Cond.code ({ cls := "com/example/holdfast/holdfast/LockInfo", name := "heldAlone", desc := "()Z" } : Jvm.MethodName) prog_10_method_7_code (1 : Nat) (Option.some Jvm.ClassFile.FieldType.boolean), Jvm.Cond.code ({ cls := "com/example/holdfast/holdfast/LockInfo", name := "holder", desc := "()Ljava/lang/String;" } : Jvm.MethodName) prog_10_method_8_code (1 : Nat) (Option.some (Jvm.ClassFile.FieldType.object "java/lang/String")), Jvm.Cond.code ({ cls := "com/example/holdfast/holdfast/LockInfo", name := "checkHeldAlone", desc := "()V" } : Jvm.MethodName) prog_10_method_12_code (1 : Nat) (Option.none : Option Jvm.ClassFile.FieldType), Jvm.Cond.code ({ cls := "com/example/holdfast/holdfast/LockInfo", name := "remainingLeaseMillis", desc := "()J" } : Jvm.MethodName) prog_10_method_9_code (1 : Nat) (Option.some Jvm.ClassFile.FieldType.long), Jvm.Cond.code ({ cls := "com/example/holdfast/holdfast/LockInfo", name := "fencingToken", desc := "()J" } : Jvm.MethodName) prog_10_method_10_code (1 : Nat) (Option.some Jvm.ClassFile.FieldType.long), Jvm.Cond.code ({ cls := "com/example/holdfast/holdfast/LockInfo", name := "readers", desc := "()Ljava/util/List;" } : Jvm.MethodName) prog_10_method_11_code (1 : Nat) (Option.some (Jvm.ClassFile.FieldType.object "java/util/List")), Jvm.Cond.code ({ cls := "java/util/ImmutableCollections$List12", name := "size", desc := "()I" } : Jvm.MethodName) jdk_44_method_3_code (1 : Nat) (Option.some Jvm.ClassFile.FieldType.int), Jvm.Cond.code ({ cls := "java/util/ImmutableCollections$List12", name := "get", desc := "(I)Ljava/lang/Object;" } : Jvm.MethodName) jdk_44_method_5_code (2 : Nat) (Option.some (Jvm.ClassFile.FieldType.object "java/lang/Object")), Jvm.Cond.code ({ cls := "java/util/List", name := "of", desc := "()Ljava/util/List;" } : Jvm.MethodName) jdk_40_method_36_code (0 : Nat) (Option.some (Jvm.ClassFile.FieldType.object "java/util/List")), Jvm.Cond.code ({ cls := "java/util/ImmutableCollections$ListN", name := "size", desc := "()I" } : Jvm.MethodName) jdk_45_method_3_code (1 : Nat) (Option.some Jvm.ClassFile.FieldType.int), Jvm.Cond.code ({ cls := "java/util/ImmutableCollections$List12", name := "<init>", desc := "(Ljava/lang/Object;Ljava/lang/Object;)V" } : Jvm.MethodName) jdk_44_method_2_code (3 : Nat) (Option.none : Option Jvm.ClassFile.FieldType)]
set_option maxRecDepth 65536 in
theorem codes_eq : words1.filter isCode = codes1 := rfl
theorem w_codes : ∀ c ∈ words1.filter isCode, c.before args0 about1 = true := by
  rw [codes_eq]
  intro c hc
  simp only [codes1, List.mem_cons, List.not_mem_nil, or_false] at hc
  rcases hc with rfl | rfl | rfl | rfl | rfl | rfl | rfl | rfl | rfl | rfl | rfl | rfl | rfl | rfl | rfl | rfl | rfl | rfl | rfl | rfl | rfl | rfl | rfl | rfl | rfl | rfl | rfl | rfl | rfl | rfl | rfl | rfl | rfl | rfl | rfl | rfl | rfl | rfl | rfl | rfl | rfl | rfl | rfl | rfl
  · exact w_c0
  · exact w_c1
  · exact w_c2
  · exact w_c3
  · exact w_c4
  · exact w_c5
  · exact w_c6
  · exact w_c7
  · exact w_c8
  · exact w_c9
  · exact w_c10
  · exact w_c11
  · exact w_c12
  · exact w_c13
  · exact w_c14
  · exact w_c15
  · exact w_c16
  · exact w_c17
  · exact w_c18
  · exact w_c19
  · exact w_c20
  · exact w_c21
  · exact w_c22
  · exact w_c23
  · exact w_c24
  · exact w_c25
  · exact w_c26
  · exact w_c27
  · exact w_c28
  · exact w_c29
  · exact w_c30
  · exact w_c31
  · exact w_c32
  · exact w_c33
  · exact w_c34
  · exact w_c35
  · exact w_c36
  · exact w_c37
  · exact w_c38
  · exact w_c39
  · exact w_c40
  · exact w_c41
  · exact w_c42
  · exact w_c43
set_option maxRecDepth 65536 in
theorem w_t1 : (words1.take 24).all (fun c => isCode c || c.before args0 about1) = true := by decide +kernel
set_option maxRecDepth 65536 in
theorem w_t2 : ((words1.drop 24).take 24).all (fun c => isCode c || c.before args0 about1) = true := by decide +kernel
set_option maxRecDepth 65536 in
theorem w_t3 : (((words1.drop 24).drop 24).take 24).all (fun c => isCode c || c.before args0 about1) = true := by decide +kernel
set_option maxRecDepth 65536 in
theorem w_t4 : ((((words1.drop 24).drop 24).drop 24).take 24).all (fun c => isCode c || c.before args0 about1) = true := by decide +kernel
set_option maxRecDepth 65536 in
theorem w_t5 : (((((words1.drop 24).drop 24).drop 24).drop 24).take 24).all (fun c => isCode c || c.before args0 about1) = true := by decide +kernel
set_option maxRecDepth 65536 in
theorem w_t6 : ((((((words1.drop 24).drop 24).drop 24).drop 24).drop 24).take 24).all (fun c => isCode c || c.before args0 about1) = true := by decide +kernel
set_option maxRecDepth 65536 in
theorem w_t7 : (((((((words1.drop 24).drop 24).drop 24).drop 24).drop 24).drop 24).take 24).all (fun c => isCode c || c.before args0 about1) = true := by decide +kernel
set_option maxRecDepth 65536 in
theorem w_t8 : ((((((((words1.drop 24).drop 24).drop 24).drop 24).drop 24).drop 24).drop 24).take 24).all (fun c => isCode c || c.before args0 about1) = true := by decide +kernel
set_option maxRecDepth 65536 in
theorem w_t9 : (((((((((words1.drop 24).drop 24).drop 24).drop 24).drop 24).drop 24).drop 24).drop 24).take 24).all (fun c => isCode c || c.before args0 about1) = true := by decide +kernel
set_option maxRecDepth 65536 in
theorem w_t10 : ((((((((((words1.drop 24).drop 24).drop 24).drop 24).drop 24).drop 24).drop 24).drop 24).drop 24).take 24).all (fun c => isCode c || c.before args0 about1) = true := by decide +kernel
set_option maxRecDepth 65536 in
theorem w_t11 : (((((((((((words1.drop 24).drop 24).drop 24).drop 24).drop 24).drop 24).drop 24).drop 24).drop 24).drop 24).take 24).all (fun c => isCode c || c.before args0 about1) = true := by decide +kernel
set_option maxRecDepth 65536 in
theorem w_t12 : (((((((((((words1.drop 24).drop 24).drop 24).drop 24).drop 24).drop 24).drop 24).drop 24).drop 24).drop 24).drop 24).all (fun c => isCode c || c.before args0 about1) = true := by decide +kernel
theorem w_tables : (allAtoms (Jvm.Cond.code x code maxLocals ret :: tables_1)).before args0 about1 = true := by
  rw [allAtoms_all]
  show words1.all (fun c => c.before args0 about1) = true
  refine all_split ?_ w_codes
  rw [← List.take_append_drop 24 words1, List.all_append, w_t1, ← List.take_append_drop 24 (words1.drop 24), List.all_append, w_t2, ← List.take_append_drop 24 ((words1.drop 24).drop 24), List.all_append, w_t3, ← List.take_append_drop 24 (((words1.drop 24).drop 24).drop 24), List.all_append, w_t4, ← List.take_append_drop 24 ((((words1.drop 24).drop 24).drop 24).drop 24), List.all_append, w_t5, ← List.take_append_drop 24 (((((words1.drop 24).drop 24).drop 24).drop 24).drop 24), List.all_append, w_t6, ← List.take_append_drop 24 ((((((words1.drop 24).drop 24).drop 24).drop 24).drop 24).drop 24), List.all_append, w_t7, ← List.take_append_drop 24 (((((((words1.drop 24).drop 24).drop 24).drop 24).drop 24).drop 24).drop 24), List.all_append, w_t8, ← List.take_append_drop 24 ((((((((words1.drop 24).drop 24).drop 24).drop 24).drop 24).drop 24).drop 24).drop 24), List.all_append, w_t9, ← List.take_append_drop 24 (((((((((words1.drop 24).drop 24).drop 24).drop 24).drop 24).drop 24).drop 24).drop 24).drop 24), List.all_append, w_t10, ← List.take_append_drop 24 ((((((((((words1.drop 24).drop 24).drop 24).drop 24).drop 24).drop 24).drop 24).drop 24).drop 24).drop 24), List.all_append, w_t11, w_t12]
  rfl
set_option maxRecDepth 65536 in
theorem w_rest : rest_1_c.before args0 about1 = true := by decide +kernel
set_option maxRecDepth 65536 in
theorem w_case : (Jvm.Cond.and given_1 narrow_1).before args0 about1 = true := by decide +kernel
theorem w_applies : (headSpec (Jvm.Cond.code x code maxLocals ret :: tables_1) room_1).applies x e0.platform about1 = true :=
  (Spec.applies_iff w_frames).mpr ⟨w_running, w_runnable, w_alone, w_named, w_hears, w_ripe, w_room, w_tables⟩
theorem atStart : AtStart classFile x code maxLocals ret World_1 tables_1 room_1 Calls_1 rest_1 Pre_1 launch0 p0 e0 about1 theMethod args0 below0 :=
  ⟨lists_1, trivial, launch0.admits_env _ _ _, launch0.least_env, fairChoices_fair.cas, fairChoices_fair.clock, w_frames, w_args, w_heap, w_applies, ⟨⟨39, k39, 4, by decide +kernel, rfl, rfl, _, rfl, rfl⟩, trivial⟩, w_rest, w_case⟩
end start1
theorem witness_1 : WitnessClaimed_1 := ⟨start1.p0, start1.e0, start1.about1, start1.theMethod, start1.args0, start1.below0, start1.atStart⟩
end Jvm.Pilot.@@N@@
