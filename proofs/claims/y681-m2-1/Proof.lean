import JvmDerived
import JvmDerived.Pilot.@@N@@Statement
import JvmDerived.Pilot.@@N@@Code
set_option linter.unusedVariables false
set_option linter.unusedSimpArgs false
namespace Jvm.RoadKit
open Sem ClassFile Op Lib Jvm.Stand Jvm.Free Jvm.LawKit
section OwnKit
variable {p : Program} {l : Launch} {e : Env} {R : Room} {s : State} {m : MethodId} {args : Array Value} {below : List Frame} {meth : Method} {c : Code} {T : State} {locs : List Loc} {cells slots : Nat} {rc rs : Nat} {Q : Option Value → Heap → List Loc → Prop} {S S' : State}
/-- from S on the invocation ends, it returns, and Q holds of what it returns, of the heap and of the places written -/
def OEnds (p : Program) (e : Env) (below : List Frame) (s : State) (rc rs : Nat) (Q : Option Value → Heap → List Loc → Prop) (S : State) : Prop :=
  ∃ s₂ o, Steps p.tables e below S s₂ ∧ s₂.status = .running ∧ Ended s₂ below o ∧ ∃ v L, o = .returned v ∧ Q v s₂.heap L ∧ FrameEnd s o s₂ L rc rs
theorem OEnds.via (h : ∀ t, Steps p.tables e below S' t → Steps p.tables e below S t) (k : OEnds p e below s rc rs Q S') : OEnds p e below s rc rs Q S := by
  obtain ⟨t, o, h1, r⟩ := k
  exact ⟨t, o, h _ h1, r⟩
theorem OEnds.retN (X : Stand p l e R s m args below meth c T locs cells slots) (hx : p.tables.exec = Jvm.exec) (hlk : meth.locks = false) {pc : Nat} {Ls : Array Slot} {z : Int32} {t : FieldType} {rest : List Value} (hret : meth.sig.returnType = some t) (ht : t = .boolean ∨ t = .byte ∨ t = .char ∨ t = .short)
    (hd : decode c.code pc = .ok (.ireturn, 1)) (q : Q (some (.int (nar t z))) T.heap locs) (hc : cells ≤ rc) (hs : slots ≤ rs) : OEnds p e below s rc rs Q (T.setTop (mkF m pc Ls (.int z :: rest))) := by
  obtain ⟨fs, hr, hrun, hended, hW, hsame⟩ := X.leave (v := some (.int (nar t z))) (fun h => by rw [hret] at h; cases h) hlk
  exact ⟨_, _, Jvm.RoadKit.retN X hx hret ht hd hr, hrun, hended, _, _, rfl, q, ⟨_, rfl⟩, hW, hsame.mono hc hs⟩
theorem OEnds.retI (X : Stand p l e R s m args below meth c T locs cells slots) (hx : p.tables.exec = Jvm.exec) (hlk : meth.locks = false) {pc : Nat} {Ls : Array Slot} {z : Int32} {rest : List Value} (hret : meth.sig.returnType = some .int)
    (hd : decode c.code pc = .ok (.ireturn, 1)) (q : Q (some (.int z)) T.heap locs) (hc : cells ≤ rc) (hs : slots ≤ rs) : OEnds p e below s rc rs Q (T.setTop (mkF m pc Ls (.int z :: rest))) := by
  obtain ⟨fs, hr, hrun, hended, hW, hsame⟩ := X.leave (v := some (.int z)) (fun h => by rw [hret] at h; cases h) hlk
  exact ⟨_, _, retOut X hx hret rfl (Or.inl ⟨rfl, Or.inl rfl, z, rfl⟩) hd hr, hrun, hended, _, _, rfl, q, ⟨_, rfl⟩, hW, hsame.mono hc hs⟩
theorem OEnds.retJ (X : Stand p l e R s m args below meth c T locs cells slots) (hx : p.tables.exec = Jvm.exec) (hlk : meth.locks = false) {pc : Nat} {Ls : Array Slot} {z : Int64} {rest : List Value} (hret : meth.sig.returnType = some .long)
    (hd : decode c.code pc = .ok (.lreturn, 1)) (q : Q (some (.long z)) T.heap locs) (hc : cells ≤ rc) (hs : slots ≤ rs) : OEnds p e below s rc rs Q (T.setTop (mkF m pc Ls (.long z :: rest))) := by
  obtain ⟨fs, hr, hrun, hended, hW, hsame⟩ := X.leave (v := some (.long z)) (fun h => by rw [hret] at h; cases h) hlk
  exact ⟨_, _, retOut X hx hret rfl (Or.inr (Or.inl ⟨rfl, rfl, z, rfl⟩)) hd hr, hrun, hended, _, _, rfl, q, ⟨_, rfl⟩, hW, hsame.mono hc hs⟩
theorem OEnds.retR (X : Stand p l e R s m args below meth c T locs cells slots) (hx : p.tables.exec = Jvm.exec) (hlk : meth.locks = false) {pc : Nat} {Ls : Array Slot} {w : Value} {t : FieldType} {rest : List Value} (hret : meth.sig.returnType = some t) (ht : t.isReference = true) (hw : w.isRef = true)
    (hd : decode c.code pc = .ok (.areturn, 1)) (q : Q (some w) T.heap locs) (hc : cells ≤ rc) (hs : slots ≤ rs) : OEnds p e below s rc rs Q (T.setTop (mkF m pc Ls (w :: rest))) := by
  obtain ⟨fs, hr, hrun, hended, hW, hsame⟩ := X.leave (v := some w) (fun h => by rw [hret] at h; cases h) hlk
  have hn : narrow t w = w := by rcases ref_cases hw with rfl | ⟨a, rfl⟩ <;> cases t <;> rfl
  exact ⟨_, _, retOut X hx hret hn (Or.inr (Or.inr (Or.inr (Or.inr ⟨rfl, ht, hw⟩)))) hd hr, hrun, hended, _, _, rfl, q, ⟨_, rfl⟩, hW, hsame.mono hc hs⟩
theorem OEnds.retV (X : Stand p l e R s m args below meth c T locs cells slots) (hx : p.tables.exec = Jvm.exec) (hlk : meth.locks = false) {pc : Nat} {Ls : Array Slot} (hret : meth.sig.returnType = none)
    (hd : decode c.code pc = .ok (.return_, 1)) (q : Q none T.heap locs) (hc : cells ≤ rc) (hs : slots ≤ rs) : OEnds p e below s rc rs Q (T.setTop (mkF m pc Ls [])) := by
  obtain ⟨fs, hr, hrun, hended, hW, hsame⟩ := X.leave (v := none) (fun _ => rfl) hlk
  exact ⟨_, _, X.returnOut hx hret hd hr, hrun, hended, _, _, rfl, q, ⟨_, rfl⟩, hW, hsame.mono hc hs⟩
/-- the call answers r, writes nothing that was there, makes nothing -/
def QA (r : Option Value) (h0 : Heap) (n0 : Nat) : Option Value → Heap → List Loc → Prop := fun v h L => v = r ∧ Fr n0 L ∧ h = h0
/-- the law's own answer -/
def QL (n0 : Nat) : Option Value → Heap → List Loc → Prop := fun v _ L => v = some (.int 1) ∧ Fr n0 L
theorem own_lc0 (x : Int64) : lcmpW x x = 0 := by rw [lcW]; exact (lc_eq _ _).mpr rfl
theorem own_lcpos {x y : Int64} (h : y < x) : 0 < lcmpW x y := by rw [lcW]; exact (lc_gt _ _).mpr h
theorem own_lcnpos {x y : Int64} (h : ¬ y < x) : ¬ 0 < lcmpW x y := by rw [lcW]; exact fun q => h ((lc_gt _ _).mp q)
theorem own_narrow {t : String} {w : Value} (h : w.isRef = true) : narrow (.object t) w = w := by rcases ref_cases h with rfl | ⟨_, rfl⟩ <;> rfl
theorem own_fits {t : String} {w : Value} (h : w.isRef = true) : fits (.object t) w = true := by rcases ref_cases h with rfl | ⟨_, rfl⟩ <;> rfl
end OwnKit
section OwnWords
variable {args : Array Value} {s : State} {t u : Term} {a : Addr} {cl : Cell} {ty : FieldType} {j k : Int32}
theorem own_eqint (h : (Jvm.Cond.eq t (.int k)).value args s none s [] = some true) : t.eval args s none [] s = some (.int k) := by
  obtain ⟨x, y, e1, e2, -, k2⟩ := cmp_v (Or.inl h)
  obtain rfl : Value.int k = y := Option.some.inj ((Term.int_eval k).symm.trans e2)
  obtain ⟨z, rfl⟩ : ∃ z, x = .int z := k2
  have q := gotT (Cond.eq_ints e1 (Term.int_eval k)) h
  rw [e1, q]
theorem own_len (h : (Jvm.Cond.eq (.length t) (.int k)).value args s none s [] = some true) (ev : t.eval args s none [] s = some (.ref a)) (A : Arr s s.heap a cl ty) : cl.slots.size < 2 ^ 31 ∧ cl.slots.size.toInt32 = k := by
  have e1 := own_eqint h
  have e2 : s.arrayAt? a = some cl := A.fin (Vm.Alike.refl _)
  have e3 : cl.slots.size < 2 ^ 31 := by
    refine Classical.byContradiction fun q => ?_
    simp [Term.eval, ev, e2, q] at e1
  have e4 := len_f ev e2 e3
  rw [e1] at e4
  exact ⟨e3, (Value.int.inj (Option.some.inj e4)).symm⟩
theorem own_elem (h : (Jvm.Cond.eq (.elem t (.int j)) (.int k)).value args s none s [] = some true) (ev : t.eval args s none [] s = some (.ref a)) (A : Arr s s.heap a cl ty) : cl.slots[j.toNatClampNeg]? = some (.int k) :=
  (elem_in (own_eqint h) ev (Term.int_eval j) A.1).2
theorem own_eqref (h : (Jvm.Cond.eq t u).value args s none s [] = some true) (eu : u.eval args s none [] s = some (.ref a)) : t.eval args s none [] s = some (.ref a) := by
  obtain ⟨x, y, e1, e2, -, k2⟩ := cmp_v (Or.inl h)
  obtain rfl : Value.ref a = y := Option.some.inj (eu.symm.trans e2)
  have hx : x.isRef = true := k2.2
  have q := gotT (eq_R e1 eu hx rfl) h
  rw [e1, q]
theorem own_elemR (h : (Jvm.Cond.eq (.elem t (.int j)) u).value args s none s [] = some true) {b : Addr} (eu : u.eval args s none [] s = some (.ref b)) (ev : t.eval args s none [] s = some (.ref a)) (A : Arr s s.heap a cl ty) : cl.slots[j.toNatClampNeg]? = some (.ref b) :=
  (elem_in (own_eqref h eu) ev (Term.int_eval j) A.1).2
end OwnWords
end Jvm.RoadKit
namespace Jvm.RoadKit
open Sem ClassFile Op Lib Jvm.Stand Jvm.Free Jvm.LawKit
section OwnWide
variable {p : Program} {l : Launch} {e : Env} {R : Room} {s : State} {m : MethodId} {args : Array Value} {below : List Frame} {meth : Method} {c : Code} {T : State} {locs : List Loc} {cells slots : Nat} {rc rs : Nat} {Q : Option Value → Heap → List Loc → Prop} {S S' : State} {Z : State} {a0 : Array Value} {EL : List (String × Nat)} {vm : Vm} {k0 : Nat} {h h0 : Heap}
/-- as OEnds, for a road that may intern constants: the books of the constants go on -/
def OEndsW (p : Program) (e : Env) (below : List Frame) (s : State) (Z : State) (EL : List (String × Nat)) (rc rs : Nat) (Q : Option Value → Heap → List Loc → Prop) (S : State) : Prop :=
  ∃ s₂ o, Steps p.tables e below S s₂ ∧ s₂.status = .running ∧ Ended s₂ below o ∧ ∃ v L, o = .returned v ∧ Q v s₂.heap L ∧ CHr Z EL s.vm s.heap s₂.vm s₂.heap ∧ ReturnedEndW s o s₂ L rc rs
theorem OEndsW.via (g : ∀ t, Steps p.tables e below S' t → Steps p.tables e below S t) (k : OEndsW p e below s Z EL rc rs Q S') : OEndsW p e below s Z EL rc rs Q S := by
  obtain ⟨t, o, h1, r⟩ := k
  exact ⟨t, o, g _ h1, r⟩
theorem OEndsW.out (X : Stand p l e R (s.setVm vm) m args below meth c T locs cells slots) (hlk : meth.locks = false) (hS : s.Since vm k0) (hk : k0 ≤ h.size) (hZ : Z.Warmed39 vm) (hEL : EW Z a0 EL) (eT : T.heap = h) (es : s.heap = h0) (CR : CHr Z EL s.vm h0 vm h) {v : Option Value} (hv : meth.sig.returnType = none → v = none)
    (hst : ∀ fs, (∀ (f : JFrame) (acts : List Action), f.method = m → f.locked = none → f.entered = [] → (doReturn e (T.setTop f) acts v).1 = T.setFrames fs) → Steps p.tables e below S (T.setFrames fs)) (q : Q v T.heap locs) (hc : cells ≤ rc) (hs : slots ≤ rs) : OEndsW p e below s Z EL rc rs Q S := by
  obtain ⟨fs, hr, hrun, hended, a, b, c', d⟩ := X.leaveW hS (by rw [eT]; exact hk) (v := v) hv hlk
  have A := CR.trans (CHv.at X hZ hEL CR.1)
  refine ⟨_, _, hst fs hr, hrun, hended, _, _, rfl, q, ?_, a, b, c', d.mono hc hs⟩
  show CHr Z EL s.vm s.heap T.vm T.heap
  rw [es, eT]
  exact A
theorem OEndsW.retN (X : Stand p l e R (s.setVm vm) m args below meth c T locs cells slots) (hx : p.tables.exec = Jvm.exec) (hlk : meth.locks = false) (hS : s.Since vm k0) (hk : k0 ≤ h.size) (hZ : Z.Warmed39 vm) (hEL : EW Z a0 EL) (eT : T.heap = h) (es : s.heap = h0) (CR : CHr Z EL s.vm h0 vm h) {pc : Nat} {Ls : Array Slot} {z : Int32} {t : FieldType} {rest : List Value} (hret : meth.sig.returnType = some t) (ht : t = .boolean ∨ t = .byte ∨ t = .char ∨ t = .short)
    (hd : decode c.code pc = .ok (.ireturn, 1)) (q : Q (some (.int (nar t z))) T.heap locs) (hc : cells ≤ rc) (hs : slots ≤ rs) : OEndsW p e below s Z EL rc rs Q (T.setTop (mkF m pc Ls (.int z :: rest))) :=
  OEndsW.out X hlk hS hk hZ hEL eT es CR (fun h => by rw [hret] at h; cases h) (fun fs hr => Jvm.RoadKit.retN X hx hret ht hd hr) q hc hs
theorem OEndsW.retI (X : Stand p l e R (s.setVm vm) m args below meth c T locs cells slots) (hx : p.tables.exec = Jvm.exec) (hlk : meth.locks = false) (hS : s.Since vm k0) (hk : k0 ≤ h.size) (hZ : Z.Warmed39 vm) (hEL : EW Z a0 EL) (eT : T.heap = h) (es : s.heap = h0) (CR : CHr Z EL s.vm h0 vm h) {pc : Nat} {Ls : Array Slot} {z : Int32} {rest : List Value} (hret : meth.sig.returnType = some .int)
    (hd : decode c.code pc = .ok (.ireturn, 1)) (q : Q (some (.int z)) T.heap locs) (hc : cells ≤ rc) (hs : slots ≤ rs) : OEndsW p e below s Z EL rc rs Q (T.setTop (mkF m pc Ls (.int z :: rest))) :=
  OEndsW.out X hlk hS hk hZ hEL eT es CR (fun h => by rw [hret] at h; cases h) (fun fs hr => retOut X hx hret rfl (Or.inl ⟨rfl, Or.inl rfl, z, rfl⟩) hd hr) q hc hs
theorem OEndsW.retJ (X : Stand p l e R (s.setVm vm) m args below meth c T locs cells slots) (hx : p.tables.exec = Jvm.exec) (hlk : meth.locks = false) (hS : s.Since vm k0) (hk : k0 ≤ h.size) (hZ : Z.Warmed39 vm) (hEL : EW Z a0 EL) (eT : T.heap = h) (es : s.heap = h0) (CR : CHr Z EL s.vm h0 vm h) {pc : Nat} {Ls : Array Slot} {z : Int64} {rest : List Value} (hret : meth.sig.returnType = some .long)
    (hd : decode c.code pc = .ok (.lreturn, 1)) (q : Q (some (.long z)) T.heap locs) (hc : cells ≤ rc) (hs : slots ≤ rs) : OEndsW p e below s Z EL rc rs Q (T.setTop (mkF m pc Ls (.long z :: rest))) :=
  OEndsW.out X hlk hS hk hZ hEL eT es CR (fun h => by rw [hret] at h; cases h) (fun fs hr => retOut X hx hret rfl (Or.inr (Or.inl ⟨rfl, rfl, z, rfl⟩)) hd hr) q hc hs
theorem OEndsW.retR (X : Stand p l e R (s.setVm vm) m args below meth c T locs cells slots) (hx : p.tables.exec = Jvm.exec) (hlk : meth.locks = false) (hS : s.Since vm k0) (hk : k0 ≤ h.size) (hZ : Z.Warmed39 vm) (hEL : EW Z a0 EL) (eT : T.heap = h) (es : s.heap = h0) (CR : CHr Z EL s.vm h0 vm h) {pc : Nat} {Ls : Array Slot} {w : Value} {t : FieldType} {rest : List Value} (hret : meth.sig.returnType = some t) (ht : t.isReference = true) (hw : w.isRef = true)
    (hd : decode c.code pc = .ok (.areturn, 1)) (q : Q (some w) T.heap locs) (hc : cells ≤ rc) (hs : slots ≤ rs) : OEndsW p e below s Z EL rc rs Q (T.setTop (mkF m pc Ls (w :: rest))) :=
  OEndsW.out X hlk hS hk hZ hEL eT es CR (fun h => by rw [hret] at h; cases h) (fun fs hr => retOut X hx hret (by rcases ref_cases hw with rfl | ⟨a, rfl⟩ <;> cases t <;> rfl) (Or.inr (Or.inr (Or.inr (Or.inr ⟨rfl, ht, hw⟩)))) hd hr) q hc hs
theorem OEndsW.retV (X : Stand p l e R (s.setVm vm) m args below meth c T locs cells slots) (hx : p.tables.exec = Jvm.exec) (hlk : meth.locks = false) (hS : s.Since vm k0) (hk : k0 ≤ h.size) (hZ : Z.Warmed39 vm) (hEL : EW Z a0 EL) (eT : T.heap = h) (es : s.heap = h0) (CR : CHr Z EL s.vm h0 vm h) {pc : Nat} {Ls : Array Slot} (hret : meth.sig.returnType = none)
    (hd : decode c.code pc = .ok (.return_, 1)) (q : Q none T.heap locs) (hc : cells ≤ rc) (hs : slots ≤ rs) : OEndsW p e below s Z EL rc rs Q (T.setTop (mkF m pc Ls [])) :=
  OEndsW.out X hlk hS hk hZ hEL eT es CR (fun _ => rfl) (fun fs hr => X.returnOut hx hret hd hr) q hc hs
theorem own_safeV {a : Addr} {k : ClassId} {ty : FieldType} {n : Int32} {vs : List Value} {d : Value} (hal : Z.vm.Alike vm) (V : Arv Z h a k ty n vs d) (ht : ty ≠ .byte) : Safe Z EL vm h a := by
  obtain ⟨c, A, -⟩ := V
  exact Safe.arr hal A ht
theorem own_safe_null {x : Addr} (hal : Z.vm.Alike vm) (E : Exa Z h x "java/lang/String") (F : Fld Z h x "java/lang/String" "value" "[B" .null) : Safe Z EL vm h x := fun B => by
  obtain ⟨p, -, u, a, -, q, -, G, rfl | rfl⟩ := B
  · obtain ⟨cell, cf, k, i, f, h1, h2, -, -, -, -, h7⟩ := F
    cases (show h[q.sa]? = some q.sC from G.ha).symm.trans h1
    obtain ⟨cS, ⟨⟨s1, s2, s3, ⟨cv, kv, iv, s4, s4'⟩, s5, s6, s7, s8, r⟩, hfS, hcS⟩, -⟩ := G
    obtain ⟨kv', z4⟩ := ff_back (U := Wst Z vm h) hal s4
    cases h2.symm.trans z4
    rw [s8] at h7
    cases h7
  · obtain ⟨cell, k, e1, e2, e3, -, -⟩ := E
    cases (show h[q.sd]? = some q.SA from G.hd).symm.trans e1
    obtain ⟨cS, -, -, f, -⟩ := G
    have f : vm.findClass "[B" = some q.SA.cls := f
    rw [hal.findClass] at f
    obtain ⟨k1, q1, q2⟩ := Vm.findClass_spec f
    obtain ⟨k2, q3, q4⟩ := Vm.findClass_spec e2
    cases q1.symm.trans q3
    exact absurd (q2.symm.trans q4) (by decide)
end OwnWide
end Jvm.RoadKit
/- laws to paste: Road.backV (cut by pick.py; bodies as the Statement names them) -/
namespace Jvm.Pilot.@@N@@
namespace StrChars
open Jvm Sem ClassFile Op Lib Jvm.Stand Jvm.Free.XT Jvm.Free.ALB Jvm.Free.JM Jvm.Free
open Jvm.Lib.Cold (StaticIs)
/-- a char array whose places are chars -/
def Ch (a : Addr) (A : Cell) (U : State) : Prop := Arr .char a A U ∧ Typed .char A
theorem Ch.mv {a : Addr} {A : Cell} {U U' : State} (h : Ch a A U) (hal : U.vm.Alike U'.vm) (hh : U'.heap = U.heap) : Ch a A U' := ⟨h.1.mv hal hh, h.2⟩
theorem Ch.keep {a : Addr} {A : Cell} {U U' : State} (h : Ch a A U) (hal : U.vm.Alike U'.vm) (hk : U'.heap[a]? = some A) : Ch a A U' := ⟨h.1.keep hal hk, h.2⟩
/-- what place i of a char[]'s cell holds -/
def cv (A : Cell) (i : Nat) : Int32 := match A.slots[i]? with | some (.int x) => x | _ => 0
theorem Ch.get {a : Addr} {A : Cell} {U : State} (h : Ch a A U) {i : Nat} (hi : i < A.slots.size) : A.slots[i]? = some (.int (cv A i)) := by
  have e := Array.getElem?_eq_getElem hi
  have f := h.2 i _ e
  unfold cv; rw [e]
  generalize A.slots[i] = v at f
  cases v <;> simp [fits] at f ⊢
/-- the byte that i2b leaves of a char -/
def lo8 (x : Int32) : Int32 := x.toInt8.toInt32
theorem fits_lo8 (y : Int32) : fits .byte (.int (lo8 y)) = true := by
  have h1 := y.toInt8.le_toInt
  have h2 := y.toInt8.toInt_lt
  simp only [lo8, fits, Bool.and_eq_true, decide_eq_true_eq, Int32.le_iff_toInt_le, Int8.toInt_toInt32, show (-128 : Int32).toInt = -128 from by decide, show (127 : Int32).toInt = 127 from by decide]
  omega
/-- A' is A but that each place j of lo .. hi - 1 holds f j -/
def Laid (A A' : Cell) (lo hi : Nat) (f : Nat → Value) : Prop := A'.cls = A.cls ∧ A'.vm = A.vm ∧ A'.slots.size = A.slots.size ∧ ∀ i, A'.slots[i]? = if lo ≤ i ∧ i < hi then some (f i) else A.slots[i]?
theorem Laid.zero (A : Cell) (lo : Nat) (f : Nat → Value) : Laid A A lo (lo + 0) f := ⟨rfl, rfl, rfl, fun i => by rw [if_neg (by omega)]⟩
theorem Laid.step {A Ak : Cell} {lo k : Nat} {f : Nat → Value} {v : Value} (h : Laid A Ak lo k f) (hlo : lo ≤ k) (hk : k < Ak.slots.size) (hv : v = f k) : Laid A (Ak.setSlot k v) lo (k + 1) f := by
  refine ⟨h.1, h.2.1, by simpa [Cell.setSlot] using h.2.2.1, fun i => ?_⟩
  by_cases e : k = i
  · subst e; rw [Cell.slots_setSlot_self v hk, if_pos (by omega), hv]
  · rw [Cell.slots_setSlot_ne v e, h.2.2.2 i]
    by_cases q : lo ≤ i ∧ i < k
    · rw [if_pos q, if_pos (by omega)]
    · rw [if_neg q, if_neg (by omega)]
def U16 : String := "java/lang/StringUTF16"
namespace Cmp5
def yN : MethodName := ⟨"java/lang/StringUTF16", "compress", "([CI[BII)I"⟩
abbrev yB : ByteArray := jdk_52_method_21_code
theorem d0 : decode yB 0 = .ok (.iconst 0, 1) := by decide +kernel
theorem d1 : decode yB 1 = .ok (.istore 5, 2) := by decide +kernel
theorem d3 : decode yB 3 = .ok (.iload 5, 2) := by decide +kernel
theorem d5 : decode yB 5 = .ok (.iload 4, 2) := by decide +kernel
theorem d7 : decode yB 7 = .ok (.if_icmp (.ge) 37, 3) := by decide +kernel
theorem d10 : decode yB 10 = .ok (.aload_n 0, 1) := by decide +kernel
theorem d11 : decode yB 11 = .ok (.iload_n 1, 1) := by decide +kernel
theorem d12 : decode yB 12 = .ok (.caload, 1) := by decide +kernel
theorem d13 : decode yB 13 = .ok (.istore 6, 2) := by decide +kernel
theorem d15 : decode yB 15 = .ok (.iload 6, 2) := by decide +kernel
theorem d17 : decode yB 17 = .ok (.sipush 255, 3) := by decide +kernel
theorem d20 : decode yB 20 = .ok (.if_icmp (.le) 6, 3) := by decide +kernel
theorem d26 : decode yB 26 = .ok (.aload_n 2, 1) := by decide +kernel
theorem d27 : decode yB 27 = .ok (.iload_n 3, 1) := by decide +kernel
theorem d28 : decode yB 28 = .ok (.iload 6, 2) := by decide +kernel
theorem d30 : decode yB 30 = .ok (.i2b, 1) := by decide +kernel
theorem d31 : decode yB 31 = .ok (.bastore, 1) := by decide +kernel
theorem d32 : decode yB 32 = .ok (.iinc 1 1, 3) := by decide +kernel
theorem d35 : decode yB 35 = .ok (.iinc 3 1, 3) := by decide +kernel
theorem d38 : decode yB 38 = .ok (.iinc 5 1, 3) := by decide +kernel
theorem d41 : decode yB 41 = .ok (.goto (-38), 3) := by decide +kernel
theorem d44 : decode yB 44 = .ok (.iload 4, 2) := by decide +kernel
theorem d46 : decode yB 46 = .ok (.ireturn, 1) := by decide +kernel
def site : List Cond := []
def tab : Cond := tabOf yN yB 7 (some .int) site
def P (b : Addr) (A : Cell) (d : Addr) (B : Cell) (o q len : Nat) (args : Array Value) (s : State) : Prop := args = #[.ref b, .int (Int32.ofNat o), .ref d, .int (Int32.ofNat q), .int (Int32.ofNat len)] ∧ Ch b A s ∧ Arr .byte d B s ∧ b ≠ d ∧ o + len ≤ A.slots.size ∧ q + len ≤ B.slots.size ∧ ∀ i, i < len → ¬ 255 < cv A (o + i)
def E (b : Addr) (A : Cell) (d : Addr) (B : Cell) (o q len : Nat) (r : Option Value) (s u : State) : Prop := r = some (.int (Int32.ofNat len)) ∧ ∃ B', Put d B' s u ∧ Laid B B' q (q + len) (fun j => Value.int (lo8 (cv A (o + (j - q)))))
/-- no char of the range above 255: len; the places written hold each char's low byte -/
theorem law (l : Launch) (b : Addr) (A : Cell) (d : Addr) (B : Cell) (o q len : Nat) : Law l yN 5 5 0 0 yB 7 (some .int) site (P b A d B o q len) (E b A d B o q len) (copyLocs d q len) 0 0 := by
  refine Law.of_walk (plainFor_of_name (by decide +kernel)) (by decide +kernel) (by decide +kernel) (by decide) (fun _ _ h => by rw [h.1]; rfl) (fun _ U U' hal hh h => ⟨h.1, h.2.1.mv hal hh, h.2.2.1.mv hal hh, h.2.2.2⟩) (fun r U U' V V' h1 hal h2 h => ⟨h.1, h.2.elim fun B' q => ⟨B', q.1.mv h1 h2, q.2⟩⟩) ?_
  intro p e s m args below meth c s₁ X0 hexec hbytes hml hret hlk hnm hown hh0 W hP
  obtain ⟨rfl, hA, hB, hne, l1, l2, hp⟩ := hP
  have c1 : Steps p.tables e below (s₁.setTop (entryFrame m #[.ref b, .int (Int32.ofNat o), .ref d, .int (Int32.ofNat q), .int (Int32.ofNat len)] 7)) (s₁.setTop (mkF m 0 #[.val (.ref b), .val (.int (Int32.ofNat o)), .val (.ref d), .val (.int (Int32.ofNat q)), .val (.int (Int32.ofNat len)), .unset, .unset] [])) := entry rfl
  have hA0 := hA.1.mv X0.warmed.alike hh0
  have hB0 := hB.mv X0.warmed.alike hh0
  have a31 := hA.1.2.2.2
  have c2 : Steps p.tables e below (s₁.setTop (entryFrame m #[.ref b, .int (Int32.ofNat o), .ref d, .int (Int32.ofNat q), .int (Int32.ofNat len)] 7)) (s₁.setTop (mkF m 3 #[.val (.ref b), .val (.int (Int32.ofNat o)), .val (.ref d), .val (.int (Int32.ofNat q)), .val (.int (Int32.ofNat len)), .val (.int 0), .unset] [])) := c1.trans (by
    refine iconstV X0.here hexec rfl 0 (hb hbytes d0) (by decide) ?_
    refine XS.istore X0.here hexec rfl (hb hbytes d1) rfl rfl ?_
    exact Steps.refl _)
  have loop : ∀ (r i : Nat), i + r = len → ∀ (z : Slot), (z = .unset ∨ ∃ w, z = .val w ∧ w.category = 1) → ∀ (Tl : State) (Bk : Cell), Stand p l e { frames := 0, locals := 0, cells := 0, slots := 0 } s m #[.ref b, .int (Int32.ofNat o), .ref d, .int (Int32.ofNat q), .int (Int32.ofNat len)] below meth c Tl ([] ++ copyLocs d q i) 0 0 → Put d Bk s₁ Tl → Laid B Bk q (q + i) (fun j => Value.int (lo8 (cv A (o + (j - q))))) →
      Steps p.tables e below (s₁.setTop (entryFrame m #[.ref b, .int (Int32.ofNat o), .ref d, .int (Int32.ofNat q), .int (Int32.ofNat len)] 7)) (Tl.setTop (mkF m 3 #[.val (.ref b), .val (.int (Int32.ofNat (o + i))), .val (.ref d), .val (.int (Int32.ofNat (q + i))), .val (.int (Int32.ofNat len)), .val (.int (Int32.ofNat i)), z] [])) → ∃ (T' : State) (B' : Cell) (z' : Slot), Stand p l e { frames := 0, locals := 0, cells := 0, slots := 0 } s m #[.ref b, .int (Int32.ofNat o), .ref d, .int (Int32.ofNat q), .int (Int32.ofNat len)] below meth c T' ([] ++ copyLocs d q len) 0 0 ∧ Put d B' s₁ T' ∧ Laid B B' q (q + len) (fun j => Value.int (lo8 (cv A (o + (j - q))))) ∧
      Steps p.tables e below (s₁.setTop (entryFrame m #[.ref b, .int (Int32.ofNat o), .ref d, .int (Int32.ofNat q), .int (Int32.ofNat len)] 7)) (T'.setTop (mkF m 3 #[.val (.ref b), .val (.int (Int32.ofNat (o + len))), .val (.ref d), .val (.int (Int32.ofNat (q + len))), .val (.int (Int32.ofNat len)), .val (.int (Int32.ofNat len)), z'] [])) := by
    intro r
    induction r with
    | zero =>
      intro i hi z hz Tl Bk Xl pl fl cl
      have hil : i = len := by omega
      rw [hil] at Xl fl cl
      exact ⟨Tl, Bk, z, Xl, pl, fl, cl⟩
    | succ r ih =>
      intro i hi z hz Tl Bk Xl pl fl cl
      have all := X0.warmed.alike.symm.trans Xl.warmed.alike
      have hAl := hA0.keep all (pl.other hne hA0.1)
      have hBk := hB0.like all pl.1 fl.1 fl.2.1 fl.2.2.1
      have hlt : q + i < Bk.slots.size := by rw [fl.2.2.1]; omega
      have c3 : Steps p.tables e below (s₁.setTop (entryFrame m #[.ref b, .int (Int32.ofNat o), .ref d, .int (Int32.ofNat q), .int (Int32.ofNat len)] 7)) (Tl.setTop (mkF m 12 #[.val (.ref b), .val (.int (Int32.ofNat (o + i))), .val (.ref d), .val (.int (Int32.ofNat (q + i))), .val (.int (Int32.ofNat len)), .val (.int (Int32.ofNat i)), z] [.int (Int32.ofNat (o + i)), .ref b])) := cl.trans (by
        refine XS.iload Xl.here hexec rfl (hb hbytes d3) rfl ?_
        refine XS.iload Xl.here hexec rfl (hb hbytes d5) rfl ?_
        refine XS.icmpNo Xl.here hexec rfl (hb hbytes d7) rfl (ii_ge_f (lt32 (by omega) (by omega))) ?_
        refine XS.aloadN Xl.here hexec rfl (hb hbytes d10) rfl rfl ?_
        refine XS.iloadN Xl.here hexec rfl (hb hbytes d11) rfl ?_
        exact Steps.refl _)
      have c4 : Steps p.tables e below (s₁.setTop (entryFrame m #[.ref b, .int (Int32.ofNat o), .ref d, .int (Int32.ofNat q), .int (Int32.ofNat len)] 7)) (Tl.setTop (mkF m 13 #[.val (.ref b), .val (.int (Int32.ofNat (o + i))), .val (.ref d), .val (.int (Int32.ofNat (q + i))), .val (.int (Int32.ofNat len)), .val (.int (Int32.ofNat i)), z] [.int (cv A (o + i))])) := c3.trans (by
        refine Xl.aget hexec hAl rfl (hA.get (i := o + i) (by omega)) rfl rfl (hb hbytes d12) ?_
        exact Steps.refl _)
      have c5 : Steps p.tables e below (s₁.setTop (entryFrame m #[.ref b, .int (Int32.ofNat o), .ref d, .int (Int32.ofNat q), .int (Int32.ofNat len)] 7)) (Tl.setTop (mkF m 15 #[.val (.ref b), .val (.int (Int32.ofNat (o + i))), .val (.ref d), .val (.int (Int32.ofNat (q + i))), .val (.int (Int32.ofNat len)), .val (.int (Int32.ofNat i)), .val (.int (cv A (o + i)))] [])) := c4.trans (by
        refine XS.istoreS Xl.here hexec rfl (hb hbytes d13) rfl rfl hz ?_
        exact Steps.refl _)
      have c6 : Steps p.tables e below (s₁.setTop (entryFrame m #[.ref b, .int (Int32.ofNat o), .ref d, .int (Int32.ofNat q), .int (Int32.ofNat len)] 7)) (Tl.setTop (mkF m 31 #[.val (.ref b), .val (.int (Int32.ofNat (o + i))), .val (.ref d), .val (.int (Int32.ofNat (q + i))), .val (.int (Int32.ofNat len)), .val (.int (Int32.ofNat i)), .val (.int (cv A (o + i)))] [.int (lo8 (cv A (o + i))), .int (Int32.ofNat (q + i)), .ref d])) := c5.trans (by
        refine XS.iload Xl.here hexec rfl (hb hbytes d15) rfl ?_
        refine sipushV Xl.here hexec rfl 255 (hb hbytes d17) (by decide) ?_
        refine XS.icmpYes Xl.here hexec rfl (pc0 := 20) rfl (hb hbytes d20) rfl (ii_le_t (hp i (by omega))) (by decide) rfl ?_
        refine XS.aloadN Xl.here hexec rfl (hb hbytes d26) rfl rfl ?_
        refine XS.iloadN Xl.here hexec rfl (hb hbytes d27) rfl ?_
        refine XS.iload Xl.here hexec rfl (hb hbytes d28) rfl ?_
        refine i2b Xl.here hexec rfl (hb hbytes d30) rfl ?_
        exact Steps.refl _)
      obtain ⟨T7, X7, p7, st7⟩ := Xl.aput hexec hBk rfl hlt rfl (fits_lo8 (cv A (o + i))) (g := (mkF m 31 #[.val (.ref b), .val (.int (Int32.ofNat (o + i))), .val (.ref d), .val (.int (Int32.ofNat (q + i))), .val (.int (Int32.ofNat len)), .val (.int (Int32.ofNat i)), .val (.int (cv A (o + i)))] [.int (lo8 (cv A (o + i))), .int (Int32.ofNat (q + i)), .ref d])) rfl (rest := []) rfl (hb hbytes d31)
      have c8 : Steps p.tables e below (s₁.setTop (entryFrame m #[.ref b, .int (Int32.ofNat o), .ref d, .int (Int32.ofNat q), .int (Int32.ofNat len)] 7)) (T7.setTop (mkF m 32 #[.val (.ref b), .val (.int (Int32.ofNat (o + i))), .val (.ref d), .val (.int (Int32.ofNat (q + i))), .val (.int (Int32.ofNat len)), .val (.int (Int32.ofNat i)), .val (.int (cv A (o + i)))] [])) := c6.trans (st7 _ (Steps.refl _))
      have c9 : Steps p.tables e below (s₁.setTop (entryFrame m #[.ref b, .int (Int32.ofNat o), .ref d, .int (Int32.ofNat q), .int (Int32.ofNat len)] 7)) (T7.setTop (mkF m 3 #[.val (.ref b), .val (.int (Int32.ofNat (o + i) + 1)), .val (.ref d), .val (.int (Int32.ofNat (q + i) + 1)), .val (.int (Int32.ofNat len)), .val (.int (Int32.ofNat i + 1)), .val (.int (cv A (o + i)))] [])) := c8.trans (by
        refine iincV X7.here hexec rfl 1 (hb hbytes d32) (by decide) rfl rfl ?_
        refine iincV X7.here hexec rfl 1 (hb hbytes d35) (by decide) rfl rfl ?_
        refine iincV X7.here hexec rfl 1 (hb hbytes d38) (by decide) rfl rfl ?_
        refine XS.goto X7.here hexec rfl (pc0 := 41) rfl (hb hbytes d41) (by decide) rfl ?_
        exact Steps.refl _)
      have c10 : Steps p.tables e below (s₁.setTop (entryFrame m #[.ref b, .int (Int32.ofNat o), .ref d, .int (Int32.ofNat q), .int (Int32.ofNat len)] 7)) (T7.setTop (mkF m 3 #[.val (.ref b), .val (.int (Int32.ofNat (o + (i + 1)))), .val (.ref d), .val (.int (Int32.ofNat (q + (i + 1)))), .val (.int (Int32.ofNat len)), .val (.int (Int32.ofNat (i + 1))), .val (.int (cv A (o + i)))] [])) := by
        have := c9
        rw [succ32, succ32, succ32] at this
        exact this
      exact ih (i + 1) (by omega) _ (Or.inr ⟨_, rfl, rfl⟩) T7 _ (by rw [copyLocs_step, ← List.append_assoc]; exact X7) (pl.trans p7) (fl.step (by omega) hlt (by simp)) c10
  obtain ⟨T9, B9, z9, X9, p9, f9, g9⟩ := loop len 0 (by omega) .unset (Or.inl rfl) s₁ B (by simpa [copyLocs] using X0) ⟨hB0.1, fun _ _ => rfl, rfl⟩ (Laid.zero _ _ _) c2
  have c11 : Steps p.tables e below (s₁.setTop (entryFrame m #[.ref b, .int (Int32.ofNat o), .ref d, .int (Int32.ofNat q), .int (Int32.ofNat len)] 7)) (T9.setTop (mkF m 46 #[.val (.ref b), .val (.int (Int32.ofNat (o + len))), .val (.ref d), .val (.int (Int32.ofNat (q + len))), .val (.int (Int32.ofNat len)), .val (.int (Int32.ofNat len)), z9] [.int (Int32.ofNat len)])) := g9.trans (by
    refine XS.iload X9.here hexec rfl (hb hbytes d3) rfl ?_
    refine XS.iload X9.here hexec rfl (hb hbytes d5) rfl ?_
    refine XS.icmpYes X9.here hexec rfl (pc0 := 7) rfl (hb hbytes d7) rfl (ii_ge_t (nlt32 (by omega) (Nat.le_refl _))) (by decide) rfl ?_
    refine XS.iload X9.here hexec rfl (hb hbytes d44) rfl ?_
    exact Steps.refl _)
  exact ⟨T9, some (.int (Int32.ofNat len)), _, _, _, X9, by simp, rfl, rfl, (fun h => by cases h), ⟨rfl, B9, p9.from hh0, f9⟩, fun fs hl => c11.trans (X9.ireturnOut hexec hret rfl (Or.inl rfl) (hb hbytes d46) hl)⟩
end Cmp5
namespace Cmp3
def yN : MethodName := ⟨"java/lang/StringUTF16", "compress", "([CII)[B"⟩
abbrev yB : ByteArray := jdk_52_method_16_code
theorem d0 : decode yB 0 = .ok (.iload_n 2, 1) := by decide +kernel
theorem d1 : decode yB 1 = .ok (.newarray .byte, 2) := by decide +kernel
theorem d3 : decode yB 3 = .ok (.astore_n 3, 1) := by decide +kernel
theorem d4 : decode yB 4 = .ok (.aload_n 0, 1) := by decide +kernel
theorem d5 : decode yB 5 = .ok (.iload_n 1, 1) := by decide +kernel
theorem d6 : decode yB 6 = .ok (.aload_n 3, 1) := by decide +kernel
theorem d7 : decode yB 7 = .ok (.iconst 0, 1) := by decide +kernel
theorem d8 : decode yB 8 = .ok (.iload_n 2, 1) := by decide +kernel
theorem d9 : decode yB 9 = .ok (.invokestatic 115, 3) := by decide +kernel
theorem d12 : decode yB 12 = .ok (.istore 4, 2) := by decide +kernel
theorem d14 : decode yB 14 = .ok (.iload 4, 2) := by decide +kernel
theorem d16 : decode yB 16 = .ok (.iload_n 2, 1) := by decide +kernel
theorem d17 : decode yB 17 = .ok (.if_icmp (.eq) 40, 3) := by decide +kernel
theorem d57 : decode yB 57 = .ok (.aload_n 3, 1) := by decide +kernel
theorem d58 : decode yB 58 = .ok (.areturn, 1) := by decide +kernel
def site : List Cond := [.arrayClass .byte, Cmp5.tab] ++ staticW U16 115 Cmp5.yN
def tab : Cond := tabOf yN yB 6 (some (.array .byte)) site
def P (b : Addr) (A : Cell) (o len : Nat) (args : Array Value) (s : State) : Prop := args = #[.ref b, .int (Int32.ofNat o), .int (Int32.ofNat len)] ∧ Ch b A s ∧ o + len ≤ A.slots.size ∧ len ≤ 536870912 ∧ ∀ i, i < len → ¬ 255 < cv A (o + i)
def E (b : Addr) (A : Cell) (o len : Nat) (r : Option Value) (s u : State) : Prop := NewArr .byte "[B" len (fun j => .int (lo8 (cv A (o + j)))) r s u ∧ u.heap.size = s.heap.size + 1
/-- no char of the range above 255: a new byte[] of their low bytes -/
theorem law (l : Launch) (b : Addr) (A : Cell) (o len : Nat) : Law l yN 3 3 1 18 yB 6 (some (.array .byte)) site (P b A o len) (E b A o len) [] 1 len := by
  refine Law.of_walk (plainFor_of_name (by decide +kernel)) (by decide +kernel) (by decide +kernel) (by decide) (fun _ _ h => by rw [h.1]; rfl) (fun _ U U' hal hh h => ⟨h.1, h.2.1.mv hal hh, h.2.2⟩) (fun r U U' V V' h1 hal h2 h => ⟨NewArr.mv r U U' V V' h1 hal h2 h.1, by rw [h1, h2]; exact h.2⟩) ?_
  intro p e s m args below meth c s₁ X0 hexec hbytes hml hret hlk hnm hown hh0 W hP
  obtain ⟨rfl, hA, l1, l2, hp⟩ := hP
  have a31 := hA.1.2.2.2
  have c1 : Steps p.tables e below (s₁.setTop (entryFrame m #[.ref b, .int (Int32.ofNat o), .int (Int32.ofNat len)] 6)) (s₁.setTop (mkF m 0 #[.val (.ref b), .val (.int (Int32.ofNat o)), .val (.int (Int32.ofNat len)), .unset, .unset, .unset] [])) := entry rfl
  have c2 : Steps p.tables e below (s₁.setTop (entryFrame m #[.ref b, .int (Int32.ofNat o), .int (Int32.ofNat len)] 6)) (s₁.setTop (mkF m 1 #[.val (.ref b), .val (.int (Int32.ofNat o)), .val (.int (Int32.ofNat len)), .unset, .unset, .unset] [.int (Int32.ofNat len)])) := c1.trans (by
    refine XS.iloadN X0.here hexec rfl (hb hbytes d0) rfl ?_
    exact Steps.refl _)
  obtain ⟨T3, B3, X3, ba3, bs3, bv3, bh3, bf3, st3⟩ := X0.anew hexec (atype := .byte) (wk W (.arrayClass .byte)) rfl (by show len * 1 ≤ _; omega) (by omega) (g := (mkF m 1 #[.val (.ref b), .val (.int (Int32.ofNat o)), .val (.int (Int32.ofNat len)), .unset, .unset, .unset] [.int (Int32.ofNat len)])) rfl (hb hbytes d1) (rest := []) rfl (Nat.le_refl _) (by show 0 + len ≤ len; omega)
  rw [hh0] at ba3 st3
  have kp3 : XT.Kept s T3 := (XT.Kept.of_eq hh0).push bh3
  have hA3 := hA.keep X3.warmed.alike (kp3 _ _ hA.1.1)
  have hne : b ≠ s.heap.size := hA.1.ne
  have c4 : Steps p.tables e below (s₁.setTop (entryFrame m #[.ref b, .int (Int32.ofNat o), .int (Int32.ofNat len)] 6)) (T3.setTop (mkF m 3 #[.val (.ref b), .val (.int (Int32.ofNat o)), .val (.int (Int32.ofNat len)), .unset, .unset, .unset] [.ref s.heap.size])) := c2.trans (st3 _ (Steps.refl _))
  have c5 : Steps p.tables e below (s₁.setTop (entryFrame m #[.ref b, .int (Int32.ofNat o), .int (Int32.ofNat len)] 6)) (T3.setTop (mkF m 9 #[.val (.ref b), .val (.int (Int32.ofNat o)), .val (.int (Int32.ofNat len)), .val (.ref s.heap.size), .unset, .unset] [.int (Int32.ofNat len), .int 0, .ref s.heap.size, .int (Int32.ofNat o), .ref b])) := c4.trans (by
    refine XS.astoreN X3.here hexec rfl (hb hbytes d3) rfl rfl rfl ?_
    refine XS.aloadN X3.here hexec rfl (hb hbytes d4) rfl rfl ?_
    refine XS.iloadN X3.here hexec rfl (hb hbytes d5) rfl ?_
    refine XS.aloadN X3.here hexec rfl (hb hbytes d6) rfl rfl ?_
    refine iconstV X3.here hexec rfl 0 (hb hbytes d7) (by decide) ?_
    refine XS.iloadN X3.here hexec rfl (hb hbytes d8) rfl ?_
    exact Steps.refl _)
  obtain ⟨v6, T6, X6, E6, g6⟩ := X3.callS hexec (Cmp5.law l b A s.heap.size B3 o 0 len) hown (wks W (staticW U16 115 Cmp5.yN)) (wk W Cmp5.tab) (W := 0) (Nat.le_of_ble_eq_true rfl) (Nat.le_of_ble_eq_true rfl) (Nat.le_refl _) (by show 0 + len + 0 ≤ len; omega) (g := (mkF m 9 #[.val (.ref b), .val (.int (Int32.ofNat o)), .val (.int (Int32.ofNat len)), .val (.ref s.heap.size), .unset, .unset] [.int (Int32.ofNat len), .int (Int32.ofNat 0), .ref s.heap.size, .int (Int32.ofNat o), .ref b])) rfl (by rw [hml]; rfl) c5 (argsL := [.ref b, .int (Int32.ofNat o), .ref s.heap.size, .int (Int32.ofNat 0), .int (Int32.ofNat len)]) (rest := []) rfl rfl (by show 2 * 0 + 0 ≤ _; decide) (hb hbytes d9) (⟨rfl, hA3, ba3, hne, l1, by rw [bs3]; simp, hp⟩)
  obtain ⟨rfl, B6, p6, f6⟩ := E6
  have c7 : Steps p.tables e below (s₁.setTop (entryFrame m #[.ref b, .int (Int32.ofNat o), .int (Int32.ofNat len)] 6)) (T6.setTop (mkF m 12 #[.val (.ref b), .val (.int (Int32.ofNat o)), .val (.int (Int32.ofNat len)), .val (.ref s.heap.size), .unset, .unset] [.int (Int32.ofNat len)])) := g6
  have c8 : Steps p.tables e below (s₁.setTop (entryFrame m #[.ref b, .int (Int32.ofNat o), .int (Int32.ofNat len)] 6)) (T6.setTop (mkF m 58 #[.val (.ref b), .val (.int (Int32.ofNat o)), .val (.int (Int32.ofNat len)), .val (.ref s.heap.size), .val (.int (Int32.ofNat len)), .unset] [.ref s.heap.size])) := c7.trans (by
    refine XS.istore X6.here hexec rfl (hb hbytes d12) rfl rfl ?_
    refine XS.iload X6.here hexec rfl (hb hbytes d14) rfl ?_
    refine XS.iloadN X6.here hexec rfl (hb hbytes d16) rfl ?_
    refine XS.icmpYes X6.here hexec rfl (pc0 := 17) rfl (hb hbytes d17) rfl (ii_eq_t rfl) (by decide) rfl ?_
    refine XS.aloadN X6.here hexec rfl (hb hbytes d57) rfl rfl ?_
    exact Steps.refl _)
  have X8 := X6.wide (L' := []) (cells' := 1) (slots' := len) (fun x hx hlt => by
    simp only [List.nil_append, copyLocs, List.mem_map, List.mem_range] at hx
    obtain ⟨i, -, rfl⟩ := hx
    exact absurd hlt (Nat.lt_irrefl _)) (Nat.le_refl _) (by omega)
  exact ⟨T6, some (.ref s.heap.size), _, _, _, X8, rfl, rfl, rfl, (fun h => by cases h), ⟨⟨rfl, B6, ba3.like (X3.warmed.alike.symm.trans X6.warmed.alike) p6.1 f6.1 f6.2.1 f6.2.2.1, f6.2.1.trans bv3, by rw [X6.warmed.alike.findClass, f6.1]; exact bf3, by rw [f6.2.2.1, bs3]; simp, fun j hj => by rw [f6.2.2.2 j, if_pos (by omega)]; rfl, kp3.put p6 (Nat.le_refl _)⟩, by rw [p6.2.2, bh3, hh0]; simp⟩, fun fs hl => c8.trans (X8.areturnOut hexec rfl hret rfl (hb hbytes d58) hl)⟩
end Cmp3
namespace CodL
def yN : MethodName := ⟨"java/lang/StringUTF16", "coderFromArrayLen", "([BI)B"⟩
abbrev yB : ByteArray := jdk_52_method_15_code
theorem d0 : decode yB 0 = .ok (.iload_n 1, 1) := by decide +kernel
theorem d1 : decode yB 1 = .ok (.aload_n 0, 1) := by decide +kernel
theorem d2 : decode yB 2 = .ok (.arraylength, 1) := by decide +kernel
theorem d3 : decode yB 3 = .ok (.isub, 1) := by decide +kernel
theorem d4 : decode yB 4 = .ok (.bipush 31, 2) := by decide +kernel
theorem d6 : decode yB 6 = .ok (.iushr, 1) := by decide +kernel
theorem d7 : decode yB 7 = .ok (.i2b, 1) := by decide +kernel
theorem d8 : decode yB 8 = .ok (.ireturn, 1) := by decide +kernel
def site : List Cond := []
def tab : Cond := tabOf yN yB 2 (some .byte) site
def P (d : Addr) (B : Cell) (args : Array Value) (s : State) : Prop := args = #[.ref d, .int (Int32.ofNat B.slots.size)] ∧ Arr .byte d B s
def E (r : Option Value) (s u : State) : Prop := XT.PureE (some (.int 0)) r s u
/-- an array as long as the number of chars: LATIN1 -/
theorem law (l : Launch) (d : Addr) (B : Cell) : Law l yN 2 2 0 0 yB 2 (some .byte) site (P d B) E [] 0 0 := by
  refine Law.of_walk (plainFor_of_name (by decide +kernel)) (by decide +kernel) (by decide +kernel) (by decide) (fun _ _ h => by rw [h.1]; rfl) (fun _ U U' hal hh h => ⟨h.1, h.2.mv hal hh⟩) (fun r U U' V V' h1 hal h2 h => XT.PureE.mv r U U' V V' h1 hal h2 h) ?_
  intro p e s m args below meth c s₁ X0 hexec hbytes hml hret hlk hnm hown hh0 W hP
  obtain ⟨rfl, hB⟩ := hP
  have hB0 := hB.mv X0.warmed.alike hh0
  have c1 : Steps p.tables e below (s₁.setTop (entryFrame m #[.ref d, .int (Int32.ofNat B.slots.size)] 2)) (s₁.setTop (mkF m 0 #[.val (.ref d), .val (.int (Int32.ofNat B.slots.size))] [])) := entry rfl
  have c2 : Steps p.tables e below (s₁.setTop (entryFrame m #[.ref d, .int (Int32.ofNat B.slots.size)] 2)) (s₁.setTop (mkF m 2 #[.val (.ref d), .val (.int (Int32.ofNat B.slots.size))] [.ref d, .int (Int32.ofNat B.slots.size)])) := c1.trans (by
    refine XS.iloadN X0.here hexec rfl (hb hbytes d0) rfl ?_
    refine XS.aloadN X0.here hexec rfl (hb hbytes d1) rfl rfl ?_
    exact Steps.refl _)
  have c3 : Steps p.tables e below (s₁.setTop (entryFrame m #[.ref d, .int (Int32.ofNat B.slots.size)] 2)) (s₁.setTop (mkF m 8 #[.val (.ref d), .val (.int (Int32.ofNat B.slots.size))] [.int (lo8 (ushr (Int32.ofNat B.slots.size - Int32.ofNat B.slots.size) 31))])) := c2.trans (by
    refine X0.alen hexec hB0 rfl rfl (hb hbytes d2) ?_
    refine XS.isub X0.here hexec rfl (hb hbytes d3) rfl ?_
    refine bipushV X0.here hexec rfl 31 (hb hbytes d4) (by decide) ?_
    refine iushr X0.here hexec rfl (hb hbytes d6) rfl ?_
    refine i2b X0.here hexec rfl (hb hbytes d7) rfl ?_
    exact Steps.refl _)
  have e0 : lo8 (ushr (Int32.ofNat B.slots.size - Int32.ofNat B.slots.size) 31) = 0 := by rw [Int32.sub_self]; decide
  rw [e0] at c3
  exact ⟨s₁, some (.int 0), _, _, _, X0, rfl, rfl, rfl, (fun h => by cases h), ⟨rfl, hh0⟩, fun fs hl => c3.trans (X0.ireturnOut hexec hret rfl (Or.inr (Or.inr (Or.inl rfl))) (hb hbytes d8) hl)⟩
end CodL
/-- the String at a is Latin-1 over a new byte[] (the heap's one new cell): the low bytes of the len chars of A from o on; every cell but a is kept -/
def Got (a : Addr) (D : Cell) (fV fC : Field) (A : Cell) (o len : Nat) (r : Option Value) (s u : State) : Prop := r = none ∧ ∃ D' V : Cell, Blank "java/lang/String" a D' u ∧ Same D D' [fV.slot, fC.slot] ∧ D'.slots[fV.slot]? = some (.ref s.heap.size) ∧ D'.slots[fC.slot]? = some (.int 0) ∧ Arr .byte s.heap.size V u ∧ V.vm = .none ∧ u.vm.findClass "[B" = some V.cls ∧ V.slots.size = len ∧ (∀ j, j < len → V.slots[j]? = some (.int (lo8 (cv A (o + j))))) ∧ (∀ (y : Addr) (c : Cell), y ≠ a → s.heap[y]? = some c → u.heap[y]? = some c) ∧ u.heap.size = s.heap.size + 1
theorem Got.mv {a : Addr} {D A : Cell} {fV fC : Field} {o len : Nat} : ∀ r (U U' V V' : State), U'.heap = U.heap → V.vm.Alike V'.vm → V'.heap = V.heap → Got a D fV fC A o len r U V → Got a D fV fC A o len r U' V' :=
  fun r U U' V V' h1 hal h2 ⟨e0, D', X, a1, a2, a3, a4, a5, a6, a7, a8, a9, a10, a11⟩ => ⟨e0, D', X, a1.mv hal h2, a2, by rw [h1]; exact a3, a4, by rw [h1]; exact a5.mv hal h2, a6, by rw [hal.findClass]; exact a7, a8, a9, by rw [h1, h2]; exact a10, by rw [h1, h2]; exact a11⟩
namespace New4
def yN : MethodName := ⟨"java/lang/String", "<init>", "([CIILjava/lang/Void;)V"⟩
abbrev yB : ByteArray := jdk_42_method_149_code
theorem d0 : decode yB 0 = .ok (.aload_n 0, 1) := by decide +kernel
theorem d1 : decode yB 1 = .ok (.invokespecial 1, 3) := by decide +kernel
theorem d4 : decode yB 4 = .ok (.iload_n 3, 1) := by decide +kernel
theorem d5 : decode yB 5 = .ok (.ifCond (.ne) 22, 3) := by decide +kernel
theorem d27 : decode yB 27 = .ok (.getstatic 38, 3) := by decide +kernel
theorem d30 : decode yB 30 = .ok (.ifCond (.eq) 28, 3) := by decide +kernel
theorem d33 : decode yB 33 = .ok (.aload_n 1, 1) := by decide +kernel
theorem d34 : decode yB 34 = .ok (.iload_n 2, 1) := by decide +kernel
theorem d35 : decode yB 35 = .ok (.iload_n 3, 1) := by decide +kernel
theorem d36 : decode yB 36 = .ok (.invokestatic 177, 3) := by decide +kernel
theorem d39 : decode yB 39 = .ok (.astore 5, 2) := by decide +kernel
theorem d41 : decode yB 41 = .ok (.aload_n 0, 1) := by decide +kernel
theorem d42 : decode yB 42 = .ok (.aload 5, 2) := by decide +kernel
theorem d44 : decode yB 44 = .ok (.iload_n 3, 1) := by decide +kernel
theorem d45 : decode yB 45 = .ok (.invokestatic 47, 3) := by decide +kernel
theorem d48 : decode yB 48 = .ok (.putfield 15, 3) := by decide +kernel
theorem d51 : decode yB 51 = .ok (.aload_n 0, 1) := by decide +kernel
theorem d52 : decode yB 52 = .ok (.aload 5, 2) := by decide +kernel
theorem d54 : decode yB 54 = .ok (.putfield 9, 3) := by decide +kernel
theorem d57 : decode yB 57 = .ok (.return_, 1) := by decide +kernel
def site : List Cond := [.fieldLink "java/lang/String" 38 "java/lang/String" "COMPACT_STRINGS" "Z", Cmp3.tab, CodL.tab, .laysFinal "java/lang/String" "java/lang/String" "value" "[B", .fieldLink "java/lang/String" 9 "java/lang/String" "value" "[B", .laysFinal "java/lang/String" "java/lang/String" "coder" "B", .fieldLink "java/lang/String" 15 "java/lang/String" "coder" "B"] ++ objW "java/lang/String" 1 ++ staticW "java/lang/String" 177 Cmp3.yN ++ staticW "java/lang/String" 47 CodL.yN
def tab : Cond := tabOf yN yB 6 none site
def P (a : Addr) (D : Cell) (fV fC : Field) (b : Addr) (A : Cell) (z : Int32) (o len : Nat) (args : Array Value) (s : State) : Prop := args = #[.ref a, .ref b, .int (Int32.ofNat o), .int (Int32.ofNat len), .null] ∧ Blank "java/lang/String" a D s ∧ Found "java/lang/String" "value" "[B" fV s ∧ Found "java/lang/String" "coder" "B" fC s ∧ Ch b A s ∧ StaticIs s "java/lang/String" "COMPACT_STRINGS" "Z" (.int z) ∧ ¬ z = 0 ∧ 0 < len ∧ o + len ≤ A.slots.size ∧ len ≤ 536870912 ∧ ∀ i, i < len → ¬ 255 < cv A (o + i)
def E (a : Addr) (D : Cell) (fV fC : Field) (A : Cell) (o len : Nat) (r : Option Value) (s u : State) : Prop := Got a D fV fC A o len r s u
/-- len > 0, no char of the range above 255: a Latin-1 String of their low bytes -/
theorem law (l : Launch) (a : Addr) (D : Cell) (fV fC : Field) (b : Addr) (A : Cell) (z : Int32) (o len : Nat) : Law l yN 5 4 2 35 yB 6 none site (P a D fV fC b A z o len) (E a D fV fC A o len) [⟨a, fC.slot⟩, ⟨a, fV.slot⟩] 1 len := by
  refine Law.of_walk (plainFor_of_name (by decide +kernel)) (by decide +kernel) (by decide +kernel) (by decide) (fun _ _ h => by rw [h.1]; rfl) (fun _ U U' hal hh h => ⟨h.1, h.2.1.mv hal hh, h.2.2.1.al hal, h.2.2.2.1.al hal, h.2.2.2.2.1.mv hal hh, h.2.2.2.2.2.1.there hal hh, h.2.2.2.2.2.2⟩) (fun r U U' V V' h1 hal h2 h => Got.mv r U U' V V' h1 hal h2 h) ?_
  intro p e s m args below meth c s₁ X0 hexec hbytes hml hret hlk hnm hown hh0 W hP
  obtain ⟨rfl, hB, f1, f2, hA, s1, hz, l0, l1, l2, hp⟩ := hP
  have a31 := hA.1.2.2.2
  have c1 : Steps p.tables e below (s₁.setTop (entryFrame m #[.ref a, .ref b, .int (Int32.ofNat o), .int (Int32.ofNat len), .null] 6)) (s₁.setTop (mkF m 0 #[.val (.ref a), .val (.ref b), .val (.int (Int32.ofNat o)), .val (.int (Int32.ofNat len)), .val .null, .unset] [])) := entry rfl
  have c2 : Steps p.tables e below (s₁.setTop (entryFrame m #[.ref a, .ref b, .int (Int32.ofNat o), .int (Int32.ofNat len), .null] 6)) (s₁.setTop (mkF m 1 #[.val (.ref a), .val (.ref b), .val (.int (Int32.ofNat o)), .val (.int (Int32.ofNat len)), .val .null, .unset] [.ref a])) := c1.trans (by
    refine XS.aloadN X0.here hexec rfl (hb hbytes d0) rfl rfl ?_
    exact Steps.refl _)
  obtain ⟨T3, X3, q3, st3⟩ := X0.oinit hexec hown (wks W (objW "java/lang/String" 1)) (g := (mkF m 1 #[.val (.ref a), .val (.ref b), .val (.int (Int32.ofNat o)), .val (.int (Int32.ofNat len)), .val .null, .unset] [.ref a])) rfl (by rw [hml]; rfl) (rest := []) rfl (hb hbytes d1) (W := 0) (by show 2 * 0 + 0 ≤ _; decide) (Nat.le_of_ble_eq_true rfl) (Nat.le_of_ble_eq_true rfl)
  have hh3 := q3.trans hh0
  have c4 : Steps p.tables e below (s₁.setTop (entryFrame m #[.ref a, .ref b, .int (Int32.ofNat o), .int (Int32.ofNat len), .null] 6)) (T3.setTop (mkF m 27 #[.val (.ref a), .val (.ref b), .val (.int (Int32.ofNat o)), .val (.int (Int32.ofNat len)), .val .null, .unset] [])) := (c2.trans (st3 _ (Steps.refl _))).trans (by
    refine XS.iloadN X3.here hexec rfl (hb hbytes d4) rfl ?_
    refine XS.ifYes X3.here hexec rfl (pc0 := 5) rfl (hb hbytes d5) rfl (i0_ne_t (nz32 (by omega) l0)) (by decide) rfl ?_
    exact Steps.refl _)
  obtain ⟨T5, X5, q5, st5⟩ := X3.sget hexec hown (wk W (.fieldLink "java/lang/String" 38 "java/lang/String" "COMPACT_STRINGS" "Z")) s1 (fun _ _ h => by rw [hh3]; exact h) (g := (mkF m 27 #[.val (.ref a), .val (.ref b), .val (.int (Int32.ofNat o)), .val (.int (Int32.ofNat len)), .val .null, .unset] [])) rfl (hb hbytes d27)
  have hh5 := q5.trans hh3
  have c6 : Steps p.tables e below (s₁.setTop (entryFrame m #[.ref a, .ref b, .int (Int32.ofNat o), .int (Int32.ofNat len), .null] 6)) (T5.setTop (mkF m 30 #[.val (.ref a), .val (.ref b), .val (.int (Int32.ofNat o)), .val (.int (Int32.ofNat len)), .val .null, .unset] [.int z])) := c4.trans (st5 _ (Steps.refl _))
  have c7 : Steps p.tables e below (s₁.setTop (entryFrame m #[.ref a, .ref b, .int (Int32.ofNat o), .int (Int32.ofNat len), .null] 6)) (T5.setTop (mkF m 36 #[.val (.ref a), .val (.ref b), .val (.int (Int32.ofNat o)), .val (.int (Int32.ofNat len)), .val .null, .unset] [.int (Int32.ofNat len), .int (Int32.ofNat o), .ref b])) := c6.trans (by
    refine XS.ifNo X5.here hexec rfl (hb hbytes d30) rfl (i0_eq_f hz) ?_
    refine XS.aloadN X5.here hexec rfl (hb hbytes d33) rfl rfl ?_
    refine XS.iloadN X5.here hexec rfl (hb hbytes d34) rfl ?_
    refine XS.iloadN X5.here hexec rfl (hb hbytes d35) rfl ?_
    exact Steps.refl _)
  obtain ⟨v8, T8, X8, E8, g8⟩ := X5.callS hexec (Cmp3.law l b A o len) hown (wks W (staticW "java/lang/String" 177 Cmp3.yN)) (wk W Cmp3.tab) (W := 0) (Nat.le_of_ble_eq_true rfl) (Nat.le_of_ble_eq_true rfl) (Nat.le_refl _) (by show 0 + len ≤ len; omega) (g := (mkF m 36 #[.val (.ref a), .val (.ref b), .val (.int (Int32.ofNat o)), .val (.int (Int32.ofNat len)), .val .null, .unset] [.int (Int32.ofNat len), .int (Int32.ofNat o), .ref b])) rfl (by rw [hml]; rfl) c7 (argsL := [.ref b, .int (Int32.ofNat o), .int (Int32.ofNat len)]) (rest := []) rfl rfl (by show 2 * 0 + 0 ≤ _; decide) (hb hbytes d36) (⟨rfl, hA.mv X5.warmed.alike hh5, l1, l2, hp⟩)
  obtain ⟨e8, z8⟩ := E8
  obtain ⟨rfl, N, n1, n2, n3, n4, n5, n6⟩ := NewArr.mv _ T5 s _ _ hh5.symm (Vm.Alike.refl _) rfl e8
  rw [hh5] at z8
  have hB1 := hB.keep X8.warmed.alike (n6 _ _ hB.1)
  have hne : s.heap.size ≠ a := (Nat.ne_of_lt (Array.getElem?_eq_some_iff.mp hB.1).1).symm
  have c9 : Steps p.tables e below (s₁.setTop (entryFrame m #[.ref a, .ref b, .int (Int32.ofNat o), .int (Int32.ofNat len), .null] 6)) (T8.setTop (mkF m 39 #[.val (.ref a), .val (.ref b), .val (.int (Int32.ofNat o)), .val (.int (Int32.ofNat len)), .val .null, .unset] [.ref s.heap.size])) := g8
  have c10 : Steps p.tables e below (s₁.setTop (entryFrame m #[.ref a, .ref b, .int (Int32.ofNat o), .int (Int32.ofNat len), .null] 6)) (T8.setTop (mkF m 45 #[.val (.ref a), .val (.ref b), .val (.int (Int32.ofNat o)), .val (.int (Int32.ofNat len)), .val .null, .val (.ref s.heap.size)] [.int (Int32.ofNat N.slots.size), .ref s.heap.size, .ref a])) := by
    have hc : Steps p.tables e below (s₁.setTop (entryFrame m #[.ref a, .ref b, .int (Int32.ofNat o), .int (Int32.ofNat len), .null] 6)) (T8.setTop (mkF m 45 #[.val (.ref a), .val (.ref b), .val (.int (Int32.ofNat o)), .val (.int (Int32.ofNat len)), .val .null, .val (.ref s.heap.size)] [.int (Int32.ofNat len), .ref s.heap.size, .ref a])) := c9.trans (by
      refine XS.astore X8.here hexec rfl (hb hbytes d39) rfl rfl rfl ?_
      refine XS.aloadN X8.here hexec rfl (hb hbytes d41) rfl rfl ?_
      refine XS.aload X8.here hexec rfl (hb hbytes d42) rfl rfl ?_
      refine XS.iloadN X8.here hexec rfl (hb hbytes d44) rfl ?_
      exact Steps.refl _)
    rw [n4]; exact hc
  obtain ⟨v11, T11, X11, E11, g11⟩ := X8.callS hexec (CodL.law l s.heap.size N) hown (wks W (staticW "java/lang/String" 47 CodL.yN)) (wk W CodL.tab) (W := 1) (Nat.le_of_ble_eq_true rfl) (Nat.le_of_ble_eq_true rfl) (Nat.le_refl _) (by show 0 + len + 0 ≤ len; omega) (g := (mkF m 45 #[.val (.ref a), .val (.ref b), .val (.int (Int32.ofNat o)), .val (.int (Int32.ofNat len)), .val .null, .val (.ref s.heap.size)] [.int (Int32.ofNat N.slots.size), .ref s.heap.size, .ref a])) rfl (by rw [hml]; rfl) c10 (argsL := [.ref s.heap.size, .int (Int32.ofNat N.slots.size)]) (rest := [.ref a]) rfl rfl (by show 2 * 0 + (1 + 0) ≤ _; decide) (hb hbytes d45) (⟨rfl, n1⟩)
  obtain ⟨rfl, q11⟩ := E11
  have hB11 := hB1.mv (X8.warmed.alike.symm.trans X11.warmed.alike) q11
  have c12 : Steps p.tables e below (s₁.setTop (entryFrame m #[.ref a, .ref b, .int (Int32.ofNat o), .int (Int32.ofNat len), .null] 6)) (T11.setTop (mkF m 48 #[.val (.ref a), .val (.ref b), .val (.int (Int32.ofNat o)), .val (.int (Int32.ofNat len)), .val .null, .val (.ref s.heap.size)] [.int 0, .ref a])) := g11
  obtain ⟨T13, X13, p13, bl13, sl13, st13⟩ := X11.finit hexec hown (wk W (.fieldLink "java/lang/String" 15 "java/lang/String" "coder" "B")) (Or.inr ⟨_, (wk W (.laysFinal "java/lang/String" "java/lang/String" "coder" "B"))⟩) (Or.inl ⟨rfl, hnm⟩) f2 (Or.inl rfl) hB11 (t := .byte) (by decide +kernel) rfl (g := (mkF m 48 #[.val (.ref a), .val (.ref b), .val (.int (Int32.ofNat o)), .val (.int (Int32.ofNat len)), .val .null, .val (.ref s.heap.size)] [.int 0, .ref a])) rfl (rest := []) rfl (hb hbytes d48)
  have c14 : Steps p.tables e below (s₁.setTop (entryFrame m #[.ref a, .ref b, .int (Int32.ofNat o), .int (Int32.ofNat len), .null] 6)) (T13.setTop (mkF m 54 #[.val (.ref a), .val (.ref b), .val (.int (Int32.ofNat o)), .val (.int (Int32.ofNat len)), .val .null, .val (.ref s.heap.size)] [.ref s.heap.size, .ref a])) := (c12.trans (st13 _ (Steps.refl _))).trans (by
    refine XS.aloadN X13.here hexec rfl (hb hbytes d51) rfl rfl ?_
    refine XS.aload X13.here hexec rfl (hb hbytes d52) rfl rfl ?_
    exact Steps.refl _)
  obtain ⟨T15, X15, p15, bl15, sl15, st15⟩ := X13.finit hexec hown (wk W (.fieldLink "java/lang/String" 9 "java/lang/String" "value" "[B")) (Or.inr ⟨_, (wk W (.laysFinal "java/lang/String" "java/lang/String" "value" "[B"))⟩) (Or.inl ⟨rfl, hnm⟩) f1 (Or.inl rfl) bl13 (t := (.array .byte)) (by decide +kernel) rfl (g := (mkF m 54 #[.val (.ref a), .val (.ref b), .val (.int (Int32.ofNat o)), .val (.int (Int32.ofNat len)), .val .null, .val (.ref s.heap.size)] [.ref s.heap.size, .ref a])) rfl (rest := []) rfl (hb hbytes d54)
  have c16 : Steps p.tables e below (s₁.setTop (entryFrame m #[.ref a, .ref b, .int (Int32.ofNat o), .int (Int32.ofNat len), .null] 6)) (T15.setTop (mkF m 57 #[.val (.ref a), .val (.ref b), .val (.int (Int32.ofNat o)), .val (.int (Int32.ofNat len)), .val .null, .val (.ref s.heap.size)] [])) := c14.trans (st15 _ (Steps.refl _))
  have ap := apart (Or.inr ⟨_, (wk W (.laysFinal "java/lang/String" "java/lang/String" "value" "[B"))⟩) (Or.inr ⟨_, (wk W (.laysFinal "java/lang/String" "java/lang/String" "coder" "B"))⟩) f1 f2 (t₁ := .array .byte) (t₂ := .byte) (by decide +kernel) (by decide +kernel) (by decide)
  have al := X8.warmed.alike.symm.trans X15.warmed.alike
  have n7 : T11.heap[s.heap.size]? = some N := by rw [q11]; exact n1.1
  exact ⟨T15, none, _, _, _, X15, by simp, rfl, by omega, (fun _ => rfl), ⟨rfl, _, N, bl15, ((Same.refl D _).set _ (by simp)).set _ (by simp), sl15, (Cell.slots_setSlot_ne _ ap).trans sl13, n1.keep al (p15.other hne (p13.other hne n7)), n2, by rw [al.findClass]; exact n3, n4, n5, fun y c h1 h2 => p15.other h1 (p13.other h1 (by rw [q11]; exact n6 y c h2)), by rw [p15.2.2, p13.2.2, q11]; exact z8⟩, fun fs hl => c16.trans (X15.returnOut hexec hret (hb hbytes d57) hl)⟩
end New4
namespace New1
def yN : MethodName := ⟨"java/lang/String", "<init>", "([C)V"⟩
abbrev yB : ByteArray := jdk_42_method_3_code
theorem d0 : decode yB 0 = .ok (.aload_n 0, 1) := by decide +kernel
theorem d1 : decode yB 1 = .ok (.aload_n 1, 1) := by decide +kernel
theorem d2 : decode yB 2 = .ok (.iconst 0, 1) := by decide +kernel
theorem d3 : decode yB 3 = .ok (.aload_n 1, 1) := by decide +kernel
theorem d4 : decode yB 4 = .ok (.arraylength, 1) := by decide +kernel
theorem d5 : decode yB 5 = .ok (.aconst_null, 1) := by decide +kernel
theorem d6 : decode yB 6 = .ok (.invokespecial 27, 3) := by decide +kernel
theorem d9 : decode yB 9 = .ok (.return_, 1) := by decide +kernel
def site : List Cond := [New4.tab] ++ initW "java/lang/String" 27 New4.yN
def tab : Cond := tabOf yN yB 2 none site
def P (a : Addr) (D : Cell) (fV fC : Field) (b : Addr) (A : Cell) (z : Int32) (args : Array Value) (s : State) : Prop := args = #[.ref a, .ref b] ∧ Blank "java/lang/String" a D s ∧ Found "java/lang/String" "value" "[B" fV s ∧ Found "java/lang/String" "coder" "B" fC s ∧ Ch b A s ∧ StaticIs s "java/lang/String" "COMPACT_STRINGS" "Z" (.int z) ∧ ¬ z = 0 ∧ 0 < A.slots.size ∧ A.slots.size ≤ 536870912 ∧ ∀ i, i < A.slots.size → ¬ 255 < cv A i
def E (a : Addr) (D : Cell) (fV fC : Field) (A : Cell) (r : Option Value) (s u : State) : Prop := Got a D fV fC A 0 A.slots.size r s u
/-- new String(chars), not empty, no char above 255: a Latin-1 String of their low bytes -/
theorem law (l : Launch) (a : Addr) (D : Cell) (fV fC : Field) (b : Addr) (A : Cell) (z : Int32) : Law l yN 2 1 3 52 yB 2 none site (P a D fV fC b A z) (E a D fV fC A) [⟨a, fC.slot⟩, ⟨a, fV.slot⟩] 1 A.slots.size := by
  refine Law.of_walk (plainFor_of_name (by decide +kernel)) (by decide +kernel) (by decide +kernel) (by decide) (fun _ _ h => by rw [h.1]; rfl) (fun _ U U' hal hh h => ⟨h.1, h.2.1.mv hal hh, h.2.2.1.al hal, h.2.2.2.1.al hal, h.2.2.2.2.1.mv hal hh, h.2.2.2.2.2.1.there hal hh, h.2.2.2.2.2.2⟩) (fun r U U' V V' h1 hal h2 h => Got.mv r U U' V V' h1 hal h2 h) ?_
  intro p e s m args below meth c s₁ X0 hexec hbytes hml hret hlk hnm hown hh0 W hP
  obtain ⟨rfl, hB, f1, f2, hA, s1, hz, l0, l2, hp⟩ := hP
  have c1 : Steps p.tables e below (s₁.setTop (entryFrame m #[.ref a, .ref b] 2)) (s₁.setTop (mkF m 0 #[.val (.ref a), .val (.ref b)] [])) := entry rfl
  have c2 : Steps p.tables e below (s₁.setTop (entryFrame m #[.ref a, .ref b] 2)) (s₁.setTop (mkF m 6 #[.val (.ref a), .val (.ref b)] [.null, .int (Int32.ofNat A.slots.size), .int 0, .ref b, .ref a])) := c1.trans (by
    refine XS.aloadN X0.here hexec rfl (hb hbytes d0) rfl rfl ?_
    refine XS.aloadN X0.here hexec rfl (hb hbytes d1) rfl rfl ?_
    refine iconstV X0.here hexec rfl 0 (hb hbytes d2) (by decide) ?_
    refine XS.aloadN X0.here hexec rfl (hb hbytes d3) rfl rfl ?_
    refine X0.alen hexec (hA.1.mv X0.warmed.alike hh0) rfl rfl (hb hbytes d4) ?_
    refine XS.aconstNull X0.here hexec rfl (hb hbytes d5) ?_
    exact Steps.refl _)
  obtain ⟨v3, T3, X3, E3, g3⟩ := X0.callN hexec (New4.law l a D fV fC b A z 0 A.slots.size) rfl hown (wks W (initW "java/lang/String" 27 New4.yN)) (W New4.tab (by simp only [site, List.mem_cons, List.mem_append, true_or, or_true])) (W := 0) (Nat.le_of_ble_eq_true rfl) (Nat.le_of_ble_eq_true rfl) (Nat.le_refl _) (by show 0 + A.slots.size ≤ A.slots.size; omega) (g := (mkF m 6 #[.val (.ref a), .val (.ref b)] [.null, .int (Int32.ofNat A.slots.size), .int (Int32.ofNat 0), .ref b, .ref a])) rfl (by rw [hml]; rfl) c2 (argsL := [.ref b, .int (Int32.ofNat 0), .int (Int32.ofNat A.slots.size), .null]) (rest := []) rfl rfl (by show 2 * 0 + 0 ≤ _; decide) (hb hbytes d6) (⟨rfl, hB.mv X0.warmed.alike hh0, f1.al X0.warmed.alike, f2.al X0.warmed.alike, hA.mv X0.warmed.alike hh0, s1.there X0.warmed.alike hh0, hz, l0, by omega, l2, fun i hi => by rw [Nat.zero_add]; exact hp i hi⟩)
  have e0 := Got.mv _ s₁ s _ _ hh0.symm (Vm.Alike.refl _) rfl E3
  obtain rfl := e0.1
  have c4 : Steps p.tables e below (s₁.setTop (entryFrame m #[.ref a, .ref b] 2)) (T3.setTop (mkF m 9 #[.val (.ref a), .val (.ref b)] [])) := g3
  exact ⟨T3, none, _, _, _, X3, by simp, rfl, by omega, (fun _ => rfl), e0, fun fs hl => c4.trans (X3.returnOut hexec hret (hb hbytes d9) hl)⟩
theorem pays {l : Launch} {R : Room} {p : Program} {e : Env} {below : List Frame} {s : State} {sargs : Array Value} {len W : Nat} (a : Addr) (D : Cell) (fV fC : Field) (b : Addr) (A : Cell) (z : Int32) (htab : tab.before sargs s = true) (hfr : 4 ≤ R.frames) (hlo : W + 65 ≤ R.locals) :
    Back l R p e below s sargs yN len W (fun A₁ a₁ => A₁.cells + 1 ≤ R.cells ∧ A₁.slots + A.slots.size ≤ R.slots ∧ P a D fV fC b A z a₁ A₁.U) (fun A₁ _ v₁ B₁ => E a D fV fC A v₁ A₁.U B₁.U ∧ B₁.locs = A₁.locs ++ [⟨a, fC.slot⟩, ⟨a, fV.slot⟩] ∧ B₁.cells = A₁.cells + 1 ∧ B₁.slots = A₁.slots + A.slots.size) :=
  (law l a D fV fC b A z).pays htab hfr (by omega)
end New1
end StrChars
namespace StrChars.Road
open Jvm Sem ClassFile Op Lib Jvm.Stand Jvm.Free Jvm.Free.XT
open Jvm.Lib.Cold (StaticIs)
abbrev ST : String := "java/lang/String"
/-- every table word that New1's law asks, flat -/
abbrev words : List Jvm.Cond := [.code New1.yN New1.yB 2 none, .initialized ST, .methodLink ST 27 New4.yN, .instanceMethod New4.yN,
  .code New4.yN New4.yB 6 none, .fieldLink ST 38 ST "COMPACT_STRINGS" "Z", .laysFinal ST ST "value" "[B", .fieldLink ST 9 ST "value" "[B", .laysFinal ST ST "coder" "B", .fieldLink ST 15 ST "coder" "B",
  .methodLink ST 1 Lib.objectInit, .instanceMethod Lib.objectInit, .code Lib.objectInit ⟨#[0xb1]⟩ 1 none, .methodLink ST 177 Cmp3.yN, .static Cmp3.yN, .methodLink ST 47 CodL.yN, .static CodL.yN,
  .code Cmp3.yN Cmp3.yB 6 (some (.array .byte)), .initialized U16, .arrayClass .byte, .methodLink U16 115 Cmp5.yN, .static Cmp5.yN, .code Cmp5.yN Cmp5.yB 7 (some .int), .code CodL.yN CodL.yB 2 (some .byte)]
theorem tab_of {a : Array Value} {s : State} (h : ∀ w ∈ words, w.before a s = true) : New1.tab.before a s = true := by
  have h5 : Cmp5.tab.before a s = true := unparts (wk h (.code Cmp5.yN Cmp5.yB 7 (some .int))) (wks h (.initialized Cmp5.yN.cls :: Cmp5.site))
  have hc : CodL.tab.before a s = true := unparts (wk h (.code CodL.yN CodL.yB 2 (some .byte))) (wks h (.initialized CodL.yN.cls :: CodL.site))
  have q5 : ∀ w ∈ Cmp5.tab :: words, w.before a s = true := fun w hw => (List.mem_cons.mp hw).elim (fun e => e ▸ h5) (h w)
  have h3 : Cmp3.tab.before a s = true := unparts (wk q5 (.code Cmp3.yN Cmp3.yB 6 (some (.array .byte)))) (wks q5 (.initialized Cmp3.yN.cls :: Cmp3.site))
  have q3 : ∀ w ∈ Cmp3.tab :: CodL.tab :: words, w.before a s = true := fun w hw => (List.mem_cons.mp hw).elim (fun e => e ▸ h3) fun hw => (List.mem_cons.mp hw).elim (fun e => e ▸ hc) (h w)
  have h4 : New4.tab.before a s = true := unparts (wk q3 (.code New4.yN New4.yB 6 none)) (wks q3 (.initialized New4.yN.cls :: New4.site))
  have q4 : ∀ w ∈ New4.tab :: words, w.before a s = true := fun w hw => (List.mem_cons.mp hw).elim (fun e => e ▸ h4) (h w)
  exact unparts (wk q4 (.code New1.yN New1.yB 2 none)) (wks q4 (.initialized New1.yN.cls :: New1.site))
/-- the words ride from the start Z to the walk's own state -/
theorem moved {Z s : State} {a0 args : Array Value} (hZ : Z.Warmed39 s.vm) (hw : ∀ d ∈ words, d.before a0 Z = true) : ∀ d ∈ words, d.before args s = true := fun d hd => by
  have q := hw d hd
  have t : ∀ d ∈ words, d = .arrayClass .byte ∨ (d.onTables && d.keepsFace) = true := by decide +kernel
  rcases t d hd with rfl | t
  · exact RoadKit.mvA hZ q
  · exact RoadKit.mv hZ q t
/-- WHAT COMES BACK, over the tables of the start Z: h the heap at the call, h' behind it -/
def Q (Z : State) (x : Addr) (A : Cell) (h : Heap) (v : Option Value) (h' : Heap) (L : List Loc) : Prop := v = none ∧ (∀ y ∈ L, y.base = x) ∧ RoadKit.Keep h h' [x] ∧ h'.size = h.size + 1 ∧ RoadKit.Exa Z h' x ST ∧ RoadKit.Fld Z h' x ST "value" "[B" (.ref h.size) ∧ RoadKit.Fld Z h' x ST "coder" "B" (.int 0) ∧
  (∃ V : Cell, RoadKit.Arr Z h' h.size V .byte ∧ V.vm = .none ∧ Z.vm.findClass "[B" = some V.cls ∧ V.slots.size = A.slots.size ∧ ∀ j, j < A.slots.size → V.slots[j]? = some (.int (lo8 (cv A j)))) ∧
  ∀ (O n d : String) (w : Value), RoadKit.Fld Z h x O n d w → RoadKit.slotOf Z O n d ≠ RoadKit.slotOf Z ST "value" "[B" → RoadKit.slotOf Z O n d ≠ RoadKit.slotOf Z ST "coder" "B" → RoadKit.Fld Z h' x O n d w
/-- **new String(chars) AT A CALL, IN THE ROAD'S FORM**: for specialBack behind newO: x the fresh String, b the char[] with the cell A -/
theorem back {p : Program} {l : Launch} {e : Env} {R : Room} {s : State} {args : Array Value} {below : List Frame} {len W : Nat} {Z : State} {a0 : Array Value} {h : Heap} (hZ : Z.Warmed39 s.vm) (hw : ∀ d ∈ words, d.before a0 Z = true) {kI : Nat} (wi : (Jvm.Cond.instantiable ST kI).before a0 Z = true)
    {x b : Addr} {A : Cell} {z : Int32} {v0 c0 : Value} (E : RoadKit.Exa Z h x ST) (V : RoadKit.Fld Z h x ST "value" "[B" v0) (C : RoadKit.Fld Z h x ST "coder" "B" c0) (K : RoadKit.Arr Z h b A .char) (hty : Typed .char A) (S : RoadKit.Sta Z h ST "COMPACT_STRINGS" "Z" (.int z)) (hz : ¬ z = 0)
    (l0 : 0 < A.slots.size) (l2 : A.slots.size ≤ 536870912) (hp : ∀ i, i < A.slots.size → ¬ 255 < cv A i) (hfr : 4 ≤ R.frames) (hlo : W + 65 ≤ R.locals) :
    Back l R p e below s args New1.yN len W (fun P a => a = #[.ref x, .ref b] ∧ P.U.heap = h ∧ P.cells + 1 ≤ R.cells ∧ P.slots + A.slots.size ≤ R.slots)
      (fun P _ v B => ∃ L, Q Z x A h v B.U.heap L ∧ B.locs = P.locs ++ L ∧ B.cells = P.cells + 1 ∧ B.slots = P.slots + A.slots.size) := by
  intro m meth c P g ig mk a X hg hsize hdg hW hn hp'
  obtain ⟨rfl, rfl, r1, r2⟩ := hp'
  have al : Z.vm.Alike P.U.vm := hZ.alike.trans X.warmed.alike
  obtain ⟨D, cfV, kV, iV, fV, hD, gV, stV, knV, obV, asV, slV⟩ := id V
  obtain ⟨D', cfC, kC, iC, fC, hD', gC, stC, -, -, asC, slC⟩ := id C
  cases hD.symm.trans hD'
  obtain ⟨D2, kD, e1, e2, e3, e4, e5⟩ := id E
  cases hD.symm.trans e1
  obtain ⟨c2, k2, i1, i2, i3, -⟩ := Cond.instantiable_spec wi
  cases e2.symm.trans i1
  cases e3.symm.trans i2
  obtain ⟨kU, u1, u2⟩ := al.2.2 _ _ e3
  have hB : Blank ST x D P.U := ⟨hD, ⟨knV, fun q hq => by rw [hq] at obV; cases obV⟩, by rw [al.findClass]; exact e2, kU, u1, by rw [u2]; exact i3, by rw [u2]; exact e5 i3⟩
  have F1 : Found ST "value" "[B" fV P.U := ⟨SBG.found_only al ⟨cfV, kV, iV, gV⟩, stV⟩
  have F2 : Found ST "coder" "B" fC P.U := ⟨SBG.found_only al ⟨cfC, kC, iC, gC⟩, stC⟩
  have hA : Ch b A P.U := ⟨⟨K.1, State.isArrayOf_alike al K.2.1, K.2.2, by omega⟩, hty⟩
  have hS : StaticIs P.U ST "COMPACT_STRINGS" "Z" (.int z) := by
    obtain ⟨cfS, iS, kS, fS, st, cS, t1, t2, t3, t4, t5, t6, t7⟩ := S
    exact StaticIs.there (s := { Z with heap := P.U.heap }) ⟨cfS, iS, kS, fS, st, cS, t1, t2, t3, t4, t5, (fun q => by rw [q] at t6; cases t6), t7⟩ al rfl
  obtain ⟨v, B, X', ⟨⟨hv, E', V', q1, q2, q3, q4, q5, q6, q7, q8, q9, q10, q11⟩, hl, hc, hs⟩, st⟩ := New1.pays x D fV fC b A z (tab_of (moved hZ hw)) hfr hlo m meth c P g ig mk _ X hg hsize hdg hW hn ⟨r1, r2, rfl, hB, F1, F2, hA, hS, hz, l0, l2, hp⟩
  have al' : Z.vm.Alike B.U.vm := hZ.alike.trans X'.warmed.alike
  have hsz : E'.slots.size = D.slots.size := by
    obtain ⟨-, -, -, kB, w1, w2, w3⟩ := q1
    obtain ⟨kB', y1, y2⟩ := al'.2.2 _ _ e3
    rw [q2.2.1] at w1
    cases w1.symm.trans y1
    rw [w3, e5 i3, y2]
  refine ⟨v, B, X', ⟨_, ⟨hv, ?_, ⟨by omega, fun y cy hy hn' => q10 y cy (by simpa using hn') hy, fun y cy hy => ?_⟩, q11, ⟨E', _, q1.1, by rw [q2.2.1]; exact e2, by rw [q2.2.1]; exact e3, by rw [q2.1]; exact obV, fun _ => by rw [hsz]; exact e5 i3⟩,
    ⟨E', cfV, kV, iV, fV, q1.1, gV, stV, by rw [q2.1]; exact knV, by rw [q2.1]; exact obV, by rw [q2.2.1]; exact asV, q3⟩, ⟨E', cfC, kC, iC, fC, q1.1, gC, stC, by rw [q2.1]; exact knV, by rw [q2.1]; exact obV, by rw [q2.2.1]; exact asC, q4⟩,
    ⟨V', ⟨q5.1, State.isArrayOf_alike al'.symm q5.2.1, q5.2.2.1⟩, q6, by rw [← al'.findClass]; exact q7, q8, fun j hj => by have := q9 j hj; rwa [Nat.zero_add] at this⟩, fun O n d w F n1 n2 => ?_⟩, hl, hc, hs⟩, st⟩
  · intro y hy
    simp only [List.mem_cons, List.not_mem_nil, or_false] at hy
    rcases hy with rfl | rfl <;> rfl
  · by_cases q : y = x
    · subst q
      cases hD.symm.trans hy
      exact ⟨E', q1.1, q2.2.1, q2.1, hsz⟩
    · exact ⟨cy, q10 y cy q hy, rfl, rfl, rfl⟩
  · obtain ⟨D3, cf, k, i, f, g1, g2, g3, g4, g5, g6, g7⟩ := F
    cases hD.symm.trans g1
    simp only [RoadKit.slotOf, g2, gV, gC, Option.map_some, Option.getD_some] at n1 n2
    exact ⟨E', cf, k, i, f, q1.1, g2, g3, by rw [q2.1]; exact g4, by rw [q2.1]; exact g5, by rw [q2.2.1]; exact g6, by rw [q2.2.2 f.slot (by simp [n1, n2])]; exact g7⟩
end StrChars.Road
namespace StrChars.Road
open Jvm Sem ClassFile Op Lib Jvm.Stand Jvm.Free Jvm.Free.XT
/-- WHAT COMES BACK, the byte[] as a list of values -/
def QA (Z : State) (x : Addr) (zn : Int32) (cs : List Int32) (h : Heap) (v : Option Value) (h' : Heap) (L : List Loc) : Prop := v = none ∧ (∀ y ∈ L, y.base = x) ∧ RoadKit.Keep h h' [x] ∧ h'.size = h.size + 1 ∧ RoadKit.Exa Z h' x ST ∧ RoadKit.Fld Z h' x ST "value" "[B" (.ref h.size) ∧ RoadKit.Fld Z h' x ST "coder" "B" (.int 0) ∧
  (∃ kb, Z.vm.findClass "[B" = some kb ∧ RoadKit.Arv Z h' h.size kb .byte zn (cs.map fun c => .int (lo8 c)) (.int 0)) ∧
  ∀ (O n d : String) (w : Value), RoadKit.Fld Z h x O n d w → RoadKit.slotOf Z O n d ≠ RoadKit.slotOf Z ST "value" "[B" → RoadKit.slotOf Z O n d ≠ RoadKit.slotOf Z ST "coder" "B" → RoadKit.Fld Z h' x O n d w
/-- **new String(chars) AT A CALL, THE ARRAYS AS LISTS**: the char[] at b holds cs, not empty, no char above 255 -/
theorem backArv {p : Program} {l : Launch} {e : Env} {R : Room} {s : State} {args : Array Value} {below : List Frame} {len W : Nat} {Z : State} {a0 : Array Value} {h : Heap} (hZ : Z.Warmed39 s.vm) (hw : ∀ d ∈ words, d.before a0 Z = true) {kI : Nat} (wi : (Jvm.Cond.instantiable ST kI).before a0 Z = true)
    {x b : Addr} {k : ClassId} {zn z : Int32} {cs : List Int32} {dv v0 c0 : Value} (E : RoadKit.Exa Z h x ST) (V : RoadKit.Fld Z h x ST "value" "[B" v0) (C : RoadKit.Fld Z h x ST "coder" "B" c0) (K : RoadKit.Arv Z h b k .char zn (cs.map Value.int) dv) (S : RoadKit.Sta Z h ST "COMPACT_STRINGS" "Z" (.int z)) (hz : ¬ z = 0)
    (hlen : zn.toNatClampNeg = cs.length) (h0 : 0 < cs.length) (hbig : cs.length ≤ 536870912) (hall : ∀ c ∈ cs, ¬ 255 < c) (hfr : 4 ≤ R.frames) (hlo : W + 65 ≤ R.locals) :
    Back l R p e below s args New1.yN len W (fun P a => a = #[.ref x, .ref b] ∧ P.U.heap = h ∧ P.cells + 1 ≤ R.cells ∧ P.slots + cs.length ≤ R.slots)
      (fun P _ v B => ∃ L, QA Z x zn cs h v B.U.heap L ∧ B.locs = P.locs ++ L ∧ B.cells = P.cells + 1 ∧ B.slots = P.slots + cs.length) := by
  obtain ⟨A, K1, K2, K3, K4, K5, K6⟩ := K
  have e : A.slots.size = cs.length := K3.trans hlen
  have hat : ∀ (i : Nat) (hi : i < cs.length), A.slots[i]? = some (.int cs[i]) := fun i hi => by rw [K5 i (by omega)]; simp [List.getD_eq_getElem?_getD, hi]
  have hcv : ∀ (i : Nat) (hi : i < cs.length), cv A i = cs[i] := fun i hi => by unfold cv; rw [hat i hi]
  have hty : Typed .char A := fun i v hv => by
    have hi : i < A.slots.size := (Array.getElem?_eq_some_iff.mp hv).1
    have q := K5 i hi
    rw [hv] at q
    rw [Option.some.inj q]
    exact K6 i hi
  refine Back.mono (back hZ hw wi E V C K1 hty S hz (by omega) (by omega) (fun i hi => by rw [hcv i (by omega)]; exact hall _ (List.getElem_mem _)) hfr hlo) (fun P a hp => ⟨hp.1, hp.2.1, hp.2.2.1, by rw [e]; exact hp.2.2.2⟩) (fun P a v B hp hq => ?_)
  obtain ⟨L, ⟨q1, q2, q3, q4, q5, q6, q7, ⟨V', v1, v2, v3, v4, v5⟩, q9⟩, hl, hc, hs⟩ := hq
  refine ⟨L, ⟨q1, q2, q3, q4, q5, q6, q7, ⟨V'.cls, v3, V', v1, rfl, by rw [v4, e, hlen], K4, fun i hi => ?_, fun i hi => ?_⟩, q9⟩, hl, hc, by rw [hs, e]⟩
  · have hi' : i < cs.length := by omega
    rw [v5 i (by omega), hcv i hi']; simp [List.getD_eq_getElem?_getD, hi']
  · have hi' : i < cs.length := by omega
    simp only [List.getD_eq_getElem?_getD, List.getElem?_map, List.getElem?_eq_getElem hi', Option.map_some, Option.getD_some]
    exact fits_lo8 _
end StrChars.Road
namespace StrChars.Road
open Jvm Sem ClassFile Op Lib Jvm.Stand Jvm.Free Jvm.Free.XT
/-- WHAT COMES BACK, in the writer's own shape -/
def QV (Z : State) (x : Addr) (N : Int32) (bs : List Int32) (h : Heap) (n0 : Nat) (v : Option Value) (h' : Heap) (L : List Loc) : Prop := v = none ∧ RoadKit.Fr n0 L ∧ RoadKit.Keep h h' [x] ∧ RoadKit.Exa Z h' x ST ∧ RoadKit.Fld Z h' x ST "coder" "B" (.int 0) ∧
  ∃ (t : Addr) (kb : ClassId), n0 ≤ t ∧ h.size ≤ t ∧ ¬ t = x ∧ RoadKit.Fld Z h' x ST "value" "[B" (.ref t) ∧ RoadKit.Arv Z h' t kb .byte N (bs.map Value.int) (.int 0)
/-- **new String(chars) AT A CALL, FOR THE WRITER**: a char[] of n known ints, each 0 to 255 -/
theorem backV {p : Program} {l : Launch} {e : Env} {R : Room} {s : State} {args : Array Value} {below : List Frame} {len W : Nat} {Z : State} {a0 : Array Value} {h : Heap} (hZ : Z.Warmed39 s.vm) (hw : ∀ d ∈ words, d.before a0 Z = true) {kI : Nat} (wi : (Jvm.Cond.instantiable ST kI).before a0 Z = true)
    {x b : Addr} {kC : ClassId} {cs bs : List Int32} {d v0 c0 : Value} {z N : Int32} {n n0 : Nat} (hx0 : n0 ≤ x) (hh0 : n0 ≤ h.size) (E : RoadKit.Exa Z h x ST) (V : RoadKit.Fld Z h x ST "value" "[B" v0) (C : RoadKit.Fld Z h x ST "coder" "B" c0) (K : RoadKit.Arv Z h b kC .char N (cs.map Value.int) d) (S : RoadKit.Sta Z h ST "COMPACT_STRINGS" "Z" (.int z)) (hz : ¬ z = 0)
    (hn : cs.length = n) (hN : N = Int32.ofNat n) (l0 : 0 < n) (l2 : n ≤ 4000) (hp : ∀ c ∈ cs, ¬ c < 0 ∧ ¬ (255 : Int32) < c) (hb : bs = cs.map (fun c => c.toInt8.toInt32)) (hfr : 4 ≤ R.frames) (hlo : W + 65 ≤ R.locals) :
    Back l R p e below s args (⟨"java/lang/String", "<init>", "([C)V"⟩ : MethodName) len W (fun P a => a = #[.ref x, .ref b] ∧ P.U.heap = h ∧ P.cells + 1 ≤ R.cells ∧ P.slots + n ≤ R.slots)
      (fun P _ v B => ∃ L, QV Z x N bs h n0 v B.U.heap L ∧ B.locs = P.locs ++ L ∧ B.cells = P.cells + 1 ∧ B.slots = P.slots + n) := by
  subst hn hN hb
  refine Back.mono (backArv hZ hw wi E V C K S hz (n32 (by omega)) l0 (by omega) (fun c hc => (hp c hc).2) hfr hlo) (fun P a hp => hp) (fun P a v B hp hq => ?_)
  obtain ⟨L, ⟨q1, q2, q3, q4, q5, q6, q7, ⟨kb, v1, v2⟩, q9⟩, hl, hc, hs⟩ := hq
  exact ⟨L, ⟨q1, fun y hy => by rw [q2 y hy]; exact hx0, q3, q5, q7, h.size, kb, hh0, Nat.le_refl _, Nat.ne_of_gt E.lt, q6, by rw [List.map_map]; exact v2⟩, hl, hc, hs⟩
end StrChars.Road
end Jvm.Pilot.@@N@@
@@BLOCK:NumsL.lean.txt@@
namespace Jvm.Pilot.@@N@@
open Jvm Jvm.ClassFile Sem Op Lib Jvm.Free Jvm.Stand Jvm.LawKit Jvm.RoadKit Bundle Jvm.Pilot.@@N@@.Jvm.D
theorem own_EW {Z : State} {a0 : Array Value} (hw : ∀ d ∈ tables_1, d.before a0 Z = true) : EW Z a0 consts_1 := (EW.cons (hw _ (List.mem_of_getElem? (i := 113) rfl)) (by decide) EW.nil)
theorem own_wS {Z : State} {a0 : Array Value} (hw : ∀ d ∈ tables_1, d.before a0 Z = true) : ∀ a ∈ Bundle.stringAtoms, a.before a0 Z = true := fun d hd => hw d ((by decide +kernel : ∀ d ∈ Bundle.stringAtoms, d ∈ tables_1) d hd)
theorem own_up (cs : List Int32) (h : ∀ c ∈ cs, ¬ c < 0 ∧ ¬ (255 : Int32) < c) : ∀ c ∈ cs, ¬ c < 0 ∧ ¬ (65535 : Int32) < c := fun c hc => ⟨(h c hc).1, fun q => (h c hc).2 (by rw [Int32.lt_iff_toInt_lt] at q ⊢; have e1 : (65535 : Int32).toInt = 65535 := rfl; have e2 : (255 : Int32).toInt = 255 := rfl; omega)⟩
theorem own_all0 {P : Int32 → Prop} : ∀ c ∈ ([] : List Int32), P c := fun _ h => nomatch h
theorem own_allS {P : Int32 → Prop} {a : Int32} {L : List Int32} (h : P a) (r : ∀ c ∈ L, P c) : ∀ c ∈ a :: L, P c := fun c hc => (List.mem_cons.mp hc).elim (fun e => e ▸ h) (r c)
/-- a String -/
def OStr (Z : State) (h : Heap) (x : Addr) (cs : List Int32) : Prop := ∃ (t : Addr) (kb : ClassId) (cd N2 : Int32) (vs : List Value), Exa Z h x "java/lang/String" ∧ Fld Z h x "java/lang/String" "value" "[B" (.ref t) ∧ Fld Z h x "java/lang/String" "coder" "B" (.int cd) ∧ Arv Z h t kb .byte N2 vs (.int (0 : Int32)) ∧ True
theorem own_cod0 : True := trivial
theorem own_store7 {z0 z1 z2 z3 z4 z5 z6 : Slot} {w : Value} (h : w.isRef = true) : True := trivial
theorem own_and255 (x : Int32) : ¬ ((x &&& (255 : Int32)).toUInt32.toUInt16.toUInt32.toInt32) < 0 ∧ ¬ (255 : Int32) < ((x &&& (255 : Int32)).toUInt32.toUInt16.toUInt32.toInt32) := by
  have t : ∀ k : Fin 256, ¬ ((Int32.ofNat k.val).toUInt32.toUInt16.toUInt32.toInt32) < 0 ∧ ¬ (255 : Int32) < ((Int32.ofNat k.val).toUInt32.toUInt16.toUInt32.toInt32) := by decide +kernel
  have h : (x &&& 255).toBitVec.toNat < 256 := by
    simp only [Int32.toBitVec_and, BitVec.toNat_and]
    exact Nat.lt_succ_of_le Nat.and_le_right
  have e : (x &&& 255) = Int32.ofNat (x &&& 255).toBitVec.toNat := by
    apply Int32.toBitVec_inj.mp
    show _ = BitVec.ofNat 32 _
    rw [BitVec.ofNat_toNat]; simp
  rw [e]
  exact t ⟨_, h⟩
theorem own_narc {x : Int32} (h : ¬ x < 0 ∧ ¬ (255 : Int32) < x) : nar .char x = x := by
  have h1 := h.1
  have h2 := h.2
  rw [Int32.lt_iff_toInt_lt, show (0 : Int32).toInt = 0 from rfl] at h1
  rw [Int32.lt_iff_toInt_lt, show (255 : Int32).toInt = 255 from rfl] at h2
  obtain ⟨k, rfl⟩ : ∃ k : Fin 256, x = Int32.ofNat k.val := ⟨⟨x.toInt.toNat, by omega⟩, by
    rw [← Int32.toInt_inj, Int32.toInt_ofNat_of_lt (by omega)]
    show x.toInt = ((x.toInt.toNat : Nat) : Int)
    omega⟩
  clear h h1 h2
  revert k
  decide +kernel
theorem d13_0 : decode jdk_42_method_149_code 0 = .ok (.aload_n 0, 1) := by decide +kernel
theorem d13_1 : decode jdk_42_method_149_code 1 = .ok (.invokespecial 1, 3) := by decide +kernel
theorem d13_4 : decode jdk_42_method_149_code 4 = .ok (.iload_n 3, 1) := by decide +kernel
theorem d13_5 : decode jdk_42_method_149_code 5 = .ok (.ifCond .ne 22, 3) := by decide +kernel
theorem d13_8 : decode jdk_42_method_149_code 8 = .ok (.aload_n 0, 1) := by decide +kernel
theorem d13_9 : decode jdk_42_method_149_code 9 = .ok (.ldc 7, 2) := by decide +kernel
theorem d13_11 : decode jdk_42_method_149_code 11 = .ok (.getfield 9, 3) := by decide +kernel
theorem d13_14 : decode jdk_42_method_149_code 14 = .ok (.putfield 9, 3) := by decide +kernel
theorem d13_17 : decode jdk_42_method_149_code 17 = .ok (.aload_n 0, 1) := by decide +kernel
theorem d13_18 : decode jdk_42_method_149_code 18 = .ok (.ldc 7, 2) := by decide +kernel
theorem d13_20 : decode jdk_42_method_149_code 20 = .ok (.getfield 15, 3) := by decide +kernel
theorem d13_23 : decode jdk_42_method_149_code 23 = .ok (.putfield 15, 3) := by decide +kernel
theorem d13_26 : decode jdk_42_method_149_code 26 = .ok (.return_, 1) := by decide +kernel
theorem d13_27 : decode jdk_42_method_149_code 27 = .ok (.getstatic 38, 3) := by decide +kernel
theorem d13_30 : decode jdk_42_method_149_code 30 = .ok (.ifCond .eq 28, 3) := by decide +kernel
theorem d13_33 : decode jdk_42_method_149_code 33 = .ok (.aload_n 1, 1) := by decide +kernel
theorem d13_34 : decode jdk_42_method_149_code 34 = .ok (.iload_n 2, 1) := by decide +kernel
theorem d13_35 : decode jdk_42_method_149_code 35 = .ok (.iload_n 3, 1) := by decide +kernel
theorem d13_36 : decode jdk_42_method_149_code 36 = .ok (.invokestatic 177, 3) := by decide +kernel
theorem d13_39 : decode jdk_42_method_149_code 39 = .ok (.astore 5, 2) := by decide +kernel
theorem d13_41 : decode jdk_42_method_149_code 41 = .ok (.aload_n 0, 1) := by decide +kernel
theorem d13_42 : decode jdk_42_method_149_code 42 = .ok (.aload 5, 2) := by decide +kernel
theorem d13_44 : decode jdk_42_method_149_code 44 = .ok (.iload_n 3, 1) := by decide +kernel
theorem d13_45 : decode jdk_42_method_149_code 45 = .ok (.invokestatic 47, 3) := by decide +kernel
theorem d13_48 : decode jdk_42_method_149_code 48 = .ok (.putfield 15, 3) := by decide +kernel
theorem d13_51 : decode jdk_42_method_149_code 51 = .ok (.aload_n 0, 1) := by decide +kernel
theorem d13_52 : decode jdk_42_method_149_code 52 = .ok (.aload 5, 2) := by decide +kernel
theorem d13_54 : decode jdk_42_method_149_code 54 = .ok (.putfield 9, 3) := by decide +kernel
theorem d13_57 : decode jdk_42_method_149_code 57 = .ok (.return_, 1) := by decide +kernel
theorem d13_58 : decode jdk_42_method_149_code 58 = .ok (.aload_n 0, 1) := by decide +kernel
theorem d13_59 : decode jdk_42_method_149_code 59 = .ok (.iconst 1, 1) := by decide +kernel
theorem d13_60 : decode jdk_42_method_149_code 60 = .ok (.putfield 15, 3) := by decide +kernel
theorem d13_63 : decode jdk_42_method_149_code 63 = .ok (.aload_n 0, 1) := by decide +kernel
theorem d13_64 : decode jdk_42_method_149_code 64 = .ok (.aload_n 1, 1) := by decide +kernel
theorem d13_65 : decode jdk_42_method_149_code 65 = .ok (.iload_n 2, 1) := by decide +kernel
theorem d13_66 : decode jdk_42_method_149_code 66 = .ok (.iload_n 3, 1) := by decide +kernel
theorem d13_67 : decode jdk_42_method_149_code 67 = .ok (.invokestatic 180, 3) := by decide +kernel
theorem d13_70 : decode jdk_42_method_149_code 70 = .ok (.putfield 9, 3) := by decide +kernel
theorem d13_73 : decode jdk_42_method_149_code 73 = .ok (.return_, 1) := by decide +kernel
theorem pn_java_lang_String : plainName "java/lang/String" = true := by first | (simp [plainName, overriddenIn]; done) | decide +kernel
def Q_rmE4 (Z : State) (x : Addr) (b : Addr) (h0 : Heap) (n0 : Nat) (v : Option Value) (h : Heap) (L : List Loc) : Prop := v = none ∧ Fr n0 L ∧ Keep h0 h [x] ∧ OStr Z h x []
theorem pd_2829V : parseMethodDescriptor "()V" = some ⟨[], none⟩ := by decide +kernel
theorem pd_285bBI29B : parseMethodDescriptor "([BI)B" = some ⟨[(.array .byte), .int], some .byte⟩ := by decide +kernel
theorem pd_285bCII295bB : parseMethodDescriptor "([CII)[B" = some ⟨[(.array .char), .int, .int], some (.array .byte)⟩ := by decide +kernel
set_option maxRecDepth 65536 in
set_option maxHeartbeats 40000000 in
theorem rmE4 (l : Launch) (Z : State) (a0 : Array Value) (hw : ∀ d ∈ tables_1, d.before a0 Z = true) (ws : List Jvm.Cond) (x : Addr) (b : Addr) (h0 : Heap) (n0 : Nat) (O0 : Old Z n0 h0) (F_value_x : Fld Z h0 x "java/lang/String" "value" "[B" .null) (F_coder_x : Fld Z h0 x "java/lang/String" "coder" "B" (.int (0 : Int32))) (E_x : Exa Z h0 x "java/lang/String") (ge_x : n0 ≤ x) :
    MetFree l (⟨"java/lang/String", "<init>", "([CIILjava/lang/Void;)V"⟩ : MethodName) (head1 (Jvm.Cond.code (⟨"java/lang/String", "<init>", "([CIILjava/lang/Void;)V"⟩ : MethodName) jdk_42_method_149_code 6 none :: ws) ({ frames := 1, cells := 4, slots := 8, locals := 40 } : Room)) (fun ar' U => ar' = #[(.ref x), (.ref b), (.int (0 : Int32)), (.int (0 : Int32)), .null] ∧ Z.Warmed39 U.vm ∧ U.heap = h0 ∧ CHv Z consts_1 U.vm h0) (fun _ _ _ _ _ => True) (fun _ U o U' => ∃ v L, o = .returned v ∧ (Q_rmE4 Z x b h0 n0) v U'.heap L ∧ CHr Z consts_1 U.vm U.heap U'.vm U'.heap ∧ ReturnedEndW U o U' L ({ frames := 1, cells := 4, slots := 8, locals := 40 } : Room).cells ({ frames := 1, cells := 4, slots := 8, locals := 40 } : Room).slots) := by
  refine MetFree.of_bodySF (plainFor_of_name pn_java_lang_String) hisR ?_
  intro p e s m args below meth c s₁ Bd hml0 hP hK
  obtain ⟨rfl, hZ, hh, hCH0⟩ := hP
  have hx := Bd.exec
  have hby := Bd.bytes
  have hlk := BodyLoose.notSynchronized Bd
  have hml : c.maxLocals = 6 := hml0
  have hown : s.vm.findClass "java/lang/String" = some m.cls := findClass_of_methodNamed Bd.named
  have hnm := (name_of_methodNamed Bd.named Bd.method).1
  have X0 : Stand p l e ({ frames := 1, cells := 4, slots := 8, locals := 40 } : Room) (s.setVm s.vm) m #[(.ref x), (.ref b), (.int (0 : Int32)), (.int (0 : Int32)), .null] below meth c s₁ [] 0 0 := Stand.of_body Bd
  have e0 : s₁.heap = h0 := by rw [← hh, Bd.state]; rfl
  have N0 := Fr.nil n0
  have Z0 : n0 ≤ h0.size := O0.1 ▸ O0.2.1
  have hEL : EW Z a0 consts_1 := own_EW hw
  have wS := own_wS hw
  have es : s.heap = h0 := hh
  have hS : s.Since s.vm h0.size := (State.WarmedH.refl s).since _
  have hk : h0.size ≤ h0.size := Nat.le_refl _
  have CR : CHr Z consts_1 s.vm h0 s.vm h0 := CHr.refl hCH0
  show OEndsW p e below s Z consts_1 ({ frames := 1, cells := 4, slots := 8, locals := 40 } : Room).cells ({ frames := 1, cells := 4, slots := 8, locals := 40 } : Room).slots (Q_rmE4 Z x b h0 n0) (s₁.setTop (entryFrame m #[(.ref x), (.ref b), (.int (0 : Int32)), (.int (0 : Int32)), .null] 6))
  refine OEndsW.via (fun _ k => castTop (show entryFrame m #[(.ref x), (.ref b), (.int (0 : Int32)), (.int (0 : Int32)), .null] 6 = (mkF m 0 #[.val (.ref x), .val (.ref b), .val (.int (0 : Int32)), .val (.int (0 : Int32)), .val .null, .unset] []) by first | (simp [entryFrame, mkF, argsToLocals, Value.category, maxLocals]; done) | rfl) k) ?_
  have Od := O0
  have Kp := Keep.refl h0 [x]
  have sf_x : Safe Z consts_1 s.vm h0 x := own_safe_null hZ.alike E_x F_value_x
  show OEndsW p e below s _ _ _ _ _ (s₁.setTop (mkF m 0 #[.val (.ref x), .val (.ref b), .val (.int (0 : Int32)), .val (.int (0 : Int32)), .val .null, .unset] []))
  refine OEndsW.via (fun _ k => XS.aloadN X0.here hx rfl (hb hby d13_0) rfl rfl k) ?_
  show OEndsW p e below s _ _ _ _ _ (s₁.setTop (mkF m 1 #[.val (.ref x), .val (.ref b), .val (.int (0 : Int32)), .val (.int (0 : Int32)), .val .null, .unset] [(.ref x)]))
  obtain ⟨T1, X1, e1, st1⟩ := initO X0 hx hZ hown (hw _ (List.mem_of_getElem? (i := 77) rfl)) (hw _ (List.mem_of_getElem? (i := 11) rfl)) (hw _ (List.mem_of_getElem? (i := 12) rfl)) e0 (g := (mkF m 1 #[.val (.ref x), .val (.ref b), .val (.int (0 : Int32)), .val (.int (0 : Int32)), .val .null, .unset] [(.ref x)])) rfl (by rw [hml]; rfl) rfl (hb hby d13_1) (by decide) (W := 0) (by show 2 * 0 + _ ≤ _; exact Nat.le_of_eq rfl) (by decide)
  refine OEndsW.via (fun _ k => st1 _ k) ?_
  show OEndsW p e below s _ _ _ _ _ (T1.setTop (mkF m 4 #[.val (.ref x), .val (.ref b), .val (.int (0 : Int32)), .val (.int (0 : Int32)), .val .null, .unset] []))
  refine OEndsW.via (fun _ k => XS.iloadN X1.here hx rfl (hb hby d13_4) rfl k) ?_
  show OEndsW p e below s _ _ _ _ _ (T1.setTop (mkF m 5 #[.val (.ref x), .val (.ref b), .val (.int (0 : Int32)), .val (.int (0 : Int32)), .val .null, .unset] [(.int (0 : Int32))]))
  refine OEndsW.via (fun _ k => XS.ifNo X1.here hx rfl (hb hby d13_5) rfl ((if0 _ _).trans (teq (by decide : (0 : Int32) = (0 : Int32))).2) k) ?_
  show OEndsW p e below s _ _ _ _ _ (T1.setTop (mkF m 8 #[.val (.ref x), .val (.ref b), .val (.int (0 : Int32)), .val (.int (0 : Int32)), .val .null, .unset] []))
  refine OEndsW.via (fun _ k => XS.aloadN X1.here hx rfl (hb hby d13_8) rfl rfl k) ?_
  show OEndsW p e below s _ _ _ _ _ (T1.setTop (mkF m 9 #[.val (.ref x), .val (.ref b), .val (.int (0 : Int32)), .val (.int (0 : Int32)), .val .null, .unset] [(.ref x)]))
  obtain ⟨q2, T2, h2, k12, qv2, kq2, X2, e2, E2, hS2, hk2, hZ2, hown2, E_q2, C_q2, V_q2, K_q2, la2, lb2, CH2, Lt2, hsafe2, st2⟩ := ldcCH X1 hx hZ hown (hw _ (List.mem_of_getElem? (i := 113) rfl)) wS e1 hS hk hEL (by decide : ("java/lang/String", 7) ∈ consts_1) CR.1 (vs := []) (z := (0 : Int32)) (by decide) (by decide) (by decide) (g := (mkF m 9 #[.val (.ref x), .val (.ref b), .val (.int (0 : Int32)), .val (.int (0 : Int32)), .val .null, .unset] [(.ref x)])) rfl (hb hby d13_9) (n := 0) (by decide) (by decide) (by decide) (by decide)
  replace sf_x := CH2.safe F_value_x.lt sf_x
  have ne_x_q2 := (hsafe2 _ sf_x).1
  have ne_x_qv2 := (hsafe2 _ sf_x).2
  replace Od := Od.ext E2
  replace Kp := Kp.ext E2
  replace F_value_x := Fld.ext E2 F_value_x
  replace F_coder_x := Fld.ext E2 F_coder_x
  replace E_x := Exa.ext E2 E_x
  replace CR := CR.trans CH2
  replace hS := hS2
  replace hk := hk2
  replace hZ := hZ2
  replace hown := hown2
  refine OEndsW.via (fun _ k => st2 _ k) ?_
  show OEndsW p e below s _ _ _ _ _ (T2.setTop (mkF m 11 #[.val (.ref x), .val (.ref b), .val (.int (0 : Int32)), .val (.int (0 : Int32)), .val .null, .unset] [(.ref q2), (.ref x)]))
  obtain ⟨T3, X3, e3, st3⟩ := getF X2 hx hZ hown (host := "") (Or.inl (hw _ (List.mem_of_getElem? (i := 92) rfl))) Via.refl e2 V_q2 (g := (mkF m 11 #[.val (.ref x), .val (.ref b), .val (.int (0 : Int32)), .val (.int (0 : Int32)), .val .null, .unset] [(.ref q2), (.ref x)])) rfl rfl (hb hby d13_11)
  refine OEndsW.via (fun _ k => st3 _ k) ?_
  show OEndsW p e below s _ _ _ _ _ (T3.setTop (mkF m 14 #[.val (.ref x), .val (.ref b), .val (.int (0 : Int32)), .val (.int (0 : Int32)), .val .null, .unset] [(.ref qv2), (.ref x)]))
  obtain ⟨T4, h4, X4, e4, W4, st4⟩ := putF X3 hx hZ hown (host := "") (Or.inl (hw _ (List.mem_of_getElem? (i := 92) rfl))) Via.refl e3 F_value_x E_x (Or.inr ⟨(hw _ (List.mem_of_getElem? (i := 93) rfl)), rfl, hnm⟩) (hw _ (List.mem_of_getElem? (i := 67) rfl)) (ty := (.array .byte)) (by decide) rfl rfl (g := (mkF m 14 #[.val (.ref x), .val (.ref b), .val (.int (0 : Int32)), .val (.int (0 : Int32)), .val .null, .unset] [(.ref qv2), (.ref x)])) rfl rfl (hb hby d13_14)
  have N4 := Fr.snoc X4 N0 ge_x
  have sfw4 := sf_x
  replace hk := Nat.le_trans hk (Keep.of_wr W4).1
  replace Od := Od.wr W4 ge_x
  replace Kp := Kp.wr W4 (Or.inl (by simp))
  replace F_value_x := Fld.same W4 F_value_x
  replace F_coder_x := Fld.other W4 F_coder_x (Or.inr (slot_ne (Or.inr (hw _ (List.mem_of_getElem? (i := 91) rfl))) (Or.inr (hw _ (List.mem_of_getElem? (i := 93) rfl))) (by decide) (t := .byte) (t' := (.array .byte)) (by decide) (by decide)))
  replace E_x := Exa.wr W4 E_x
  replace sf_x := Safe.wr W4 sfw4 CR.1 sf_x
  replace E_q2 := Exa.wr W4 E_q2
  replace C_q2 := Fld.other W4 C_q2 (Or.inl (Ne.symm ne_x_q2))
  replace V_q2 := Fld.other W4 V_q2 (Or.inl (Ne.symm ne_x_q2))
  replace K_q2 := K_q2.other W4 (Ne.symm ne_x_qv2)
  replace CR := CR.trans (CHr.wr W4 sfw4 CR.1)
  refine OEndsW.via (fun _ k => st4 _ k) ?_
  show OEndsW p e below s _ _ _ _ _ (T4.setTop (mkF m 17 #[.val (.ref x), .val (.ref b), .val (.int (0 : Int32)), .val (.int (0 : Int32)), .val .null, .unset] []))
  refine OEndsW.via (fun _ k => XS.aloadN X4.here hx rfl (hb hby d13_17) rfl rfl k) ?_
  show OEndsW p e below s _ _ _ _ _ (T4.setTop (mkF m 18 #[.val (.ref x), .val (.ref b), .val (.int (0 : Int32)), .val (.int (0 : Int32)), .val .null, .unset] [(.ref x)]))
  obtain ⟨q5, T5, h5, k15, qv5, kq5, X5, e5, E5, hS5, hk5, hZ5, hown5, E_q5, C_q5, V_q5, K_q5, la5, lb5, CH5, Lt5, hsafe5, st5⟩ := ldcCH X4 hx hZ hown (hw _ (List.mem_of_getElem? (i := 113) rfl)) wS e4 hS hk hEL (by decide : ("java/lang/String", 7) ∈ consts_1) CR.1 (vs := []) (z := (0 : Int32)) (by decide) (by decide) (by decide) (g := (mkF m 18 #[.val (.ref x), .val (.ref b), .val (.int (0 : Int32)), .val (.int (0 : Int32)), .val .null, .unset] [(.ref x)])) rfl (hb hby d13_18) (n := 0) (by decide) (by decide) (by decide) (by decide)
  replace sf_x := CH5.safe F_value_x.lt sf_x
  have ne_x_q5 := (hsafe5 _ sf_x).1
  have ne_x_qv5 := (hsafe5 _ sf_x).2
  replace Od := Od.ext E5
  replace Kp := Kp.ext E5
  replace F_value_x := Fld.ext E5 F_value_x
  replace F_coder_x := Fld.ext E5 F_coder_x
  replace E_x := Exa.ext E5 E_x
  replace E_q2 := Exa.ext E5 E_q2
  replace C_q2 := Fld.ext E5 C_q2
  replace V_q2 := Fld.ext E5 V_q2
  replace K_q2 := K_q2.ext E5
  replace CR := CR.trans CH5
  replace hS := hS5
  replace hk := hk5
  replace hZ := hZ5
  replace hown := hown5
  refine OEndsW.via (fun _ k => st5 _ k) ?_
  show OEndsW p e below s _ _ _ _ _ (T5.setTop (mkF m 20 #[.val (.ref x), .val (.ref b), .val (.int (0 : Int32)), .val (.int (0 : Int32)), .val .null, .unset] [(.ref q5), (.ref x)]))
  obtain ⟨T6, X6, e6, st6⟩ := getF X5 hx hZ hown (host := "") (Or.inl (hw _ (List.mem_of_getElem? (i := 90) rfl))) Via.refl e5 C_q5 (g := (mkF m 20 #[.val (.ref x), .val (.ref b), .val (.int (0 : Int32)), .val (.int (0 : Int32)), .val .null, .unset] [(.ref q5), (.ref x)])) rfl rfl (hb hby d13_20)
  refine OEndsW.via (fun _ k => st6 _ k) ?_
  show OEndsW p e below s _ _ _ _ _ (T6.setTop (mkF m 23 #[.val (.ref x), .val (.ref b), .val (.int (0 : Int32)), .val (.int (0 : Int32)), .val .null, .unset] [(.int (0 : Int32)), (.ref x)]))
  obtain ⟨T7, h7, X7, e7, W7, st7⟩ := putFN X6 hx hZ hown (hw _ (List.mem_of_getElem? (i := 90) rfl)) Via.refl e6 F_coder_x E_x (Or.inr ⟨(hw _ (List.mem_of_getElem? (i := 91) rfl)), rfl, hnm⟩) (hw _ (List.mem_of_getElem? (i := 67) rfl)) (ty := .byte) (v' := (.int (0 : Int32))) (by decide) rfl rfl (g := (mkF m 23 #[.val (.ref x), .val (.ref b), .val (.int (0 : Int32)), .val (.int (0 : Int32)), .val .null, .unset] [(.int (0 : Int32)), (.ref x)])) rfl rfl (hb hby d13_23)
  have N7 := Fr.snoc X7 N4 ge_x
  have sfw7 := sf_x
  replace hk := Nat.le_trans hk (Keep.of_wr W7).1
  replace Od := Od.wr W7 ge_x
  replace Kp := Kp.wr W7 (Or.inl (by simp))
  replace F_value_x := Fld.other W7 F_value_x (Or.inr (slot_ne (Or.inr (hw _ (List.mem_of_getElem? (i := 93) rfl))) (Or.inr (hw _ (List.mem_of_getElem? (i := 91) rfl))) (by decide) (t := (.array .byte)) (t' := .byte) (by decide) (by decide)))
  replace F_coder_x := Fld.same W7 F_coder_x
  replace E_x := Exa.wr W7 E_x
  replace sf_x := Safe.wr W7 sfw7 CR.1 sf_x
  replace E_q2 := Exa.wr W7 E_q2
  replace C_q2 := Fld.other W7 C_q2 (Or.inl (Ne.symm ne_x_q2))
  replace V_q2 := Fld.other W7 V_q2 (Or.inl (Ne.symm ne_x_q2))
  replace K_q2 := K_q2.other W7 (Ne.symm ne_x_qv2)
  replace E_q5 := Exa.wr W7 E_q5
  replace C_q5 := Fld.other W7 C_q5 (Or.inl (Ne.symm ne_x_q5))
  replace V_q5 := Fld.other W7 V_q5 (Or.inl (Ne.symm ne_x_q5))
  replace K_q5 := K_q5.other W7 (Ne.symm ne_x_qv5)
  replace CR := CR.trans (CHr.wr W7 sfw7 CR.1)
  refine OEndsW.via (fun _ k => st7 _ k) ?_
  show OEndsW p e below s _ _ _ _ _ (T7.setTop (mkF m 26 #[.val (.ref x), .val (.ref b), .val (.int (0 : Int32)), .val (.int (0 : Int32)), .val .null, .unset] []))
  refine OEndsW.retV X7 hx hlk hS hk hZ hEL e7 es CR Bd.returns (hb hby d13_26) ?_ (by decide) (by decide)
  rw [e7]
  exact ⟨rfl, N7, Kp, ⟨_, _, _, _, _, E_x, F_value_x, F_coder_x, K_q2, own_cod0⟩⟩
theorem d12_0 : decode jdk_42_method_3_code 0 = .ok (.aload_n 0, 1) := by decide +kernel
theorem d12_1 : decode jdk_42_method_3_code 1 = .ok (.aload_n 1, 1) := by decide +kernel
theorem d12_2 : decode jdk_42_method_3_code 2 = .ok (.iconst 0, 1) := by decide +kernel
theorem d12_3 : decode jdk_42_method_3_code 3 = .ok (.aload_n 1, 1) := by decide +kernel
theorem d12_4 : decode jdk_42_method_3_code 4 = .ok (.arraylength, 1) := by decide +kernel
theorem d12_5 : decode jdk_42_method_3_code 5 = .ok (.aconst_null, 1) := by decide +kernel
theorem d12_6 : decode jdk_42_method_3_code 6 = .ok (.invokespecial 27, 3) := by decide +kernel
theorem d12_9 : decode jdk_42_method_3_code 9 = .ok (.return_, 1) := by decide +kernel
def Q_rmE1 (Z : State) (x : Addr) (b : Addr) (kC : ClassId) (dC : Value) (h0 : Heap) (n0 : Nat) (v : Option Value) (h : Heap) (L : List Loc) : Prop := v = none ∧ Fr n0 L ∧ Keep h0 h [x] ∧ OStr Z h x []
theorem pd_285bCIILjava2flang2fVoid3b29V : parseMethodDescriptor "([CIILjava/lang/Void;)V" = some ⟨[(.array .char), .int, .int, (.object "java/lang/Void")], none⟩ := by decide +kernel
set_option maxRecDepth 65536 in
set_option maxHeartbeats 40000000 in
theorem rmE1 (l : Launch) (Z : State) (a0 : Array Value) (hw : ∀ d ∈ tables_1, d.before a0 Z = true) (ws : List Jvm.Cond) (x : Addr) (b : Addr) (kC : ClassId) (dC : Value) (h0 : Heap) (n0 : Nat) (O0 : Old Z n0 h0) (F_value_x : Fld Z h0 x "java/lang/String" "value" "[B" .null) (F_coder_x : Fld Z h0 x "java/lang/String" "coder" "B" (.int (0 : Int32))) (E_x : Exa Z h0 x "java/lang/String") (ge_x : n0 ≤ x) (V_b : Arv Z h0 b kC .char (0 : Int32) [] dC) :
    MetFree l (⟨"java/lang/String", "<init>", "([C)V"⟩ : MethodName) (head1 (Jvm.Cond.code (⟨"java/lang/String", "<init>", "([C)V"⟩ : MethodName) jdk_42_method_3_code 2 none :: ws) ({ frames := 2, cells := 4, slots := 8, locals := 64 } : Room)) (fun ar' U => ar' = #[(.ref x), (.ref b)] ∧ Z.Warmed39 U.vm ∧ U.heap = h0 ∧ CHv Z consts_1 U.vm h0) (fun _ _ _ _ _ => True) (fun _ U o U' => ∃ v L, o = .returned v ∧ (Q_rmE1 Z x b kC dC h0 n0) v U'.heap L ∧ CHr Z consts_1 U.vm U.heap U'.vm U'.heap ∧ ReturnedEndW U o U' L ({ frames := 2, cells := 4, slots := 8, locals := 64 } : Room).cells ({ frames := 2, cells := 4, slots := 8, locals := 64 } : Room).slots) := by
  refine MetFree.of_bodySF (plainFor_of_name pn_java_lang_String) hisR ?_
  intro p e s m args below meth c s₁ Bd hml0 hP hK
  obtain ⟨rfl, hZ, hh, hCH0⟩ := hP
  have hx := Bd.exec
  have hby := Bd.bytes
  have hlk := BodyLoose.notSynchronized Bd
  have hml : c.maxLocals = 2 := hml0
  have hown : s.vm.findClass "java/lang/String" = some m.cls := findClass_of_methodNamed Bd.named
  have hnm := (name_of_methodNamed Bd.named Bd.method).1
  have X0 : Stand p l e ({ frames := 2, cells := 4, slots := 8, locals := 64 } : Room) (s.setVm s.vm) m #[(.ref x), (.ref b)] below meth c s₁ [] 0 0 := Stand.of_body Bd
  have e0 : s₁.heap = h0 := by rw [← hh, Bd.state]; rfl
  have N0 := Fr.nil n0
  have Z0 : n0 ≤ h0.size := O0.1 ▸ O0.2.1
  have hEL : EW Z a0 consts_1 := own_EW hw
  have wS := own_wS hw
  have es : s.heap = h0 := hh
  have hS : s.Since s.vm h0.size := (State.WarmedH.refl s).since _
  have hk : h0.size ≤ h0.size := Nat.le_refl _
  have CR : CHr Z consts_1 s.vm h0 s.vm h0 := CHr.refl hCH0
  show OEndsW p e below s Z consts_1 ({ frames := 2, cells := 4, slots := 8, locals := 64 } : Room).cells ({ frames := 2, cells := 4, slots := 8, locals := 64 } : Room).slots (Q_rmE1 Z x b kC dC h0 n0) (s₁.setTop (entryFrame m #[(.ref x), (.ref b)] 2))
  refine OEndsW.via (fun _ k => castTop (show entryFrame m #[(.ref x), (.ref b)] 2 = (mkF m 0 #[.val (.ref x), .val (.ref b)] []) by first | (simp [entryFrame, mkF, argsToLocals, Value.category, maxLocals]; done) | rfl) k) ?_
  obtain ⟨cl, Ar, qA, Sa, MA, HA, GA⟩ := V_b
  show OEndsW p e below s _ _ _ _ _ (s₁.setTop (mkF m 0 #[.val (.ref x), .val (.ref b)] []))
  refine OEndsW.via (fun _ k => XS.aloadN X0.here hx rfl (hb hby d12_0) rfl rfl k) ?_
  show OEndsW p e below s _ _ _ _ _ (s₁.setTop (mkF m 1 #[.val (.ref x), .val (.ref b)] [(.ref x)]))
  refine OEndsW.via (fun _ k => XS.aloadN X0.here hx rfl (hb hby d12_1) rfl rfl k) ?_
  show OEndsW p e below s _ _ _ _ _ (s₁.setTop (mkF m 2 #[.val (.ref x), .val (.ref b)] [(.ref b), (.ref x)]))
  refine OEndsW.via (fun _ k => XS.iconst X0.here hx rfl (hb hby d12_2) k) ?_
  show OEndsW p e below s _ _ _ _ _ (s₁.setTop (mkF m 3 #[.val (.ref x), .val (.ref b)] [(.int (0 : Int32)), (.ref b), (.ref x)]))
  refine OEndsW.via (fun _ k => XS.aloadN X0.here hx rfl (hb hby d12_3) rfl rfl k) ?_
  show OEndsW p e below s _ _ _ _ _ (s₁.setTop (mkF m 4 #[.val (.ref x), .val (.ref b)] [(.ref b), (.int (0 : Int32)), (.ref b), (.ref x)]))
  refine OEndsW.via (fun _ k => X0.arraylength hx (by rw [e0]; exact Ar.1) (State.isArrayOf_alike hZ.alike Ar.2.1) (g := (mkF m 4 #[.val (.ref x), .val (.ref b)] [(.ref b), (.int (0 : Int32)), (.ref b), (.ref x)])) rfl rfl (hb hby d12_4) _ k) ?_
  rw [len_of Sa MA]
  show OEndsW p e below s _ _ _ _ _ (s₁.setTop (mkF m 5 #[.val (.ref x), .val (.ref b)] [(.int (0 : Int32)), (.int (0 : Int32)), (.ref b), (.ref x)]))
  refine OEndsW.via (fun _ k => XS.aconstNull X0.here hx rfl (hb hby d12_5) k) ?_
  show OEndsW p e below s _ _ _ _ _ (s₁.setTop (mkF m 6 #[.val (.ref x), .val (.ref b)] [.null, (.int (0 : Int32)), (.int (0 : Int32)), (.ref b), (.ref x)]))
  obtain ⟨_, _, ⟨T1, L1, k1, n1⟩, -, X1, S1, G1, ⟨Lc1, hQ1, l1, y1, z1, CH1⟩, st1⟩ := X0.specialBackS hx (y := (⟨"java/lang/String", "<init>", "([CIILjava/lang/Void;)V"⟩ : MethodName)) rfl hown (mvT hZ (hw _ (List.mem_of_getElem? (i := 73) rfl))) (mvT hZ (hw _ (List.mem_of_getElem? (i := 74) rfl))) (mvT hZ (hw _ (List.mem_of_getElem? (i := 76) rfl))) (by decide) (backOfSH (W := 0) (rmE4 l Z a0 hw [] x b h0 n0 O0 F_value_x F_coder_x E_x ge_x) hZ (hw _ (List.mem_of_getElem? (i := 76) rfl)) (hw _ (List.mem_of_getElem? (i := 68) rfl)) (by decide) (by decide) hEL CR.1) (g := (mkF m 6 #[.val (.ref x), .val (.ref b)] [.null, (.int (0 : Int32)), (.int (0 : Int32)), (.ref b), (.ref x)])) rfl (by rw [hml]; rfl) (Steps.refl _) (a := x) (argsL := [(.ref b), (.int (0 : Int32)), (.int (0 : Int32)), .null]) (rest := []) (lenOf pd_285bCIILjava2flang2fVoid3b29V rfl) rfl (by show 2 * 0 + _ ≤ _; exact Nat.le_of_eq rfl) (hb hby d12_6) (fun _ _ => ⟨rfl, e0, Nat.le_of_ble_eq_true rfl, Nat.le_of_ble_eq_true rfl⟩)
  dsimp only [Pt.U, Pt.locs, Pt.cells, Pt.slots] at X1 S1 G1 l1 y1 z1 st1 hQ1 CH1
  subst l1 y1 z1
  obtain ⟨X1, hS, hZ, hown⟩ := rebS hS (by rw [e0]; exact hk) X1 S1 G1 hZ hown
  replace CR := CR.trans CH1
  replace hk := Nat.le_refl T1.heap.size
  obtain ⟨rfl, N1q, K1, O1⟩ := hQ1
  have N1 := Fr.app N0 N1q
  refine OEndsW.via (fun _ k => st1.trans k) ?_
  show OEndsW p e below s _ _ _ _ _ (T1.setTop (mkF m 9 #[.val (.ref x), .val (.ref b)] []))
  refine OEndsW.retV X1 hx hlk hS hk hZ hEL rfl es CR Bd.returns (hb hby d12_9) ?_ (by decide) (by decide)
  exact ⟨rfl, N1, K1, O1⟩
theorem d19_0 : decode jdk_43_method_3_code 0 = .ok (.iload_n 0, 1) := by decide +kernel
theorem d19_1 : decode jdk_43_method_3_code 1 = .ok (.sipush 255, 3) := by decide +kernel
theorem d19_4 : decode jdk_43_method_3_code 4 = .ok (.if_icmp .gt 7, 3) := by decide +kernel
theorem d19_7 : decode jdk_43_method_3_code 7 = .ok (.iconst 1, 1) := by decide +kernel
theorem d19_8 : decode jdk_43_method_3_code 8 = .ok (.goto 4, 3) := by decide +kernel
theorem d19_11 : decode jdk_43_method_3_code 11 = .ok (.iconst 0, 1) := by decide +kernel
theorem d19_12 : decode jdk_43_method_3_code 12 = .ok (.ireturn, 1) := by decide +kernel
theorem pn_java_lang_StringLatin1 : plainName "java/lang/StringLatin1" = true := by first | (simp [plainName, overriddenIn]; done) | decide +kernel
set_option maxRecDepth 65536 in
set_option maxHeartbeats 40000000 in
theorem rmCE (l : Launch) (Z : State) (a0 : Array Value) (hw : ∀ d ∈ tables_1, d.before a0 Z = true) (ws : List Jvm.Cond) (x : Int32) (h0 : Heap) (n0 : Nat) (O0 : Old Z n0 h0) (h1 : ¬ (255 : Int32) < x) :
    MetFree l (⟨"java/lang/StringLatin1", "canEncode", "(C)Z"⟩ : MethodName) (head1 (Jvm.Cond.code (⟨"java/lang/StringLatin1", "canEncode", "(C)Z"⟩ : MethodName) jdk_43_method_3_code 1 (some .boolean) :: ws) ({ frames := 0, cells := 0, slots := 0, locals := 0 } : Room)) (fun ar' U => ar' = #[(.int x)] ∧ Z.Warmed39 U.vm ∧ U.heap = h0) (fun _ _ _ _ _ => True) (fun _ U o U' => ∃ v L, o = .returned v ∧ (QA (some (.int 1)) h0 n0) v U'.heap L ∧ FrameEnd U o U' L ({ frames := 0, cells := 0, slots := 0, locals := 0 } : Room).cells ({ frames := 0, cells := 0, slots := 0, locals := 0 } : Room).slots) := by
  refine MetFree.of_bodySF (plainFor_of_name pn_java_lang_StringLatin1) hisR ?_
  intro p e s m args below meth c s₁ Bd hml0 hP hK
  obtain ⟨rfl, hZ, hh⟩ := hP
  have hx := Bd.exec
  have hby := Bd.bytes
  have hlk := BodyLoose.notSynchronized Bd
  have hml : c.maxLocals = 1 := hml0
  have hown : s.vm.findClass "java/lang/StringLatin1" = some m.cls := findClass_of_methodNamed Bd.named
  have hnm := (name_of_methodNamed Bd.named Bd.method).1
  have X0 : Stand p l e ({ frames := 0, cells := 0, slots := 0, locals := 0 } : Room) s m #[(.int x)] below meth c s₁ [] 0 0 := Stand.of_body Bd
  have e0 : s₁.heap = h0 := by rw [← hh, Bd.state]; rfl
  have N0 := Fr.nil n0
  have Z0 : n0 ≤ h0.size := O0.1 ▸ O0.2.1
  show OEnds p e below s ({ frames := 0, cells := 0, slots := 0, locals := 0 } : Room).cells ({ frames := 0, cells := 0, slots := 0, locals := 0 } : Room).slots (QA (some (.int 1)) h0 n0) (s₁.setTop (entryFrame m #[(.int x)] 1))
  refine OEnds.via (fun _ k => castTop (show entryFrame m #[(.int x)] 1 = (mkF m 0 #[.val (.int x)] []) by first | (simp [entryFrame, mkF, argsToLocals, Value.category, maxLocals]; done) | rfl) k) ?_
  refine OEnds.via (fun _ k => XS.iloadN X0.here hx rfl (hb hby d19_0) rfl k) ?_
  show OEnds p e below s _ _ _ (s₁.setTop (mkF m 1 #[.val (.int x)] [(.int x)]))
  refine OEnds.via (fun _ k => XS.sipush X0.here hx rfl (hb hby d19_1) k) ?_
  show OEnds p e below s _ _ _ (s₁.setTop (mkF m 4 #[.val (.int x)] [(.int (255 : Int32)), (.int x)]))
  refine OEnds.via (fun _ k => XS.icmpNo X0.here hx rfl (hb hby d19_4) rfl (flt h1).2.2.1 k) ?_
  show OEnds p e below s _ _ _ (s₁.setTop (mkF m 7 #[.val (.int x)] []))
  refine OEnds.via (fun _ k => XS.iconst X0.here hx rfl (hb hby d19_7) k) ?_
  show OEnds p e below s _ _ _ (s₁.setTop (mkF m 8 #[.val (.int x)] [(.int (1 : Int32))]))
  refine OEnds.via (fun _ k => XS.goto X0.here hx rfl (pc0 := 8) (pc' := 12) rfl (hb hby d19_8) (by decide) (by decide) k) ?_
  show OEnds p e below s _ _ _ (s₁.setTop (mkF m 12 #[.val (.int x)] [(.int (1 : Int32))]))
  refine OEnds.retN X0 hx hlk (t := .boolean) Bd.returns (by simp) (hb hby d19_12) ?_ (by decide) (by decide)
  exact ⟨rfl, N0, e0⟩
theorem own_idem {Z : State} {h : Heap} {b : Addr} {k : ClassId} {x : Int32} (F : Arv Z h b k .byte (1 : Int32) [(.int (nar .byte (x.toInt8.toInt32)))] (.int (0 : Int32))) : Arv Z h b k .byte (1 : Int32) [(.int (x.toInt8.toInt32))] (.int (0 : Int32)) := by
  have e : nar .byte (x.toInt8.toInt32) = x.toInt8.toInt32 := by simp [nar]
  rw [e] at F
  exact F
theorem d20_0 : decode jdk_43_method_46_code 0 = .ok (.iconst 1, 1) := by decide +kernel
theorem d20_1 : decode jdk_43_method_46_code 1 = .ok (.newarray .byte, 2) := by decide +kernel
theorem d20_3 : decode jdk_43_method_46_code 3 = .ok (.dup, 1) := by decide +kernel
theorem d20_4 : decode jdk_43_method_46_code 4 = .ok (.iconst 0, 1) := by decide +kernel
theorem d20_5 : decode jdk_43_method_46_code 5 = .ok (.iload_n 0, 1) := by decide +kernel
theorem d20_6 : decode jdk_43_method_46_code 6 = .ok (.i2b, 1) := by decide +kernel
theorem d20_7 : decode jdk_43_method_46_code 7 = .ok (.bastore, 1) := by decide +kernel
theorem d20_8 : decode jdk_43_method_46_code 8 = .ok (.areturn, 1) := by decide +kernel
def Q_rmTB (Z : State) (x : Int32) (h0 : Heap) (n0 : Nat) (v : Option Value) (h : Heap) (L : List Loc) : Prop := ∃ b k, v = some (.ref b) ∧ Fr n0 L ∧ Keep h0 h [] ∧ n0 ≤ b ∧ h0.size ≤ b ∧ Arv Z h b k .byte (1 : Int32) [(.int (x.toInt8.toInt32))] (.int (0 : Int32))
set_option maxRecDepth 65536 in
set_option maxHeartbeats 40000000 in
theorem rmTB (l : Launch) (Z : State) (a0 : Array Value) (hw : ∀ d ∈ tables_1, d.before a0 Z = true) (ws : List Jvm.Cond) (x : Int32) (h0 : Heap) (n0 : Nat) (O0 : Old Z n0 h0) :
    MetFree l (⟨"java/lang/StringLatin1", "toBytes", "(C)[B"⟩ : MethodName) (head1 (Jvm.Cond.code (⟨"java/lang/StringLatin1", "toBytes", "(C)[B"⟩ : MethodName) jdk_43_method_46_code 1 (some (.array .byte)) :: ws) ({ frames := 0, cells := 1, slots := 1, locals := 0 } : Room)) (fun ar' U => ar' = #[(.int x)] ∧ Z.Warmed39 U.vm ∧ U.heap = h0) (fun _ _ _ _ _ => True) (fun _ U o U' => ∃ v L, o = .returned v ∧ (Q_rmTB Z x h0 n0) v U'.heap L ∧ FrameEnd U o U' L ({ frames := 0, cells := 1, slots := 1, locals := 0 } : Room).cells ({ frames := 0, cells := 1, slots := 1, locals := 0 } : Room).slots) := by
  refine MetFree.of_bodySF (plainFor_of_name pn_java_lang_StringLatin1) hisR ?_
  intro p e s m args below meth c s₁ Bd hml0 hP hK
  obtain ⟨rfl, hZ, hh⟩ := hP
  have hx := Bd.exec
  have hby := Bd.bytes
  have hlk := BodyLoose.notSynchronized Bd
  have hml : c.maxLocals = 1 := hml0
  have hown : s.vm.findClass "java/lang/StringLatin1" = some m.cls := findClass_of_methodNamed Bd.named
  have hnm := (name_of_methodNamed Bd.named Bd.method).1
  have X0 : Stand p l e ({ frames := 0, cells := 1, slots := 1, locals := 0 } : Room) s m #[(.int x)] below meth c s₁ [] 0 0 := Stand.of_body Bd
  have e0 : s₁.heap = h0 := by rw [← hh, Bd.state]; rfl
  have N0 := Fr.nil n0
  have Z0 : n0 ≤ h0.size := O0.1 ▸ O0.2.1
  show OEnds p e below s ({ frames := 0, cells := 1, slots := 1, locals := 0 } : Room).cells ({ frames := 0, cells := 1, slots := 1, locals := 0 } : Room).slots (Q_rmTB Z x h0 n0) (s₁.setTop (entryFrame m #[(.int x)] 1))
  refine OEnds.via (fun _ k => castTop (show entryFrame m #[(.int x)] 1 = (mkF m 0 #[.val (.int x)] []) by first | (simp [entryFrame, mkF, argsToLocals, Value.category, maxLocals]; done) | rfl) k) ?_
  have Od := O0
  have Kp := Keep.refl h0 []
  show OEnds p e below s _ _ _ (s₁.setTop (mkF m 0 #[.val (.int x)] []))
  refine OEnds.via (fun _ k => XS.iconst X0.here hx rfl (hb hby d20_0) k) ?_
  show OEnds p e below s _ _ _ (s₁.setTop (mkF m 1 #[.val (.int x)] [(.int (1 : Int32))]))
  obtain ⟨T1, h1, k1, X1, e1, E1, A1, st1⟩ := newP X0 hx hZ (hw _ (List.mem_of_getElem? (i := 83) rfl)) e0 (g := (mkF m 1 #[.val (.int x)] [(.int (1 : Int32))])) rfl (hb hby d20_1) rfl (by decide) (cap := 1) (by decide) (by decide) (by decide) (by decide)
  obtain ⟨b1, g1⟩ : ∃ z, z = h0.size := ⟨_, rfl⟩
  have ge_b1 : n0 ≤ b1 := Nat.le_trans (Od.1 ▸ Od.2.1) (Nat.le_of_eq g1.symm)
  have sz_b1 : h0.size ≤ b1 := Nat.le_trans Kp.1 (Nat.le_of_eq g1.symm)
  rw [← g1] at A1 st1
  replace Od := Od.ext E1
  replace Kp := Kp.ext E1
  have V_b1 : Arv Z h1 b1 k1 .byte (1 : Int32) [(.int (0 : Int32))] (.int (0 : Int32)) := (Arv.new A1 (by decide)).pad (pad_rep [] (.int (0 : Int32)) 1)
  refine OEnds.via (fun _ k => st1 _ k) ?_
  show OEnds p e below s _ _ _ (T1.setTop (mkF m 3 #[.val (.int x)] [(.ref b1)]))
  refine OEnds.via (fun _ k => XS.dup X1.here hx rfl (hb hby d20_3) rfl rfl k) ?_
  show OEnds p e below s _ _ _ (T1.setTop (mkF m 4 #[.val (.int x)] [(.ref b1), (.ref b1)]))
  refine OEnds.via (fun _ k => XS.iconst X1.here hx rfl (hb hby d20_4) k) ?_
  show OEnds p e below s _ _ _ (T1.setTop (mkF m 5 #[.val (.int x)] [(.int (0 : Int32)), (.ref b1), (.ref b1)]))
  refine OEnds.via (fun _ k => XS.iloadN X1.here hx rfl (hb hby d20_5) rfl k) ?_
  show OEnds p e below s _ _ _ (T1.setTop (mkF m 6 #[.val (.int x)] [(.int x), (.int (0 : Int32)), (.ref b1), (.ref b1)]))
  refine OEnds.via (fun _ k => XS.i2b X1.here hx rfl (hb hby d20_6) rfl k) ?_
  show OEnds p e below s _ _ _ (T1.setTop (mkF m 7 #[.val (.int x)] [(.int (x.toInt8.toInt32)), (.int (0 : Int32)), (.ref b1), (.ref b1)]))
  obtain ⟨cl2, Ar2, q2, S2, M2, H2, G2⟩ := V_b1
  obtain ⟨T2, h2, X2, e2, W2, st2⟩ := stB X1 hx hZ e1 Ar2 (j := (0 : Int32)) (inb_of S2 ⟨by decide, by decide⟩) (g := (mkF m 7 #[.val (.int x)] [(.int (x.toInt8.toInt32)), (.int (0 : Int32)), (.ref b1), (.ref b1)])) rfl rfl (hb hby d20_7)
  have V_b1 : Arv Z h2 b1 k1 .byte (1 : Int32) [(.int (nar .byte (x.toInt8.toInt32)))] (.int (0 : Int32)) := Arv.set Ar2 q2 S2 M2 H2 G2 (fits_nar_byte _) W2 0 rfl (Nat.le_of_ble_eq_true rfl)
  have N2 := Fr.snoc X2 N0 ge_b1
  replace Od := Od.wr W2 ge_b1
  replace Kp := Kp.wr W2 (Or.inr sz_b1)
  refine OEnds.via (fun _ k => st2 _ k) ?_
  show OEnds p e below s _ _ _ (T2.setTop (mkF m 8 #[.val (.int x)] [(.ref b1)]))
  refine OEnds.retR X2 hx hlk Bd.returns rfl rfl (hb hby d20_8) ?_ (by decide) (by decide)
  rw [e2]
  exact ⟨_, _, rfl, N2, Kp, ge_b1, sz_b1, own_idem V_b1⟩
theorem d21_0 : decode jdk_42_method_151_code 0 = .ok (.aload_n 0, 1) := by decide +kernel
theorem d21_1 : decode jdk_42_method_151_code 1 = .ok (.invokespecial 1, 3) := by decide +kernel
theorem d21_4 : decode jdk_42_method_151_code 4 = .ok (.aload_n 0, 1) := by decide +kernel
theorem d21_5 : decode jdk_42_method_151_code 5 = .ok (.aload_n 1, 1) := by decide +kernel
theorem d21_6 : decode jdk_42_method_151_code 6 = .ok (.putfield 9, 3) := by decide +kernel
theorem d21_9 : decode jdk_42_method_151_code 9 = .ok (.aload_n 0, 1) := by decide +kernel
theorem d21_10 : decode jdk_42_method_151_code 10 = .ok (.iload_n 2, 1) := by decide +kernel
theorem d21_11 : decode jdk_42_method_151_code 11 = .ok (.putfield 15, 3) := by decide +kernel
theorem d21_14 : decode jdk_42_method_151_code 14 = .ok (.return_, 1) := by decide +kernel
def Q_rmSI (Z : State) (x : Addr) (b : Addr) (h0 : Heap) (n0 : Nat) (v : Option Value) (h : Heap) (L : List Loc) : Prop := v = none ∧ Fr n0 L ∧ Keep h0 h [x] ∧ Exa Z h x "java/lang/String" ∧ Fld Z h x "java/lang/String" "value" "[B" (.ref b) ∧ Fld Z h x "java/lang/String" "coder" "B" (.int (0 : Int32))
set_option maxRecDepth 65536 in
set_option maxHeartbeats 40000000 in
theorem rmSI (l : Launch) (Z : State) (a0 : Array Value) (hw : ∀ d ∈ tables_1, d.before a0 Z = true) (ws : List Jvm.Cond) (x : Addr) (b : Addr) (h0 : Heap) (n0 : Nat) (O0 : Old Z n0 h0) (F_value_x : Fld Z h0 x "java/lang/String" "value" "[B" .null) (F_coder_x : Fld Z h0 x "java/lang/String" "coder" "B" (.int (0 : Int32))) (E_x : Exa Z h0 x "java/lang/String") (ge_x : n0 ≤ x) :
    MetFree l (⟨"java/lang/String", "<init>", "([BB)V"⟩ : MethodName) (head1 (Jvm.Cond.code (⟨"java/lang/String", "<init>", "([BB)V"⟩ : MethodName) jdk_42_method_151_code 3 none :: ws) ({ frames := 1, cells := 0, slots := 0, locals := 12 } : Room)) (fun ar' U => ar' = #[(.ref x), (.ref b), (.int (0 : Int32))] ∧ Z.Warmed39 U.vm ∧ U.heap = h0) (fun _ _ _ _ _ => True) (fun _ U o U' => ∃ v L, o = .returned v ∧ (Q_rmSI Z x b h0 n0) v U'.heap L ∧ FrameEnd U o U' L ({ frames := 1, cells := 0, slots := 0, locals := 12 } : Room).cells ({ frames := 1, cells := 0, slots := 0, locals := 12 } : Room).slots) := by
  refine MetFree.of_bodySF (plainFor_of_name pn_java_lang_String) hisR ?_
  intro p e s m args below meth c s₁ Bd hml0 hP hK
  obtain ⟨rfl, hZ, hh⟩ := hP
  have hx := Bd.exec
  have hby := Bd.bytes
  have hlk := BodyLoose.notSynchronized Bd
  have hml : c.maxLocals = 3 := hml0
  have hown : s.vm.findClass "java/lang/String" = some m.cls := findClass_of_methodNamed Bd.named
  have hnm := (name_of_methodNamed Bd.named Bd.method).1
  have X0 : Stand p l e ({ frames := 1, cells := 0, slots := 0, locals := 12 } : Room) s m #[(.ref x), (.ref b), (.int (0 : Int32))] below meth c s₁ [] 0 0 := Stand.of_body Bd
  have e0 : s₁.heap = h0 := by rw [← hh, Bd.state]; rfl
  have N0 := Fr.nil n0
  have Z0 : n0 ≤ h0.size := O0.1 ▸ O0.2.1
  show OEnds p e below s ({ frames := 1, cells := 0, slots := 0, locals := 12 } : Room).cells ({ frames := 1, cells := 0, slots := 0, locals := 12 } : Room).slots (Q_rmSI Z x b h0 n0) (s₁.setTop (entryFrame m #[(.ref x), (.ref b), (.int (0 : Int32))] 3))
  refine OEnds.via (fun _ k => castTop (show entryFrame m #[(.ref x), (.ref b), (.int (0 : Int32))] 3 = (mkF m 0 #[.val (.ref x), .val (.ref b), .val (.int (0 : Int32))] []) by first | (simp [entryFrame, mkF, argsToLocals, Value.category, maxLocals]; done) | rfl) k) ?_
  have Kp := Keep.refl h0 [x]
  show OEnds p e below s _ _ _ (s₁.setTop (mkF m 0 #[.val (.ref x), .val (.ref b), .val (.int (0 : Int32))] []))
  refine OEnds.via (fun _ k => XS.aloadN X0.here hx rfl (hb hby d21_0) rfl rfl k) ?_
  show OEnds p e below s _ _ _ (s₁.setTop (mkF m 1 #[.val (.ref x), .val (.ref b), .val (.int (0 : Int32))] [(.ref x)]))
  obtain ⟨T1, X1, e1, st1⟩ := initO X0 hx hZ hown (hw _ (List.mem_of_getElem? (i := 77) rfl)) (hw _ (List.mem_of_getElem? (i := 11) rfl)) (hw _ (List.mem_of_getElem? (i := 12) rfl)) e0 (g := (mkF m 1 #[.val (.ref x), .val (.ref b), .val (.int (0 : Int32))] [(.ref x)])) rfl (by rw [hml]; rfl) rfl (hb hby d21_1) (by decide) (W := 0) (by show 2 * 0 + _ ≤ _; exact Nat.le_of_eq rfl) (by decide)
  refine OEnds.via (fun _ k => st1 _ k) ?_
  show OEnds p e below s _ _ _ (T1.setTop (mkF m 4 #[.val (.ref x), .val (.ref b), .val (.int (0 : Int32))] []))
  refine OEnds.via (fun _ k => XS.aloadN X1.here hx rfl (hb hby d21_4) rfl rfl k) ?_
  show OEnds p e below s _ _ _ (T1.setTop (mkF m 5 #[.val (.ref x), .val (.ref b), .val (.int (0 : Int32))] [(.ref x)]))
  refine OEnds.via (fun _ k => XS.aloadN X1.here hx rfl (hb hby d21_5) rfl rfl k) ?_
  show OEnds p e below s _ _ _ (T1.setTop (mkF m 6 #[.val (.ref x), .val (.ref b), .val (.int (0 : Int32))] [(.ref b), (.ref x)]))
  obtain ⟨T2, h2, X2, e2, W2, st2⟩ := putF X1 hx hZ hown (host := "") (Or.inl (hw _ (List.mem_of_getElem? (i := 92) rfl))) Via.refl e1 F_value_x E_x (Or.inr ⟨(hw _ (List.mem_of_getElem? (i := 93) rfl)), rfl, hnm⟩) (hw _ (List.mem_of_getElem? (i := 67) rfl)) (ty := (.array .byte)) (by decide) rfl rfl (g := (mkF m 6 #[.val (.ref x), .val (.ref b), .val (.int (0 : Int32))] [(.ref b), (.ref x)])) rfl rfl (hb hby d21_6)
  have N2 := Fr.snoc X2 N0 ge_x
  replace F_value_x := Fld.same W2 F_value_x
  replace F_coder_x := Fld.other W2 F_coder_x (Or.inr (slot_ne (Or.inr (hw _ (List.mem_of_getElem? (i := 91) rfl))) (Or.inr (hw _ (List.mem_of_getElem? (i := 93) rfl))) (by decide) (t := .byte) (t' := (.array .byte)) (by decide) (by decide)))
  replace E_x := Exa.wr W2 E_x
  replace Kp := Kp.wr W2 (Or.inl (by simp))
  refine OEnds.via (fun _ k => st2 _ k) ?_
  show OEnds p e below s _ _ _ (T2.setTop (mkF m 9 #[.val (.ref x), .val (.ref b), .val (.int (0 : Int32))] []))
  refine OEnds.via (fun _ k => XS.aloadN X2.here hx rfl (hb hby d21_9) rfl rfl k) ?_
  show OEnds p e below s _ _ _ (T2.setTop (mkF m 10 #[.val (.ref x), .val (.ref b), .val (.int (0 : Int32))] [(.ref x)]))
  refine OEnds.via (fun _ k => XS.iloadN X2.here hx rfl (hb hby d21_10) rfl k) ?_
  show OEnds p e below s _ _ _ (T2.setTop (mkF m 11 #[.val (.ref x), .val (.ref b), .val (.int (0 : Int32))] [(.int (0 : Int32)), (.ref x)]))
  obtain ⟨T3, h3, X3, e3, W3, st3⟩ := putFN X2 hx hZ hown (hw _ (List.mem_of_getElem? (i := 90) rfl)) Via.refl e2 F_coder_x E_x (Or.inr ⟨(hw _ (List.mem_of_getElem? (i := 91) rfl)), rfl, hnm⟩) (hw _ (List.mem_of_getElem? (i := 67) rfl)) (ty := .byte) (v' := (.int (0 : Int32))) (by decide) rfl rfl (g := (mkF m 11 #[.val (.ref x), .val (.ref b), .val (.int (0 : Int32))] [(.int (0 : Int32)), (.ref x)])) rfl rfl (hb hby d21_11)
  have N3 := Fr.snoc X3 N2 ge_x
  replace F_value_x := Fld.other W3 F_value_x (Or.inr (slot_ne (Or.inr (hw _ (List.mem_of_getElem? (i := 93) rfl))) (Or.inr (hw _ (List.mem_of_getElem? (i := 91) rfl))) (by decide) (t := (.array .byte)) (t' := .byte) (by decide) (by decide)))
  replace F_coder_x := Fld.same W3 F_coder_x
  replace E_x := Exa.wr W3 E_x
  replace Kp := Kp.wr W3 (Or.inl (by simp))
  refine OEnds.via (fun _ k => st3 _ k) ?_
  show OEnds p e below s _ _ _ (T3.setTop (mkF m 14 #[.val (.ref x), .val (.ref b), .val (.int (0 : Int32))] []))
  refine OEnds.retV X3 hx hlk Bd.returns (hb hby d21_14) ?_ (by decide) (by decide)
  rw [e3]
  exact ⟨rfl, N3, Kp, E_x, F_value_x, F_coder_x⟩
theorem d18_0 : decode jdk_42_method_139_code 0 = .ok (.getstatic 38, 3) := by decide +kernel
theorem d18_3 : decode jdk_42_method_139_code 3 = .ok (.ifCond .eq 23, 3) := by decide +kernel
theorem d18_6 : decode jdk_42_method_139_code 6 = .ok (.iload_n 0, 1) := by decide +kernel
theorem d18_7 : decode jdk_42_method_139_code 7 = .ok (.invokestatic 1015, 3) := by decide +kernel
theorem d18_10 : decode jdk_42_method_139_code 10 = .ok (.ifCond .eq 16, 3) := by decide +kernel
theorem d18_13 : decode jdk_42_method_139_code 13 = .ok (.new 10, 3) := by decide +kernel
theorem d18_16 : decode jdk_42_method_139_code 16 = .ok (.dup, 1) := by decide +kernel
theorem d18_17 : decode jdk_42_method_139_code 17 = .ok (.iload_n 0, 1) := by decide +kernel
theorem d18_18 : decode jdk_42_method_139_code 18 = .ok (.invokestatic 1018, 3) := by decide +kernel
theorem d18_21 : decode jdk_42_method_139_code 21 = .ok (.iconst 0, 1) := by decide +kernel
theorem d18_22 : decode jdk_42_method_139_code 22 = .ok (.invokespecial 209, 3) := by decide +kernel
theorem d18_25 : decode jdk_42_method_139_code 25 = .ok (.areturn, 1) := by decide +kernel
theorem d18_26 : decode jdk_42_method_139_code 26 = .ok (.new 10, 3) := by decide +kernel
theorem d18_29 : decode jdk_42_method_139_code 29 = .ok (.dup, 1) := by decide +kernel
theorem d18_30 : decode jdk_42_method_139_code 30 = .ok (.iload_n 0, 1) := by decide +kernel
theorem d18_31 : decode jdk_42_method_139_code 31 = .ok (.invokestatic 1021, 3) := by decide +kernel
theorem d18_34 : decode jdk_42_method_139_code 34 = .ok (.iconst 1, 1) := by decide +kernel
theorem d18_35 : decode jdk_42_method_139_code 35 = .ok (.invokespecial 209, 3) := by decide +kernel
theorem d18_38 : decode jdk_42_method_139_code 38 = .ok (.areturn, 1) := by decide +kernel
def Q_rmVO (Z : State) (c0 : Int32) (G1 : Int32) (h0 : Heap) (n0 : Nat) (v : Option Value) (h : Heap) (L : List Loc) : Prop := ∃ b, v = some (.ref b) ∧ Fr n0 L ∧ Keep h0 h [] ∧ n0 ≤ b ∧ OStr Z h b [c0]
theorem pd_28C29Z : parseMethodDescriptor "(C)Z" = some ⟨[.char], some .boolean⟩ := by decide +kernel
theorem pd_28C295bB : parseMethodDescriptor "(C)[B" = some ⟨[.char], some (.array .byte)⟩ := by decide +kernel
theorem pd_285bBB29V : parseMethodDescriptor "([BB)V" = some ⟨[(.array .byte), .byte], none⟩ := by decide +kernel
set_option maxRecDepth 65536 in
set_option maxHeartbeats 40000000 in
theorem rmVO (l : Launch) (Z : State) (a0 : Array Value) (hw : ∀ d ∈ tables_1, d.before a0 Z = true) (ws : List Jvm.Cond) (c0 : Int32) (G1 : Int32) (h0 : Heap) (n0 : Nat) (O0 : Old Z n0 h0) (S_CS : Sta Z Z.heap "java/lang/String" "COMPACT_STRINGS" "Z" (.int G1)) (nz_CS : ¬ (G1 = (0 : Int32))) (hc : ¬ c0 < 0 ∧ ¬ (255 : Int32) < c0) :
    MetFree l (⟨"java/lang/String", "valueOf", "(C)Ljava/lang/String;"⟩ : MethodName) (head1 (Jvm.Cond.code (⟨"java/lang/String", "valueOf", "(C)Ljava/lang/String;"⟩ : MethodName) jdk_42_method_139_code 1 (some (.object "java/lang/String")) :: ws) ({ frames := 2, cells := 2, slots := 5, locals := 40 } : Room)) (fun ar' U => ar' = #[(.int c0)] ∧ Z.Warmed39 U.vm ∧ U.heap = h0) (fun _ _ _ _ _ => True) (fun _ U o U' => ∃ v L, o = .returned v ∧ (Q_rmVO Z c0 G1 h0 n0) v U'.heap L ∧ FrameEnd U o U' L ({ frames := 2, cells := 2, slots := 5, locals := 40 } : Room).cells ({ frames := 2, cells := 2, slots := 5, locals := 40 } : Room).slots) := by
  refine MetFree.of_bodySF (plainFor_of_name pn_java_lang_String) hisR ?_
  intro p e s m args below meth c s₁ Bd hml0 hP hK
  obtain ⟨rfl, hZ, hh⟩ := hP
  have hx := Bd.exec
  have hby := Bd.bytes
  have hlk := BodyLoose.notSynchronized Bd
  have hml : c.maxLocals = 1 := hml0
  have hown : s.vm.findClass "java/lang/String" = some m.cls := findClass_of_methodNamed Bd.named
  have hnm := (name_of_methodNamed Bd.named Bd.method).1
  have X0 : Stand p l e ({ frames := 2, cells := 2, slots := 5, locals := 40 } : Room) s m #[(.int c0)] below meth c s₁ [] 0 0 := Stand.of_body Bd
  have e0 : s₁.heap = h0 := by rw [← hh, Bd.state]; rfl
  have N0 := Fr.nil n0
  have Z0 : n0 ≤ h0.size := O0.1 ▸ O0.2.1
  show OEnds p e below s ({ frames := 2, cells := 2, slots := 5, locals := 40 } : Room).cells ({ frames := 2, cells := 2, slots := 5, locals := 40 } : Room).slots (Q_rmVO Z c0 G1 h0 n0) (s₁.setTop (entryFrame m #[(.int c0)] 1))
  refine OEnds.via (fun _ k => castTop (show entryFrame m #[(.int c0)] 1 = (mkF m 0 #[.val (.int c0)] []) by first | (simp [entryFrame, mkF, argsToLocals, Value.category, maxLocals]; done) | rfl) k) ?_
  have Od := O0
  have Kp := Keep.refl h0 []
  show OEnds p e below s _ _ _ (s₁.setTop (mkF m 0 #[.val (.int c0)] []))
  obtain ⟨T1, X1, e1, st1⟩ := getS2 X0 hx hZ hown (host := "") (Or.inl (hw _ (List.mem_of_getElem? (i := 78) rfl))) Via.refl e0 (Sta.ext O0.2 S_CS) (g := (mkF m 0 #[.val (.int c0)] [])) rfl (hb hby d18_0)
  refine OEnds.via (fun _ k => st1 _ k) ?_
  show OEnds p e below s _ _ _ (T1.setTop (mkF m 3 #[.val (.int c0)] [(.int G1)]))
  refine OEnds.via (fun _ k => XS.ifNo X1.here hx rfl (hb hby d18_3) rfl ((if0 _ _).trans (feq nz_CS).1) k) ?_
  show OEnds p e below s _ _ _ (T1.setTop (mkF m 6 #[.val (.int c0)] []))
  refine OEnds.via (fun _ k => XS.iloadN X1.here hx rfl (hb hby d18_6) rfl k) ?_
  show OEnds p e below s _ _ _ (T1.setTop (mkF m 7 #[.val (.int c0)] [(.int c0)]))
  obtain ⟨_, _, ⟨T2, L2, k2, n2⟩, -, X2, ⟨Lc2, hQ2, l2, y2, z2⟩, st2⟩ := Jvm.LawKit.callS X1 hx (y := (⟨"java/lang/StringLatin1", "canEncode", "(C)Z"⟩ : MethodName)) hown (mvT hZ (hw _ (List.mem_of_getElem? (i := 102) rfl))) (mvT hZ (hw _ (List.mem_of_getElem? (i := 103) rfl))) (mvT hZ (hw _ (List.mem_of_getElem? (i := 104) rfl))) (mvT hZ (hw _ (List.mem_of_getElem? (i := 105) rfl))) (by decide) (backOf (W := 0) (rmCE l Z a0 hw [] c0 h0 n0 Od hc.2) hZ (hw _ (List.mem_of_getElem? (i := 105) rfl)) (hw _ (List.mem_of_getElem? (i := 104) rfl)) (by decide) (by decide)) (g := (mkF m 7 #[.val (.int c0)] [(.int c0)])) rfl (by rw [hml]; rfl) (argsL := [(.int c0)]) (rest := []) (lenOf pd_28C29Z rfl) rfl (by show 2 * 0 + _ ≤ _; exact Nat.le_of_eq rfl) (hb hby d18_7) (fun _ _ => ⟨rfl, e1, Nat.le_of_ble_eq_true rfl, Nat.le_of_ble_eq_true rfl⟩)
  dsimp only [Pt.U, Pt.locs, Pt.cells, Pt.slots] at X2 l2 y2 z2 st2 hQ2
  subst l2 y2 z2
  obtain ⟨rfl, N2q, e2⟩ := hQ2
  have N2 := Fr.app N0 N2q
  refine OEnds.via (fun _ k => st2 _ k) ?_
  show OEnds p e below s _ _ _ (T2.setTop (mkF m 10 #[.val (.int c0)] [(.int (1 : Int32))]))
  refine OEnds.via (fun _ k => XS.ifNo X2.here hx rfl (hb hby d18_10) rfl ((if0 _ _).trans (feq (by decide : ¬ ((1 : Int32) = (0 : Int32)))).1) k) ?_
  show OEnds p e below s _ _ _ (T2.setTop (mkF m 13 #[.val (.int c0)] []))
  obtain ⟨T3, h3, X3, e3, E3, A3, D3, -, st3⟩ := newO X2 hx hZ hown (hw _ (List.mem_of_getElem? (i := 106) rfl)) (hw _ (List.mem_of_getElem? (i := 67) rfl)) (hw _ (List.mem_of_getElem? (i := 68) rfl)) e2 (g := (mkF m 13 #[.val (.int c0)] [])) rfl (hb hby d18_13) (by decide) (by decide)
  obtain ⟨b3, g3⟩ : ∃ z, z = h0.size := ⟨_, rfl⟩
  have ge_b3 : n0 ≤ b3 := Nat.le_trans (Od.1 ▸ Od.2.1) (Nat.le_of_eq g3.symm)
  have sz_b3 : h0.size ≤ b3 := Nat.le_trans Kp.1 (Nat.le_of_eq g3.symm)
  rw [← g3] at A3 D3 st3
  replace Od := Od.ext E3
  replace Kp := Kp.ext E3
  have E_b3 : Exa Z h3 b3 "java/lang/String" := A3
  have F_coder_b3 : Fld Z h3 b3 "java/lang/String" "coder" "B" (.int (0 : Int32)) := D3 (Or.inr (hw _ (List.mem_of_getElem? (i := 91) rfl))) (ty := .byte) (by decide)
  have F_value_b3 : Fld Z h3 b3 "java/lang/String" "value" "[B" .null := D3 (Or.inr (hw _ (List.mem_of_getElem? (i := 93) rfl))) (ty := (.array .byte)) (by decide)
  refine OEnds.via (fun _ k => st3 _ k) ?_
  show OEnds p e below s _ _ _ (T3.setTop (mkF m 16 #[.val (.int c0)] [(.ref b3)]))
  refine OEnds.via (fun _ k => XS.dup X3.here hx rfl (hb hby d18_16) rfl rfl k) ?_
  show OEnds p e below s _ _ _ (T3.setTop (mkF m 17 #[.val (.int c0)] [(.ref b3), (.ref b3)]))
  refine OEnds.via (fun _ k => XS.iloadN X3.here hx rfl (hb hby d18_17) rfl k) ?_
  show OEnds p e below s _ _ _ (T3.setTop (mkF m 18 #[.val (.int c0)] [(.int c0), (.ref b3), (.ref b3)]))
  obtain ⟨_, _, ⟨T4, L4, k4, n4⟩, -, X4, ⟨Lc4, hQ4, l4, y4, z4⟩, st4⟩ := Jvm.LawKit.callS X3 hx (y := (⟨"java/lang/StringLatin1", "toBytes", "(C)[B"⟩ : MethodName)) hown (mvT hZ (hw _ (List.mem_of_getElem? (i := 107) rfl))) (mvT hZ (hw _ (List.mem_of_getElem? (i := 108) rfl))) (mvT hZ (hw _ (List.mem_of_getElem? (i := 104) rfl))) (mvT hZ (hw _ (List.mem_of_getElem? (i := 109) rfl))) (by decide) (backOf (W := 2) (rmTB l Z a0 hw [] c0 h3 n0 Od ) hZ (hw _ (List.mem_of_getElem? (i := 109) rfl)) (hw _ (List.mem_of_getElem? (i := 104) rfl)) (by decide) (by decide)) (g := (mkF m 18 #[.val (.int c0)] [(.int c0), (.ref b3), (.ref b3)])) rfl (by rw [hml]; rfl) (argsL := [(.int c0)]) (rest := [(.ref b3), (.ref b3)]) (lenOf pd_28C295bB rfl) rfl (by show 2 * 0 + _ ≤ _; exact Nat.le_of_eq rfl) (hb hby d18_18) (fun _ _ => ⟨rfl, e3, Nat.le_of_ble_eq_true rfl, Nat.le_of_ble_eq_true rfl⟩)
  dsimp only [Pt.U, Pt.locs, Pt.cells, Pt.slots] at X4 l4 y4 z4 st4 hQ4
  subst l4 y4 z4
  obtain ⟨tb, kt, rfl, N4q, K4, ge_tb, sz4, V_tb⟩ := hQ4
  have ne_b3_tb : b3 ≠ tb := Nat.ne_of_lt (Nat.lt_of_lt_of_le E_b3.lt sz4)
  have N4 := Fr.app N2 N4q
  replace Od := Od.keep K4 all0
  replace Kp := Kp.trans K4 all0
  replace E_b3 := E_b3.keep K4
  replace F_coder_b3 := F_coder_b3.keep K4 nin0
  replace F_value_b3 := F_value_b3.keep K4 nin0
  refine OEnds.via (fun _ k => st4 _ k) ?_
  show OEnds p e below s _ _ _ (T4.setTop (mkF m 21 #[.val (.int c0)] [(.ref tb), (.ref b3), (.ref b3)]))
  refine OEnds.via (fun _ k => XS.iconst X4.here hx rfl (hb hby d18_21) k) ?_
  show OEnds p e below s _ _ _ (T4.setTop (mkF m 22 #[.val (.int c0)] [(.int (0 : Int32)), (.ref tb), (.ref b3), (.ref b3)]))
  obtain ⟨_, _, ⟨T5, L5, k5, n5⟩, -, X5, ⟨Lc5, hQ5, l5, y5, z5⟩, st5⟩ := X4.specialBack hx (y := (⟨"java/lang/String", "<init>", "([BB)V"⟩ : MethodName)) rfl hown (mvT hZ (hw _ (List.mem_of_getElem? (i := 110) rfl))) (mvT hZ (hw _ (List.mem_of_getElem? (i := 111) rfl))) (mvT hZ (hw _ (List.mem_of_getElem? (i := 112) rfl))) (by decide) (backOf (W := 1) (rmSI l Z a0 hw [] b3 tb T4.heap n0 Od F_value_b3 F_coder_b3 E_b3 ge_b3) hZ (hw _ (List.mem_of_getElem? (i := 112) rfl)) (hw _ (List.mem_of_getElem? (i := 68) rfl)) (by decide) (by decide)) (g := (mkF m 22 #[.val (.int c0)] [(.int (0 : Int32)), (.ref tb), (.ref b3), (.ref b3)])) rfl (by rw [hml]; rfl) (Steps.refl _) (a := b3) (argsL := [(.ref tb), (.int (0 : Int32))]) (rest := [(.ref b3)]) (lenOf pd_285bBB29V rfl) rfl (by show 2 * 0 + _ ≤ _; exact Nat.le_of_eq rfl) (hb hby d18_22) (fun _ _ => ⟨rfl, rfl, Nat.le_of_ble_eq_true rfl, Nat.le_of_ble_eq_true rfl⟩)
  dsimp only [Pt.U, Pt.locs, Pt.cells, Pt.slots] at X5 l5 y5 z5 st5 hQ5
  subst l5 y5 z5
  obtain ⟨rfl, N5q, K5, -, Fv, Fc⟩ := hQ5
  have N5 := Fr.app N4 N5q
  replace Od := Od.keep K5 (allS ge_b3 all0)
  replace Kp := Kp.trans K5 (allS (Or.inr sz_b3) all0)
  replace E_b3 := E_b3.keep K5
  replace V_tb := V_tb.keep K5 (ninS (Ne.symm ne_b3_tb) nin0)
  refine OEnds.via (fun _ k => st5.trans k) ?_
  show OEnds p e below s _ _ _ (T5.setTop (mkF m 25 #[.val (.int c0)] [(.ref b3)]))
  refine OEnds.retR X5 hx hlk Bd.returns rfl rfl (hb hby d18_25) ?_ (by decide) (by decide)
  exact ⟨_, rfl, N5, Kp, ge_b3, ⟨_, _, _, _, _, E_b3, Fv, Fc, V_tb, trivial⟩⟩
theorem d2_0 : decode prog_1_method_1_code 0 = .ok (.aload_n 0, 1) := by decide +kernel
theorem d2_1 : decode prog_1_method_1_code 1 = .ok (.invokespecial 1, 3) := by decide +kernel
theorem d2_4 : decode prog_1_method_1_code 4 = .ok (.aload_n 0, 1) := by decide +kernel
theorem d2_5 : decode prog_1_method_1_code 5 = .ok (.lload_n 1, 1) := by decide +kernel
theorem d2_6 : decode prog_1_method_1_code 6 = .ok (.putfield 7, 3) := by decide +kernel
theorem d2_9 : decode prog_1_method_1_code 9 = .ok (.aload_n 0, 1) := by decide +kernel
theorem d2_10 : decode prog_1_method_1_code 10 = .ok (.lload_n 3, 1) := by decide +kernel
theorem d2_11 : decode prog_1_method_1_code 11 = .ok (.putfield 13, 3) := by decide +kernel
theorem d2_14 : decode prog_1_method_1_code 14 = .ok (.aload_n 0, 1) := by decide +kernel
theorem d2_15 : decode prog_1_method_1_code 15 = .ok (.aload 5, 2) := by decide +kernel
theorem d2_17 : decode prog_1_method_1_code 17 = .ok (.putfield 16, 3) := by decide +kernel
theorem d2_20 : decode prog_1_method_1_code 20 = .ok (.aload_n 0, 1) := by decide +kernel
theorem d2_21 : decode prog_1_method_1_code 21 = .ok (.aload 6, 2) := by decide +kernel
theorem d2_23 : decode prog_1_method_1_code 23 = .ok (.putfield 20, 3) := by decide +kernel
theorem d2_26 : decode prog_1_method_1_code 26 = .ok (.return_, 1) := by decide +kernel
theorem pn_com_example_holdfast_holdfast_Acquisition : plainName "com/example/holdfast/holdfast/Acquisition" = true := by first | (simp [plainName, overriddenIn]; done) | decide +kernel
def Q_rmI (Z : State) (r : Addr) (t : Int64) (a : Int64) (kv : Value) (h0 : Heap) (n0 : Nat) (v : Option Value) (h : Heap) (L : List Loc) : Prop := v = none ∧ Fr n0 L ∧ Keep h0 h [r] ∧ Exa Z h r "com/example/holdfast/holdfast/Acquisition" ∧ Fld Z h r "com/example/holdfast/holdfast/Acquisition" "token" "J" (.long t) ∧ Fld Z h r "com/example/holdfast/holdfast/Acquisition" "askAgainMillis" "J" (.long a) ∧ Fld Z h r "com/example/holdfast/holdfast/Acquisition" "keptBy" "Ljava/lang/String;" kv ∧ Fld Z h r "com/example/holdfast/holdfast/Acquisition" "unreached" "Lcom/example/holdfast/holdfast/HoldfastException;" .null
set_option maxRecDepth 65536 in
set_option maxHeartbeats 40000000 in
theorem rmI (l : Launch) (Z : State) (a0 : Array Value) (hw : ∀ d ∈ tables_1, d.before a0 Z = true) (ws : List Jvm.Cond) (r : Addr) (t : Int64) (a : Int64) (kv : Value) (h0 : Heap) (n0 : Nat) (O0 : Old Z n0 h0) (F_token_r : Fld Z h0 r "com/example/holdfast/holdfast/Acquisition" "token" "J" (.long (0 : Int64))) (F_askAgainMillis_r : Fld Z h0 r "com/example/holdfast/holdfast/Acquisition" "askAgainMillis" "J" (.long (0 : Int64))) (F_keptBy_r : Fld Z h0 r "com/example/holdfast/holdfast/Acquisition" "keptBy" "Ljava/lang/String;" .null) (F_unreached_r : Fld Z h0 r "com/example/holdfast/holdfast/Acquisition" "unreached" "Lcom/example/holdfast/holdfast/HoldfastException;" .null) (E_r : Exa Z h0 r "com/example/holdfast/holdfast/Acquisition") (ge_r : n0 ≤ r) (hkv : kv.isRef = true) :
    MetFree l (⟨"com/example/holdfast/holdfast/Acquisition", "<init>", "(JJLjava/lang/String;Lcom/example/holdfast/holdfast/HoldfastException;)V"⟩ : MethodName) (head1 (Jvm.Cond.code (⟨"com/example/holdfast/holdfast/Acquisition", "<init>", "(JJLjava/lang/String;Lcom/example/holdfast/holdfast/HoldfastException;)V"⟩ : MethodName) prog_1_method_1_code 7 none :: ws) ({ frames := 1, cells := 0, slots := 0, locals := 12 } : Room)) (fun ar' U => ar' = #[(.ref r), (.long t), (.long a), kv, .null] ∧ Z.Warmed39 U.vm ∧ U.heap = h0) (fun _ _ _ _ _ => True) (fun _ U o U' => ∃ v L, o = .returned v ∧ (Q_rmI Z r t a kv h0 n0) v U'.heap L ∧ FrameEnd U o U' L ({ frames := 1, cells := 0, slots := 0, locals := 12 } : Room).cells ({ frames := 1, cells := 0, slots := 0, locals := 12 } : Room).slots) := by
  refine MetFree.of_bodySF (plainFor_of_name pn_com_example_holdfast_holdfast_Acquisition) hisR ?_
  intro p e s m args below meth c s₁ Bd hml0 hP hK
  obtain ⟨rfl, hZ, hh⟩ := hP
  have hx := Bd.exec
  have hby := Bd.bytes
  have hlk := BodyLoose.notSynchronized Bd
  have hml : c.maxLocals = 7 := hml0
  have hown : s.vm.findClass "com/example/holdfast/holdfast/Acquisition" = some m.cls := findClass_of_methodNamed Bd.named
  have hnm := (name_of_methodNamed Bd.named Bd.method).1
  have X0 : Stand p l e ({ frames := 1, cells := 0, slots := 0, locals := 12 } : Room) s m #[(.ref r), (.long t), (.long a), kv, .null] below meth c s₁ [] 0 0 := Stand.of_body Bd
  have e0 : s₁.heap = h0 := by rw [← hh, Bd.state]; rfl
  have N0 := Fr.nil n0
  have Z0 : n0 ≤ h0.size := O0.1 ▸ O0.2.1
  show OEnds p e below s ({ frames := 1, cells := 0, slots := 0, locals := 12 } : Room).cells ({ frames := 1, cells := 0, slots := 0, locals := 12 } : Room).slots (Q_rmI Z r t a kv h0 n0) (s₁.setTop (entryFrame m #[(.ref r), (.long t), (.long a), kv, .null] 7))
  refine OEnds.via (fun _ k => castTop (show entryFrame m #[(.ref r), (.long t), (.long a), kv, .null] 7 = (mkF m 0 #[.val (.ref r), .val (.long t), .second, .val (.long a), .second, .val kv, .val .null] []) by rcases ref_cases hkv with rfl | ⟨_, rfl⟩ <;> rfl) k) ?_
  have Kp := Keep.refl h0 [r]
  show OEnds p e below s _ _ _ (s₁.setTop (mkF m 0 #[.val (.ref r), .val (.long t), .second, .val (.long a), .second, .val kv, .val .null] []))
  refine OEnds.via (fun _ k => XS.aloadN X0.here hx rfl (hb hby d2_0) rfl rfl k) ?_
  show OEnds p e below s _ _ _ (s₁.setTop (mkF m 1 #[.val (.ref r), .val (.long t), .second, .val (.long a), .second, .val kv, .val .null] [(.ref r)]))
  obtain ⟨T1, X1, e1, st1⟩ := initO X0 hx hZ hown (hw _ (List.mem_of_getElem? (i := 10) rfl)) (hw _ (List.mem_of_getElem? (i := 11) rfl)) (hw _ (List.mem_of_getElem? (i := 12) rfl)) e0 (g := (mkF m 1 #[.val (.ref r), .val (.long t), .second, .val (.long a), .second, .val kv, .val .null] [(.ref r)])) rfl (by rw [hml]; rfl) rfl (hb hby d2_1) (by decide) (W := 0) (by show 2 * 0 + _ ≤ _; exact Nat.le_of_eq rfl) (by decide)
  refine OEnds.via (fun _ k => st1 _ k) ?_
  show OEnds p e below s _ _ _ (T1.setTop (mkF m 4 #[.val (.ref r), .val (.long t), .second, .val (.long a), .second, .val kv, .val .null] []))
  refine OEnds.via (fun _ k => XS.aloadN X1.here hx rfl (hb hby d2_4) rfl rfl k) ?_
  show OEnds p e below s _ _ _ (T1.setTop (mkF m 5 #[.val (.ref r), .val (.long t), .second, .val (.long a), .second, .val kv, .val .null] [(.ref r)]))
  refine OEnds.via (fun _ k => XS.lloadN X1.here hx rfl (hb hby d2_5) rfl k) ?_
  show OEnds p e below s _ _ _ (T1.setTop (mkF m 6 #[.val (.ref r), .val (.long t), .second, .val (.long a), .second, .val kv, .val .null] [(.long t), (.ref r)]))
  obtain ⟨T2, h2, X2, e2, W2, st2⟩ := putF X1 hx hZ hown (host := "") (Or.inl (hw _ (List.mem_of_getElem? (i := 13) rfl))) Via.refl e1 F_token_r E_r (Or.inr ⟨(hw _ (List.mem_of_getElem? (i := 14) rfl)), rfl, hnm⟩) (hw _ (List.mem_of_getElem? (i := 6) rfl)) (ty := .long) (by decide) rfl rfl (g := (mkF m 6 #[.val (.ref r), .val (.long t), .second, .val (.long a), .second, .val kv, .val .null] [(.long t), (.ref r)])) rfl rfl (hb hby d2_6)
  have N2 := Fr.snoc X2 N0 ge_r
  replace F_token_r := Fld.same W2 F_token_r
  replace F_askAgainMillis_r := Fld.other W2 F_askAgainMillis_r (Or.inr (slot_ne (Or.inr (hw _ (List.mem_of_getElem? (i := 16) rfl))) (Or.inr (hw _ (List.mem_of_getElem? (i := 14) rfl))) (by decide) (t := .long) (t' := .long) (by decide) (by decide)))
  replace F_keptBy_r := Fld.other W2 F_keptBy_r (Or.inr (slot_ne (Or.inr (hw _ (List.mem_of_getElem? (i := 18) rfl))) (Or.inr (hw _ (List.mem_of_getElem? (i := 14) rfl))) (by decide) (t := (.object "java/lang/String")) (t' := .long) (by decide) (by decide)))
  replace F_unreached_r := Fld.other W2 F_unreached_r (Or.inr (slot_ne (Or.inr (hw _ (List.mem_of_getElem? (i := 20) rfl))) (Or.inr (hw _ (List.mem_of_getElem? (i := 14) rfl))) (by decide) (t := (.object "com/example/holdfast/holdfast/HoldfastException")) (t' := .long) (by decide) (by decide)))
  replace E_r := Exa.wr W2 E_r
  replace Kp := Kp.wr W2 (Or.inl (by simp))
  refine OEnds.via (fun _ k => st2 _ k) ?_
  show OEnds p e below s _ _ _ (T2.setTop (mkF m 9 #[.val (.ref r), .val (.long t), .second, .val (.long a), .second, .val kv, .val .null] []))
  refine OEnds.via (fun _ k => XS.aloadN X2.here hx rfl (hb hby d2_9) rfl rfl k) ?_
  show OEnds p e below s _ _ _ (T2.setTop (mkF m 10 #[.val (.ref r), .val (.long t), .second, .val (.long a), .second, .val kv, .val .null] [(.ref r)]))
  refine OEnds.via (fun _ k => XS.lloadN X2.here hx rfl (hb hby d2_10) rfl k) ?_
  show OEnds p e below s _ _ _ (T2.setTop (mkF m 11 #[.val (.ref r), .val (.long t), .second, .val (.long a), .second, .val kv, .val .null] [(.long a), (.ref r)]))
  obtain ⟨T3, h3, X3, e3, W3, st3⟩ := putF X2 hx hZ hown (host := "") (Or.inl (hw _ (List.mem_of_getElem? (i := 15) rfl))) Via.refl e2 F_askAgainMillis_r E_r (Or.inr ⟨(hw _ (List.mem_of_getElem? (i := 16) rfl)), rfl, hnm⟩) (hw _ (List.mem_of_getElem? (i := 6) rfl)) (ty := .long) (by decide) rfl rfl (g := (mkF m 11 #[.val (.ref r), .val (.long t), .second, .val (.long a), .second, .val kv, .val .null] [(.long a), (.ref r)])) rfl rfl (hb hby d2_11)
  have N3 := Fr.snoc X3 N2 ge_r
  replace F_token_r := Fld.other W3 F_token_r (Or.inr (slot_ne (Or.inr (hw _ (List.mem_of_getElem? (i := 14) rfl))) (Or.inr (hw _ (List.mem_of_getElem? (i := 16) rfl))) (by decide) (t := .long) (t' := .long) (by decide) (by decide)))
  replace F_askAgainMillis_r := Fld.same W3 F_askAgainMillis_r
  replace F_keptBy_r := Fld.other W3 F_keptBy_r (Or.inr (slot_ne (Or.inr (hw _ (List.mem_of_getElem? (i := 18) rfl))) (Or.inr (hw _ (List.mem_of_getElem? (i := 16) rfl))) (by decide) (t := (.object "java/lang/String")) (t' := .long) (by decide) (by decide)))
  replace F_unreached_r := Fld.other W3 F_unreached_r (Or.inr (slot_ne (Or.inr (hw _ (List.mem_of_getElem? (i := 20) rfl))) (Or.inr (hw _ (List.mem_of_getElem? (i := 16) rfl))) (by decide) (t := (.object "com/example/holdfast/holdfast/HoldfastException")) (t' := .long) (by decide) (by decide)))
  replace E_r := Exa.wr W3 E_r
  replace Kp := Kp.wr W3 (Or.inl (by simp))
  refine OEnds.via (fun _ k => st3 _ k) ?_
  show OEnds p e below s _ _ _ (T3.setTop (mkF m 14 #[.val (.ref r), .val (.long t), .second, .val (.long a), .second, .val kv, .val .null] []))
  refine OEnds.via (fun _ k => XS.aloadN X3.here hx rfl (hb hby d2_14) rfl rfl k) ?_
  show OEnds p e below s _ _ _ (T3.setTop (mkF m 15 #[.val (.ref r), .val (.long t), .second, .val (.long a), .second, .val kv, .val .null] [(.ref r)]))
  refine OEnds.via (fun _ k => XS.aload X3.here hx rfl (hb hby d2_15) rfl hkv k) ?_
  show OEnds p e below s _ _ _ (T3.setTop (mkF m 17 #[.val (.ref r), .val (.long t), .second, .val (.long a), .second, .val kv, .val .null] [kv, (.ref r)]))
  obtain ⟨T4, h4, X4, e4, W4, st4⟩ := putF X3 hx hZ hown (host := "") (Or.inl (hw _ (List.mem_of_getElem? (i := 17) rfl))) Via.refl e3 F_keptBy_r E_r (Or.inr ⟨(hw _ (List.mem_of_getElem? (i := 18) rfl)), rfl, hnm⟩) (hw _ (List.mem_of_getElem? (i := 6) rfl)) (ty := (.object "java/lang/String")) (by decide) (own_narrow hkv) (own_fits hkv) (g := (mkF m 17 #[.val (.ref r), .val (.long t), .second, .val (.long a), .second, .val kv, .val .null] [kv, (.ref r)])) rfl rfl (hb hby d2_17)
  have N4 := Fr.snoc X4 N3 ge_r
  replace F_token_r := Fld.other W4 F_token_r (Or.inr (slot_ne (Or.inr (hw _ (List.mem_of_getElem? (i := 14) rfl))) (Or.inr (hw _ (List.mem_of_getElem? (i := 18) rfl))) (by decide) (t := .long) (t' := (.object "java/lang/String")) (by decide) (by decide)))
  replace F_askAgainMillis_r := Fld.other W4 F_askAgainMillis_r (Or.inr (slot_ne (Or.inr (hw _ (List.mem_of_getElem? (i := 16) rfl))) (Or.inr (hw _ (List.mem_of_getElem? (i := 18) rfl))) (by decide) (t := .long) (t' := (.object "java/lang/String")) (by decide) (by decide)))
  replace F_keptBy_r := Fld.same W4 F_keptBy_r
  replace F_unreached_r := Fld.other W4 F_unreached_r (Or.inr (slot_ne (Or.inr (hw _ (List.mem_of_getElem? (i := 20) rfl))) (Or.inr (hw _ (List.mem_of_getElem? (i := 18) rfl))) (by decide) (t := (.object "com/example/holdfast/holdfast/HoldfastException")) (t' := (.object "java/lang/String")) (by decide) (by decide)))
  replace E_r := Exa.wr W4 E_r
  replace Kp := Kp.wr W4 (Or.inl (by simp))
  refine OEnds.via (fun _ k => st4 _ k) ?_
  show OEnds p e below s _ _ _ (T4.setTop (mkF m 20 #[.val (.ref r), .val (.long t), .second, .val (.long a), .second, .val kv, .val .null] []))
  refine OEnds.via (fun _ k => XS.aloadN X4.here hx rfl (hb hby d2_20) rfl rfl k) ?_
  show OEnds p e below s _ _ _ (T4.setTop (mkF m 21 #[.val (.ref r), .val (.long t), .second, .val (.long a), .second, .val kv, .val .null] [(.ref r)]))
  refine OEnds.via (fun _ k => XS.aload X4.here hx rfl (hb hby d2_21) rfl rfl k) ?_
  show OEnds p e below s _ _ _ (T4.setTop (mkF m 23 #[.val (.ref r), .val (.long t), .second, .val (.long a), .second, .val kv, .val .null] [.null, (.ref r)]))
  obtain ⟨T5, h5, X5, e5, W5, st5⟩ := putF X4 hx hZ hown (host := "") (Or.inl (hw _ (List.mem_of_getElem? (i := 19) rfl))) Via.refl e4 F_unreached_r E_r (Or.inr ⟨(hw _ (List.mem_of_getElem? (i := 20) rfl)), rfl, hnm⟩) (hw _ (List.mem_of_getElem? (i := 6) rfl)) (ty := (.object "com/example/holdfast/holdfast/HoldfastException")) (by decide) rfl rfl (g := (mkF m 23 #[.val (.ref r), .val (.long t), .second, .val (.long a), .second, .val kv, .val .null] [.null, (.ref r)])) rfl rfl (hb hby d2_23)
  have N5 := Fr.snoc X5 N4 ge_r
  replace F_token_r := Fld.other W5 F_token_r (Or.inr (slot_ne (Or.inr (hw _ (List.mem_of_getElem? (i := 14) rfl))) (Or.inr (hw _ (List.mem_of_getElem? (i := 20) rfl))) (by decide) (t := .long) (t' := (.object "com/example/holdfast/holdfast/HoldfastException")) (by decide) (by decide)))
  replace F_askAgainMillis_r := Fld.other W5 F_askAgainMillis_r (Or.inr (slot_ne (Or.inr (hw _ (List.mem_of_getElem? (i := 16) rfl))) (Or.inr (hw _ (List.mem_of_getElem? (i := 20) rfl))) (by decide) (t := .long) (t' := (.object "com/example/holdfast/holdfast/HoldfastException")) (by decide) (by decide)))
  replace F_keptBy_r := Fld.other W5 F_keptBy_r (Or.inr (slot_ne (Or.inr (hw _ (List.mem_of_getElem? (i := 18) rfl))) (Or.inr (hw _ (List.mem_of_getElem? (i := 20) rfl))) (by decide) (t := (.object "java/lang/String")) (t' := (.object "com/example/holdfast/holdfast/HoldfastException")) (by decide) (by decide)))
  replace F_unreached_r := Fld.same W5 F_unreached_r
  replace E_r := Exa.wr W5 E_r
  replace Kp := Kp.wr W5 (Or.inl (by simp))
  refine OEnds.via (fun _ k => st5 _ k) ?_
  show OEnds p e below s _ _ _ (T5.setTop (mkF m 26 #[.val (.ref r), .val (.long t), .second, .val (.long a), .second, .val kv, .val .null] []))
  refine OEnds.retV X5 hx hlk Bd.returns (hb hby d2_26) ?_ (by decide) (by decide)
  rw [e5]
  exact ⟨rfl, N5, Kp, E_r, F_token_r, F_askAgainMillis_r, F_keptBy_r, F_unreached_r⟩
theorem d1_0 : decode prog_1_method_3_code 0 = .ok (.new 8, 3) := by decide +kernel
theorem d1_3 : decode prog_1_method_3_code 3 = .ok (.dup, 1) := by decide +kernel
theorem d1_4 : decode prog_1_method_3_code 4 = .ok (.lconst 0, 1) := by decide +kernel
theorem d1_5 : decode prog_1_method_3_code 5 = .ok (.lload_n 0, 1) := by decide +kernel
theorem d1_6 : decode prog_1_method_3_code 6 = .ok (.aload_n 2, 1) := by decide +kernel
theorem d1_7 : decode prog_1_method_3_code 7 = .ok (.aconst_null, 1) := by decide +kernel
theorem d1_8 : decode prog_1_method_3_code 8 = .ok (.invokespecial 26, 3) := by decide +kernel
theorem d1_11 : decode prog_1_method_3_code 11 = .ok (.areturn, 1) := by decide +kernel
def Q_rmT (Z : State) (a : Int64) (kv : Value) (h0 : Heap) (n0 : Nat) (v : Option Value) (h : Heap) (L : List Loc) : Prop := ∃ b, v = some (.ref b) ∧ Fr n0 L ∧ Keep h0 h [] ∧ n0 ≤ b ∧ h0.size ≤ b ∧ Exa Z h b "com/example/holdfast/holdfast/Acquisition" ∧ Fld Z h b "com/example/holdfast/holdfast/Acquisition" "token" "J" (.long (0 : Int64)) ∧ Fld Z h b "com/example/holdfast/holdfast/Acquisition" "askAgainMillis" "J" (.long a) ∧ Fld Z h b "com/example/holdfast/holdfast/Acquisition" "keptBy" "Ljava/lang/String;" kv ∧ Fld Z h b "com/example/holdfast/holdfast/Acquisition" "unreached" "Lcom/example/holdfast/holdfast/HoldfastException;" .null
theorem pd_28JJLjava2flang2fString3bLcom2fexample2fholdfast2fholdfast2fHoldfastException3b29V : parseMethodDescriptor "(JJLjava/lang/String;Lcom/example/holdfast/holdfast/HoldfastException;)V" = some ⟨[.long, .long, (.object "java/lang/String"), (.object "com/example/holdfast/holdfast/HoldfastException")], none⟩ := by decide +kernel
set_option maxRecDepth 65536 in
set_option maxHeartbeats 40000000 in
theorem rmT (l : Launch) (Z : State) (a0 : Array Value) (hw : ∀ d ∈ tables_1, d.before a0 Z = true) (ws : List Jvm.Cond) (a : Int64) (kv : Value) (h0 : Heap) (n0 : Nat) (O0 : Old Z n0 h0) (hkv : kv.isRef = true) :
    MetFree l (⟨"com/example/holdfast/holdfast/Acquisition", "refused", "(JLjava/lang/String;)Lcom/example/holdfast/holdfast/Acquisition;"⟩ : MethodName) (head1 (Jvm.Cond.code (⟨"com/example/holdfast/holdfast/Acquisition", "refused", "(JLjava/lang/String;)Lcom/example/holdfast/holdfast/Acquisition;"⟩ : MethodName) prog_1_method_3_code 3 (some (.object "com/example/holdfast/holdfast/Acquisition")) :: ws) ({ frames := 2, cells := 1, slots := 4, locals := 64 } : Room)) (fun ar' U => ar' = #[(.long a), kv] ∧ Z.Warmed39 U.vm ∧ U.heap = h0) (fun _ _ _ _ _ => True) (fun _ U o U' => ∃ v L, o = .returned v ∧ (Q_rmT Z a kv h0 n0) v U'.heap L ∧ FrameEnd U o U' L ({ frames := 2, cells := 1, slots := 4, locals := 64 } : Room).cells ({ frames := 2, cells := 1, slots := 4, locals := 64 } : Room).slots) := by
  refine MetFree.of_bodySF (plainFor_of_name pn_com_example_holdfast_holdfast_Acquisition) hisR ?_
  intro p e s m args below meth c s₁ Bd hml0 hP hK
  obtain ⟨rfl, hZ, hh⟩ := hP
  have hx := Bd.exec
  have hby := Bd.bytes
  have hlk := BodyLoose.notSynchronized Bd
  have hml : c.maxLocals = 3 := hml0
  have hown : s.vm.findClass "com/example/holdfast/holdfast/Acquisition" = some m.cls := findClass_of_methodNamed Bd.named
  have hnm := (name_of_methodNamed Bd.named Bd.method).1
  have X0 : Stand p l e ({ frames := 2, cells := 1, slots := 4, locals := 64 } : Room) s m #[(.long a), kv] below meth c s₁ [] 0 0 := Stand.of_body Bd
  have e0 : s₁.heap = h0 := by rw [← hh, Bd.state]; rfl
  have N0 := Fr.nil n0
  have Z0 : n0 ≤ h0.size := O0.1 ▸ O0.2.1
  show OEnds p e below s ({ frames := 2, cells := 1, slots := 4, locals := 64 } : Room).cells ({ frames := 2, cells := 1, slots := 4, locals := 64 } : Room).slots (Q_rmT Z a kv h0 n0) (s₁.setTop (entryFrame m #[(.long a), kv] 3))
  refine OEnds.via (fun _ k => castTop (show entryFrame m #[(.long a), kv] 3 = (mkF m 0 #[.val (.long a), .second, .val kv] []) by rcases ref_cases hkv with rfl | ⟨_, rfl⟩ <;> rfl) k) ?_
  have Od := O0
  have Kp := Keep.refl h0 []
  show OEnds p e below s _ _ _ (s₁.setTop (mkF m 0 #[.val (.long a), .second, .val kv] []))
  obtain ⟨T1, h1, X1, e1, E1, A1, D1, -, st1⟩ := newO X0 hx hZ hown (hw _ (List.mem_of_getElem? (i := 5) rfl)) (hw _ (List.mem_of_getElem? (i := 6) rfl)) (hw _ (List.mem_of_getElem? (i := 3) rfl)) e0 (g := (mkF m 0 #[.val (.long a), .second, .val kv] [])) rfl (hb hby d1_0) (by decide) (by decide)
  obtain ⟨b1, g1⟩ : ∃ z, z = h0.size := ⟨_, rfl⟩
  have ge_b1 : n0 ≤ b1 := Nat.le_trans (Od.1 ▸ Od.2.1) (Nat.le_of_eq g1.symm)
  have sz_b1 : h0.size ≤ b1 := Nat.le_trans Kp.1 (Nat.le_of_eq g1.symm)
  rw [← g1] at A1 D1 st1
  replace Od := Od.ext E1
  replace Kp := Kp.ext E1
  have E_b1 : Exa Z h1 b1 "com/example/holdfast/holdfast/Acquisition" := A1
  have F_token_b1 : Fld Z h1 b1 "com/example/holdfast/holdfast/Acquisition" "token" "J" (.long (0 : Int64)) := D1 (Or.inr (hw _ (List.mem_of_getElem? (i := 14) rfl))) (ty := .long) (by decide)
  have F_askAgainMillis_b1 : Fld Z h1 b1 "com/example/holdfast/holdfast/Acquisition" "askAgainMillis" "J" (.long (0 : Int64)) := D1 (Or.inr (hw _ (List.mem_of_getElem? (i := 16) rfl))) (ty := .long) (by decide)
  have F_keptBy_b1 : Fld Z h1 b1 "com/example/holdfast/holdfast/Acquisition" "keptBy" "Ljava/lang/String;" .null := D1 (Or.inr (hw _ (List.mem_of_getElem? (i := 18) rfl))) (ty := (.object "java/lang/String")) (by decide)
  have F_unreached_b1 : Fld Z h1 b1 "com/example/holdfast/holdfast/Acquisition" "unreached" "Lcom/example/holdfast/holdfast/HoldfastException;" .null := D1 (Or.inr (hw _ (List.mem_of_getElem? (i := 20) rfl))) (ty := (.object "com/example/holdfast/holdfast/HoldfastException")) (by decide)
  refine OEnds.via (fun _ k => st1 _ k) ?_
  show OEnds p e below s _ _ _ (T1.setTop (mkF m 3 #[.val (.long a), .second, .val kv] [(.ref b1)]))
  refine OEnds.via (fun _ k => XS.dup X1.here hx rfl (hb hby d1_3) rfl rfl k) ?_
  show OEnds p e below s _ _ _ (T1.setTop (mkF m 4 #[.val (.long a), .second, .val kv] [(.ref b1), (.ref b1)]))
  refine OEnds.via (fun _ k => XS.lconst X1.here hx rfl (hb hby d1_4) k) ?_
  show OEnds p e below s _ _ _ (T1.setTop (mkF m 5 #[.val (.long a), .second, .val kv] [(.long (0 : Int64)), (.ref b1), (.ref b1)]))
  refine OEnds.via (fun _ k => XS.lloadN X1.here hx rfl (hb hby d1_5) rfl k) ?_
  show OEnds p e below s _ _ _ (T1.setTop (mkF m 6 #[.val (.long a), .second, .val kv] [(.long a), (.long (0 : Int64)), (.ref b1), (.ref b1)]))
  refine OEnds.via (fun _ k => XS.aloadN X1.here hx rfl (hb hby d1_6) rfl hkv k) ?_
  show OEnds p e below s _ _ _ (T1.setTop (mkF m 7 #[.val (.long a), .second, .val kv] [kv, (.long a), (.long (0 : Int64)), (.ref b1), (.ref b1)]))
  refine OEnds.via (fun _ k => XS.aconstNull X1.here hx rfl (hb hby d1_7) k) ?_
  show OEnds p e below s _ _ _ (T1.setTop (mkF m 8 #[.val (.long a), .second, .val kv] [.null, kv, (.long a), (.long (0 : Int64)), (.ref b1), (.ref b1)]))
  obtain ⟨_, _, ⟨T2, L2, k2, n2⟩, -, X2, ⟨Lc2, hQ2, l2, y2, z2⟩, st2⟩ := X1.specialBack hx (y := (⟨"com/example/holdfast/holdfast/Acquisition", "<init>", "(JJLjava/lang/String;Lcom/example/holdfast/holdfast/HoldfastException;)V"⟩ : MethodName)) rfl hown (mvT hZ (hw _ (List.mem_of_getElem? (i := 7) rfl))) (mvT hZ (hw _ (List.mem_of_getElem? (i := 8) rfl))) (mvT hZ (hw _ (List.mem_of_getElem? (i := 9) rfl))) (by decide) (backOf (W := 1) (rmI l Z a0 hw [] b1 (0 : Int64) a kv h1 n0 Od F_token_b1 F_askAgainMillis_b1 F_keptBy_b1 F_unreached_b1 E_b1 ge_b1 hkv) hZ (hw _ (List.mem_of_getElem? (i := 9) rfl)) (hw _ (List.mem_of_getElem? (i := 3) rfl)) (by decide) (by decide)) (g := (mkF m 8 #[.val (.long a), .second, .val kv] [.null, kv, (.long a), (.long (0 : Int64)), (.ref b1), (.ref b1)])) rfl (by rw [hml]; rfl) (Steps.refl _) (a := b1) (argsL := [(.long (0 : Int64)), (.long a), kv, .null]) (rest := [(.ref b1)]) (lenOf pd_28JJLjava2flang2fString3bLcom2fexample2fholdfast2fholdfast2fHoldfastException3b29V rfl) rfl (by show 2 * 0 + _ ≤ _; exact Nat.le_of_eq rfl) (hb hby d1_8) (fun _ _ => ⟨rfl, e1, Nat.le_of_ble_eq_true rfl, Nat.le_of_ble_eq_true rfl⟩)
  dsimp only [Pt.U, Pt.locs, Pt.cells, Pt.slots] at X2 l2 y2 z2 st2 hQ2
  subst l2 y2 z2
  obtain ⟨rfl, N2q, K2, G2, G_token, G_askAgainMillis, G_keptBy, G_unreached⟩ := hQ2
  have N2 := Fr.app N0 N2q
  replace Od := Od.keep K2 (allS ge_b1 all0)
  replace Kp := Kp.trans K2 (allS (Or.inr sz_b1) all0)
  replace E_b1 := E_b1.keep K2
  refine OEnds.via (fun _ k => st2.trans k) ?_
  show OEnds p e below s _ _ _ (T2.setTop (mkF m 11 #[.val (.long a), .second, .val kv] [(.ref b1)]))
  refine OEnds.retR X2 hx hlk Bd.returns rfl rfl (hb hby d1_11) ?_ (by decide) (by decide)
  exact ⟨_, rfl, N2, Kp, ge_b1, sz_b1, E_b1, G_token, G_askAgainMillis, G_keptBy, G_unreached⟩
theorem d5_0 : decode prog_1_method_7_code 0 = .ok (.aload_n 0, 1) := by decide +kernel
theorem d5_1 : decode prog_1_method_7_code 1 = .ok (.getfield 7, 3) := by decide +kernel
theorem d5_4 : decode prog_1_method_7_code 4 = .ok (.lconst 0, 1) := by decide +kernel
theorem d5_5 : decode prog_1_method_7_code 5 = .ok (.lcmp, 1) := by decide +kernel
theorem d5_6 : decode prog_1_method_7_code 6 = .ok (.ifCond .le 7, 3) := by decide +kernel
theorem d5_9 : decode prog_1_method_7_code 9 = .ok (.iconst 1, 1) := by decide +kernel
theorem d5_10 : decode prog_1_method_7_code 10 = .ok (.goto 4, 3) := by decide +kernel
theorem d5_13 : decode prog_1_method_7_code 13 = .ok (.iconst 0, 1) := by decide +kernel
theorem d5_14 : decode prog_1_method_7_code 14 = .ok (.ireturn, 1) := by decide +kernel
set_option maxRecDepth 65536 in
set_option maxHeartbeats 40000000 in
theorem rm_isTaken (l : Launch) (Z : State) (a0 : Array Value) (hw : ∀ d ∈ tables_1, d.before a0 Z = true) (ws : List Jvm.Cond) (r : Addr) (h0 : Heap) (n0 : Nat) (O0 : Old Z n0 h0) (F : Fld Z h0 r "com/example/holdfast/holdfast/Acquisition" "token" "J" (.long (0 : Int64))) :
    MetFree l (⟨"com/example/holdfast/holdfast/Acquisition", "isTaken", "()Z"⟩ : MethodName) (head1 (Jvm.Cond.code (⟨"com/example/holdfast/holdfast/Acquisition", "isTaken", "()Z"⟩ : MethodName) prog_1_method_7_code 1 (some .boolean) :: ws) ({ frames := 0, cells := 0, slots := 0, locals := 0 } : Room)) (fun ar' U => ar' = #[(.ref r)] ∧ Z.Warmed39 U.vm ∧ U.heap = h0) (fun _ _ _ _ _ => True) (fun _ U o U' => ∃ v L, o = .returned v ∧ (QA (some (.int (0 : Int32))) h0 n0) v U'.heap L ∧ FrameEnd U o U' L ({ frames := 0, cells := 0, slots := 0, locals := 0 } : Room).cells ({ frames := 0, cells := 0, slots := 0, locals := 0 } : Room).slots) := by
  refine MetFree.of_bodySF (plainFor_of_name pn_com_example_holdfast_holdfast_Acquisition) hisR ?_
  intro p e s m args below meth c s₁ Bd hml0 hP hK
  obtain ⟨rfl, hZ, hh⟩ := hP
  have hx := Bd.exec
  have hby := Bd.bytes
  have hlk := BodyLoose.notSynchronized Bd
  have hml : c.maxLocals = 1 := hml0
  have hown : s.vm.findClass "com/example/holdfast/holdfast/Acquisition" = some m.cls := findClass_of_methodNamed Bd.named
  have hnm := (name_of_methodNamed Bd.named Bd.method).1
  have X0 : Stand p l e ({ frames := 0, cells := 0, slots := 0, locals := 0 } : Room) s m #[(.ref r)] below meth c s₁ [] 0 0 := Stand.of_body Bd
  have e0 : s₁.heap = h0 := by rw [← hh, Bd.state]; rfl
  have N0 := Fr.nil n0
  have Z0 : n0 ≤ h0.size := O0.1 ▸ O0.2.1
  show OEnds p e below s ({ frames := 0, cells := 0, slots := 0, locals := 0 } : Room).cells ({ frames := 0, cells := 0, slots := 0, locals := 0 } : Room).slots (QA (some (.int (0 : Int32))) h0 n0) (s₁.setTop (entryFrame m #[(.ref r)] 1))
  refine OEnds.via (fun _ k => castTop (show entryFrame m #[(.ref r)] 1 = (mkF m 0 #[.val (.ref r)] []) by first | (simp [entryFrame, mkF, argsToLocals, Value.category, maxLocals]; done) | rfl) k) ?_
  show OEnds p e below s _ _ _ (s₁.setTop (mkF m 0 #[.val (.ref r)] []))
  refine OEnds.via (fun _ k => XS.aloadN X0.here hx rfl (hb hby d5_0) rfl rfl k) ?_
  show OEnds p e below s _ _ _ (s₁.setTop (mkF m 1 #[.val (.ref r)] [(.ref r)]))
  obtain ⟨T1, X1, e1, st1⟩ := getF X0 hx hZ hown (host := "") (Or.inl (hw _ (List.mem_of_getElem? (i := 13) rfl))) Via.refl e0 F (g := (mkF m 1 #[.val (.ref r)] [(.ref r)])) rfl rfl (hb hby d5_1)
  refine OEnds.via (fun _ k => st1 _ k) ?_
  show OEnds p e below s _ _ _ (T1.setTop (mkF m 4 #[.val (.ref r)] [(.long (0 : Int64))]))
  refine OEnds.via (fun _ k => XS.lconst X1.here hx rfl (hb hby d5_4) k) ?_
  show OEnds p e below s _ _ _ (T1.setTop (mkF m 5 #[.val (.ref r)] [(.long (0 : Int64)), (.long (0 : Int64))]))
  refine OEnds.via (fun _ k => XS.lcmp X1.here hx rfl (hb hby d5_5) rfl k) ?_
  show OEnds p e below s _ _ _ (T1.setTop (mkF m 6 #[.val (.ref r)] [(.int (lcmpW (0 : Int64) (0 : Int64)))]))
  refine OEnds.via (fun _ k => XS.ifYes X1.here hx rfl (pc0 := 6) (pc' := 13) rfl (hb hby d5_6) rfl ((if0 _ _).trans (flt (by decide : ¬ (0 : Int32) < (lcmpW (0 : Int64) (0 : Int64)))).2.2.2) (by decide) (by decide) k) ?_
  show OEnds p e below s _ _ _ (T1.setTop (mkF m 13 #[.val (.ref r)] []))
  refine OEnds.via (fun _ k => XS.iconst X1.here hx rfl (hb hby d5_13) k) ?_
  show OEnds p e below s _ _ _ (T1.setTop (mkF m 14 #[.val (.ref r)] [(.int (0 : Int32))]))
  refine OEnds.retN X1 hx hlk (t := .boolean) Bd.returns (by simp) (hb hby d5_14) ?_ (by decide) (by decide)
  exact ⟨rfl, N0, e1⟩
theorem d6_0 : decode prog_1_method_12_code 0 = .ok (.aload_n 0, 1) := by decide +kernel
theorem d6_1 : decode prog_1_method_12_code 1 = .ok (.getfield 7, 3) := by decide +kernel
theorem d6_4 : decode prog_1_method_12_code 4 = .ok (.lreturn, 1) := by decide +kernel
set_option maxRecDepth 65536 in
set_option maxHeartbeats 40000000 in
theorem rm_token (l : Launch) (Z : State) (a0 : Array Value) (hw : ∀ d ∈ tables_1, d.before a0 Z = true) (ws : List Jvm.Cond) (r : Addr) (t : Int64) (h0 : Heap) (n0 : Nat) (O0 : Old Z n0 h0) (F : Fld Z h0 r "com/example/holdfast/holdfast/Acquisition" "token" "J" (.long t)) :
    MetFree l (⟨"com/example/holdfast/holdfast/Acquisition", "token", "()J"⟩ : MethodName) (head1 (Jvm.Cond.code (⟨"com/example/holdfast/holdfast/Acquisition", "token", "()J"⟩ : MethodName) prog_1_method_12_code 1 (some .long) :: ws) ({ frames := 0, cells := 0, slots := 0, locals := 0 } : Room)) (fun ar' U => ar' = #[(.ref r)] ∧ Z.Warmed39 U.vm ∧ U.heap = h0) (fun _ _ _ _ _ => True) (fun _ U o U' => ∃ v L, o = .returned v ∧ (QA (some (.long t)) h0 n0) v U'.heap L ∧ FrameEnd U o U' L ({ frames := 0, cells := 0, slots := 0, locals := 0 } : Room).cells ({ frames := 0, cells := 0, slots := 0, locals := 0 } : Room).slots) := by
  refine MetFree.of_bodySF (plainFor_of_name pn_com_example_holdfast_holdfast_Acquisition) hisR ?_
  intro p e s m args below meth c s₁ Bd hml0 hP hK
  obtain ⟨rfl, hZ, hh⟩ := hP
  have hx := Bd.exec
  have hby := Bd.bytes
  have hlk := BodyLoose.notSynchronized Bd
  have hml : c.maxLocals = 1 := hml0
  have hown : s.vm.findClass "com/example/holdfast/holdfast/Acquisition" = some m.cls := findClass_of_methodNamed Bd.named
  have hnm := (name_of_methodNamed Bd.named Bd.method).1
  have X0 : Stand p l e ({ frames := 0, cells := 0, slots := 0, locals := 0 } : Room) s m #[(.ref r)] below meth c s₁ [] 0 0 := Stand.of_body Bd
  have e0 : s₁.heap = h0 := by rw [← hh, Bd.state]; rfl
  have N0 := Fr.nil n0
  have Z0 : n0 ≤ h0.size := O0.1 ▸ O0.2.1
  show OEnds p e below s ({ frames := 0, cells := 0, slots := 0, locals := 0 } : Room).cells ({ frames := 0, cells := 0, slots := 0, locals := 0 } : Room).slots (QA (some (.long t)) h0 n0) (s₁.setTop (entryFrame m #[(.ref r)] 1))
  refine OEnds.via (fun _ k => castTop (show entryFrame m #[(.ref r)] 1 = (mkF m 0 #[.val (.ref r)] []) by first | (simp [entryFrame, mkF, argsToLocals, Value.category, maxLocals]; done) | rfl) k) ?_
  show OEnds p e below s _ _ _ (s₁.setTop (mkF m 0 #[.val (.ref r)] []))
  refine OEnds.via (fun _ k => XS.aloadN X0.here hx rfl (hb hby d6_0) rfl rfl k) ?_
  show OEnds p e below s _ _ _ (s₁.setTop (mkF m 1 #[.val (.ref r)] [(.ref r)]))
  obtain ⟨T1, X1, e1, st1⟩ := getF X0 hx hZ hown (host := "") (Or.inl (hw _ (List.mem_of_getElem? (i := 13) rfl))) Via.refl e0 F (g := (mkF m 1 #[.val (.ref r)] [(.ref r)])) rfl rfl (hb hby d6_1)
  refine OEnds.via (fun _ k => st1 _ k) ?_
  show OEnds p e below s _ _ _ (T1.setTop (mkF m 4 #[.val (.ref r)] [(.long t)]))
  refine OEnds.retJ X1 hx hlk Bd.returns (hb hby d6_4) ?_ (by decide) (by decide)
  exact ⟨rfl, N0, e1⟩
theorem d7_0 : decode prog_1_method_13_code 0 = .ok (.aload_n 0, 1) := by decide +kernel
theorem d7_1 : decode prog_1_method_13_code 1 = .ok (.getfield 13, 3) := by decide +kernel
theorem d7_4 : decode prog_1_method_13_code 4 = .ok (.lreturn, 1) := by decide +kernel
set_option maxRecDepth 65536 in
set_option maxHeartbeats 40000000 in
theorem rm_askAgainMillis (l : Launch) (Z : State) (a0 : Array Value) (hw : ∀ d ∈ tables_1, d.before a0 Z = true) (ws : List Jvm.Cond) (r : Addr) (t : Int64) (h0 : Heap) (n0 : Nat) (O0 : Old Z n0 h0) (F : Fld Z h0 r "com/example/holdfast/holdfast/Acquisition" "askAgainMillis" "J" (.long t)) :
    MetFree l (⟨"com/example/holdfast/holdfast/Acquisition", "askAgainMillis", "()J"⟩ : MethodName) (head1 (Jvm.Cond.code (⟨"com/example/holdfast/holdfast/Acquisition", "askAgainMillis", "()J"⟩ : MethodName) prog_1_method_13_code 1 (some .long) :: ws) ({ frames := 0, cells := 0, slots := 0, locals := 0 } : Room)) (fun ar' U => ar' = #[(.ref r)] ∧ Z.Warmed39 U.vm ∧ U.heap = h0) (fun _ _ _ _ _ => True) (fun _ U o U' => ∃ v L, o = .returned v ∧ (QA (some (.long t)) h0 n0) v U'.heap L ∧ FrameEnd U o U' L ({ frames := 0, cells := 0, slots := 0, locals := 0 } : Room).cells ({ frames := 0, cells := 0, slots := 0, locals := 0 } : Room).slots) := by
  refine MetFree.of_bodySF (plainFor_of_name pn_com_example_holdfast_holdfast_Acquisition) hisR ?_
  intro p e s m args below meth c s₁ Bd hml0 hP hK
  obtain ⟨rfl, hZ, hh⟩ := hP
  have hx := Bd.exec
  have hby := Bd.bytes
  have hlk := BodyLoose.notSynchronized Bd
  have hml : c.maxLocals = 1 := hml0
  have hown : s.vm.findClass "com/example/holdfast/holdfast/Acquisition" = some m.cls := findClass_of_methodNamed Bd.named
  have hnm := (name_of_methodNamed Bd.named Bd.method).1
  have X0 : Stand p l e ({ frames := 0, cells := 0, slots := 0, locals := 0 } : Room) s m #[(.ref r)] below meth c s₁ [] 0 0 := Stand.of_body Bd
  have e0 : s₁.heap = h0 := by rw [← hh, Bd.state]; rfl
  have N0 := Fr.nil n0
  have Z0 : n0 ≤ h0.size := O0.1 ▸ O0.2.1
  show OEnds p e below s ({ frames := 0, cells := 0, slots := 0, locals := 0 } : Room).cells ({ frames := 0, cells := 0, slots := 0, locals := 0 } : Room).slots (QA (some (.long t)) h0 n0) (s₁.setTop (entryFrame m #[(.ref r)] 1))
  refine OEnds.via (fun _ k => castTop (show entryFrame m #[(.ref r)] 1 = (mkF m 0 #[.val (.ref r)] []) by first | (simp [entryFrame, mkF, argsToLocals, Value.category, maxLocals]; done) | rfl) k) ?_
  show OEnds p e below s _ _ _ (s₁.setTop (mkF m 0 #[.val (.ref r)] []))
  refine OEnds.via (fun _ k => XS.aloadN X0.here hx rfl (hb hby d7_0) rfl rfl k) ?_
  show OEnds p e below s _ _ _ (s₁.setTop (mkF m 1 #[.val (.ref r)] [(.ref r)]))
  obtain ⟨T1, X1, e1, st1⟩ := getF X0 hx hZ hown (host := "") (Or.inl (hw _ (List.mem_of_getElem? (i := 15) rfl))) Via.refl e0 F (g := (mkF m 1 #[.val (.ref r)] [(.ref r)])) rfl rfl (hb hby d7_1)
  refine OEnds.via (fun _ k => st1 _ k) ?_
  show OEnds p e below s _ _ _ (T1.setTop (mkF m 4 #[.val (.ref r)] [(.long t)]))
  refine OEnds.retJ X1 hx hlk Bd.returns (hb hby d7_4) ?_ (by decide) (by decide)
  exact ⟨rfl, N0, e1⟩
theorem d4_0 : decode prog_1_method_14_code 0 = .ok (.aload_n 0, 1) := by decide +kernel
theorem d4_1 : decode prog_1_method_14_code 1 = .ok (.getfield 16, 3) := by decide +kernel
theorem d4_4 : decode prog_1_method_14_code 4 = .ok (.areturn, 1) := by decide +kernel
set_option maxRecDepth 65536 in
set_option maxHeartbeats 40000000 in
theorem rm_keptBy (l : Launch) (Z : State) (a0 : Array Value) (hw : ∀ d ∈ tables_1, d.before a0 Z = true) (ws : List Jvm.Cond) (r : Addr) (kv : Value) (h0 : Heap) (n0 : Nat) (O0 : Old Z n0 h0) (F : Fld Z h0 r "com/example/holdfast/holdfast/Acquisition" "keptBy" "Ljava/lang/String;" kv) (hkv : kv.isRef = true) :
    MetFree l (⟨"com/example/holdfast/holdfast/Acquisition", "keptBy", "()Ljava/lang/String;"⟩ : MethodName) (head1 (Jvm.Cond.code (⟨"com/example/holdfast/holdfast/Acquisition", "keptBy", "()Ljava/lang/String;"⟩ : MethodName) prog_1_method_14_code 1 (some (.object "java/lang/String")) :: ws) ({ frames := 0, cells := 0, slots := 0, locals := 0 } : Room)) (fun ar' U => ar' = #[(.ref r)] ∧ Z.Warmed39 U.vm ∧ U.heap = h0) (fun _ _ _ _ _ => True) (fun _ U o U' => ∃ v L, o = .returned v ∧ (QA (some kv) h0 n0) v U'.heap L ∧ FrameEnd U o U' L ({ frames := 0, cells := 0, slots := 0, locals := 0 } : Room).cells ({ frames := 0, cells := 0, slots := 0, locals := 0 } : Room).slots) := by
  refine MetFree.of_bodySF (plainFor_of_name pn_com_example_holdfast_holdfast_Acquisition) hisR ?_
  intro p e s m args below meth c s₁ Bd hml0 hP hK
  obtain ⟨rfl, hZ, hh⟩ := hP
  have hx := Bd.exec
  have hby := Bd.bytes
  have hlk := BodyLoose.notSynchronized Bd
  have hml : c.maxLocals = 1 := hml0
  have hown : s.vm.findClass "com/example/holdfast/holdfast/Acquisition" = some m.cls := findClass_of_methodNamed Bd.named
  have hnm := (name_of_methodNamed Bd.named Bd.method).1
  have X0 : Stand p l e ({ frames := 0, cells := 0, slots := 0, locals := 0 } : Room) s m #[(.ref r)] below meth c s₁ [] 0 0 := Stand.of_body Bd
  have e0 : s₁.heap = h0 := by rw [← hh, Bd.state]; rfl
  have N0 := Fr.nil n0
  have Z0 : n0 ≤ h0.size := O0.1 ▸ O0.2.1
  show OEnds p e below s ({ frames := 0, cells := 0, slots := 0, locals := 0 } : Room).cells ({ frames := 0, cells := 0, slots := 0, locals := 0 } : Room).slots (QA (some kv) h0 n0) (s₁.setTop (entryFrame m #[(.ref r)] 1))
  refine OEnds.via (fun _ k => castTop (show entryFrame m #[(.ref r)] 1 = (mkF m 0 #[.val (.ref r)] []) by first | (simp [entryFrame, mkF, argsToLocals, Value.category, maxLocals]; done) | rfl) k) ?_
  show OEnds p e below s _ _ _ (s₁.setTop (mkF m 0 #[.val (.ref r)] []))
  refine OEnds.via (fun _ k => XS.aloadN X0.here hx rfl (hb hby d4_0) rfl rfl k) ?_
  show OEnds p e below s _ _ _ (s₁.setTop (mkF m 1 #[.val (.ref r)] [(.ref r)]))
  obtain ⟨T1, X1, e1, st1⟩ := getF X0 hx hZ hown (host := "") (Or.inl (hw _ (List.mem_of_getElem? (i := 17) rfl))) Via.refl e0 F (g := (mkF m 1 #[.val (.ref r)] [(.ref r)])) rfl rfl (hb hby d4_1)
  refine OEnds.via (fun _ k => st1 _ k) ?_
  show OEnds p e below s _ _ _ (T1.setTop (mkF m 4 #[.val (.ref r)] [kv]))
  refine OEnds.retR X1 hx hlk Bd.returns rfl hkv (hb hby d4_4) ?_ (by decide) (by decide)
  exact ⟨rfl, N0, e1⟩
theorem d10_0 : decode prog_1_method_10_code 0 = .ok (.aload_n 0, 1) := by decide +kernel
theorem d10_1 : decode prog_1_method_10_code 1 = .ok (.getfield 20, 3) := by decide +kernel
theorem d10_4 : decode prog_1_method_10_code 4 = .ok (.ifnull 7, 3) := by decide +kernel
theorem d10_7 : decode prog_1_method_10_code 7 = .ok (.iconst 1, 1) := by decide +kernel
theorem d10_8 : decode prog_1_method_10_code 8 = .ok (.goto 4, 3) := by decide +kernel
theorem d10_11 : decode prog_1_method_10_code 11 = .ok (.iconst 0, 1) := by decide +kernel
theorem d10_12 : decode prog_1_method_10_code 12 = .ok (.ireturn, 1) := by decide +kernel
set_option maxRecDepth 65536 in
set_option maxHeartbeats 40000000 in
theorem rm_isUnreached (l : Launch) (Z : State) (a0 : Array Value) (hw : ∀ d ∈ tables_1, d.before a0 Z = true) (ws : List Jvm.Cond) (r : Addr) (h0 : Heap) (n0 : Nat) (O0 : Old Z n0 h0) (F : Fld Z h0 r "com/example/holdfast/holdfast/Acquisition" "unreached" "Lcom/example/holdfast/holdfast/HoldfastException;" .null) :
    MetFree l (⟨"com/example/holdfast/holdfast/Acquisition", "isUnreached", "()Z"⟩ : MethodName) (head1 (Jvm.Cond.code (⟨"com/example/holdfast/holdfast/Acquisition", "isUnreached", "()Z"⟩ : MethodName) prog_1_method_10_code 1 (some .boolean) :: ws) ({ frames := 0, cells := 0, slots := 0, locals := 0 } : Room)) (fun ar' U => ar' = #[(.ref r)] ∧ Z.Warmed39 U.vm ∧ U.heap = h0) (fun _ _ _ _ _ => True) (fun _ U o U' => ∃ v L, o = .returned v ∧ (QA (some (.int (0 : Int32))) h0 n0) v U'.heap L ∧ FrameEnd U o U' L ({ frames := 0, cells := 0, slots := 0, locals := 0 } : Room).cells ({ frames := 0, cells := 0, slots := 0, locals := 0 } : Room).slots) := by
  refine MetFree.of_bodySF (plainFor_of_name pn_com_example_holdfast_holdfast_Acquisition) hisR ?_
  intro p e s m args below meth c s₁ Bd hml0 hP hK
  obtain ⟨rfl, hZ, hh⟩ := hP
  have hx := Bd.exec
  have hby := Bd.bytes
  have hlk := BodyLoose.notSynchronized Bd
  have hml : c.maxLocals = 1 := hml0
  have hown : s.vm.findClass "com/example/holdfast/holdfast/Acquisition" = some m.cls := findClass_of_methodNamed Bd.named
  have hnm := (name_of_methodNamed Bd.named Bd.method).1
  have X0 : Stand p l e ({ frames := 0, cells := 0, slots := 0, locals := 0 } : Room) s m #[(.ref r)] below meth c s₁ [] 0 0 := Stand.of_body Bd
  have e0 : s₁.heap = h0 := by rw [← hh, Bd.state]; rfl
  have N0 := Fr.nil n0
  have Z0 : n0 ≤ h0.size := O0.1 ▸ O0.2.1
  show OEnds p e below s ({ frames := 0, cells := 0, slots := 0, locals := 0 } : Room).cells ({ frames := 0, cells := 0, slots := 0, locals := 0 } : Room).slots (QA (some (.int (0 : Int32))) h0 n0) (s₁.setTop (entryFrame m #[(.ref r)] 1))
  refine OEnds.via (fun _ k => castTop (show entryFrame m #[(.ref r)] 1 = (mkF m 0 #[.val (.ref r)] []) by first | (simp [entryFrame, mkF, argsToLocals, Value.category, maxLocals]; done) | rfl) k) ?_
  show OEnds p e below s _ _ _ (s₁.setTop (mkF m 0 #[.val (.ref r)] []))
  refine OEnds.via (fun _ k => XS.aloadN X0.here hx rfl (hb hby d10_0) rfl rfl k) ?_
  show OEnds p e below s _ _ _ (s₁.setTop (mkF m 1 #[.val (.ref r)] [(.ref r)]))
  obtain ⟨T1, X1, e1, st1⟩ := getF X0 hx hZ hown (host := "") (Or.inl (hw _ (List.mem_of_getElem? (i := 19) rfl))) Via.refl e0 F (g := (mkF m 1 #[.val (.ref r)] [(.ref r)])) rfl rfl (hb hby d10_1)
  refine OEnds.via (fun _ k => st1 _ k) ?_
  show OEnds p e below s _ _ _ (T1.setTop (mkF m 4 #[.val (.ref r)] [.null]))
  refine OEnds.via (fun _ k => XS.ifnullYes X1.here hx rfl (pc0 := 4) (pc' := 11) rfl (hb hby d10_4) rfl (by decide) (by decide) k) ?_
  show OEnds p e below s _ _ _ (T1.setTop (mkF m 11 #[.val (.ref r)] []))
  refine OEnds.via (fun _ k => XS.iconst X1.here hx rfl (hb hby d10_11) k) ?_
  show OEnds p e below s _ _ _ (T1.setTop (mkF m 12 #[.val (.ref r)] [(.int (0 : Int32))]))
  refine OEnds.retN X1 hx hlk (t := .boolean) Bd.returns (by simp) (hb hby d10_12) ?_ (by decide) (by decide)
  exact ⟨rfl, N0, e1⟩
theorem d11_0 : decode prog_1_method_11_code 0 = .ok (.aload_n 0, 1) := by decide +kernel
theorem d11_1 : decode prog_1_method_11_code 1 = .ok (.getfield 20, 3) := by decide +kernel
theorem d11_4 : decode prog_1_method_11_code 4 = .ok (.areturn, 1) := by decide +kernel
set_option maxRecDepth 65536 in
set_option maxHeartbeats 40000000 in
theorem rm_unreachedBy (l : Launch) (Z : State) (a0 : Array Value) (hw : ∀ d ∈ tables_1, d.before a0 Z = true) (ws : List Jvm.Cond) (r : Addr) (h0 : Heap) (n0 : Nat) (O0 : Old Z n0 h0) (F : Fld Z h0 r "com/example/holdfast/holdfast/Acquisition" "unreached" "Lcom/example/holdfast/holdfast/HoldfastException;" .null) :
    MetFree l (⟨"com/example/holdfast/holdfast/Acquisition", "unreachedBy", "()Lcom/example/holdfast/holdfast/HoldfastException;"⟩ : MethodName) (head1 (Jvm.Cond.code (⟨"com/example/holdfast/holdfast/Acquisition", "unreachedBy", "()Lcom/example/holdfast/holdfast/HoldfastException;"⟩ : MethodName) prog_1_method_11_code 1 (some (.object "com/example/holdfast/holdfast/HoldfastException")) :: ws) ({ frames := 0, cells := 0, slots := 0, locals := 0 } : Room)) (fun ar' U => ar' = #[(.ref r)] ∧ Z.Warmed39 U.vm ∧ U.heap = h0) (fun _ _ _ _ _ => True) (fun _ U o U' => ∃ v L, o = .returned v ∧ (QA (some .null) h0 n0) v U'.heap L ∧ FrameEnd U o U' L ({ frames := 0, cells := 0, slots := 0, locals := 0 } : Room).cells ({ frames := 0, cells := 0, slots := 0, locals := 0 } : Room).slots) := by
  refine MetFree.of_bodySF (plainFor_of_name pn_com_example_holdfast_holdfast_Acquisition) hisR ?_
  intro p e s m args below meth c s₁ Bd hml0 hP hK
  obtain ⟨rfl, hZ, hh⟩ := hP
  have hx := Bd.exec
  have hby := Bd.bytes
  have hlk := BodyLoose.notSynchronized Bd
  have hml : c.maxLocals = 1 := hml0
  have hown : s.vm.findClass "com/example/holdfast/holdfast/Acquisition" = some m.cls := findClass_of_methodNamed Bd.named
  have hnm := (name_of_methodNamed Bd.named Bd.method).1
  have X0 : Stand p l e ({ frames := 0, cells := 0, slots := 0, locals := 0 } : Room) s m #[(.ref r)] below meth c s₁ [] 0 0 := Stand.of_body Bd
  have e0 : s₁.heap = h0 := by rw [← hh, Bd.state]; rfl
  have N0 := Fr.nil n0
  have Z0 : n0 ≤ h0.size := O0.1 ▸ O0.2.1
  show OEnds p e below s ({ frames := 0, cells := 0, slots := 0, locals := 0 } : Room).cells ({ frames := 0, cells := 0, slots := 0, locals := 0 } : Room).slots (QA (some .null) h0 n0) (s₁.setTop (entryFrame m #[(.ref r)] 1))
  refine OEnds.via (fun _ k => castTop (show entryFrame m #[(.ref r)] 1 = (mkF m 0 #[.val (.ref r)] []) by first | (simp [entryFrame, mkF, argsToLocals, Value.category, maxLocals]; done) | rfl) k) ?_
  show OEnds p e below s _ _ _ (s₁.setTop (mkF m 0 #[.val (.ref r)] []))
  refine OEnds.via (fun _ k => XS.aloadN X0.here hx rfl (hb hby d11_0) rfl rfl k) ?_
  show OEnds p e below s _ _ _ (s₁.setTop (mkF m 1 #[.val (.ref r)] [(.ref r)]))
  obtain ⟨T1, X1, e1, st1⟩ := getF X0 hx hZ hown (host := "") (Or.inl (hw _ (List.mem_of_getElem? (i := 19) rfl))) Via.refl e0 F (g := (mkF m 1 #[.val (.ref r)] [(.ref r)])) rfl rfl (hb hby d11_1)
  refine OEnds.via (fun _ k => st1 _ k) ?_
  show OEnds p e below s _ _ _ (T1.setTop (mkF m 4 #[.val (.ref r)] [.null]))
  refine OEnds.retR X1 hx hlk Bd.returns rfl rfl (hb hby d11_4) ?_ (by decide) (by decide)
  exact ⟨rfl, N0, e1⟩
theorem d8_0 : decode prog_1_method_8_code 0 = .ok (.aload_n 0, 1) := by decide +kernel
theorem d8_1 : decode prog_1_method_8_code 1 = .ok (.getstatic 29, 3) := by decide +kernel
theorem d8_4 : decode prog_1_method_8_code 4 = .ok (.if_acmp .ne 7, 3) := by decide +kernel
theorem d8_7 : decode prog_1_method_8_code 7 = .ok (.iconst 1, 1) := by decide +kernel
theorem d8_8 : decode prog_1_method_8_code 8 = .ok (.goto 4, 3) := by decide +kernel
theorem d8_11 : decode prog_1_method_8_code 11 = .ok (.iconst 0, 1) := by decide +kernel
theorem d8_12 : decode prog_1_method_8_code 12 = .ok (.ireturn, 1) := by decide +kernel
set_option maxRecDepth 65536 in
set_option maxHeartbeats 40000000 in
theorem rm_isUnasked (l : Launch) (Z : State) (a0 : Array Value) (hw : ∀ d ∈ tables_1, d.before a0 Z = true) (ws : List Jvm.Cond) (r : Addr) (u : Addr) (h0 : Heap) (n0 : Nat) (O0 : Old Z n0 h0) (S_u : Sta Z Z.heap "com/example/holdfast/holdfast/Acquisition" "UNASKED" "Lcom/example/holdfast/holdfast/Acquisition;" (.ref u)) (hne : r ≠ u) :
    MetFree l (⟨"com/example/holdfast/holdfast/Acquisition", "isUnasked", "()Z"⟩ : MethodName) (head1 (Jvm.Cond.code (⟨"com/example/holdfast/holdfast/Acquisition", "isUnasked", "()Z"⟩ : MethodName) prog_1_method_8_code 1 (some .boolean) :: ws) ({ frames := 0, cells := 0, slots := 0, locals := 0 } : Room)) (fun ar' U => ar' = #[(.ref r)] ∧ Z.Warmed39 U.vm ∧ U.heap = h0) (fun _ _ _ _ _ => True) (fun _ U o U' => ∃ v L, o = .returned v ∧ (QA (some (.int (0 : Int32))) h0 n0) v U'.heap L ∧ FrameEnd U o U' L ({ frames := 0, cells := 0, slots := 0, locals := 0 } : Room).cells ({ frames := 0, cells := 0, slots := 0, locals := 0 } : Room).slots) := by
  refine MetFree.of_bodySF (plainFor_of_name pn_com_example_holdfast_holdfast_Acquisition) hisR ?_
  intro p e s m args below meth c s₁ Bd hml0 hP hK
  obtain ⟨rfl, hZ, hh⟩ := hP
  have hx := Bd.exec
  have hby := Bd.bytes
  have hlk := BodyLoose.notSynchronized Bd
  have hml : c.maxLocals = 1 := hml0
  have hown : s.vm.findClass "com/example/holdfast/holdfast/Acquisition" = some m.cls := findClass_of_methodNamed Bd.named
  have hnm := (name_of_methodNamed Bd.named Bd.method).1
  have X0 : Stand p l e ({ frames := 0, cells := 0, slots := 0, locals := 0 } : Room) s m #[(.ref r)] below meth c s₁ [] 0 0 := Stand.of_body Bd
  have e0 : s₁.heap = h0 := by rw [← hh, Bd.state]; rfl
  have N0 := Fr.nil n0
  have Z0 : n0 ≤ h0.size := O0.1 ▸ O0.2.1
  show OEnds p e below s ({ frames := 0, cells := 0, slots := 0, locals := 0 } : Room).cells ({ frames := 0, cells := 0, slots := 0, locals := 0 } : Room).slots (QA (some (.int (0 : Int32))) h0 n0) (s₁.setTop (entryFrame m #[(.ref r)] 1))
  refine OEnds.via (fun _ k => castTop (show entryFrame m #[(.ref r)] 1 = (mkF m 0 #[.val (.ref r)] []) by first | (simp [entryFrame, mkF, argsToLocals, Value.category, maxLocals]; done) | rfl) k) ?_
  show OEnds p e below s _ _ _ (s₁.setTop (mkF m 0 #[.val (.ref r)] []))
  refine OEnds.via (fun _ k => XS.aloadN X0.here hx rfl (hb hby d8_0) rfl rfl k) ?_
  show OEnds p e below s _ _ _ (s₁.setTop (mkF m 1 #[.val (.ref r)] [(.ref r)]))
  obtain ⟨T1, X1, e1, st1⟩ := getS2 X0 hx hZ hown (host := "") (Or.inl (hw _ (List.mem_of_getElem? (i := 46) rfl))) Via.refl e0 (Sta.ext O0.2 S_u) (g := (mkF m 1 #[.val (.ref r)] [(.ref r)])) rfl (hb hby d8_1)
  refine OEnds.via (fun _ k => st1 _ k) ?_
  show OEnds p e below s _ _ _ (T1.setTop (mkF m 4 #[.val (.ref r)] [(.ref u), (.ref r)]))
  refine OEnds.via (fun _ k => Jvm.RoadKit.acmp (g := (mkF m 4 #[.val (.ref r)] [(.ref u), (.ref r)])) X1 hx rfl rfl rfl (pc0 := 4) (pc' := 11) (same := false) rfl (hb hby d8_4) rfl (decide_eq_false fun q => hne (Value.ref.inj q)) (by decide) (by decide) k) ?_
  show OEnds p e below s _ _ _ (T1.setTop (mkF m 11 #[.val (.ref r)] []))
  refine OEnds.via (fun _ k => XS.iconst X1.here hx rfl (hb hby d8_11) k) ?_
  show OEnds p e below s _ _ _ (T1.setTop (mkF m 12 #[.val (.ref r)] [(.int (0 : Int32))]))
  refine OEnds.retN X1 hx hlk (t := .boolean) Bd.returns (by simp) (hb hby d8_12) ?_ (by decide) (by decide)
  exact ⟨rfl, N0, e1⟩
theorem d9_0 : decode prog_1_method_9_code 0 = .ok (.aload_n 0, 1) := by decide +kernel
theorem d9_1 : decode prog_1_method_9_code 1 = .ok (.getstatic 33, 3) := by decide +kernel
theorem d9_4 : decode prog_1_method_9_code 4 = .ok (.if_acmp .ne 7, 3) := by decide +kernel
theorem d9_7 : decode prog_1_method_9_code 7 = .ok (.iconst 1, 1) := by decide +kernel
theorem d9_8 : decode prog_1_method_9_code 8 = .ok (.goto 4, 3) := by decide +kernel
theorem d9_11 : decode prog_1_method_9_code 11 = .ok (.iconst 0, 1) := by decide +kernel
theorem d9_12 : decode prog_1_method_9_code 12 = .ok (.ireturn, 1) := by decide +kernel
set_option maxRecDepth 65536 in
set_option maxHeartbeats 40000000 in
theorem rm_isUnconfirmed (l : Launch) (Z : State) (a0 : Array Value) (hw : ∀ d ∈ tables_1, d.before a0 Z = true) (ws : List Jvm.Cond) (r : Addr) (u : Addr) (h0 : Heap) (n0 : Nat) (O0 : Old Z n0 h0) (S_u : Sta Z Z.heap "com/example/holdfast/holdfast/Acquisition" "UNCONFIRMED" "Lcom/example/holdfast/holdfast/Acquisition;" (.ref u)) (hne : r ≠ u) :
    MetFree l (⟨"com/example/holdfast/holdfast/Acquisition", "isUnconfirmed", "()Z"⟩ : MethodName) (head1 (Jvm.Cond.code (⟨"com/example/holdfast/holdfast/Acquisition", "isUnconfirmed", "()Z"⟩ : MethodName) prog_1_method_9_code 1 (some .boolean) :: ws) ({ frames := 0, cells := 0, slots := 0, locals := 0 } : Room)) (fun ar' U => ar' = #[(.ref r)] ∧ Z.Warmed39 U.vm ∧ U.heap = h0) (fun _ _ _ _ _ => True) (fun _ U o U' => ∃ v L, o = .returned v ∧ (QA (some (.int (0 : Int32))) h0 n0) v U'.heap L ∧ FrameEnd U o U' L ({ frames := 0, cells := 0, slots := 0, locals := 0 } : Room).cells ({ frames := 0, cells := 0, slots := 0, locals := 0 } : Room).slots) := by
  refine MetFree.of_bodySF (plainFor_of_name pn_com_example_holdfast_holdfast_Acquisition) hisR ?_
  intro p e s m args below meth c s₁ Bd hml0 hP hK
  obtain ⟨rfl, hZ, hh⟩ := hP
  have hx := Bd.exec
  have hby := Bd.bytes
  have hlk := BodyLoose.notSynchronized Bd
  have hml : c.maxLocals = 1 := hml0
  have hown : s.vm.findClass "com/example/holdfast/holdfast/Acquisition" = some m.cls := findClass_of_methodNamed Bd.named
  have hnm := (name_of_methodNamed Bd.named Bd.method).1
  have X0 : Stand p l e ({ frames := 0, cells := 0, slots := 0, locals := 0 } : Room) s m #[(.ref r)] below meth c s₁ [] 0 0 := Stand.of_body Bd
  have e0 : s₁.heap = h0 := by rw [← hh, Bd.state]; rfl
  have N0 := Fr.nil n0
  have Z0 : n0 ≤ h0.size := O0.1 ▸ O0.2.1
  show OEnds p e below s ({ frames := 0, cells := 0, slots := 0, locals := 0 } : Room).cells ({ frames := 0, cells := 0, slots := 0, locals := 0 } : Room).slots (QA (some (.int (0 : Int32))) h0 n0) (s₁.setTop (entryFrame m #[(.ref r)] 1))
  refine OEnds.via (fun _ k => castTop (show entryFrame m #[(.ref r)] 1 = (mkF m 0 #[.val (.ref r)] []) by first | (simp [entryFrame, mkF, argsToLocals, Value.category, maxLocals]; done) | rfl) k) ?_
  show OEnds p e below s _ _ _ (s₁.setTop (mkF m 0 #[.val (.ref r)] []))
  refine OEnds.via (fun _ k => XS.aloadN X0.here hx rfl (hb hby d9_0) rfl rfl k) ?_
  show OEnds p e below s _ _ _ (s₁.setTop (mkF m 1 #[.val (.ref r)] [(.ref r)]))
  obtain ⟨T1, X1, e1, st1⟩ := getS2 X0 hx hZ hown (host := "") (Or.inl (hw _ (List.mem_of_getElem? (i := 53) rfl))) Via.refl e0 (Sta.ext O0.2 S_u) (g := (mkF m 1 #[.val (.ref r)] [(.ref r)])) rfl (hb hby d9_1)
  refine OEnds.via (fun _ k => st1 _ k) ?_
  show OEnds p e below s _ _ _ (T1.setTop (mkF m 4 #[.val (.ref r)] [(.ref u), (.ref r)]))
  refine OEnds.via (fun _ k => Jvm.RoadKit.acmp (g := (mkF m 4 #[.val (.ref r)] [(.ref u), (.ref r)])) X1 hx rfl rfl rfl (pc0 := 4) (pc' := 11) (same := false) rfl (hb hby d9_4) rfl (decide_eq_false fun q => hne (Value.ref.inj q)) (by decide) (by decide) k) ?_
  show OEnds p e below s _ _ _ (T1.setTop (mkF m 11 #[.val (.ref r)] []))
  refine OEnds.via (fun _ k => XS.iconst X1.here hx rfl (hb hby d9_11) k) ?_
  show OEnds p e below s _ _ _ (T1.setTop (mkF m 12 #[.val (.ref r)] [(.int (0 : Int32))]))
  refine OEnds.retN X1 hx hlk (t := .boolean) Bd.returns (by simp) (hb hby d9_12) ?_ (by decide) (by decide)
  exact ⟨rfl, N0, e1⟩
theorem d17_0 : decode jdk_42_method_66_code 0 = .ok (.aload_n 0, 1) := by decide +kernel
theorem d17_1 : decode jdk_42_method_66_code 1 = .ok (.aload_n 1, 1) := by decide +kernel
theorem d17_2 : decode jdk_42_method_66_code 2 = .ok (.if_acmp .ne 5, 3) := by decide +kernel
theorem d17_5 : decode jdk_42_method_66_code 5 = .ok (.iconst 1, 1) := by decide +kernel
theorem d17_6 : decode jdk_42_method_66_code 6 = .ok (.ireturn, 1) := by decide +kernel
theorem d17_7 : decode jdk_42_method_66_code 7 = .ok (.aload_n 1, 1) := by decide +kernel
theorem d17_8 : decode jdk_42_method_66_code 8 = .ok (.instanceof 10, 3) := by decide +kernel
theorem d17_11 : decode jdk_42_method_66_code 11 = .ok (.ifCond .eq 43, 3) := by decide +kernel
theorem d17_14 : decode jdk_42_method_66_code 14 = .ok (.aload_n 1, 1) := by decide +kernel
theorem d17_15 : decode jdk_42_method_66_code 15 = .ok (.checkcast 10, 3) := by decide +kernel
theorem d17_18 : decode jdk_42_method_66_code 18 = .ok (.astore_n 2, 1) := by decide +kernel
theorem d17_19 : decode jdk_42_method_66_code 19 = .ok (.getstatic 38, 3) := by decide +kernel
theorem d17_22 : decode jdk_42_method_66_code 22 = .ok (.ifCond .eq 14, 3) := by decide +kernel
theorem d17_25 : decode jdk_42_method_66_code 25 = .ok (.aload_n 0, 1) := by decide +kernel
theorem d17_26 : decode jdk_42_method_66_code 26 = .ok (.getfield 15, 3) := by decide +kernel
theorem d17_29 : decode jdk_42_method_66_code 29 = .ok (.aload_n 2, 1) := by decide +kernel
theorem d17_30 : decode jdk_42_method_66_code 30 = .ok (.getfield 15, 3) := by decide +kernel
theorem d17_33 : decode jdk_42_method_66_code 33 = .ok (.if_icmp .ne 21, 3) := by decide +kernel
theorem d17_36 : decode jdk_42_method_66_code 36 = .ok (.aload_n 0, 1) := by decide +kernel
theorem d17_37 : decode jdk_42_method_66_code 37 = .ok (.getfield 9, 3) := by decide +kernel
theorem d17_40 : decode jdk_42_method_66_code 40 = .ok (.aload_n 2, 1) := by decide +kernel
theorem d17_41 : decode jdk_42_method_66_code 41 = .ok (.getfield 9, 3) := by decide +kernel
theorem d17_44 : decode jdk_42_method_66_code 44 = .ok (.invokestatic 541, 3) := by decide +kernel
theorem d17_47 : decode jdk_42_method_66_code 47 = .ok (.ifCond .eq 7, 3) := by decide +kernel
theorem d17_50 : decode jdk_42_method_66_code 50 = .ok (.iconst 1, 1) := by decide +kernel
theorem d17_51 : decode jdk_42_method_66_code 51 = .ok (.goto 4, 3) := by decide +kernel
theorem d17_54 : decode jdk_42_method_66_code 54 = .ok (.iconst 0, 1) := by decide +kernel
theorem d17_55 : decode jdk_42_method_66_code 55 = .ok (.ireturn, 1) := by decide +kernel
set_option maxRecDepth 65536 in
set_option maxHeartbeats 40000000 in
theorem rmSelf (l : Launch) (Z : State) (a0 : Array Value) (hw : ∀ d ∈ tables_1, d.before a0 Z = true) (ws : List Jvm.Cond) (x : Addr) (h0 : Heap) (n0 : Nat) (O0 : Old Z n0 h0) :
    MetFree l (⟨"java/lang/String", "equals", "(Ljava/lang/Object;)Z"⟩ : MethodName) (head1 (Jvm.Cond.code (⟨"java/lang/String", "equals", "(Ljava/lang/Object;)Z"⟩ : MethodName) jdk_42_method_66_code 3 (some .boolean) :: ws) ({ frames := 0, cells := 0, slots := 0, locals := 0 } : Room)) (fun ar' U => ar' = #[(.ref x), (.ref x)] ∧ Z.Warmed39 U.vm ∧ U.heap = h0) (fun _ _ _ _ _ => True) (fun _ U o U' => ∃ v L, o = .returned v ∧ (QA (some (.int 1)) h0 n0) v U'.heap L ∧ FrameEnd U o U' L ({ frames := 0, cells := 0, slots := 0, locals := 0 } : Room).cells ({ frames := 0, cells := 0, slots := 0, locals := 0 } : Room).slots) := by
  refine MetFree.of_bodySF (plainFor_of_name pn_java_lang_String) hisR ?_
  intro p e s m args below meth c s₁ Bd hml0 hP hK
  obtain ⟨rfl, hZ, hh⟩ := hP
  have hx := Bd.exec
  have hby := Bd.bytes
  have hlk := BodyLoose.notSynchronized Bd
  have hml : c.maxLocals = 3 := hml0
  have hown : s.vm.findClass "java/lang/String" = some m.cls := findClass_of_methodNamed Bd.named
  have hnm := (name_of_methodNamed Bd.named Bd.method).1
  have X0 : Stand p l e ({ frames := 0, cells := 0, slots := 0, locals := 0 } : Room) s m #[(.ref x), (.ref x)] below meth c s₁ [] 0 0 := Stand.of_body Bd
  have e0 : s₁.heap = h0 := by rw [← hh, Bd.state]; rfl
  have N0 := Fr.nil n0
  have Z0 : n0 ≤ h0.size := O0.1 ▸ O0.2.1
  show OEnds p e below s ({ frames := 0, cells := 0, slots := 0, locals := 0 } : Room).cells ({ frames := 0, cells := 0, slots := 0, locals := 0 } : Room).slots (QA (some (.int 1)) h0 n0) (s₁.setTop (entryFrame m #[(.ref x), (.ref x)] 3))
  refine OEnds.via (fun _ k => castTop (show entryFrame m #[(.ref x), (.ref x)] 3 = (mkF m 0 #[.val (.ref x), .val (.ref x), .unset] []) by first | (simp [entryFrame, mkF, argsToLocals, Value.category, maxLocals]; done) | rfl) k) ?_
  refine OEnds.via (fun _ k => XS.aloadN X0.here hx rfl (hb hby d17_0) rfl rfl k) ?_
  show OEnds p e below s _ _ _ (s₁.setTop (mkF m 1 #[.val (.ref x), .val (.ref x), .unset] [(.ref x)]))
  refine OEnds.via (fun _ k => XS.aloadN X0.here hx rfl (hb hby d17_1) rfl rfl k) ?_
  show OEnds p e below s _ _ _ (s₁.setTop (mkF m 2 #[.val (.ref x), .val (.ref x), .unset] [(.ref x), (.ref x)]))
  refine OEnds.via (fun _ k => Jvm.RoadKit.acmp (g := (mkF m 2 #[.val (.ref x), .val (.ref x), .unset] [(.ref x), (.ref x)])) X0 hx rfl rfl rfl (pc0 := 2) (pc' := 5) (same := true) rfl (hb hby d17_2) rfl (decide_eq_true rfl) (by decide) (by decide) k) ?_
  show OEnds p e below s _ _ _ (s₁.setTop (mkF m 5 #[.val (.ref x), .val (.ref x), .unset] []))
  refine OEnds.via (fun _ k => XS.iconst X0.here hx rfl (hb hby d17_5) k) ?_
  show OEnds p e below s _ _ _ (s₁.setTop (mkF m 6 #[.val (.ref x), .val (.ref x), .unset] [(.int (1 : Int32))]))
  refine OEnds.retN X0 hx hlk (t := .boolean) Bd.returns (by simp) (hb hby d17_6) ?_ (by decide) (by decide)
  exact ⟨rfl, N0, e0⟩
theorem pn_com_example_holdfast_holdfast_AcquisitionRefusedPinLaw : plainName "com/example/holdfast/holdfast/AcquisitionRefusedPinLaw" = true := by first | (simp [plainName, overriddenIn]; done) | decide +kernel
theorem pd_2829J : parseMethodDescriptor "()J" = some ⟨[], some .long⟩ := by decide +kernel
theorem pd_2829Lcom2fexample2fholdfast2fholdfast2fHoldfastException3b : parseMethodDescriptor "()Lcom/example/holdfast/holdfast/HoldfastException;" = some ⟨[], some (.object "com/example/holdfast/holdfast/HoldfastException")⟩ := by decide +kernel
theorem pd_2829Ljava2flang2fString3b : parseMethodDescriptor "()Ljava/lang/String;" = some ⟨[], some (.object "java/lang/String")⟩ := by decide +kernel
theorem pd_2829Z : parseMethodDescriptor "()Z" = some ⟨[], some .boolean⟩ := by decide +kernel
theorem pd_28C29Ljava2flang2fString3b : parseMethodDescriptor "(C)Ljava/lang/String;" = some ⟨[.char], some (.object "java/lang/String")⟩ := by decide +kernel
theorem pd_28JLjava2flang2fString3b29Lcom2fexample2fholdfast2fholdfast2fAcquisition3b : parseMethodDescriptor "(JLjava/lang/String;)Lcom/example/holdfast/holdfast/Acquisition;" = some ⟨[.long, (.object "java/lang/String")], some (.object "com/example/holdfast/holdfast/Acquisition")⟩ := by decide +kernel
theorem pd_28Ljava2flang2fObject3b29Z : parseMethodDescriptor "(Ljava/lang/Object;)Z" = some ⟨[(.object "java/lang/Object")], some .boolean⟩ := by decide +kernel
theorem pd_285bC29V : parseMethodDescriptor "([C)V" = some ⟨[(.array .char)], none⟩ := by decide +kernel
set_option maxRecDepth 65536 in
set_option maxHeartbeats 40000000 in
theorem rm0 (l : Launch) (Z : State) (a0 : Array Value) (hw : ∀ d ∈ tables_1, d.before a0 Z = true) (ws : List Jvm.Cond) (p0 : Int64) (p1 : Int32) (p2 : Int32) (p3 : Int32) (G1 : Int32) (a_UNASKED : Addr) (a_UNCONFIRMED : Addr) (h0 : Heap) (n0 : Nat) (O0 : Old Z n0 h0) (S_CS : Sta Z Z.heap "java/lang/String" "COMPACT_STRINGS" "Z" (.int G1)) (nz_CS : ¬ (G1 = (0 : Int32))) (S_UNASKED : Sta Z Z.heap "com/example/holdfast/holdfast/Acquisition" "UNASKED" "Lcom/example/holdfast/holdfast/Acquisition;" (.ref a_UNASKED)) (S_UNCONFIRMED : Sta Z Z.heap "com/example/holdfast/holdfast/Acquisition" "UNCONFIRMED" "Lcom/example/holdfast/holdfast/Acquisition;" (.ref a_UNCONFIRMED)) (E_UNASKED : Exa Z Z.heap a_UNASKED "com/example/holdfast/holdfast/Acquisition") (E_UNCONFIRMED : Exa Z Z.heap a_UNCONFIRMED "com/example/holdfast/holdfast/Acquisition") :
    MetFree l x (head1 (Jvm.Cond.code x code maxLocals ret :: ws) room_1) (fun ar' U => ar' = #[(.long p0), (.int p1), (.int p2), (.int p3)] ∧ Z.Warmed39 U.vm ∧ U.heap = h0 ∧ CHv Z consts_1 U.vm h0) (fun _ _ _ _ _ => True) (fun _ U o U' => ∃ v L, o = .returned v ∧ (QL n0) v U'.heap L ∧ CHr Z consts_1 U.vm U.heap U'.vm U'.heap ∧ ReturnedEndW U o U' L 24 1152) := by
  refine MetFree.of_bodySF (plainFor_of_name pn_com_example_holdfast_holdfast_AcquisitionRefusedPinLaw) hisR ?_
  intro p e s m args below meth c s₁ Bd hml0 hP hK
  obtain ⟨rfl, hZ, hh, hCH0⟩ := hP
  have hx := Bd.exec
  have hby := Bd.bytes
  have hlk := BodyLoose.notSynchronized Bd
  have hml : c.maxLocals = 13 := hml0
  have hown : s.vm.findClass "com/example/holdfast/holdfast/AcquisitionRefusedPinLaw" = some m.cls := findClass_of_methodNamed Bd.named
  have hnm := (name_of_methodNamed Bd.named Bd.method).1
  have X0 : Stand p l e room_1 (s.setVm s.vm) m #[(.long p0), (.int p1), (.int p2), (.int p3)] below meth c s₁ [] 0 0 := Stand.of_body Bd
  have e0 : s₁.heap = h0 := by rw [← hh, Bd.state]; rfl
  have N0 := Fr.nil n0
  have Z0 : n0 ≤ h0.size := O0.1 ▸ O0.2.1
  have hEL : EW Z a0 consts_1 := own_EW hw
  have wS := own_wS hw
  have es : s.heap = h0 := hh
  have hS : s.Since s.vm h0.size := (State.WarmedH.refl s).since _
  have hk : h0.size ≤ h0.size := Nat.le_refl _
  have CR : CHr Z consts_1 s.vm h0 s.vm h0 := CHr.refl hCH0
  show OEndsW p e below s Z consts_1 24 1152 (QL n0) (s₁.setTop (entryFrame m #[(.long p0), (.int p1), (.int p2), (.int p3)] maxLocals))
  refine OEndsW.via (fun _ k => castTop (show entryFrame m #[(.long p0), (.int p1), (.int p2), (.int p3)] maxLocals = (mkF m 0 #[.val (.long p0), .second, .val (.int p1), .val (.int p2), .val (.int p3), .unset, .unset, .unset, .unset, .unset, .unset, .unset, .unset] []) by first | (simp [entryFrame, mkF, argsToLocals, Value.category, maxLocals]; done) | rfl) k) ?_
  have hws : ∀ d ∈ StrChars.Road.words, d.before a0 Z = true := fun d hd => hw d ((by decide +kernel : ∀ d ∈ StrChars.Road.words, d ∈ tables_1) d hd)
  have Od := O0
  show OEndsW p e below s _ _ _ _ _ (s₁.setTop (mkF m 0 #[.val (.long p0), .second, .val (.int p1), .val (.int p2), .val (.int p3), .unset, .unset, .unset, .unset, .unset, .unset, .unset, .unset] []))
  refine OEndsW.via (fun _ k => XS.iloadN X0.here hx rfl (hb hby at_0) rfl k) ?_
  show OEndsW p e below s _ _ _ _ _ (s₁.setTop (mkF m 1 #[.val (.long p0), .second, .val (.int p1), .val (.int p2), .val (.int p3), .unset, .unset, .unset, .unset, .unset, .unset, .unset, .unset] [(.int p1)]))
  refine OEndsW.via (fun _ k => XS.iconst X0.here hx rfl (hb hby at_1) k) ?_
  show OEndsW p e below s _ _ _ _ _ (s₁.setTop (mkF m 2 #[.val (.long p0), .second, .val (.int p1), .val (.int p2), .val (.int p3), .unset, .unset, .unset, .unset, .unset, .unset, .unset, .unset] [(.int (1 : Int32)), (.int p1)]))
  refine OEndsW.via (fun _ k => XS.iand X0.here hx rfl (hb hby at_2) rfl k) ?_
  show OEndsW p e below s _ _ _ _ _ (s₁.setTop (mkF m 3 #[.val (.long p0), .second, .val (.int p1), .val (.int p2), .val (.int p3), .unset, .unset, .unset, .unset, .unset, .unset, .unset, .unset] [(.int (p1 &&& (1 : Int32)))]))
  have J1 : ∀ (ask : Int64), OEndsW p e below s Z consts_1 24 1152 (QL n0) (s₁.setTop (mkF m 31 #[.val (.long p0), .second, .val (.int p1), .val (.int p2), .val (.int p3), .val (.long ask), .second, .unset, .unset, .unset, .unset, .unset, .unset] [])) := by
    intro ask
    refine OEndsW.via (fun _ k => XS.iloadN X0.here hx rfl (hb hby at_31) rfl k) ?_
    show OEndsW p e below s _ _ _ _ _ (s₁.setTop (mkF m 32 #[.val (.long p0), .second, .val (.int p1), .val (.int p2), .val (.int p3), .val (.long ask), .second, .unset, .unset, .unset, .unset, .unset, .unset] [(.int p2)]))
    refine OEndsW.via (fun _ k => XS.sipush X0.here hx rfl (hb hby at_32) k) ?_
    show OEndsW p e below s _ _ _ _ _ (s₁.setTop (mkF m 35 #[.val (.long p0), .second, .val (.int p1), .val (.int p2), .val (.int p3), .val (.long ask), .second, .unset, .unset, .unset, .unset, .unset, .unset] [(.int (255 : Int32)), (.int p2)]))
    refine OEndsW.via (fun _ k => XS.iand X0.here hx rfl (hb hby at_35) rfl k) ?_
    show OEndsW p e below s _ _ _ _ _ (s₁.setTop (mkF m 36 #[.val (.long p0), .second, .val (.int p1), .val (.int p2), .val (.int p3), .val (.long ask), .second, .unset, .unset, .unset, .unset, .unset, .unset] [(.int (p2 &&& (255 : Int32)))]))
    refine OEndsW.via (fun _ k => XS.i2c X0.here hx rfl (hb hby at_36) rfl k) ?_
    show OEndsW p e below s _ _ _ _ _ (s₁.setTop (mkF m 37 #[.val (.long p0), .second, .val (.int p1), .val (.int p2), .val (.int p3), .val (.long ask), .second, .unset, .unset, .unset, .unset, .unset, .unset] [(.int ((p2 &&& (255 : Int32)).toUInt32.toUInt16.toUInt32.toInt32))]))
    refine OEndsW.via (fun _ k => XS.istore X0.here hx rfl (hb hby at_37) rfl (l' := #[.val (.long p0), .second, .val (.int p1), .val (.int p2), .val (.int p3), .val (.long ask), .second, .val (.int ((p2 &&& (255 : Int32)).toUInt32.toUInt16.toUInt32.toInt32)), .unset, .unset, .unset, .unset, .unset]) rfl k) ?_
    show OEndsW p e below s _ _ _ _ _ (s₁.setTop (mkF m 39 #[.val (.long p0), .second, .val (.int p1), .val (.int p2), .val (.int p3), .val (.long ask), .second, .val (.int ((p2 &&& (255 : Int32)).toUInt32.toUInt16.toUInt32.toInt32)), .unset, .unset, .unset, .unset, .unset] []))
    refine OEndsW.via (fun _ k => XS.iload X0.here hx rfl (hb hby at_39) rfl k) ?_
    show OEndsW p e below s _ _ _ _ _ (s₁.setTop (mkF m 41 #[.val (.long p0), .second, .val (.int p1), .val (.int p2), .val (.int p3), .val (.long ask), .second, .val (.int ((p2 &&& (255 : Int32)).toUInt32.toUInt16.toUInt32.toInt32)), .unset, .unset, .unset, .unset, .unset] [(.int p3)]))
    refine OEndsW.via (fun _ k => XS.sipush X0.here hx rfl (hb hby at_41) k) ?_
    show OEndsW p e below s _ _ _ _ _ (s₁.setTop (mkF m 44 #[.val (.long p0), .second, .val (.int p1), .val (.int p2), .val (.int p3), .val (.long ask), .second, .val (.int ((p2 &&& (255 : Int32)).toUInt32.toUInt16.toUInt32.toInt32)), .unset, .unset, .unset, .unset, .unset] [(.int (255 : Int32)), (.int p3)]))
    refine OEndsW.via (fun _ k => XS.iand X0.here hx rfl (hb hby at_44) rfl k) ?_
    show OEndsW p e below s _ _ _ _ _ (s₁.setTop (mkF m 45 #[.val (.long p0), .second, .val (.int p1), .val (.int p2), .val (.int p3), .val (.long ask), .second, .val (.int ((p2 &&& (255 : Int32)).toUInt32.toUInt16.toUInt32.toInt32)), .unset, .unset, .unset, .unset, .unset] [(.int (p3 &&& (255 : Int32)))]))
    refine OEndsW.via (fun _ k => XS.i2c X0.here hx rfl (hb hby at_45) rfl k) ?_
    show OEndsW p e below s _ _ _ _ _ (s₁.setTop (mkF m 46 #[.val (.long p0), .second, .val (.int p1), .val (.int p2), .val (.int p3), .val (.long ask), .second, .val (.int ((p2 &&& (255 : Int32)).toUInt32.toUInt16.toUInt32.toInt32)), .unset, .unset, .unset, .unset, .unset] [(.int ((p3 &&& (255 : Int32)).toUInt32.toUInt16.toUInt32.toInt32))]))
    refine OEndsW.via (fun _ k => XS.istore X0.here hx rfl (hb hby at_46) rfl (l' := #[.val (.long p0), .second, .val (.int p1), .val (.int p2), .val (.int p3), .val (.long ask), .second, .val (.int ((p2 &&& (255 : Int32)).toUInt32.toUInt16.toUInt32.toInt32)), .val (.int ((p3 &&& (255 : Int32)).toUInt32.toUInt16.toUInt32.toInt32)), .unset, .unset, .unset, .unset]) rfl k) ?_
    show OEndsW p e below s _ _ _ _ _ (s₁.setTop (mkF m 48 #[.val (.long p0), .second, .val (.int p1), .val (.int p2), .val (.int p3), .val (.long ask), .second, .val (.int ((p2 &&& (255 : Int32)).toUInt32.toUInt16.toUInt32.toInt32)), .val (.int ((p3 &&& (255 : Int32)).toUInt32.toUInt16.toUInt32.toInt32)), .unset, .unset, .unset, .unset] []))
    have hc0 := own_and255 p2
    generalize ((p2 &&& (255 : Int32)).toUInt32.toUInt16.toUInt32.toInt32) = c0 at hc0 ⊢
    have hc1 := own_and255 p3
    generalize ((p3 &&& (255 : Int32)).toUInt32.toUInt16.toUInt32.toInt32) = c1 at hc1 ⊢
    show OEndsW p e below s _ _ _ _ _ (s₁.setTop (mkF m 48 #[.val (.long p0), .second, .val (.int p1), .val (.int p2), .val (.int p3), .val (.long ask), .second, .val (.int c0), .val (.int c1), .unset, .unset, .unset, .unset] []))
    refine OEndsW.via (fun _ k => XS.iloadN X0.here hx rfl (hb hby at_48) rfl k) ?_
    show OEndsW p e below s _ _ _ _ _ (s₁.setTop (mkF m 49 #[.val (.long p0), .second, .val (.int p1), .val (.int p2), .val (.int p3), .val (.long ask), .second, .val (.int c0), .val (.int c1), .unset, .unset, .unset, .unset] [(.int p1)]))
    refine OEndsW.via (fun _ k => XS.iconst X0.here hx rfl (hb hby at_49) k) ?_
    show OEndsW p e below s _ _ _ _ _ (s₁.setTop (mkF m 50 #[.val (.long p0), .second, .val (.int p1), .val (.int p2), .val (.int p3), .val (.long ask), .second, .val (.int c0), .val (.int c1), .unset, .unset, .unset, .unset] [(.int (2 : Int32)), (.int p1)]))
    refine OEndsW.via (fun _ k => XS.iand X0.here hx rfl (hb hby at_50) rfl k) ?_
    show OEndsW p e below s _ _ _ _ _ (s₁.setTop (mkF m 51 #[.val (.long p0), .second, .val (.int p1), .val (.int p2), .val (.int p3), .val (.long ask), .second, .val (.int c0), .val (.int c1), .unset, .unset, .unset, .unset] [(.int (p1 &&& (2 : Int32)))]))
    by_cases hc51_1 : (p1 &&& (2 : Int32)) = (0 : Int32)
    · skip
      refine OEndsW.via (fun _ k => XS.ifYes X0.here hx rfl (pc0 := 51) (pc' := 60) rfl (hb hby at_51) rfl ((if0 _ _).trans (teq hc51_1).1) (by decide) (by decide) k) ?_
      show OEndsW p e below s _ _ _ _ _ (s₁.setTop (mkF m 60 #[.val (.long p0), .second, .val (.int p1), .val (.int p2), .val (.int p3), .val (.long ask), .second, .val (.int c0), .val (.int c1), .unset, .unset, .unset, .unset] []))
      refine OEndsW.via (fun _ k => XS.iloadN X0.here hx rfl (hb hby at_60) rfl k) ?_
      show OEndsW p e below s _ _ _ _ _ (s₁.setTop (mkF m 61 #[.val (.long p0), .second, .val (.int p1), .val (.int p2), .val (.int p3), .val (.long ask), .second, .val (.int c0), .val (.int c1), .unset, .unset, .unset, .unset] [(.int p1)]))
      refine OEndsW.via (fun _ k => XS.iconst X0.here hx rfl (hb hby at_61) k) ?_
      show OEndsW p e below s _ _ _ _ _ (s₁.setTop (mkF m 62 #[.val (.long p0), .second, .val (.int p1), .val (.int p2), .val (.int p3), .val (.long ask), .second, .val (.int c0), .val (.int c1), .unset, .unset, .unset, .unset] [(.int (2 : Int32)), (.int p1)]))
      refine OEndsW.via (fun _ k => XS.iushr X0.here hx rfl (hb hby at_62) rfl k) ?_
      show OEndsW p e below s _ _ _ _ _ (s₁.setTop (mkF m 63 #[.val (.long p0), .second, .val (.int p1), .val (.int p2), .val (.int p3), .val (.long ask), .second, .val (.int c0), .val (.int c1), .unset, .unset, .unset, .unset] [(.int ((p1.toUInt32 >>> ((2 : Int32) &&& 31).toUInt32).toInt32))]))
      refine OEndsW.via (fun _ k => XS.iconst X0.here hx rfl (hb hby at_63) k) ?_
      show OEndsW p e below s _ _ _ _ _ (s₁.setTop (mkF m 64 #[.val (.long p0), .second, .val (.int p1), .val (.int p2), .val (.int p3), .val (.long ask), .second, .val (.int c0), .val (.int c1), .unset, .unset, .unset, .unset] [(.int (3 : Int32)), (.int ((p1.toUInt32 >>> ((2 : Int32) &&& 31).toUInt32).toInt32))]))
      refine OEndsW.via (fun _ k => XS.iand X0.here hx rfl (hb hby at_64) rfl k) ?_
      show OEndsW p e below s _ _ _ _ _ (s₁.setTop (mkF m 65 #[.val (.long p0), .second, .val (.int p1), .val (.int p2), .val (.int p3), .val (.long ask), .second, .val (.int c0), .val (.int c1), .unset, .unset, .unset, .unset] [(.int (((p1.toUInt32 >>> ((2 : Int32) &&& 31).toUInt32).toInt32) &&& (3 : Int32)))]))
      refine OEndsW.via (fun _ k => XS.istore X0.here hx rfl (hb hby at_65) rfl (l' := #[.val (.long p0), .second, .val (.int p1), .val (.int p2), .val (.int p3), .val (.long ask), .second, .val (.int c0), .val (.int c1), .unset, .val (.int (((p1.toUInt32 >>> ((2 : Int32) &&& 31).toUInt32).toInt32) &&& (3 : Int32))), .unset, .unset]) rfl k) ?_
      show OEndsW p e below s _ _ _ _ _ (s₁.setTop (mkF m 67 #[.val (.long p0), .second, .val (.int p1), .val (.int p2), .val (.int p3), .val (.long ask), .second, .val (.int c0), .val (.int c1), .unset, .val (.int (((p1.toUInt32 >>> ((2 : Int32) &&& 31).toUInt32).toInt32) &&& (3 : Int32))), .unset, .unset] []))
      refine OEndsW.via (fun _ k => XS.iload X0.here hx rfl (hb hby at_67) rfl k) ?_
      show OEndsW p e below s _ _ _ _ _ (s₁.setTop (mkF m 69 #[.val (.long p0), .second, .val (.int p1), .val (.int p2), .val (.int p3), .val (.long ask), .second, .val (.int c0), .val (.int c1), .unset, .val (.int (((p1.toUInt32 >>> ((2 : Int32) &&& 31).toUInt32).toInt32) &&& (3 : Int32))), .unset, .unset] [(.int (((p1.toUInt32 >>> ((2 : Int32) &&& 31).toUInt32).toInt32) &&& (3 : Int32)))]))
      by_cases hc69_2 : (((p1.toUInt32 >>> ((2 : Int32) &&& 31).toUInt32).toInt32) &&& (3 : Int32)) = (0 : Int32)
      · skip
        refine OEndsW.via (fun _ k => XS.ifNo X0.here hx rfl (hb hby at_69) rfl ((if0 _ _).trans (teq hc69_2).2) k) ?_
        show OEndsW p e below s _ _ _ _ _ (s₁.setTop (mkF m 72 #[.val (.long p0), .second, .val (.int p1), .val (.int p2), .val (.int p3), .val (.long ask), .second, .val (.int c0), .val (.int c1), .unset, .val (.int (((p1.toUInt32 >>> ((2 : Int32) &&& 31).toUInt32).toInt32) &&& (3 : Int32))), .unset, .unset] []))
        obtain ⟨T4, h4, X4, e4, E4, A4, D4, -, st4⟩ := newO X0 hx hZ hown (hw _ (List.mem_of_getElem? (i := 66) rfl)) (hw _ (List.mem_of_getElem? (i := 67) rfl)) (hw _ (List.mem_of_getElem? (i := 68) rfl)) e0 (g := (mkF m 72 #[.val (.long p0), .second, .val (.int p1), .val (.int p2), .val (.int p3), .val (.long ask), .second, .val (.int c0), .val (.int c1), .unset, .val (.int (((p1.toUInt32 >>> ((2 : Int32) &&& 31).toUInt32).toInt32) &&& (3 : Int32))), .unset, .unset] [])) rfl (hb hby at_72) (by decide) (by decide)
        obtain ⟨b4, g4⟩ : ∃ z, z = h0.size := ⟨_, rfl⟩
        have ge_b4 : n0 ≤ b4 := Nat.le_trans (Od.1 ▸ Od.2.1) (Nat.le_of_eq g4.symm)
        have sf_b4 : Safe Z consts_1 _ h0 b4 := Safe.new (EL := consts_1) (vm := s.vm) (Nat.le_of_eq g4.symm)
        rw [← g4] at A4 D4 st4
        replace hk := Nat.le_trans hk E4.1
        replace Od := Od.ext E4
        replace sf_b4 := Safe.ext E4 CR.1 sf_b4
        replace CR := CR.trans (CHr.ext E4 CR.1)
        have E_b4 : Exa Z h4 b4 "java/lang/String" := A4
        have F_coder_b4 : Fld Z h4 b4 "java/lang/String" "coder" "B" (.int (0 : Int32)) := D4 (Or.inr (hw _ (List.mem_of_getElem? (i := 91) rfl))) (ty := .byte) (by decide)
        have F_value_b4 : Fld Z h4 b4 "java/lang/String" "value" "[B" .null := D4 (Or.inr (hw _ (List.mem_of_getElem? (i := 93) rfl))) (ty := (.array .byte)) (by decide)
        refine OEndsW.via (fun _ k => st4 _ k) ?_
        show OEndsW p e below s _ _ _ _ _ (T4.setTop (mkF m 75 #[.val (.long p0), .second, .val (.int p1), .val (.int p2), .val (.int p3), .val (.long ask), .second, .val (.int c0), .val (.int c1), .unset, .val (.int (((p1.toUInt32 >>> ((2 : Int32) &&& 31).toUInt32).toInt32) &&& (3 : Int32))), .unset, .unset] [(.ref b4)]))
        refine OEndsW.via (fun _ k => XS.dup X4.here hx rfl (hb hby at_75) rfl rfl k) ?_
        show OEndsW p e below s _ _ _ _ _ (T4.setTop (mkF m 76 #[.val (.long p0), .second, .val (.int p1), .val (.int p2), .val (.int p3), .val (.long ask), .second, .val (.int c0), .val (.int c1), .unset, .val (.int (((p1.toUInt32 >>> ((2 : Int32) &&& 31).toUInt32).toInt32) &&& (3 : Int32))), .unset, .unset] [(.ref b4), (.ref b4)]))
        refine OEndsW.via (fun _ k => XS.iconst X4.here hx rfl (hb hby at_76) k) ?_
        show OEndsW p e below s _ _ _ _ _ (T4.setTop (mkF m 77 #[.val (.long p0), .second, .val (.int p1), .val (.int p2), .val (.int p3), .val (.long ask), .second, .val (.int c0), .val (.int c1), .unset, .val (.int (((p1.toUInt32 >>> ((2 : Int32) &&& 31).toUInt32).toInt32) &&& (3 : Int32))), .unset, .unset] [(.int (0 : Int32)), (.ref b4), (.ref b4)]))
        obtain ⟨T5, h5, k5, X5, e5, E5, A5, st5⟩ := newP X4 hx hZ (hw _ (List.mem_of_getElem? (i := 69) rfl)) e4 (g := (mkF m 77 #[.val (.long p0), .second, .val (.int p1), .val (.int p2), .val (.int p3), .val (.long ask), .second, .val (.int c0), .val (.int c1), .unset, .val (.int (((p1.toUInt32 >>> ((2 : Int32) &&& 31).toUInt32).toInt32) &&& (3 : Int32))), .unset, .unset] [(.int (0 : Int32)), (.ref b4), (.ref b4)])) rfl (hb hby at_77) rfl (by decide) (cap := 0) (by decide) (by decide) (by decide) (by decide)
        obtain ⟨b5, g5⟩ : ∃ z, z = h4.size := ⟨_, rfl⟩
        have ne_b4_b5 : b4 ≠ b5 := Nat.ne_of_lt (Nat.lt_of_lt_of_le E_b4.lt (Nat.le_of_eq g5.symm))
        have ge_b5 : n0 ≤ b5 := Nat.le_trans (Od.1 ▸ Od.2.1) (Nat.le_of_eq g5.symm)
        have sf_b5 : Safe Z consts_1 _ h4 b5 := Safe.new (EL := consts_1) (vm := s.vm) (Nat.le_of_eq g5.symm)
        rw [← g5] at A5 st5
        replace hk := Nat.le_trans hk E5.1
        replace Od := Od.ext E5
        replace sf_b4 := Safe.ext E5 CR.1 sf_b4
        replace E_b4 := Exa.ext E5 E_b4
        replace F_coder_b4 := Fld.ext E5 F_coder_b4
        replace F_value_b4 := Fld.ext E5 F_value_b4
        replace sf_b5 := Safe.ext E5 CR.1 sf_b5
        replace CR := CR.trans (CHr.ext E5 CR.1)
        have V_b5 : Arv Z h5 b5 k5 .char (0 : Int32) [] (.int (0 : Int32)) := (Arv.new A5 (by decide)).pad (pad_rep [] (.int (0 : Int32)) 0)
        refine OEndsW.via (fun _ k => st5 _ k) ?_
        show OEndsW p e below s _ _ _ _ _ (T5.setTop (mkF m 79 #[.val (.long p0), .second, .val (.int p1), .val (.int p2), .val (.int p3), .val (.long ask), .second, .val (.int c0), .val (.int c1), .unset, .val (.int (((p1.toUInt32 >>> ((2 : Int32) &&& 31).toUInt32).toInt32) &&& (3 : Int32))), .unset, .unset] [(.ref b5), (.ref b4), (.ref b4)]))
        obtain ⟨_, _, ⟨T6, L6, k6, n6⟩, -, X6, S6, G6, ⟨Lc6, hQ6, l6, y6, z6, CH6⟩, st6⟩ := X5.specialBackS hx (y := (⟨"java/lang/String", "<init>", "([C)V"⟩ : MethodName)) rfl hown (mvT hZ (hw _ (List.mem_of_getElem? (i := 70) rfl))) (mvT hZ (hw _ (List.mem_of_getElem? (i := 71) rfl))) (mvT hZ (hw _ (List.mem_of_getElem? (i := 72) rfl))) (by decide) (backOfSH (W := 1) (rmE1 l Z a0 hw [] b4 b5 k5 (.int (0 : Int32)) h5 n0 Od F_value_b4 F_coder_b4 E_b4 ge_b4 V_b5) hZ (hw _ (List.mem_of_getElem? (i := 72) rfl)) (hw _ (List.mem_of_getElem? (i := 68) rfl)) (by decide) (by decide) hEL CR.1) (g := (mkF m 79 #[.val (.long p0), .second, .val (.int p1), .val (.int p2), .val (.int p3), .val (.long ask), .second, .val (.int c0), .val (.int c1), .unset, .val (.int (((p1.toUInt32 >>> ((2 : Int32) &&& 31).toUInt32).toInt32) &&& (3 : Int32))), .unset, .unset] [(.ref b5), (.ref b4), (.ref b4)])) rfl (by rw [hml]; rfl) (Steps.refl _) (a := b4) (argsL := [(.ref b5)]) (rest := [(.ref b4)]) (lenOf pd_285bC29V rfl) rfl (by show 2 * 0 + _ ≤ _; exact Nat.le_of_eq rfl) (hb hby at_79) (fun _ _ => ⟨rfl, e5, Nat.le_of_ble_eq_true rfl, Nat.le_of_ble_eq_true rfl⟩)
        dsimp only [Pt.U, Pt.locs, Pt.cells, Pt.slots] at X6 S6 G6 l6 y6 z6 st6 hQ6 CH6
        subst l6 y6 z6
        replace sf_b4 := CH6.safe E_b4.lt sf_b4
        replace sf_b5 := CH6.safe V_b5.lt sf_b5
        obtain ⟨X6, hS, hZ, hown⟩ := rebS hS (by rw [e5]; exact hk) X6 S6 G6 hZ hown
        replace CR := CR.trans CH6
        replace hk := Nat.le_refl T6.heap.size
        obtain ⟨rfl, N6q, K6, O6⟩ := hQ6
        have N6 := Fr.app N0 N6q
        replace Od := Od.keep K6 (allS ge_b4 all0)
        replace E_b4 := E_b4.keep K6
        replace V_b5 := V_b5.keep K6 (ninS (Ne.symm ne_b4_b5) nin0)
        obtain ⟨t_b4, kb_b4, cd_b4, nn_b4, vs_b4, E_b4, V_b4, C_b4, K_b4, hcd_b4⟩ := O6
        refine OEndsW.via (fun _ k => st6.trans k) ?_
        show OEndsW p e below s _ _ _ _ _ (T6.setTop (mkF m 82 #[.val (.long p0), .second, .val (.int p1), .val (.int p2), .val (.int p3), .val (.long ask), .second, .val (.int c0), .val (.int c1), .unset, .val (.int (((p1.toUInt32 >>> ((2 : Int32) &&& 31).toUInt32).toInt32) &&& (3 : Int32))), .unset, .unset] [(.ref b4)]))
        refine OEndsW.via (fun _ k => XS.astore X6.here hx rfl (hb hby at_82) rfl rfl (l' := #[.val (.long p0), .second, .val (.int p1), .val (.int p2), .val (.int p3), .val (.long ask), .second, .val (.int c0), .val (.int c1), .val (.ref b4), .val (.int (((p1.toUInt32 >>> ((2 : Int32) &&& 31).toUInt32).toInt32) &&& (3 : Int32))), .unset, .unset]) rfl k) ?_
        show OEndsW p e below s _ _ _ _ _ (T6.setTop (mkF m 84 #[.val (.long p0), .second, .val (.int p1), .val (.int p2), .val (.int p3), .val (.long ask), .second, .val (.int c0), .val (.int c1), .val (.ref b4), .val (.int (((p1.toUInt32 >>> ((2 : Int32) &&& 31).toUInt32).toInt32) &&& (3 : Int32))), .unset, .unset] []))
        refine OEndsW.via (fun _ k => XS.goto X6.here hx rfl (pc0 := 84) (pc' := 125) rfl (hb hby at_84) (by decide) (by decide) k) ?_
        show OEndsW p e below s _ _ _ _ _ (T6.setTop (mkF m 125 #[.val (.long p0), .second, .val (.int p1), .val (.int p2), .val (.int p3), .val (.long ask), .second, .val (.int c0), .val (.int c1), .val (.ref b4), .val (.int (((p1.toUInt32 >>> ((2 : Int32) &&& 31).toUInt32).toInt32) &&& (3 : Int32))), .unset, .unset] []))
        refine OEndsW.via (fun _ k => XS.lload X6.here hx rfl (hb hby at_125) rfl k) ?_
        show OEndsW p e below s _ _ _ _ _ (T6.setTop (mkF m 127 #[.val (.long p0), .second, .val (.int p1), .val (.int p2), .val (.int p3), .val (.long ask), .second, .val (.int c0), .val (.int c1), .val (.ref b4), .val (.int (((p1.toUInt32 >>> ((2 : Int32) &&& 31).toUInt32).toInt32) &&& (3 : Int32))), .unset, .unset] [(.long ask)]))
        refine OEndsW.via (fun _ k => XS.aload X6.here hx rfl (hb hby at_127) rfl rfl k) ?_
        show OEndsW p e below s _ _ _ _ _ (T6.setTop (mkF m 129 #[.val (.long p0), .second, .val (.int p1), .val (.int p2), .val (.int p3), .val (.long ask), .second, .val (.int c0), .val (.int c1), .val (.ref b4), .val (.int (((p1.toUInt32 >>> ((2 : Int32) &&& 31).toUInt32).toInt32) &&& (3 : Int32))), .unset, .unset] [(.ref b4), (.long ask)]))
        obtain ⟨_, _, ⟨T7, L7, k7, n7⟩, -, X7, ⟨Lc7, hQ7, l7, y7, z7⟩, st7⟩ := Jvm.LawKit.callS X6 hx (y := (⟨"com/example/holdfast/holdfast/Acquisition", "refused", "(JLjava/lang/String;)Lcom/example/holdfast/holdfast/Acquisition;"⟩ : MethodName)) hown (mvT hZ (hw _ (List.mem_of_getElem? (i := 1) rfl))) (mvT hZ (hw _ (List.mem_of_getElem? (i := 2) rfl))) (mvT hZ (hw _ (List.mem_of_getElem? (i := 3) rfl))) (mvT hZ (hw _ (List.mem_of_getElem? (i := 4) rfl))) (by decide) (backOf (W := 0) (rmT l Z a0 hw [] ask (.ref b4) T6.heap n0 Od rfl) hZ (hw _ (List.mem_of_getElem? (i := 4) rfl)) (hw _ (List.mem_of_getElem? (i := 3) rfl)) (by decide) (by decide)) (g := (mkF m 129 #[.val (.long p0), .second, .val (.int p1), .val (.int p2), .val (.int p3), .val (.long ask), .second, .val (.int c0), .val (.int c1), .val (.ref b4), .val (.int (((p1.toUInt32 >>> ((2 : Int32) &&& 31).toUInt32).toInt32) &&& (3 : Int32))), .unset, .unset] [(.ref b4), (.long ask)])) rfl (by rw [hml]; rfl) (argsL := [(.long ask), (.ref b4)]) (rest := []) (lenOf pd_28JLjava2flang2fString3b29Lcom2fexample2fholdfast2fholdfast2fAcquisition3b rfl) rfl (by show 2 * 0 + _ ≤ _; exact Nat.le_of_eq rfl) (hb hby at_129) (fun _ _ => ⟨rfl, rfl, Nat.le_of_ble_eq_true rfl, Nat.le_of_ble_eq_true rfl⟩)
        dsimp only [Pt.U, Pt.locs, Pt.cells, Pt.slots] at X7 l7 y7 z7 st7 hQ7
        subst l7 y7 z7
        obtain ⟨b7, rfl, N7q, K7, ge7, sz7, E_b, G_token, G_askAgainMillis, G_keptBy, G_unreached⟩ := hQ7
        have N7 := Fr.app N6 N7q
        have sfk7 : ∀ x ∈ ([] : List Addr), Safe Z consts_1 T6.vm T6.heap x := all0
        replace hk := Nat.le_trans hk K7.1
        replace Od := Od.keep K7 all0
        replace sf_b4 := Safe.keep K7 sfk7 CR.1 sf_b4
        replace E_b4 := E_b4.keep K7
        replace sf_b5 := Safe.keep K7 sfk7 CR.1 sf_b5
        replace V_b5 := V_b5.keep K7 nin0
        replace V_b4 := V_b4.keep K7 nin0
        replace C_b4 := C_b4.keep K7 nin0
        replace K_b4 := K_b4.keep K7 nin0
        replace CR := CR.trans (CHr.keep K7 sfk7 CR.1)
        have ne_UNASKED : b7 ≠ a_UNASKED := Ne.symm (O0.ne E_UNASKED.lt ge7)
        have ne_UNCONFIRMED : b7 ≠ a_UNCONFIRMED := Ne.symm (O0.ne E_UNCONFIRMED.lt ge7)
        refine OEndsW.via (fun _ k => st7 _ k) ?_
        show OEndsW p e below s _ _ _ _ _ (T7.setTop (mkF m 132 #[.val (.long p0), .second, .val (.int p1), .val (.int p2), .val (.int p3), .val (.long ask), .second, .val (.int c0), .val (.int c1), .val (.ref b4), .val (.int (((p1.toUInt32 >>> ((2 : Int32) &&& 31).toUInt32).toInt32) &&& (3 : Int32))), .unset, .unset] [(.ref b7)]))
        refine OEndsW.via (fun _ k => XS.astore X7.here hx rfl (hb hby at_132) rfl rfl (l' := #[.val (.long p0), .second, .val (.int p1), .val (.int p2), .val (.int p3), .val (.long ask), .second, .val (.int c0), .val (.int c1), .val (.ref b4), .val (.ref b7), .unset, .unset]) rfl k) ?_
        show OEndsW p e below s _ _ _ _ _ (T7.setTop (mkF m 134 #[.val (.long p0), .second, .val (.int p1), .val (.int p2), .val (.int p3), .val (.long ask), .second, .val (.int c0), .val (.int c1), .val (.ref b4), .val (.ref b7), .unset, .unset] []))
        refine OEndsW.via (fun _ k => XS.aload X7.here hx rfl (hb hby at_134) rfl rfl k) ?_
        show OEndsW p e below s _ _ _ _ _ (T7.setTop (mkF m 136 #[.val (.long p0), .second, .val (.int p1), .val (.int p2), .val (.int p3), .val (.long ask), .second, .val (.int c0), .val (.int c1), .val (.ref b4), .val (.ref b7), .unset, .unset] [(.ref b7)]))
        obtain ⟨cq8, kq8, q8a, q8b, q8c⟩ := isOf hZ rfl E_b
        obtain ⟨_, _, ⟨T8, L8, k8, n8⟩, -, X8, ⟨Lc8, hQ8, l8, y8, z8⟩, st8⟩ := X7.virtualBack hx (y := (⟨"com/example/holdfast/holdfast/Acquisition", "keptBy", "()Ljava/lang/String;"⟩ : MethodName)) (z := (⟨"com/example/holdfast/holdfast/Acquisition", "keptBy", "()Ljava/lang/String;"⟩ : MethodName)) hown (mvT hZ (hw _ (List.mem_of_getElem? (i := 21) rfl))) (mvT hZ (hw _ (List.mem_of_getElem? (i := 22) rfl))) (notFace_of_selects (args := #[]) (mvT hZ (hw _ (List.mem_of_getElem? (i := 24) rfl)))) (mvT hZ (hw _ (List.mem_of_getElem? (i := 24) rfl))) (mvT hZ (hw _ (List.mem_of_getElem? (i := 23) rfl))) (by decide) (backOf (W := 0) (rm_keptBy l Z a0 hw [] b7 (.ref b4) T7.heap n0 Od G_keptBy rfl) hZ (hw _ (List.mem_of_getElem? (i := 25) rfl)) (hw _ (List.mem_of_getElem? (i := 3) rfl)) (by decide) (by decide)) q8a q8c (g := (mkF m 136 #[.val (.long p0), .second, .val (.int p1), .val (.int p2), .val (.int p3), .val (.long ask), .second, .val (.int c0), .val (.int c1), .val (.ref b4), .val (.ref b7), .unset, .unset] [(.ref b7)])) rfl (by rw [hml]; rfl) (Steps.refl _) (argsL := []) (rest := []) (lenOf pd_2829Ljava2flang2fString3b rfl) rfl (by show 2 * 0 + _ ≤ _; exact Nat.le_of_eq rfl) (hb hby at_136) (fun _ _ => ⟨rfl, rfl, Nat.le_of_ble_eq_true rfl, Nat.le_of_ble_eq_true rfl⟩)
        dsimp only [Pt.U, Pt.locs, Pt.cells, Pt.slots] at X8 l8 y8 z8 st8 hQ8
        subst l8 y8 z8
        obtain ⟨rfl, N8q, e8⟩ := hQ8
        have N8 := Fr.app N7 N8q
        refine OEndsW.via (fun _ k => st8.trans k) ?_
        show OEndsW p e below s _ _ _ _ _ (T8.setTop (mkF m 139 #[.val (.long p0), .second, .val (.int p1), .val (.int p2), .val (.int p3), .val (.long ask), .second, .val (.int c0), .val (.int c1), .val (.ref b4), .val (.ref b7), .unset, .unset] [(.ref b4)]))
        refine OEndsW.via (fun _ k => XS.astore X8.here hx rfl (hb hby at_139) rfl rfl (l' := #[.val (.long p0), .second, .val (.int p1), .val (.int p2), .val (.int p3), .val (.long ask), .second, .val (.int c0), .val (.int c1), .val (.ref b4), .val (.ref b7), .val (.ref b4), .unset]) rfl k) ?_
        show OEndsW p e below s _ _ _ _ _ (T8.setTop (mkF m 141 #[.val (.long p0), .second, .val (.int p1), .val (.int p2), .val (.int p3), .val (.long ask), .second, .val (.int c0), .val (.int c1), .val (.ref b4), .val (.ref b7), .val (.ref b4), .unset] []))
        refine OEndsW.via (fun _ k => XS.aload X8.here hx rfl (hb hby at_141) rfl rfl k) ?_
        show OEndsW p e below s _ _ _ _ _ (T8.setTop (mkF m 143 #[.val (.long p0), .second, .val (.int p1), .val (.int p2), .val (.int p3), .val (.long ask), .second, .val (.int c0), .val (.int c1), .val (.ref b4), .val (.ref b7), .val (.ref b4), .unset] [(.ref b4)]))
        refine OEndsW.via (fun _ k => XS.ifnonnullYes X8.here hx rfl (pc0 := 143) (pc' := 161) rfl (hb hby at_143) rfl (by decide) (by decide) k) ?_
        show OEndsW p e below s _ _ _ _ _ (T8.setTop (mkF m 161 #[.val (.long p0), .second, .val (.int p1), .val (.int p2), .val (.int p3), .val (.long ask), .second, .val (.int c0), .val (.int c1), .val (.ref b4), .val (.ref b7), .val (.ref b4), .unset] []))
        refine OEndsW.via (fun _ k => XS.aload X8.here hx rfl (hb hby at_161) rfl rfl k) ?_
        show OEndsW p e below s _ _ _ _ _ (T8.setTop (mkF m 163 #[.val (.long p0), .second, .val (.int p1), .val (.int p2), .val (.int p3), .val (.long ask), .second, .val (.int c0), .val (.int c1), .val (.ref b4), .val (.ref b7), .val (.ref b4), .unset] [(.ref b4)]))
        refine OEndsW.via (fun _ k => XS.ifnullNo X8.here hx rfl (hb hby at_163) rfl k) ?_
        show OEndsW p e below s _ _ _ _ _ (T8.setTop (mkF m 166 #[.val (.long p0), .second, .val (.int p1), .val (.int p2), .val (.int p3), .val (.long ask), .second, .val (.int c0), .val (.int c1), .val (.ref b4), .val (.ref b7), .val (.ref b4), .unset] []))
        refine OEndsW.via (fun _ k => XS.aload X8.here hx rfl (hb hby at_166) rfl rfl k) ?_
        show OEndsW p e below s _ _ _ _ _ (T8.setTop (mkF m 168 #[.val (.long p0), .second, .val (.int p1), .val (.int p2), .val (.int p3), .val (.long ask), .second, .val (.int c0), .val (.int c1), .val (.ref b4), .val (.ref b7), .val (.ref b4), .unset] [(.ref b4)]))
        refine OEndsW.via (fun _ k => XS.aload X8.here hx rfl (hb hby at_168) rfl rfl k) ?_
        show OEndsW p e below s _ _ _ _ _ (T8.setTop (mkF m 170 #[.val (.long p0), .second, .val (.int p1), .val (.int p2), .val (.int p3), .val (.long ask), .second, .val (.int c0), .val (.int c1), .val (.ref b4), .val (.ref b7), .val (.ref b4), .unset] [(.ref b4), (.ref b4)]))
        obtain ⟨cq9, kq9, q9a, q9b, q9c⟩ := isOf hZ e8 E_b4
        obtain ⟨_, _, ⟨T9, L9, k9, n9⟩, -, X9, ⟨Lc9, hQ9, l9, y9, z9⟩, st9⟩ := X8.virtualBack hx (y := (⟨"java/lang/String", "equals", "(Ljava/lang/Object;)Z"⟩ : MethodName)) (z := (⟨"java/lang/String", "equals", "(Ljava/lang/Object;)Z"⟩ : MethodName)) hown (mvT hZ (hw _ (List.mem_of_getElem? (i := 94) rfl))) (mvT hZ (hw _ (List.mem_of_getElem? (i := 95) rfl))) (notFace_of_selects (args := #[]) (mvT hZ (hw _ (List.mem_of_getElem? (i := 97) rfl)))) (mvT hZ (hw _ (List.mem_of_getElem? (i := 97) rfl))) (mvT hZ (hw _ (List.mem_of_getElem? (i := 96) rfl))) (by decide) (backOf (W := 0) (rmSelf l Z a0 hw [] b4 T7.heap n0 Od ) hZ (hw _ (List.mem_of_getElem? (i := 98) rfl)) (hw _ (List.mem_of_getElem? (i := 68) rfl)) (by decide) (by decide)) q9a q9c (g := (mkF m 170 #[.val (.long p0), .second, .val (.int p1), .val (.int p2), .val (.int p3), .val (.long ask), .second, .val (.int c0), .val (.int c1), .val (.ref b4), .val (.ref b7), .val (.ref b4), .unset] [(.ref b4), (.ref b4)])) rfl (by rw [hml]; rfl) (Steps.refl _) (argsL := [(.ref b4)]) (rest := []) (lenOf pd_28Ljava2flang2fObject3b29Z rfl) rfl (by show 2 * 0 + _ ≤ _; exact Nat.le_of_eq rfl) (hb hby at_170) (fun _ _ => ⟨rfl, e8, Nat.le_of_ble_eq_true rfl, Nat.le_of_ble_eq_true rfl⟩)
        dsimp only [Pt.U, Pt.locs, Pt.cells, Pt.slots] at X9 l9 y9 z9 st9 hQ9
        subst l9 y9 z9
        obtain ⟨rfl, N9q, e9⟩ := hQ9
        have N9 := Fr.app N8 N9q
        refine OEndsW.via (fun _ k => st9.trans k) ?_
        show OEndsW p e below s _ _ _ _ _ (T9.setTop (mkF m 173 #[.val (.long p0), .second, .val (.int p1), .val (.int p2), .val (.int p3), .val (.long ask), .second, .val (.int c0), .val (.int c1), .val (.ref b4), .val (.ref b7), .val (.ref b4), .unset] [(.int (1 : Int32))]))
        refine OEndsW.via (fun _ k => XS.ifNo X9.here hx rfl (hb hby at_173) rfl ((if0 _ _).trans (feq (by decide : ¬ ((1 : Int32) = (0 : Int32)))).1) k) ?_
        show OEndsW p e below s _ _ _ _ _ (T9.setTop (mkF m 176 #[.val (.long p0), .second, .val (.int p1), .val (.int p2), .val (.int p3), .val (.long ask), .second, .val (.int c0), .val (.int c1), .val (.ref b4), .val (.ref b7), .val (.ref b4), .unset] []))
        refine OEndsW.via (fun _ k => XS.iconst X9.here hx rfl (hb hby at_176) k) ?_
        show OEndsW p e below s _ _ _ _ _ (T9.setTop (mkF m 177 #[.val (.long p0), .second, .val (.int p1), .val (.int p2), .val (.int p3), .val (.long ask), .second, .val (.int c0), .val (.int c1), .val (.ref b4), .val (.ref b7), .val (.ref b4), .unset] [(.int (1 : Int32))]))
        refine OEndsW.via (fun _ k => XS.goto X9.here hx rfl (pc0 := 177) (pc' := 181) rfl (hb hby at_177) (by decide) (by decide) k) ?_
        show OEndsW p e below s _ _ _ _ _ (T9.setTop (mkF m 181 #[.val (.long p0), .second, .val (.int p1), .val (.int p2), .val (.int p3), .val (.long ask), .second, .val (.int c0), .val (.int c1), .val (.ref b4), .val (.ref b7), .val (.ref b4), .unset] [(.int (1 : Int32))]))
        refine OEndsW.via (fun _ k => XS.istore X9.here hx rfl (hb hby at_181) rfl (l' := #[.val (.long p0), .second, .val (.int p1), .val (.int p2), .val (.int p3), .val (.long ask), .second, .val (.int c0), .val (.int c1), .val (.ref b4), .val (.ref b7), .val (.ref b4), .val (.int (1 : Int32))]) rfl k) ?_
        show OEndsW p e below s _ _ _ _ _ (T9.setTop (mkF m 183 #[.val (.long p0), .second, .val (.int p1), .val (.int p2), .val (.int p3), .val (.long ask), .second, .val (.int c0), .val (.int c1), .val (.ref b4), .val (.ref b7), .val (.ref b4), .val (.int (1 : Int32))] []))
        refine OEndsW.via (fun _ k => XS.aload X9.here hx rfl (hb hby at_183) rfl rfl k) ?_
        show OEndsW p e below s _ _ _ _ _ (T9.setTop (mkF m 185 #[.val (.long p0), .second, .val (.int p1), .val (.int p2), .val (.int p3), .val (.long ask), .second, .val (.int c0), .val (.int c1), .val (.ref b4), .val (.ref b7), .val (.ref b4), .val (.int (1 : Int32))] [(.ref b7)]))
        obtain ⟨cq10, kq10, q10a, q10b, q10c⟩ := isOf hZ e9 E_b
        obtain ⟨_, _, ⟨T10, L10, k10, n10⟩, -, X10, ⟨Lc10, hQ10, l10, y10, z10⟩, st10⟩ := X9.virtualBack hx (y := (⟨"com/example/holdfast/holdfast/Acquisition", "isTaken", "()Z"⟩ : MethodName)) (z := (⟨"com/example/holdfast/holdfast/Acquisition", "isTaken", "()Z"⟩ : MethodName)) hown (mvT hZ (hw _ (List.mem_of_getElem? (i := 26) rfl))) (mvT hZ (hw _ (List.mem_of_getElem? (i := 27) rfl))) (notFace_of_selects (args := #[]) (mvT hZ (hw _ (List.mem_of_getElem? (i := 29) rfl)))) (mvT hZ (hw _ (List.mem_of_getElem? (i := 29) rfl))) (mvT hZ (hw _ (List.mem_of_getElem? (i := 28) rfl))) (by decide) (backOf (W := 0) (rm_isTaken l Z a0 hw [] b7 T7.heap n0 Od G_token) hZ (hw _ (List.mem_of_getElem? (i := 30) rfl)) (hw _ (List.mem_of_getElem? (i := 3) rfl)) (by decide) (by decide)) q10a q10c (g := (mkF m 185 #[.val (.long p0), .second, .val (.int p1), .val (.int p2), .val (.int p3), .val (.long ask), .second, .val (.int c0), .val (.int c1), .val (.ref b4), .val (.ref b7), .val (.ref b4), .val (.int (1 : Int32))] [(.ref b7)])) rfl (by rw [hml]; rfl) (Steps.refl _) (argsL := []) (rest := []) (lenOf pd_2829Z rfl) rfl (by show 2 * 0 + _ ≤ _; exact Nat.le_of_eq rfl) (hb hby at_185) (fun _ _ => ⟨rfl, e9, Nat.le_of_ble_eq_true rfl, Nat.le_of_ble_eq_true rfl⟩)
        dsimp only [Pt.U, Pt.locs, Pt.cells, Pt.slots] at X10 l10 y10 z10 st10 hQ10
        subst l10 y10 z10
        obtain ⟨rfl, N10q, e10⟩ := hQ10
        have N10 := Fr.app N9 N10q
        refine OEndsW.via (fun _ k => st10.trans k) ?_
        show OEndsW p e below s _ _ _ _ _ (T10.setTop (mkF m 188 #[.val (.long p0), .second, .val (.int p1), .val (.int p2), .val (.int p3), .val (.long ask), .second, .val (.int c0), .val (.int c1), .val (.ref b4), .val (.ref b7), .val (.ref b4), .val (.int (1 : Int32))] [(.int (0 : Int32))]))
        refine OEndsW.via (fun _ k => XS.ifNo X10.here hx rfl (hb hby at_188) rfl ((if0 _ _).trans (teq (by decide : (0 : Int32) = (0 : Int32))).2) k) ?_
        show OEndsW p e below s _ _ _ _ _ (T10.setTop (mkF m 191 #[.val (.long p0), .second, .val (.int p1), .val (.int p2), .val (.int p3), .val (.long ask), .second, .val (.int c0), .val (.int c1), .val (.ref b4), .val (.ref b7), .val (.ref b4), .val (.int (1 : Int32))] []))
        refine OEndsW.via (fun _ k => XS.aload X10.here hx rfl (hb hby at_191) rfl rfl k) ?_
        show OEndsW p e below s _ _ _ _ _ (T10.setTop (mkF m 193 #[.val (.long p0), .second, .val (.int p1), .val (.int p2), .val (.int p3), .val (.long ask), .second, .val (.int c0), .val (.int c1), .val (.ref b4), .val (.ref b7), .val (.ref b4), .val (.int (1 : Int32))] [(.ref b7)]))
        obtain ⟨cq11, kq11, q11a, q11b, q11c⟩ := isOf hZ e10 E_b
        obtain ⟨_, _, ⟨T11, L11, k11, n11⟩, -, X11, ⟨Lc11, hQ11, l11, y11, z11⟩, st11⟩ := X10.virtualBack hx (y := (⟨"com/example/holdfast/holdfast/Acquisition", "token", "()J"⟩ : MethodName)) (z := (⟨"com/example/holdfast/holdfast/Acquisition", "token", "()J"⟩ : MethodName)) hown (mvT hZ (hw _ (List.mem_of_getElem? (i := 31) rfl))) (mvT hZ (hw _ (List.mem_of_getElem? (i := 32) rfl))) (notFace_of_selects (args := #[]) (mvT hZ (hw _ (List.mem_of_getElem? (i := 34) rfl)))) (mvT hZ (hw _ (List.mem_of_getElem? (i := 34) rfl))) (mvT hZ (hw _ (List.mem_of_getElem? (i := 33) rfl))) (by decide) (backOf (W := 0) (rm_token l Z a0 hw [] b7 (0 : Int64) T7.heap n0 Od G_token) hZ (hw _ (List.mem_of_getElem? (i := 35) rfl)) (hw _ (List.mem_of_getElem? (i := 3) rfl)) (by decide) (by decide)) q11a q11c (g := (mkF m 193 #[.val (.long p0), .second, .val (.int p1), .val (.int p2), .val (.int p3), .val (.long ask), .second, .val (.int c0), .val (.int c1), .val (.ref b4), .val (.ref b7), .val (.ref b4), .val (.int (1 : Int32))] [(.ref b7)])) rfl (by rw [hml]; rfl) (Steps.refl _) (argsL := []) (rest := []) (lenOf pd_2829J rfl) rfl (by show 2 * 0 + _ ≤ _; exact Nat.le_of_eq rfl) (hb hby at_193) (fun _ _ => ⟨rfl, e10, Nat.le_of_ble_eq_true rfl, Nat.le_of_ble_eq_true rfl⟩)
        dsimp only [Pt.U, Pt.locs, Pt.cells, Pt.slots] at X11 l11 y11 z11 st11 hQ11
        subst l11 y11 z11
        obtain ⟨rfl, N11q, e11⟩ := hQ11
        have N11 := Fr.app N10 N11q
        refine OEndsW.via (fun _ k => st11.trans k) ?_
        show OEndsW p e below s _ _ _ _ _ (T11.setTop (mkF m 196 #[.val (.long p0), .second, .val (.int p1), .val (.int p2), .val (.int p3), .val (.long ask), .second, .val (.int c0), .val (.int c1), .val (.ref b4), .val (.ref b7), .val (.ref b4), .val (.int (1 : Int32))] [(.long (0 : Int64))]))
        refine OEndsW.via (fun _ k => XS.lconst X11.here hx rfl (hb hby at_196) k) ?_
        show OEndsW p e below s _ _ _ _ _ (T11.setTop (mkF m 197 #[.val (.long p0), .second, .val (.int p1), .val (.int p2), .val (.int p3), .val (.long ask), .second, .val (.int c0), .val (.int c1), .val (.ref b4), .val (.ref b7), .val (.ref b4), .val (.int (1 : Int32))] [(.long (0 : Int64)), (.long (0 : Int64))]))
        refine OEndsW.via (fun _ k => XS.lcmp X11.here hx rfl (hb hby at_197) rfl k) ?_
        show OEndsW p e below s _ _ _ _ _ (T11.setTop (mkF m 198 #[.val (.long p0), .second, .val (.int p1), .val (.int p2), .val (.int p3), .val (.long ask), .second, .val (.int c0), .val (.int c1), .val (.ref b4), .val (.ref b7), .val (.ref b4), .val (.int (1 : Int32))] [(.int (lcmpW (0 : Int64) (0 : Int64)))]))
        refine OEndsW.via (fun _ k => XS.ifNo X11.here hx rfl (hb hby at_198) rfl ((if0 _ _).trans (teq (own_lc0 _)).2) k) ?_
        show OEndsW p e below s _ _ _ _ _ (T11.setTop (mkF m 201 #[.val (.long p0), .second, .val (.int p1), .val (.int p2), .val (.int p3), .val (.long ask), .second, .val (.int c0), .val (.int c1), .val (.ref b4), .val (.ref b7), .val (.ref b4), .val (.int (1 : Int32))] []))
        refine OEndsW.via (fun _ k => XS.aload X11.here hx rfl (hb hby at_201) rfl rfl k) ?_
        show OEndsW p e below s _ _ _ _ _ (T11.setTop (mkF m 203 #[.val (.long p0), .second, .val (.int p1), .val (.int p2), .val (.int p3), .val (.long ask), .second, .val (.int c0), .val (.int c1), .val (.ref b4), .val (.ref b7), .val (.ref b4), .val (.int (1 : Int32))] [(.ref b7)]))
        obtain ⟨cq12, kq12, q12a, q12b, q12c⟩ := isOf hZ e11 E_b
        obtain ⟨_, _, ⟨T12, L12, k12, n12⟩, -, X12, ⟨Lc12, hQ12, l12, y12, z12⟩, st12⟩ := X11.virtualBack hx (y := (⟨"com/example/holdfast/holdfast/Acquisition", "askAgainMillis", "()J"⟩ : MethodName)) (z := (⟨"com/example/holdfast/holdfast/Acquisition", "askAgainMillis", "()J"⟩ : MethodName)) hown (mvT hZ (hw _ (List.mem_of_getElem? (i := 36) rfl))) (mvT hZ (hw _ (List.mem_of_getElem? (i := 37) rfl))) (notFace_of_selects (args := #[]) (mvT hZ (hw _ (List.mem_of_getElem? (i := 39) rfl)))) (mvT hZ (hw _ (List.mem_of_getElem? (i := 39) rfl))) (mvT hZ (hw _ (List.mem_of_getElem? (i := 38) rfl))) (by decide) (backOf (W := 0) (rm_askAgainMillis l Z a0 hw [] b7 ask T7.heap n0 Od G_askAgainMillis) hZ (hw _ (List.mem_of_getElem? (i := 40) rfl)) (hw _ (List.mem_of_getElem? (i := 3) rfl)) (by decide) (by decide)) q12a q12c (g := (mkF m 203 #[.val (.long p0), .second, .val (.int p1), .val (.int p2), .val (.int p3), .val (.long ask), .second, .val (.int c0), .val (.int c1), .val (.ref b4), .val (.ref b7), .val (.ref b4), .val (.int (1 : Int32))] [(.ref b7)])) rfl (by rw [hml]; rfl) (Steps.refl _) (argsL := []) (rest := []) (lenOf pd_2829J rfl) rfl (by show 2 * 0 + _ ≤ _; exact Nat.le_of_eq rfl) (hb hby at_203) (fun _ _ => ⟨rfl, e11, Nat.le_of_ble_eq_true rfl, Nat.le_of_ble_eq_true rfl⟩)
        dsimp only [Pt.U, Pt.locs, Pt.cells, Pt.slots] at X12 l12 y12 z12 st12 hQ12
        subst l12 y12 z12
        obtain ⟨rfl, N12q, e12⟩ := hQ12
        have N12 := Fr.app N11 N12q
        refine OEndsW.via (fun _ k => st12.trans k) ?_
        show OEndsW p e below s _ _ _ _ _ (T12.setTop (mkF m 206 #[.val (.long p0), .second, .val (.int p1), .val (.int p2), .val (.int p3), .val (.long ask), .second, .val (.int c0), .val (.int c1), .val (.ref b4), .val (.ref b7), .val (.ref b4), .val (.int (1 : Int32))] [(.long ask)]))
        refine OEndsW.via (fun _ k => XS.lload X12.here hx rfl (hb hby at_206) rfl k) ?_
        show OEndsW p e below s _ _ _ _ _ (T12.setTop (mkF m 208 #[.val (.long p0), .second, .val (.int p1), .val (.int p2), .val (.int p3), .val (.long ask), .second, .val (.int c0), .val (.int c1), .val (.ref b4), .val (.ref b7), .val (.ref b4), .val (.int (1 : Int32))] [(.long ask), (.long ask)]))
        refine OEndsW.via (fun _ k => XS.lcmp X12.here hx rfl (hb hby at_208) rfl k) ?_
        show OEndsW p e below s _ _ _ _ _ (T12.setTop (mkF m 209 #[.val (.long p0), .second, .val (.int p1), .val (.int p2), .val (.int p3), .val (.long ask), .second, .val (.int c0), .val (.int c1), .val (.ref b4), .val (.ref b7), .val (.ref b4), .val (.int (1 : Int32))] [(.int (lcmpW ask ask))]))
        refine OEndsW.via (fun _ k => XS.ifNo X12.here hx rfl (hb hby at_209) rfl ((if0 _ _).trans (teq (own_lc0 _)).2) k) ?_
        show OEndsW p e below s _ _ _ _ _ (T12.setTop (mkF m 212 #[.val (.long p0), .second, .val (.int p1), .val (.int p2), .val (.int p3), .val (.long ask), .second, .val (.int c0), .val (.int c1), .val (.ref b4), .val (.ref b7), .val (.ref b4), .val (.int (1 : Int32))] []))
        refine OEndsW.via (fun _ k => XS.iload X12.here hx rfl (hb hby at_212) rfl k) ?_
        show OEndsW p e below s _ _ _ _ _ (T12.setTop (mkF m 214 #[.val (.long p0), .second, .val (.int p1), .val (.int p2), .val (.int p3), .val (.long ask), .second, .val (.int c0), .val (.int c1), .val (.ref b4), .val (.ref b7), .val (.ref b4), .val (.int (1 : Int32))] [(.int (1 : Int32))]))
        refine OEndsW.via (fun _ k => XS.ifNo X12.here hx rfl (hb hby at_214) rfl ((if0 _ _).trans (feq (by decide : ¬ ((1 : Int32) = (0 : Int32)))).1) k) ?_
        show OEndsW p e below s _ _ _ _ _ (T12.setTop (mkF m 217 #[.val (.long p0), .second, .val (.int p1), .val (.int p2), .val (.int p3), .val (.long ask), .second, .val (.int c0), .val (.int c1), .val (.ref b4), .val (.ref b7), .val (.ref b4), .val (.int (1 : Int32))] []))
        refine OEndsW.via (fun _ k => XS.aload X12.here hx rfl (hb hby at_217) rfl rfl k) ?_
        show OEndsW p e below s _ _ _ _ _ (T12.setTop (mkF m 219 #[.val (.long p0), .second, .val (.int p1), .val (.int p2), .val (.int p3), .val (.long ask), .second, .val (.int c0), .val (.int c1), .val (.ref b4), .val (.ref b7), .val (.ref b4), .val (.int (1 : Int32))] [(.ref b7)]))
        obtain ⟨cq13, kq13, q13a, q13b, q13c⟩ := isOf hZ e12 E_b
        obtain ⟨_, _, ⟨T13, L13, k13, n13⟩, -, X13, ⟨Lc13, hQ13, l13, y13, z13⟩, st13⟩ := X12.virtualBack hx (y := (⟨"com/example/holdfast/holdfast/Acquisition", "isUnasked", "()Z"⟩ : MethodName)) (z := (⟨"com/example/holdfast/holdfast/Acquisition", "isUnasked", "()Z"⟩ : MethodName)) hown (mvT hZ (hw _ (List.mem_of_getElem? (i := 41) rfl))) (mvT hZ (hw _ (List.mem_of_getElem? (i := 42) rfl))) (notFace_of_selects (args := #[]) (mvT hZ (hw _ (List.mem_of_getElem? (i := 44) rfl)))) (mvT hZ (hw _ (List.mem_of_getElem? (i := 44) rfl))) (mvT hZ (hw _ (List.mem_of_getElem? (i := 43) rfl))) (by decide) (backOf (W := 0) (rm_isUnasked l Z a0 hw [] b7 a_UNASKED T7.heap n0 Od S_UNASKED ne_UNASKED) hZ (hw _ (List.mem_of_getElem? (i := 45) rfl)) (hw _ (List.mem_of_getElem? (i := 3) rfl)) (by decide) (by decide)) q13a q13c (g := (mkF m 219 #[.val (.long p0), .second, .val (.int p1), .val (.int p2), .val (.int p3), .val (.long ask), .second, .val (.int c0), .val (.int c1), .val (.ref b4), .val (.ref b7), .val (.ref b4), .val (.int (1 : Int32))] [(.ref b7)])) rfl (by rw [hml]; rfl) (Steps.refl _) (argsL := []) (rest := []) (lenOf pd_2829Z rfl) rfl (by show 2 * 0 + _ ≤ _; exact Nat.le_of_eq rfl) (hb hby at_219) (fun _ _ => ⟨rfl, e12, Nat.le_of_ble_eq_true rfl, Nat.le_of_ble_eq_true rfl⟩)
        dsimp only [Pt.U, Pt.locs, Pt.cells, Pt.slots] at X13 l13 y13 z13 st13 hQ13
        subst l13 y13 z13
        obtain ⟨rfl, N13q, e13⟩ := hQ13
        have N13 := Fr.app N12 N13q
        refine OEndsW.via (fun _ k => st13.trans k) ?_
        show OEndsW p e below s _ _ _ _ _ (T13.setTop (mkF m 222 #[.val (.long p0), .second, .val (.int p1), .val (.int p2), .val (.int p3), .val (.long ask), .second, .val (.int c0), .val (.int c1), .val (.ref b4), .val (.ref b7), .val (.ref b4), .val (.int (1 : Int32))] [(.int (0 : Int32))]))
        refine OEndsW.via (fun _ k => XS.ifNo X13.here hx rfl (hb hby at_222) rfl ((if0 _ _).trans (teq (by decide : (0 : Int32) = (0 : Int32))).2) k) ?_
        show OEndsW p e below s _ _ _ _ _ (T13.setTop (mkF m 225 #[.val (.long p0), .second, .val (.int p1), .val (.int p2), .val (.int p3), .val (.long ask), .second, .val (.int c0), .val (.int c1), .val (.ref b4), .val (.ref b7), .val (.ref b4), .val (.int (1 : Int32))] []))
        refine OEndsW.via (fun _ k => XS.aload X13.here hx rfl (hb hby at_225) rfl rfl k) ?_
        show OEndsW p e below s _ _ _ _ _ (T13.setTop (mkF m 227 #[.val (.long p0), .second, .val (.int p1), .val (.int p2), .val (.int p3), .val (.long ask), .second, .val (.int c0), .val (.int c1), .val (.ref b4), .val (.ref b7), .val (.ref b4), .val (.int (1 : Int32))] [(.ref b7)]))
        obtain ⟨cq14, kq14, q14a, q14b, q14c⟩ := isOf hZ e13 E_b
        obtain ⟨_, _, ⟨T14, L14, k14, n14⟩, -, X14, ⟨Lc14, hQ14, l14, y14, z14⟩, st14⟩ := X13.virtualBack hx (y := (⟨"com/example/holdfast/holdfast/Acquisition", "isUnconfirmed", "()Z"⟩ : MethodName)) (z := (⟨"com/example/holdfast/holdfast/Acquisition", "isUnconfirmed", "()Z"⟩ : MethodName)) hown (mvT hZ (hw _ (List.mem_of_getElem? (i := 48) rfl))) (mvT hZ (hw _ (List.mem_of_getElem? (i := 49) rfl))) (notFace_of_selects (args := #[]) (mvT hZ (hw _ (List.mem_of_getElem? (i := 51) rfl)))) (mvT hZ (hw _ (List.mem_of_getElem? (i := 51) rfl))) (mvT hZ (hw _ (List.mem_of_getElem? (i := 50) rfl))) (by decide) (backOf (W := 0) (rm_isUnconfirmed l Z a0 hw [] b7 a_UNCONFIRMED T7.heap n0 Od S_UNCONFIRMED ne_UNCONFIRMED) hZ (hw _ (List.mem_of_getElem? (i := 52) rfl)) (hw _ (List.mem_of_getElem? (i := 3) rfl)) (by decide) (by decide)) q14a q14c (g := (mkF m 227 #[.val (.long p0), .second, .val (.int p1), .val (.int p2), .val (.int p3), .val (.long ask), .second, .val (.int c0), .val (.int c1), .val (.ref b4), .val (.ref b7), .val (.ref b4), .val (.int (1 : Int32))] [(.ref b7)])) rfl (by rw [hml]; rfl) (Steps.refl _) (argsL := []) (rest := []) (lenOf pd_2829Z rfl) rfl (by show 2 * 0 + _ ≤ _; exact Nat.le_of_eq rfl) (hb hby at_227) (fun _ _ => ⟨rfl, e13, Nat.le_of_ble_eq_true rfl, Nat.le_of_ble_eq_true rfl⟩)
        dsimp only [Pt.U, Pt.locs, Pt.cells, Pt.slots] at X14 l14 y14 z14 st14 hQ14
        subst l14 y14 z14
        obtain ⟨rfl, N14q, e14⟩ := hQ14
        have N14 := Fr.app N13 N14q
        refine OEndsW.via (fun _ k => st14.trans k) ?_
        show OEndsW p e below s _ _ _ _ _ (T14.setTop (mkF m 230 #[.val (.long p0), .second, .val (.int p1), .val (.int p2), .val (.int p3), .val (.long ask), .second, .val (.int c0), .val (.int c1), .val (.ref b4), .val (.ref b7), .val (.ref b4), .val (.int (1 : Int32))] [(.int (0 : Int32))]))
        refine OEndsW.via (fun _ k => XS.ifNo X14.here hx rfl (hb hby at_230) rfl ((if0 _ _).trans (teq (by decide : (0 : Int32) = (0 : Int32))).2) k) ?_
        show OEndsW p e below s _ _ _ _ _ (T14.setTop (mkF m 233 #[.val (.long p0), .second, .val (.int p1), .val (.int p2), .val (.int p3), .val (.long ask), .second, .val (.int c0), .val (.int c1), .val (.ref b4), .val (.ref b7), .val (.ref b4), .val (.int (1 : Int32))] []))
        refine OEndsW.via (fun _ k => XS.aload X14.here hx rfl (hb hby at_233) rfl rfl k) ?_
        show OEndsW p e below s _ _ _ _ _ (T14.setTop (mkF m 235 #[.val (.long p0), .second, .val (.int p1), .val (.int p2), .val (.int p3), .val (.long ask), .second, .val (.int c0), .val (.int c1), .val (.ref b4), .val (.ref b7), .val (.ref b4), .val (.int (1 : Int32))] [(.ref b7)]))
        obtain ⟨cq15, kq15, q15a, q15b, q15c⟩ := isOf hZ e14 E_b
        obtain ⟨_, _, ⟨T15, L15, k15, n15⟩, -, X15, ⟨Lc15, hQ15, l15, y15, z15⟩, st15⟩ := X14.virtualBack hx (y := (⟨"com/example/holdfast/holdfast/Acquisition", "isUnreached", "()Z"⟩ : MethodName)) (z := (⟨"com/example/holdfast/holdfast/Acquisition", "isUnreached", "()Z"⟩ : MethodName)) hown (mvT hZ (hw _ (List.mem_of_getElem? (i := 55) rfl))) (mvT hZ (hw _ (List.mem_of_getElem? (i := 56) rfl))) (notFace_of_selects (args := #[]) (mvT hZ (hw _ (List.mem_of_getElem? (i := 58) rfl)))) (mvT hZ (hw _ (List.mem_of_getElem? (i := 58) rfl))) (mvT hZ (hw _ (List.mem_of_getElem? (i := 57) rfl))) (by decide) (backOf (W := 0) (rm_isUnreached l Z a0 hw [] b7 T7.heap n0 Od G_unreached) hZ (hw _ (List.mem_of_getElem? (i := 59) rfl)) (hw _ (List.mem_of_getElem? (i := 3) rfl)) (by decide) (by decide)) q15a q15c (g := (mkF m 235 #[.val (.long p0), .second, .val (.int p1), .val (.int p2), .val (.int p3), .val (.long ask), .second, .val (.int c0), .val (.int c1), .val (.ref b4), .val (.ref b7), .val (.ref b4), .val (.int (1 : Int32))] [(.ref b7)])) rfl (by rw [hml]; rfl) (Steps.refl _) (argsL := []) (rest := []) (lenOf pd_2829Z rfl) rfl (by show 2 * 0 + _ ≤ _; exact Nat.le_of_eq rfl) (hb hby at_235) (fun _ _ => ⟨rfl, e14, Nat.le_of_ble_eq_true rfl, Nat.le_of_ble_eq_true rfl⟩)
        dsimp only [Pt.U, Pt.locs, Pt.cells, Pt.slots] at X15 l15 y15 z15 st15 hQ15
        subst l15 y15 z15
        obtain ⟨rfl, N15q, e15⟩ := hQ15
        have N15 := Fr.app N14 N15q
        refine OEndsW.via (fun _ k => st15.trans k) ?_
        show OEndsW p e below s _ _ _ _ _ (T15.setTop (mkF m 238 #[.val (.long p0), .second, .val (.int p1), .val (.int p2), .val (.int p3), .val (.long ask), .second, .val (.int c0), .val (.int c1), .val (.ref b4), .val (.ref b7), .val (.ref b4), .val (.int (1 : Int32))] [(.int (0 : Int32))]))
        refine OEndsW.via (fun _ k => XS.ifNo X15.here hx rfl (hb hby at_238) rfl ((if0 _ _).trans (teq (by decide : (0 : Int32) = (0 : Int32))).2) k) ?_
        show OEndsW p e below s _ _ _ _ _ (T15.setTop (mkF m 241 #[.val (.long p0), .second, .val (.int p1), .val (.int p2), .val (.int p3), .val (.long ask), .second, .val (.int c0), .val (.int c1), .val (.ref b4), .val (.ref b7), .val (.ref b4), .val (.int (1 : Int32))] []))
        refine OEndsW.via (fun _ k => XS.aload X15.here hx rfl (hb hby at_241) rfl rfl k) ?_
        show OEndsW p e below s _ _ _ _ _ (T15.setTop (mkF m 243 #[.val (.long p0), .second, .val (.int p1), .val (.int p2), .val (.int p3), .val (.long ask), .second, .val (.int c0), .val (.int c1), .val (.ref b4), .val (.ref b7), .val (.ref b4), .val (.int (1 : Int32))] [(.ref b7)]))
        obtain ⟨cq16, kq16, q16a, q16b, q16c⟩ := isOf hZ e15 E_b
        obtain ⟨_, _, ⟨T16, L16, k16, n16⟩, -, X16, ⟨Lc16, hQ16, l16, y16, z16⟩, st16⟩ := X15.virtualBack hx (y := (⟨"com/example/holdfast/holdfast/Acquisition", "unreachedBy", "()Lcom/example/holdfast/holdfast/HoldfastException;"⟩ : MethodName)) (z := (⟨"com/example/holdfast/holdfast/Acquisition", "unreachedBy", "()Lcom/example/holdfast/holdfast/HoldfastException;"⟩ : MethodName)) hown (mvT hZ (hw _ (List.mem_of_getElem? (i := 60) rfl))) (mvT hZ (hw _ (List.mem_of_getElem? (i := 61) rfl))) (notFace_of_selects (args := #[]) (mvT hZ (hw _ (List.mem_of_getElem? (i := 63) rfl)))) (mvT hZ (hw _ (List.mem_of_getElem? (i := 63) rfl))) (mvT hZ (hw _ (List.mem_of_getElem? (i := 62) rfl))) (by decide) (backOf (W := 0) (rm_unreachedBy l Z a0 hw [] b7 T7.heap n0 Od G_unreached) hZ (hw _ (List.mem_of_getElem? (i := 64) rfl)) (hw _ (List.mem_of_getElem? (i := 3) rfl)) (by decide) (by decide)) q16a q16c (g := (mkF m 243 #[.val (.long p0), .second, .val (.int p1), .val (.int p2), .val (.int p3), .val (.long ask), .second, .val (.int c0), .val (.int c1), .val (.ref b4), .val (.ref b7), .val (.ref b4), .val (.int (1 : Int32))] [(.ref b7)])) rfl (by rw [hml]; rfl) (Steps.refl _) (argsL := []) (rest := []) (lenOf pd_2829Lcom2fexample2fholdfast2fholdfast2fHoldfastException3b rfl) rfl (by show 2 * 0 + _ ≤ _; exact Nat.le_of_eq rfl) (hb hby at_243) (fun _ _ => ⟨rfl, e15, Nat.le_of_ble_eq_true rfl, Nat.le_of_ble_eq_true rfl⟩)
        dsimp only [Pt.U, Pt.locs, Pt.cells, Pt.slots] at X16 l16 y16 z16 st16 hQ16
        subst l16 y16 z16
        obtain ⟨rfl, N16q, e16⟩ := hQ16
        have N16 := Fr.app N15 N16q
        refine OEndsW.via (fun _ k => st16.trans k) ?_
        show OEndsW p e below s _ _ _ _ _ (T16.setTop (mkF m 246 #[.val (.long p0), .second, .val (.int p1), .val (.int p2), .val (.int p3), .val (.long ask), .second, .val (.int c0), .val (.int c1), .val (.ref b4), .val (.ref b7), .val (.ref b4), .val (.int (1 : Int32))] [.null]))
        refine OEndsW.via (fun _ k => XS.ifnonnullNo X16.here hx rfl (hb hby at_246) rfl k) ?_
        show OEndsW p e below s _ _ _ _ _ (T16.setTop (mkF m 249 #[.val (.long p0), .second, .val (.int p1), .val (.int p2), .val (.int p3), .val (.long ask), .second, .val (.int c0), .val (.int c1), .val (.ref b4), .val (.ref b7), .val (.ref b4), .val (.int (1 : Int32))] []))
        refine OEndsW.via (fun _ k => XS.iconst X16.here hx rfl (hb hby at_249) k) ?_
        show OEndsW p e below s _ _ _ _ _ (T16.setTop (mkF m 250 #[.val (.long p0), .second, .val (.int p1), .val (.int p2), .val (.int p3), .val (.long ask), .second, .val (.int c0), .val (.int c1), .val (.ref b4), .val (.ref b7), .val (.ref b4), .val (.int (1 : Int32))] [(.int (1 : Int32))]))
        refine OEndsW.via (fun _ k => XS.goto X16.here hx rfl (pc0 := 250) (pc' := 254) rfl (hb hby at_250) (by decide) (by decide) k) ?_
        show OEndsW p e below s _ _ _ _ _ (T16.setTop (mkF m 254 #[.val (.long p0), .second, .val (.int p1), .val (.int p2), .val (.int p3), .val (.long ask), .second, .val (.int c0), .val (.int c1), .val (.ref b4), .val (.ref b7), .val (.ref b4), .val (.int (1 : Int32))] [(.int (1 : Int32))]))
        refine OEndsW.retN X16 hx hlk hS hk hZ hEL e16 es CR (t := .boolean) Bd.returns (by simp) (hb hby at_254) ?_ (by decide) (by decide)
        exact ⟨rfl, N16⟩
      · skip
        refine OEndsW.via (fun _ k => XS.ifYes X0.here hx rfl (pc0 := 69) (pc' := 87) rfl (hb hby at_69) rfl ((if0 _ _).trans (feq hc69_2).2) (by decide) (by decide) k) ?_
        show OEndsW p e below s _ _ _ _ _ (s₁.setTop (mkF m 87 #[.val (.long p0), .second, .val (.int p1), .val (.int p2), .val (.int p3), .val (.long ask), .second, .val (.int c0), .val (.int c1), .unset, .val (.int (((p1.toUInt32 >>> ((2 : Int32) &&& 31).toUInt32).toInt32) &&& (3 : Int32))), .unset, .unset] []))
        refine OEndsW.via (fun _ k => XS.iload X0.here hx rfl (hb hby at_87) rfl k) ?_
        show OEndsW p e below s _ _ _ _ _ (s₁.setTop (mkF m 89 #[.val (.long p0), .second, .val (.int p1), .val (.int p2), .val (.int p3), .val (.long ask), .second, .val (.int c0), .val (.int c1), .unset, .val (.int (((p1.toUInt32 >>> ((2 : Int32) &&& 31).toUInt32).toInt32) &&& (3 : Int32))), .unset, .unset] [(.int (((p1.toUInt32 >>> ((2 : Int32) &&& 31).toUInt32).toInt32) &&& (3 : Int32)))]))
        refine OEndsW.via (fun _ k => XS.iconst X0.here hx rfl (hb hby at_89) k) ?_
        show OEndsW p e below s _ _ _ _ _ (s₁.setTop (mkF m 90 #[.val (.long p0), .second, .val (.int p1), .val (.int p2), .val (.int p3), .val (.long ask), .second, .val (.int c0), .val (.int c1), .unset, .val (.int (((p1.toUInt32 >>> ((2 : Int32) &&& 31).toUInt32).toInt32) &&& (3 : Int32))), .unset, .unset] [(.int (1 : Int32)), (.int (((p1.toUInt32 >>> ((2 : Int32) &&& 31).toUInt32).toInt32) &&& (3 : Int32)))]))
        by_cases hc90_16 : (((p1.toUInt32 >>> ((2 : Int32) &&& 31).toUInt32).toInt32) &&& (3 : Int32)) = (1 : Int32)
        · skip
          refine OEndsW.via (fun _ k => XS.icmpNo X0.here hx rfl (hb hby at_90) rfl (teq hc90_16).2 k) ?_
          show OEndsW p e below s _ _ _ _ _ (s₁.setTop (mkF m 93 #[.val (.long p0), .second, .val (.int p1), .val (.int p2), .val (.int p3), .val (.long ask), .second, .val (.int c0), .val (.int c1), .unset, .val (.int (((p1.toUInt32 >>> ((2 : Int32) &&& 31).toUInt32).toInt32) &&& (3 : Int32))), .unset, .unset] []))
          refine OEndsW.via (fun _ k => XS.iload X0.here hx rfl (hb hby at_93) rfl k) ?_
          show OEndsW p e below s _ _ _ _ _ (s₁.setTop (mkF m 95 #[.val (.long p0), .second, .val (.int p1), .val (.int p2), .val (.int p3), .val (.long ask), .second, .val (.int c0), .val (.int c1), .unset, .val (.int (((p1.toUInt32 >>> ((2 : Int32) &&& 31).toUInt32).toInt32) &&& (3 : Int32))), .unset, .unset] [(.int c0)]))
          obtain ⟨_, _, ⟨T18, L18, k18, n18⟩, -, X18, ⟨Lc18, hQ18, l18, y18, z18⟩, st18⟩ := Jvm.LawKit.callS X0 hx (y := (⟨"java/lang/String", "valueOf", "(C)Ljava/lang/String;"⟩ : MethodName)) hown (mvT hZ (hw _ (List.mem_of_getElem? (i := 99) rfl))) (mvT hZ (hw _ (List.mem_of_getElem? (i := 100) rfl))) (mvT hZ (hw _ (List.mem_of_getElem? (i := 68) rfl))) (mvT hZ (hw _ (List.mem_of_getElem? (i := 101) rfl))) (by decide) (backOf (W := 0) (rmVO l Z a0 hw [] c0 G1 h0 n0 Od S_CS nz_CS hc0) hZ (hw _ (List.mem_of_getElem? (i := 101) rfl)) (hw _ (List.mem_of_getElem? (i := 68) rfl)) (by decide) (by decide)) (g := (mkF m 95 #[.val (.long p0), .second, .val (.int p1), .val (.int p2), .val (.int p3), .val (.long ask), .second, .val (.int c0), .val (.int c1), .unset, .val (.int (((p1.toUInt32 >>> ((2 : Int32) &&& 31).toUInt32).toInt32) &&& (3 : Int32))), .unset, .unset] [(.int c0)])) rfl (by rw [hml]; rfl) (argsL := [(.int c0)]) (rest := []) (lenOf pd_28C29Ljava2flang2fString3b rfl) rfl (by show 2 * 0 + _ ≤ _; exact Nat.le_of_eq rfl) (hb hby at_95) (fun _ _ => ⟨rfl, e0, Nat.le_of_ble_eq_true rfl, Nat.le_of_ble_eq_true rfl⟩)
          dsimp only [Pt.U, Pt.locs, Pt.cells, Pt.slots] at X18 l18 y18 z18 st18 hQ18
          subst l18 y18 z18
          obtain ⟨x18, rfl, N18q, K18, ge18, O18⟩ := hQ18
          have N18 := Fr.app N0 N18q
          have sfk18 : ∀ x ∈ ([] : List Addr), Safe Z consts_1 s.vm h0 x := all0
          replace hk := Nat.le_trans hk K18.1
          replace Od := Od.keep K18 all0
          replace CR := CR.trans (CHr.keep K18 sfk18 CR.1)
          obtain ⟨t_x18, kb_x18, cd_x18, nn_x18, vs_x18, E_x18, V_x18, C_x18, K_x18, hcd_x18⟩ := O18
          refine OEndsW.via (fun _ k => st18 _ k) ?_
          show OEndsW p e below s _ _ _ _ _ (T18.setTop (mkF m 98 #[.val (.long p0), .second, .val (.int p1), .val (.int p2), .val (.int p3), .val (.long ask), .second, .val (.int c0), .val (.int c1), .unset, .val (.int (((p1.toUInt32 >>> ((2 : Int32) &&& 31).toUInt32).toInt32) &&& (3 : Int32))), .unset, .unset] [(.ref x18)]))
          refine OEndsW.via (fun _ k => XS.astore X18.here hx rfl (hb hby at_98) rfl rfl (l' := #[.val (.long p0), .second, .val (.int p1), .val (.int p2), .val (.int p3), .val (.long ask), .second, .val (.int c0), .val (.int c1), .val (.ref x18), .val (.int (((p1.toUInt32 >>> ((2 : Int32) &&& 31).toUInt32).toInt32) &&& (3 : Int32))), .unset, .unset]) rfl k) ?_
          show OEndsW p e below s _ _ _ _ _ (T18.setTop (mkF m 100 #[.val (.long p0), .second, .val (.int p1), .val (.int p2), .val (.int p3), .val (.long ask), .second, .val (.int c0), .val (.int c1), .val (.ref x18), .val (.int (((p1.toUInt32 >>> ((2 : Int32) &&& 31).toUInt32).toInt32) &&& (3 : Int32))), .unset, .unset] []))
          refine OEndsW.via (fun _ k => XS.goto X18.here hx rfl (pc0 := 100) (pc' := 125) rfl (hb hby at_100) (by decide) (by decide) k) ?_
          show OEndsW p e below s _ _ _ _ _ (T18.setTop (mkF m 125 #[.val (.long p0), .second, .val (.int p1), .val (.int p2), .val (.int p3), .val (.long ask), .second, .val (.int c0), .val (.int c1), .val (.ref x18), .val (.int (((p1.toUInt32 >>> ((2 : Int32) &&& 31).toUInt32).toInt32) &&& (3 : Int32))), .unset, .unset] []))
          refine OEndsW.via (fun _ k => XS.lload X18.here hx rfl (hb hby at_125) rfl k) ?_
          show OEndsW p e below s _ _ _ _ _ (T18.setTop (mkF m 127 #[.val (.long p0), .second, .val (.int p1), .val (.int p2), .val (.int p3), .val (.long ask), .second, .val (.int c0), .val (.int c1), .val (.ref x18), .val (.int (((p1.toUInt32 >>> ((2 : Int32) &&& 31).toUInt32).toInt32) &&& (3 : Int32))), .unset, .unset] [(.long ask)]))
          refine OEndsW.via (fun _ k => XS.aload X18.here hx rfl (hb hby at_127) rfl rfl k) ?_
          show OEndsW p e below s _ _ _ _ _ (T18.setTop (mkF m 129 #[.val (.long p0), .second, .val (.int p1), .val (.int p2), .val (.int p3), .val (.long ask), .second, .val (.int c0), .val (.int c1), .val (.ref x18), .val (.int (((p1.toUInt32 >>> ((2 : Int32) &&& 31).toUInt32).toInt32) &&& (3 : Int32))), .unset, .unset] [(.ref x18), (.long ask)]))
          obtain ⟨_, _, ⟨T19, L19, k19, n19⟩, -, X19, ⟨Lc19, hQ19, l19, y19, z19⟩, st19⟩ := Jvm.LawKit.callS X18 hx (y := (⟨"com/example/holdfast/holdfast/Acquisition", "refused", "(JLjava/lang/String;)Lcom/example/holdfast/holdfast/Acquisition;"⟩ : MethodName)) hown (mvT hZ (hw _ (List.mem_of_getElem? (i := 1) rfl))) (mvT hZ (hw _ (List.mem_of_getElem? (i := 2) rfl))) (mvT hZ (hw _ (List.mem_of_getElem? (i := 3) rfl))) (mvT hZ (hw _ (List.mem_of_getElem? (i := 4) rfl))) (by decide) (backOf (W := 0) (rmT l Z a0 hw [] ask (.ref x18) T18.heap n0 Od rfl) hZ (hw _ (List.mem_of_getElem? (i := 4) rfl)) (hw _ (List.mem_of_getElem? (i := 3) rfl)) (by decide) (by decide)) (g := (mkF m 129 #[.val (.long p0), .second, .val (.int p1), .val (.int p2), .val (.int p3), .val (.long ask), .second, .val (.int c0), .val (.int c1), .val (.ref x18), .val (.int (((p1.toUInt32 >>> ((2 : Int32) &&& 31).toUInt32).toInt32) &&& (3 : Int32))), .unset, .unset] [(.ref x18), (.long ask)])) rfl (by rw [hml]; rfl) (argsL := [(.long ask), (.ref x18)]) (rest := []) (lenOf pd_28JLjava2flang2fString3b29Lcom2fexample2fholdfast2fholdfast2fAcquisition3b rfl) rfl (by show 2 * 0 + _ ≤ _; exact Nat.le_of_eq rfl) (hb hby at_129) (fun _ _ => ⟨rfl, rfl, Nat.le_of_ble_eq_true rfl, Nat.le_of_ble_eq_true rfl⟩)
          dsimp only [Pt.U, Pt.locs, Pt.cells, Pt.slots] at X19 l19 y19 z19 st19 hQ19
          subst l19 y19 z19
          obtain ⟨b19, rfl, N19q, K19, ge19, sz19, E_b, G_token, G_askAgainMillis, G_keptBy, G_unreached⟩ := hQ19
          have N19 := Fr.app N18 N19q
          have sfk19 : ∀ x ∈ ([] : List Addr), Safe Z consts_1 s.vm T18.heap x := all0
          replace hk := Nat.le_trans hk K19.1
          replace Od := Od.keep K19 all0
          replace E_x18 := E_x18.keep K19
          replace V_x18 := V_x18.keep K19 nin0
          replace C_x18 := C_x18.keep K19 nin0
          replace K_x18 := K_x18.keep K19 nin0
          replace CR := CR.trans (CHr.keep K19 sfk19 CR.1)
          have ne_UNASKED : b19 ≠ a_UNASKED := Ne.symm (O0.ne E_UNASKED.lt ge19)
          have ne_UNCONFIRMED : b19 ≠ a_UNCONFIRMED := Ne.symm (O0.ne E_UNCONFIRMED.lt ge19)
          refine OEndsW.via (fun _ k => st19 _ k) ?_
          show OEndsW p e below s _ _ _ _ _ (T19.setTop (mkF m 132 #[.val (.long p0), .second, .val (.int p1), .val (.int p2), .val (.int p3), .val (.long ask), .second, .val (.int c0), .val (.int c1), .val (.ref x18), .val (.int (((p1.toUInt32 >>> ((2 : Int32) &&& 31).toUInt32).toInt32) &&& (3 : Int32))), .unset, .unset] [(.ref b19)]))
          refine OEndsW.via (fun _ k => XS.astore X19.here hx rfl (hb hby at_132) rfl rfl (l' := #[.val (.long p0), .second, .val (.int p1), .val (.int p2), .val (.int p3), .val (.long ask), .second, .val (.int c0), .val (.int c1), .val (.ref x18), .val (.ref b19), .unset, .unset]) rfl k) ?_
          show OEndsW p e below s _ _ _ _ _ (T19.setTop (mkF m 134 #[.val (.long p0), .second, .val (.int p1), .val (.int p2), .val (.int p3), .val (.long ask), .second, .val (.int c0), .val (.int c1), .val (.ref x18), .val (.ref b19), .unset, .unset] []))
          refine OEndsW.via (fun _ k => XS.aload X19.here hx rfl (hb hby at_134) rfl rfl k) ?_
          show OEndsW p e below s _ _ _ _ _ (T19.setTop (mkF m 136 #[.val (.long p0), .second, .val (.int p1), .val (.int p2), .val (.int p3), .val (.long ask), .second, .val (.int c0), .val (.int c1), .val (.ref x18), .val (.ref b19), .unset, .unset] [(.ref b19)]))
          obtain ⟨cq20, kq20, q20a, q20b, q20c⟩ := isOf hZ rfl E_b
          obtain ⟨_, _, ⟨T20, L20, k20, n20⟩, -, X20, ⟨Lc20, hQ20, l20, y20, z20⟩, st20⟩ := X19.virtualBack hx (y := (⟨"com/example/holdfast/holdfast/Acquisition", "keptBy", "()Ljava/lang/String;"⟩ : MethodName)) (z := (⟨"com/example/holdfast/holdfast/Acquisition", "keptBy", "()Ljava/lang/String;"⟩ : MethodName)) hown (mvT hZ (hw _ (List.mem_of_getElem? (i := 21) rfl))) (mvT hZ (hw _ (List.mem_of_getElem? (i := 22) rfl))) (notFace_of_selects (args := #[]) (mvT hZ (hw _ (List.mem_of_getElem? (i := 24) rfl)))) (mvT hZ (hw _ (List.mem_of_getElem? (i := 24) rfl))) (mvT hZ (hw _ (List.mem_of_getElem? (i := 23) rfl))) (by decide) (backOf (W := 0) (rm_keptBy l Z a0 hw [] b19 (.ref x18) T19.heap n0 Od G_keptBy rfl) hZ (hw _ (List.mem_of_getElem? (i := 25) rfl)) (hw _ (List.mem_of_getElem? (i := 3) rfl)) (by decide) (by decide)) q20a q20c (g := (mkF m 136 #[.val (.long p0), .second, .val (.int p1), .val (.int p2), .val (.int p3), .val (.long ask), .second, .val (.int c0), .val (.int c1), .val (.ref x18), .val (.ref b19), .unset, .unset] [(.ref b19)])) rfl (by rw [hml]; rfl) (Steps.refl _) (argsL := []) (rest := []) (lenOf pd_2829Ljava2flang2fString3b rfl) rfl (by show 2 * 0 + _ ≤ _; exact Nat.le_of_eq rfl) (hb hby at_136) (fun _ _ => ⟨rfl, rfl, Nat.le_of_ble_eq_true rfl, Nat.le_of_ble_eq_true rfl⟩)
          dsimp only [Pt.U, Pt.locs, Pt.cells, Pt.slots] at X20 l20 y20 z20 st20 hQ20
          subst l20 y20 z20
          obtain ⟨rfl, N20q, e20⟩ := hQ20
          have N20 := Fr.app N19 N20q
          refine OEndsW.via (fun _ k => st20.trans k) ?_
          show OEndsW p e below s _ _ _ _ _ (T20.setTop (mkF m 139 #[.val (.long p0), .second, .val (.int p1), .val (.int p2), .val (.int p3), .val (.long ask), .second, .val (.int c0), .val (.int c1), .val (.ref x18), .val (.ref b19), .unset, .unset] [(.ref x18)]))
          refine OEndsW.via (fun _ k => XS.astore X20.here hx rfl (hb hby at_139) rfl rfl (l' := #[.val (.long p0), .second, .val (.int p1), .val (.int p2), .val (.int p3), .val (.long ask), .second, .val (.int c0), .val (.int c1), .val (.ref x18), .val (.ref b19), .val (.ref x18), .unset]) rfl k) ?_
          show OEndsW p e below s _ _ _ _ _ (T20.setTop (mkF m 141 #[.val (.long p0), .second, .val (.int p1), .val (.int p2), .val (.int p3), .val (.long ask), .second, .val (.int c0), .val (.int c1), .val (.ref x18), .val (.ref b19), .val (.ref x18), .unset] []))
          refine OEndsW.via (fun _ k => XS.aload X20.here hx rfl (hb hby at_141) rfl rfl k) ?_
          show OEndsW p e below s _ _ _ _ _ (T20.setTop (mkF m 143 #[.val (.long p0), .second, .val (.int p1), .val (.int p2), .val (.int p3), .val (.long ask), .second, .val (.int c0), .val (.int c1), .val (.ref x18), .val (.ref b19), .val (.ref x18), .unset] [(.ref x18)]))
          refine OEndsW.via (fun _ k => XS.ifnonnullYes X20.here hx rfl (pc0 := 143) (pc' := 161) rfl (hb hby at_143) rfl (by decide) (by decide) k) ?_
          show OEndsW p e below s _ _ _ _ _ (T20.setTop (mkF m 161 #[.val (.long p0), .second, .val (.int p1), .val (.int p2), .val (.int p3), .val (.long ask), .second, .val (.int c0), .val (.int c1), .val (.ref x18), .val (.ref b19), .val (.ref x18), .unset] []))
          refine OEndsW.via (fun _ k => XS.aload X20.here hx rfl (hb hby at_161) rfl rfl k) ?_
          show OEndsW p e below s _ _ _ _ _ (T20.setTop (mkF m 163 #[.val (.long p0), .second, .val (.int p1), .val (.int p2), .val (.int p3), .val (.long ask), .second, .val (.int c0), .val (.int c1), .val (.ref x18), .val (.ref b19), .val (.ref x18), .unset] [(.ref x18)]))
          refine OEndsW.via (fun _ k => XS.ifnullNo X20.here hx rfl (hb hby at_163) rfl k) ?_
          show OEndsW p e below s _ _ _ _ _ (T20.setTop (mkF m 166 #[.val (.long p0), .second, .val (.int p1), .val (.int p2), .val (.int p3), .val (.long ask), .second, .val (.int c0), .val (.int c1), .val (.ref x18), .val (.ref b19), .val (.ref x18), .unset] []))
          refine OEndsW.via (fun _ k => XS.aload X20.here hx rfl (hb hby at_166) rfl rfl k) ?_
          show OEndsW p e below s _ _ _ _ _ (T20.setTop (mkF m 168 #[.val (.long p0), .second, .val (.int p1), .val (.int p2), .val (.int p3), .val (.long ask), .second, .val (.int c0), .val (.int c1), .val (.ref x18), .val (.ref b19), .val (.ref x18), .unset] [(.ref x18)]))
          refine OEndsW.via (fun _ k => XS.aload X20.here hx rfl (hb hby at_168) rfl rfl k) ?_
          show OEndsW p e below s _ _ _ _ _ (T20.setTop (mkF m 170 #[.val (.long p0), .second, .val (.int p1), .val (.int p2), .val (.int p3), .val (.long ask), .second, .val (.int c0), .val (.int c1), .val (.ref x18), .val (.ref b19), .val (.ref x18), .unset] [(.ref x18), (.ref x18)]))
          obtain ⟨cq21, kq21, q21a, q21b, q21c⟩ := isOf hZ e20 E_x18
          obtain ⟨_, _, ⟨T21, L21, k21, n21⟩, -, X21, ⟨Lc21, hQ21, l21, y21, z21⟩, st21⟩ := X20.virtualBack hx (y := (⟨"java/lang/String", "equals", "(Ljava/lang/Object;)Z"⟩ : MethodName)) (z := (⟨"java/lang/String", "equals", "(Ljava/lang/Object;)Z"⟩ : MethodName)) hown (mvT hZ (hw _ (List.mem_of_getElem? (i := 94) rfl))) (mvT hZ (hw _ (List.mem_of_getElem? (i := 95) rfl))) (notFace_of_selects (args := #[]) (mvT hZ (hw _ (List.mem_of_getElem? (i := 97) rfl)))) (mvT hZ (hw _ (List.mem_of_getElem? (i := 97) rfl))) (mvT hZ (hw _ (List.mem_of_getElem? (i := 96) rfl))) (by decide) (backOf (W := 0) (rmSelf l Z a0 hw [] x18 T19.heap n0 Od ) hZ (hw _ (List.mem_of_getElem? (i := 98) rfl)) (hw _ (List.mem_of_getElem? (i := 68) rfl)) (by decide) (by decide)) q21a q21c (g := (mkF m 170 #[.val (.long p0), .second, .val (.int p1), .val (.int p2), .val (.int p3), .val (.long ask), .second, .val (.int c0), .val (.int c1), .val (.ref x18), .val (.ref b19), .val (.ref x18), .unset] [(.ref x18), (.ref x18)])) rfl (by rw [hml]; rfl) (Steps.refl _) (argsL := [(.ref x18)]) (rest := []) (lenOf pd_28Ljava2flang2fObject3b29Z rfl) rfl (by show 2 * 0 + _ ≤ _; exact Nat.le_of_eq rfl) (hb hby at_170) (fun _ _ => ⟨rfl, e20, Nat.le_of_ble_eq_true rfl, Nat.le_of_ble_eq_true rfl⟩)
          dsimp only [Pt.U, Pt.locs, Pt.cells, Pt.slots] at X21 l21 y21 z21 st21 hQ21
          subst l21 y21 z21
          obtain ⟨rfl, N21q, e21⟩ := hQ21
          have N21 := Fr.app N20 N21q
          refine OEndsW.via (fun _ k => st21.trans k) ?_
          show OEndsW p e below s _ _ _ _ _ (T21.setTop (mkF m 173 #[.val (.long p0), .second, .val (.int p1), .val (.int p2), .val (.int p3), .val (.long ask), .second, .val (.int c0), .val (.int c1), .val (.ref x18), .val (.ref b19), .val (.ref x18), .unset] [(.int (1 : Int32))]))
          refine OEndsW.via (fun _ k => XS.ifNo X21.here hx rfl (hb hby at_173) rfl ((if0 _ _).trans (feq (by decide : ¬ ((1 : Int32) = (0 : Int32)))).1) k) ?_
          show OEndsW p e below s _ _ _ _ _ (T21.setTop (mkF m 176 #[.val (.long p0), .second, .val (.int p1), .val (.int p2), .val (.int p3), .val (.long ask), .second, .val (.int c0), .val (.int c1), .val (.ref x18), .val (.ref b19), .val (.ref x18), .unset] []))
          refine OEndsW.via (fun _ k => XS.iconst X21.here hx rfl (hb hby at_176) k) ?_
          show OEndsW p e below s _ _ _ _ _ (T21.setTop (mkF m 177 #[.val (.long p0), .second, .val (.int p1), .val (.int p2), .val (.int p3), .val (.long ask), .second, .val (.int c0), .val (.int c1), .val (.ref x18), .val (.ref b19), .val (.ref x18), .unset] [(.int (1 : Int32))]))
          refine OEndsW.via (fun _ k => XS.goto X21.here hx rfl (pc0 := 177) (pc' := 181) rfl (hb hby at_177) (by decide) (by decide) k) ?_
          show OEndsW p e below s _ _ _ _ _ (T21.setTop (mkF m 181 #[.val (.long p0), .second, .val (.int p1), .val (.int p2), .val (.int p3), .val (.long ask), .second, .val (.int c0), .val (.int c1), .val (.ref x18), .val (.ref b19), .val (.ref x18), .unset] [(.int (1 : Int32))]))
          refine OEndsW.via (fun _ k => XS.istore X21.here hx rfl (hb hby at_181) rfl (l' := #[.val (.long p0), .second, .val (.int p1), .val (.int p2), .val (.int p3), .val (.long ask), .second, .val (.int c0), .val (.int c1), .val (.ref x18), .val (.ref b19), .val (.ref x18), .val (.int (1 : Int32))]) rfl k) ?_
          show OEndsW p e below s _ _ _ _ _ (T21.setTop (mkF m 183 #[.val (.long p0), .second, .val (.int p1), .val (.int p2), .val (.int p3), .val (.long ask), .second, .val (.int c0), .val (.int c1), .val (.ref x18), .val (.ref b19), .val (.ref x18), .val (.int (1 : Int32))] []))
          refine OEndsW.via (fun _ k => XS.aload X21.here hx rfl (hb hby at_183) rfl rfl k) ?_
          show OEndsW p e below s _ _ _ _ _ (T21.setTop (mkF m 185 #[.val (.long p0), .second, .val (.int p1), .val (.int p2), .val (.int p3), .val (.long ask), .second, .val (.int c0), .val (.int c1), .val (.ref x18), .val (.ref b19), .val (.ref x18), .val (.int (1 : Int32))] [(.ref b19)]))
          obtain ⟨cq22, kq22, q22a, q22b, q22c⟩ := isOf hZ e21 E_b
          obtain ⟨_, _, ⟨T22, L22, k22, n22⟩, -, X22, ⟨Lc22, hQ22, l22, y22, z22⟩, st22⟩ := X21.virtualBack hx (y := (⟨"com/example/holdfast/holdfast/Acquisition", "isTaken", "()Z"⟩ : MethodName)) (z := (⟨"com/example/holdfast/holdfast/Acquisition", "isTaken", "()Z"⟩ : MethodName)) hown (mvT hZ (hw _ (List.mem_of_getElem? (i := 26) rfl))) (mvT hZ (hw _ (List.mem_of_getElem? (i := 27) rfl))) (notFace_of_selects (args := #[]) (mvT hZ (hw _ (List.mem_of_getElem? (i := 29) rfl)))) (mvT hZ (hw _ (List.mem_of_getElem? (i := 29) rfl))) (mvT hZ (hw _ (List.mem_of_getElem? (i := 28) rfl))) (by decide) (backOf (W := 0) (rm_isTaken l Z a0 hw [] b19 T19.heap n0 Od G_token) hZ (hw _ (List.mem_of_getElem? (i := 30) rfl)) (hw _ (List.mem_of_getElem? (i := 3) rfl)) (by decide) (by decide)) q22a q22c (g := (mkF m 185 #[.val (.long p0), .second, .val (.int p1), .val (.int p2), .val (.int p3), .val (.long ask), .second, .val (.int c0), .val (.int c1), .val (.ref x18), .val (.ref b19), .val (.ref x18), .val (.int (1 : Int32))] [(.ref b19)])) rfl (by rw [hml]; rfl) (Steps.refl _) (argsL := []) (rest := []) (lenOf pd_2829Z rfl) rfl (by show 2 * 0 + _ ≤ _; exact Nat.le_of_eq rfl) (hb hby at_185) (fun _ _ => ⟨rfl, e21, Nat.le_of_ble_eq_true rfl, Nat.le_of_ble_eq_true rfl⟩)
          dsimp only [Pt.U, Pt.locs, Pt.cells, Pt.slots] at X22 l22 y22 z22 st22 hQ22
          subst l22 y22 z22
          obtain ⟨rfl, N22q, e22⟩ := hQ22
          have N22 := Fr.app N21 N22q
          refine OEndsW.via (fun _ k => st22.trans k) ?_
          show OEndsW p e below s _ _ _ _ _ (T22.setTop (mkF m 188 #[.val (.long p0), .second, .val (.int p1), .val (.int p2), .val (.int p3), .val (.long ask), .second, .val (.int c0), .val (.int c1), .val (.ref x18), .val (.ref b19), .val (.ref x18), .val (.int (1 : Int32))] [(.int (0 : Int32))]))
          refine OEndsW.via (fun _ k => XS.ifNo X22.here hx rfl (hb hby at_188) rfl ((if0 _ _).trans (teq (by decide : (0 : Int32) = (0 : Int32))).2) k) ?_
          show OEndsW p e below s _ _ _ _ _ (T22.setTop (mkF m 191 #[.val (.long p0), .second, .val (.int p1), .val (.int p2), .val (.int p3), .val (.long ask), .second, .val (.int c0), .val (.int c1), .val (.ref x18), .val (.ref b19), .val (.ref x18), .val (.int (1 : Int32))] []))
          refine OEndsW.via (fun _ k => XS.aload X22.here hx rfl (hb hby at_191) rfl rfl k) ?_
          show OEndsW p e below s _ _ _ _ _ (T22.setTop (mkF m 193 #[.val (.long p0), .second, .val (.int p1), .val (.int p2), .val (.int p3), .val (.long ask), .second, .val (.int c0), .val (.int c1), .val (.ref x18), .val (.ref b19), .val (.ref x18), .val (.int (1 : Int32))] [(.ref b19)]))
          obtain ⟨cq23, kq23, q23a, q23b, q23c⟩ := isOf hZ e22 E_b
          obtain ⟨_, _, ⟨T23, L23, k23, n23⟩, -, X23, ⟨Lc23, hQ23, l23, y23, z23⟩, st23⟩ := X22.virtualBack hx (y := (⟨"com/example/holdfast/holdfast/Acquisition", "token", "()J"⟩ : MethodName)) (z := (⟨"com/example/holdfast/holdfast/Acquisition", "token", "()J"⟩ : MethodName)) hown (mvT hZ (hw _ (List.mem_of_getElem? (i := 31) rfl))) (mvT hZ (hw _ (List.mem_of_getElem? (i := 32) rfl))) (notFace_of_selects (args := #[]) (mvT hZ (hw _ (List.mem_of_getElem? (i := 34) rfl)))) (mvT hZ (hw _ (List.mem_of_getElem? (i := 34) rfl))) (mvT hZ (hw _ (List.mem_of_getElem? (i := 33) rfl))) (by decide) (backOf (W := 0) (rm_token l Z a0 hw [] b19 (0 : Int64) T19.heap n0 Od G_token) hZ (hw _ (List.mem_of_getElem? (i := 35) rfl)) (hw _ (List.mem_of_getElem? (i := 3) rfl)) (by decide) (by decide)) q23a q23c (g := (mkF m 193 #[.val (.long p0), .second, .val (.int p1), .val (.int p2), .val (.int p3), .val (.long ask), .second, .val (.int c0), .val (.int c1), .val (.ref x18), .val (.ref b19), .val (.ref x18), .val (.int (1 : Int32))] [(.ref b19)])) rfl (by rw [hml]; rfl) (Steps.refl _) (argsL := []) (rest := []) (lenOf pd_2829J rfl) rfl (by show 2 * 0 + _ ≤ _; exact Nat.le_of_eq rfl) (hb hby at_193) (fun _ _ => ⟨rfl, e22, Nat.le_of_ble_eq_true rfl, Nat.le_of_ble_eq_true rfl⟩)
          dsimp only [Pt.U, Pt.locs, Pt.cells, Pt.slots] at X23 l23 y23 z23 st23 hQ23
          subst l23 y23 z23
          obtain ⟨rfl, N23q, e23⟩ := hQ23
          have N23 := Fr.app N22 N23q
          refine OEndsW.via (fun _ k => st23.trans k) ?_
          show OEndsW p e below s _ _ _ _ _ (T23.setTop (mkF m 196 #[.val (.long p0), .second, .val (.int p1), .val (.int p2), .val (.int p3), .val (.long ask), .second, .val (.int c0), .val (.int c1), .val (.ref x18), .val (.ref b19), .val (.ref x18), .val (.int (1 : Int32))] [(.long (0 : Int64))]))
          refine OEndsW.via (fun _ k => XS.lconst X23.here hx rfl (hb hby at_196) k) ?_
          show OEndsW p e below s _ _ _ _ _ (T23.setTop (mkF m 197 #[.val (.long p0), .second, .val (.int p1), .val (.int p2), .val (.int p3), .val (.long ask), .second, .val (.int c0), .val (.int c1), .val (.ref x18), .val (.ref b19), .val (.ref x18), .val (.int (1 : Int32))] [(.long (0 : Int64)), (.long (0 : Int64))]))
          refine OEndsW.via (fun _ k => XS.lcmp X23.here hx rfl (hb hby at_197) rfl k) ?_
          show OEndsW p e below s _ _ _ _ _ (T23.setTop (mkF m 198 #[.val (.long p0), .second, .val (.int p1), .val (.int p2), .val (.int p3), .val (.long ask), .second, .val (.int c0), .val (.int c1), .val (.ref x18), .val (.ref b19), .val (.ref x18), .val (.int (1 : Int32))] [(.int (lcmpW (0 : Int64) (0 : Int64)))]))
          refine OEndsW.via (fun _ k => XS.ifNo X23.here hx rfl (hb hby at_198) rfl ((if0 _ _).trans (teq (own_lc0 _)).2) k) ?_
          show OEndsW p e below s _ _ _ _ _ (T23.setTop (mkF m 201 #[.val (.long p0), .second, .val (.int p1), .val (.int p2), .val (.int p3), .val (.long ask), .second, .val (.int c0), .val (.int c1), .val (.ref x18), .val (.ref b19), .val (.ref x18), .val (.int (1 : Int32))] []))
          refine OEndsW.via (fun _ k => XS.aload X23.here hx rfl (hb hby at_201) rfl rfl k) ?_
          show OEndsW p e below s _ _ _ _ _ (T23.setTop (mkF m 203 #[.val (.long p0), .second, .val (.int p1), .val (.int p2), .val (.int p3), .val (.long ask), .second, .val (.int c0), .val (.int c1), .val (.ref x18), .val (.ref b19), .val (.ref x18), .val (.int (1 : Int32))] [(.ref b19)]))
          obtain ⟨cq24, kq24, q24a, q24b, q24c⟩ := isOf hZ e23 E_b
          obtain ⟨_, _, ⟨T24, L24, k24, n24⟩, -, X24, ⟨Lc24, hQ24, l24, y24, z24⟩, st24⟩ := X23.virtualBack hx (y := (⟨"com/example/holdfast/holdfast/Acquisition", "askAgainMillis", "()J"⟩ : MethodName)) (z := (⟨"com/example/holdfast/holdfast/Acquisition", "askAgainMillis", "()J"⟩ : MethodName)) hown (mvT hZ (hw _ (List.mem_of_getElem? (i := 36) rfl))) (mvT hZ (hw _ (List.mem_of_getElem? (i := 37) rfl))) (notFace_of_selects (args := #[]) (mvT hZ (hw _ (List.mem_of_getElem? (i := 39) rfl)))) (mvT hZ (hw _ (List.mem_of_getElem? (i := 39) rfl))) (mvT hZ (hw _ (List.mem_of_getElem? (i := 38) rfl))) (by decide) (backOf (W := 0) (rm_askAgainMillis l Z a0 hw [] b19 ask T19.heap n0 Od G_askAgainMillis) hZ (hw _ (List.mem_of_getElem? (i := 40) rfl)) (hw _ (List.mem_of_getElem? (i := 3) rfl)) (by decide) (by decide)) q24a q24c (g := (mkF m 203 #[.val (.long p0), .second, .val (.int p1), .val (.int p2), .val (.int p3), .val (.long ask), .second, .val (.int c0), .val (.int c1), .val (.ref x18), .val (.ref b19), .val (.ref x18), .val (.int (1 : Int32))] [(.ref b19)])) rfl (by rw [hml]; rfl) (Steps.refl _) (argsL := []) (rest := []) (lenOf pd_2829J rfl) rfl (by show 2 * 0 + _ ≤ _; exact Nat.le_of_eq rfl) (hb hby at_203) (fun _ _ => ⟨rfl, e23, Nat.le_of_ble_eq_true rfl, Nat.le_of_ble_eq_true rfl⟩)
          dsimp only [Pt.U, Pt.locs, Pt.cells, Pt.slots] at X24 l24 y24 z24 st24 hQ24
          subst l24 y24 z24
          obtain ⟨rfl, N24q, e24⟩ := hQ24
          have N24 := Fr.app N23 N24q
          refine OEndsW.via (fun _ k => st24.trans k) ?_
          show OEndsW p e below s _ _ _ _ _ (T24.setTop (mkF m 206 #[.val (.long p0), .second, .val (.int p1), .val (.int p2), .val (.int p3), .val (.long ask), .second, .val (.int c0), .val (.int c1), .val (.ref x18), .val (.ref b19), .val (.ref x18), .val (.int (1 : Int32))] [(.long ask)]))
          refine OEndsW.via (fun _ k => XS.lload X24.here hx rfl (hb hby at_206) rfl k) ?_
          show OEndsW p e below s _ _ _ _ _ (T24.setTop (mkF m 208 #[.val (.long p0), .second, .val (.int p1), .val (.int p2), .val (.int p3), .val (.long ask), .second, .val (.int c0), .val (.int c1), .val (.ref x18), .val (.ref b19), .val (.ref x18), .val (.int (1 : Int32))] [(.long ask), (.long ask)]))
          refine OEndsW.via (fun _ k => XS.lcmp X24.here hx rfl (hb hby at_208) rfl k) ?_
          show OEndsW p e below s _ _ _ _ _ (T24.setTop (mkF m 209 #[.val (.long p0), .second, .val (.int p1), .val (.int p2), .val (.int p3), .val (.long ask), .second, .val (.int c0), .val (.int c1), .val (.ref x18), .val (.ref b19), .val (.ref x18), .val (.int (1 : Int32))] [(.int (lcmpW ask ask))]))
          refine OEndsW.via (fun _ k => XS.ifNo X24.here hx rfl (hb hby at_209) rfl ((if0 _ _).trans (teq (own_lc0 _)).2) k) ?_
          show OEndsW p e below s _ _ _ _ _ (T24.setTop (mkF m 212 #[.val (.long p0), .second, .val (.int p1), .val (.int p2), .val (.int p3), .val (.long ask), .second, .val (.int c0), .val (.int c1), .val (.ref x18), .val (.ref b19), .val (.ref x18), .val (.int (1 : Int32))] []))
          refine OEndsW.via (fun _ k => XS.iload X24.here hx rfl (hb hby at_212) rfl k) ?_
          show OEndsW p e below s _ _ _ _ _ (T24.setTop (mkF m 214 #[.val (.long p0), .second, .val (.int p1), .val (.int p2), .val (.int p3), .val (.long ask), .second, .val (.int c0), .val (.int c1), .val (.ref x18), .val (.ref b19), .val (.ref x18), .val (.int (1 : Int32))] [(.int (1 : Int32))]))
          refine OEndsW.via (fun _ k => XS.ifNo X24.here hx rfl (hb hby at_214) rfl ((if0 _ _).trans (feq (by decide : ¬ ((1 : Int32) = (0 : Int32)))).1) k) ?_
          show OEndsW p e below s _ _ _ _ _ (T24.setTop (mkF m 217 #[.val (.long p0), .second, .val (.int p1), .val (.int p2), .val (.int p3), .val (.long ask), .second, .val (.int c0), .val (.int c1), .val (.ref x18), .val (.ref b19), .val (.ref x18), .val (.int (1 : Int32))] []))
          refine OEndsW.via (fun _ k => XS.aload X24.here hx rfl (hb hby at_217) rfl rfl k) ?_
          show OEndsW p e below s _ _ _ _ _ (T24.setTop (mkF m 219 #[.val (.long p0), .second, .val (.int p1), .val (.int p2), .val (.int p3), .val (.long ask), .second, .val (.int c0), .val (.int c1), .val (.ref x18), .val (.ref b19), .val (.ref x18), .val (.int (1 : Int32))] [(.ref b19)]))
          obtain ⟨cq25, kq25, q25a, q25b, q25c⟩ := isOf hZ e24 E_b
          obtain ⟨_, _, ⟨T25, L25, k25, n25⟩, -, X25, ⟨Lc25, hQ25, l25, y25, z25⟩, st25⟩ := X24.virtualBack hx (y := (⟨"com/example/holdfast/holdfast/Acquisition", "isUnasked", "()Z"⟩ : MethodName)) (z := (⟨"com/example/holdfast/holdfast/Acquisition", "isUnasked", "()Z"⟩ : MethodName)) hown (mvT hZ (hw _ (List.mem_of_getElem? (i := 41) rfl))) (mvT hZ (hw _ (List.mem_of_getElem? (i := 42) rfl))) (notFace_of_selects (args := #[]) (mvT hZ (hw _ (List.mem_of_getElem? (i := 44) rfl)))) (mvT hZ (hw _ (List.mem_of_getElem? (i := 44) rfl))) (mvT hZ (hw _ (List.mem_of_getElem? (i := 43) rfl))) (by decide) (backOf (W := 0) (rm_isUnasked l Z a0 hw [] b19 a_UNASKED T19.heap n0 Od S_UNASKED ne_UNASKED) hZ (hw _ (List.mem_of_getElem? (i := 45) rfl)) (hw _ (List.mem_of_getElem? (i := 3) rfl)) (by decide) (by decide)) q25a q25c (g := (mkF m 219 #[.val (.long p0), .second, .val (.int p1), .val (.int p2), .val (.int p3), .val (.long ask), .second, .val (.int c0), .val (.int c1), .val (.ref x18), .val (.ref b19), .val (.ref x18), .val (.int (1 : Int32))] [(.ref b19)])) rfl (by rw [hml]; rfl) (Steps.refl _) (argsL := []) (rest := []) (lenOf pd_2829Z rfl) rfl (by show 2 * 0 + _ ≤ _; exact Nat.le_of_eq rfl) (hb hby at_219) (fun _ _ => ⟨rfl, e24, Nat.le_of_ble_eq_true rfl, Nat.le_of_ble_eq_true rfl⟩)
          dsimp only [Pt.U, Pt.locs, Pt.cells, Pt.slots] at X25 l25 y25 z25 st25 hQ25
          subst l25 y25 z25
          obtain ⟨rfl, N25q, e25⟩ := hQ25
          have N25 := Fr.app N24 N25q
          refine OEndsW.via (fun _ k => st25.trans k) ?_
          show OEndsW p e below s _ _ _ _ _ (T25.setTop (mkF m 222 #[.val (.long p0), .second, .val (.int p1), .val (.int p2), .val (.int p3), .val (.long ask), .second, .val (.int c0), .val (.int c1), .val (.ref x18), .val (.ref b19), .val (.ref x18), .val (.int (1 : Int32))] [(.int (0 : Int32))]))
          refine OEndsW.via (fun _ k => XS.ifNo X25.here hx rfl (hb hby at_222) rfl ((if0 _ _).trans (teq (by decide : (0 : Int32) = (0 : Int32))).2) k) ?_
          show OEndsW p e below s _ _ _ _ _ (T25.setTop (mkF m 225 #[.val (.long p0), .second, .val (.int p1), .val (.int p2), .val (.int p3), .val (.long ask), .second, .val (.int c0), .val (.int c1), .val (.ref x18), .val (.ref b19), .val (.ref x18), .val (.int (1 : Int32))] []))
          refine OEndsW.via (fun _ k => XS.aload X25.here hx rfl (hb hby at_225) rfl rfl k) ?_
          show OEndsW p e below s _ _ _ _ _ (T25.setTop (mkF m 227 #[.val (.long p0), .second, .val (.int p1), .val (.int p2), .val (.int p3), .val (.long ask), .second, .val (.int c0), .val (.int c1), .val (.ref x18), .val (.ref b19), .val (.ref x18), .val (.int (1 : Int32))] [(.ref b19)]))
          obtain ⟨cq26, kq26, q26a, q26b, q26c⟩ := isOf hZ e25 E_b
          obtain ⟨_, _, ⟨T26, L26, k26, n26⟩, -, X26, ⟨Lc26, hQ26, l26, y26, z26⟩, st26⟩ := X25.virtualBack hx (y := (⟨"com/example/holdfast/holdfast/Acquisition", "isUnconfirmed", "()Z"⟩ : MethodName)) (z := (⟨"com/example/holdfast/holdfast/Acquisition", "isUnconfirmed", "()Z"⟩ : MethodName)) hown (mvT hZ (hw _ (List.mem_of_getElem? (i := 48) rfl))) (mvT hZ (hw _ (List.mem_of_getElem? (i := 49) rfl))) (notFace_of_selects (args := #[]) (mvT hZ (hw _ (List.mem_of_getElem? (i := 51) rfl)))) (mvT hZ (hw _ (List.mem_of_getElem? (i := 51) rfl))) (mvT hZ (hw _ (List.mem_of_getElem? (i := 50) rfl))) (by decide) (backOf (W := 0) (rm_isUnconfirmed l Z a0 hw [] b19 a_UNCONFIRMED T19.heap n0 Od S_UNCONFIRMED ne_UNCONFIRMED) hZ (hw _ (List.mem_of_getElem? (i := 52) rfl)) (hw _ (List.mem_of_getElem? (i := 3) rfl)) (by decide) (by decide)) q26a q26c (g := (mkF m 227 #[.val (.long p0), .second, .val (.int p1), .val (.int p2), .val (.int p3), .val (.long ask), .second, .val (.int c0), .val (.int c1), .val (.ref x18), .val (.ref b19), .val (.ref x18), .val (.int (1 : Int32))] [(.ref b19)])) rfl (by rw [hml]; rfl) (Steps.refl _) (argsL := []) (rest := []) (lenOf pd_2829Z rfl) rfl (by show 2 * 0 + _ ≤ _; exact Nat.le_of_eq rfl) (hb hby at_227) (fun _ _ => ⟨rfl, e25, Nat.le_of_ble_eq_true rfl, Nat.le_of_ble_eq_true rfl⟩)
          dsimp only [Pt.U, Pt.locs, Pt.cells, Pt.slots] at X26 l26 y26 z26 st26 hQ26
          subst l26 y26 z26
          obtain ⟨rfl, N26q, e26⟩ := hQ26
          have N26 := Fr.app N25 N26q
          refine OEndsW.via (fun _ k => st26.trans k) ?_
          show OEndsW p e below s _ _ _ _ _ (T26.setTop (mkF m 230 #[.val (.long p0), .second, .val (.int p1), .val (.int p2), .val (.int p3), .val (.long ask), .second, .val (.int c0), .val (.int c1), .val (.ref x18), .val (.ref b19), .val (.ref x18), .val (.int (1 : Int32))] [(.int (0 : Int32))]))
          refine OEndsW.via (fun _ k => XS.ifNo X26.here hx rfl (hb hby at_230) rfl ((if0 _ _).trans (teq (by decide : (0 : Int32) = (0 : Int32))).2) k) ?_
          show OEndsW p e below s _ _ _ _ _ (T26.setTop (mkF m 233 #[.val (.long p0), .second, .val (.int p1), .val (.int p2), .val (.int p3), .val (.long ask), .second, .val (.int c0), .val (.int c1), .val (.ref x18), .val (.ref b19), .val (.ref x18), .val (.int (1 : Int32))] []))
          refine OEndsW.via (fun _ k => XS.aload X26.here hx rfl (hb hby at_233) rfl rfl k) ?_
          show OEndsW p e below s _ _ _ _ _ (T26.setTop (mkF m 235 #[.val (.long p0), .second, .val (.int p1), .val (.int p2), .val (.int p3), .val (.long ask), .second, .val (.int c0), .val (.int c1), .val (.ref x18), .val (.ref b19), .val (.ref x18), .val (.int (1 : Int32))] [(.ref b19)]))
          obtain ⟨cq27, kq27, q27a, q27b, q27c⟩ := isOf hZ e26 E_b
          obtain ⟨_, _, ⟨T27, L27, k27, n27⟩, -, X27, ⟨Lc27, hQ27, l27, y27, z27⟩, st27⟩ := X26.virtualBack hx (y := (⟨"com/example/holdfast/holdfast/Acquisition", "isUnreached", "()Z"⟩ : MethodName)) (z := (⟨"com/example/holdfast/holdfast/Acquisition", "isUnreached", "()Z"⟩ : MethodName)) hown (mvT hZ (hw _ (List.mem_of_getElem? (i := 55) rfl))) (mvT hZ (hw _ (List.mem_of_getElem? (i := 56) rfl))) (notFace_of_selects (args := #[]) (mvT hZ (hw _ (List.mem_of_getElem? (i := 58) rfl)))) (mvT hZ (hw _ (List.mem_of_getElem? (i := 58) rfl))) (mvT hZ (hw _ (List.mem_of_getElem? (i := 57) rfl))) (by decide) (backOf (W := 0) (rm_isUnreached l Z a0 hw [] b19 T19.heap n0 Od G_unreached) hZ (hw _ (List.mem_of_getElem? (i := 59) rfl)) (hw _ (List.mem_of_getElem? (i := 3) rfl)) (by decide) (by decide)) q27a q27c (g := (mkF m 235 #[.val (.long p0), .second, .val (.int p1), .val (.int p2), .val (.int p3), .val (.long ask), .second, .val (.int c0), .val (.int c1), .val (.ref x18), .val (.ref b19), .val (.ref x18), .val (.int (1 : Int32))] [(.ref b19)])) rfl (by rw [hml]; rfl) (Steps.refl _) (argsL := []) (rest := []) (lenOf pd_2829Z rfl) rfl (by show 2 * 0 + _ ≤ _; exact Nat.le_of_eq rfl) (hb hby at_235) (fun _ _ => ⟨rfl, e26, Nat.le_of_ble_eq_true rfl, Nat.le_of_ble_eq_true rfl⟩)
          dsimp only [Pt.U, Pt.locs, Pt.cells, Pt.slots] at X27 l27 y27 z27 st27 hQ27
          subst l27 y27 z27
          obtain ⟨rfl, N27q, e27⟩ := hQ27
          have N27 := Fr.app N26 N27q
          refine OEndsW.via (fun _ k => st27.trans k) ?_
          show OEndsW p e below s _ _ _ _ _ (T27.setTop (mkF m 238 #[.val (.long p0), .second, .val (.int p1), .val (.int p2), .val (.int p3), .val (.long ask), .second, .val (.int c0), .val (.int c1), .val (.ref x18), .val (.ref b19), .val (.ref x18), .val (.int (1 : Int32))] [(.int (0 : Int32))]))
          refine OEndsW.via (fun _ k => XS.ifNo X27.here hx rfl (hb hby at_238) rfl ((if0 _ _).trans (teq (by decide : (0 : Int32) = (0 : Int32))).2) k) ?_
          show OEndsW p e below s _ _ _ _ _ (T27.setTop (mkF m 241 #[.val (.long p0), .second, .val (.int p1), .val (.int p2), .val (.int p3), .val (.long ask), .second, .val (.int c0), .val (.int c1), .val (.ref x18), .val (.ref b19), .val (.ref x18), .val (.int (1 : Int32))] []))
          refine OEndsW.via (fun _ k => XS.aload X27.here hx rfl (hb hby at_241) rfl rfl k) ?_
          show OEndsW p e below s _ _ _ _ _ (T27.setTop (mkF m 243 #[.val (.long p0), .second, .val (.int p1), .val (.int p2), .val (.int p3), .val (.long ask), .second, .val (.int c0), .val (.int c1), .val (.ref x18), .val (.ref b19), .val (.ref x18), .val (.int (1 : Int32))] [(.ref b19)]))
          obtain ⟨cq28, kq28, q28a, q28b, q28c⟩ := isOf hZ e27 E_b
          obtain ⟨_, _, ⟨T28, L28, k28, n28⟩, -, X28, ⟨Lc28, hQ28, l28, y28, z28⟩, st28⟩ := X27.virtualBack hx (y := (⟨"com/example/holdfast/holdfast/Acquisition", "unreachedBy", "()Lcom/example/holdfast/holdfast/HoldfastException;"⟩ : MethodName)) (z := (⟨"com/example/holdfast/holdfast/Acquisition", "unreachedBy", "()Lcom/example/holdfast/holdfast/HoldfastException;"⟩ : MethodName)) hown (mvT hZ (hw _ (List.mem_of_getElem? (i := 60) rfl))) (mvT hZ (hw _ (List.mem_of_getElem? (i := 61) rfl))) (notFace_of_selects (args := #[]) (mvT hZ (hw _ (List.mem_of_getElem? (i := 63) rfl)))) (mvT hZ (hw _ (List.mem_of_getElem? (i := 63) rfl))) (mvT hZ (hw _ (List.mem_of_getElem? (i := 62) rfl))) (by decide) (backOf (W := 0) (rm_unreachedBy l Z a0 hw [] b19 T19.heap n0 Od G_unreached) hZ (hw _ (List.mem_of_getElem? (i := 64) rfl)) (hw _ (List.mem_of_getElem? (i := 3) rfl)) (by decide) (by decide)) q28a q28c (g := (mkF m 243 #[.val (.long p0), .second, .val (.int p1), .val (.int p2), .val (.int p3), .val (.long ask), .second, .val (.int c0), .val (.int c1), .val (.ref x18), .val (.ref b19), .val (.ref x18), .val (.int (1 : Int32))] [(.ref b19)])) rfl (by rw [hml]; rfl) (Steps.refl _) (argsL := []) (rest := []) (lenOf pd_2829Lcom2fexample2fholdfast2fholdfast2fHoldfastException3b rfl) rfl (by show 2 * 0 + _ ≤ _; exact Nat.le_of_eq rfl) (hb hby at_243) (fun _ _ => ⟨rfl, e27, Nat.le_of_ble_eq_true rfl, Nat.le_of_ble_eq_true rfl⟩)
          dsimp only [Pt.U, Pt.locs, Pt.cells, Pt.slots] at X28 l28 y28 z28 st28 hQ28
          subst l28 y28 z28
          obtain ⟨rfl, N28q, e28⟩ := hQ28
          have N28 := Fr.app N27 N28q
          refine OEndsW.via (fun _ k => st28.trans k) ?_
          show OEndsW p e below s _ _ _ _ _ (T28.setTop (mkF m 246 #[.val (.long p0), .second, .val (.int p1), .val (.int p2), .val (.int p3), .val (.long ask), .second, .val (.int c0), .val (.int c1), .val (.ref x18), .val (.ref b19), .val (.ref x18), .val (.int (1 : Int32))] [.null]))
          refine OEndsW.via (fun _ k => XS.ifnonnullNo X28.here hx rfl (hb hby at_246) rfl k) ?_
          show OEndsW p e below s _ _ _ _ _ (T28.setTop (mkF m 249 #[.val (.long p0), .second, .val (.int p1), .val (.int p2), .val (.int p3), .val (.long ask), .second, .val (.int c0), .val (.int c1), .val (.ref x18), .val (.ref b19), .val (.ref x18), .val (.int (1 : Int32))] []))
          refine OEndsW.via (fun _ k => XS.iconst X28.here hx rfl (hb hby at_249) k) ?_
          show OEndsW p e below s _ _ _ _ _ (T28.setTop (mkF m 250 #[.val (.long p0), .second, .val (.int p1), .val (.int p2), .val (.int p3), .val (.long ask), .second, .val (.int c0), .val (.int c1), .val (.ref x18), .val (.ref b19), .val (.ref x18), .val (.int (1 : Int32))] [(.int (1 : Int32))]))
          refine OEndsW.via (fun _ k => XS.goto X28.here hx rfl (pc0 := 250) (pc' := 254) rfl (hb hby at_250) (by decide) (by decide) k) ?_
          show OEndsW p e below s _ _ _ _ _ (T28.setTop (mkF m 254 #[.val (.long p0), .second, .val (.int p1), .val (.int p2), .val (.int p3), .val (.long ask), .second, .val (.int c0), .val (.int c1), .val (.ref x18), .val (.ref b19), .val (.ref x18), .val (.int (1 : Int32))] [(.int (1 : Int32))]))
          refine OEndsW.retN X28 hx hlk hS hk hZ hEL e28 es CR (t := .boolean) Bd.returns (by simp) (hb hby at_254) ?_ (by decide) (by decide)
          exact ⟨rfl, N28⟩
        · skip
          refine OEndsW.via (fun _ k => XS.icmpYes X0.here hx rfl (pc0 := 90) (pc' := 103) rfl (hb hby at_90) rfl (feq hc90_16).2 (by decide) (by decide) k) ?_
          show OEndsW p e below s _ _ _ _ _ (s₁.setTop (mkF m 103 #[.val (.long p0), .second, .val (.int p1), .val (.int p2), .val (.int p3), .val (.long ask), .second, .val (.int c0), .val (.int c1), .unset, .val (.int (((p1.toUInt32 >>> ((2 : Int32) &&& 31).toUInt32).toInt32) &&& (3 : Int32))), .unset, .unset] []))
          obtain ⟨T29, h29, X29, e29, E29, A29, D29, -, st29⟩ := newO X0 hx hZ hown (hw _ (List.mem_of_getElem? (i := 66) rfl)) (hw _ (List.mem_of_getElem? (i := 67) rfl)) (hw _ (List.mem_of_getElem? (i := 68) rfl)) e0 (g := (mkF m 103 #[.val (.long p0), .second, .val (.int p1), .val (.int p2), .val (.int p3), .val (.long ask), .second, .val (.int c0), .val (.int c1), .unset, .val (.int (((p1.toUInt32 >>> ((2 : Int32) &&& 31).toUInt32).toInt32) &&& (3 : Int32))), .unset, .unset] [])) rfl (hb hby at_103) (by decide) (by decide)
          obtain ⟨b29, g29⟩ : ∃ z, z = h0.size := ⟨_, rfl⟩
          have ge_b29 : n0 ≤ b29 := Nat.le_trans (Od.1 ▸ Od.2.1) (Nat.le_of_eq g29.symm)
          have sf_b29 : Safe Z consts_1 _ h0 b29 := Safe.new (EL := consts_1) (vm := s.vm) (Nat.le_of_eq g29.symm)
          rw [← g29] at A29 D29 st29
          replace hk := Nat.le_trans hk E29.1
          replace Od := Od.ext E29
          replace sf_b29 := Safe.ext E29 CR.1 sf_b29
          replace CR := CR.trans (CHr.ext E29 CR.1)
          have E_b29 : Exa Z h29 b29 "java/lang/String" := A29
          have F_coder_b29 : Fld Z h29 b29 "java/lang/String" "coder" "B" (.int (0 : Int32)) := D29 (Or.inr (hw _ (List.mem_of_getElem? (i := 91) rfl))) (ty := .byte) (by decide)
          have F_value_b29 : Fld Z h29 b29 "java/lang/String" "value" "[B" .null := D29 (Or.inr (hw _ (List.mem_of_getElem? (i := 93) rfl))) (ty := (.array .byte)) (by decide)
          refine OEndsW.via (fun _ k => st29 _ k) ?_
          show OEndsW p e below s _ _ _ _ _ (T29.setTop (mkF m 106 #[.val (.long p0), .second, .val (.int p1), .val (.int p2), .val (.int p3), .val (.long ask), .second, .val (.int c0), .val (.int c1), .unset, .val (.int (((p1.toUInt32 >>> ((2 : Int32) &&& 31).toUInt32).toInt32) &&& (3 : Int32))), .unset, .unset] [(.ref b29)]))
          refine OEndsW.via (fun _ k => XS.dup X29.here hx rfl (hb hby at_106) rfl rfl k) ?_
          show OEndsW p e below s _ _ _ _ _ (T29.setTop (mkF m 107 #[.val (.long p0), .second, .val (.int p1), .val (.int p2), .val (.int p3), .val (.long ask), .second, .val (.int c0), .val (.int c1), .unset, .val (.int (((p1.toUInt32 >>> ((2 : Int32) &&& 31).toUInt32).toInt32) &&& (3 : Int32))), .unset, .unset] [(.ref b29), (.ref b29)]))
          refine OEndsW.via (fun _ k => XS.iconst X29.here hx rfl (hb hby at_107) k) ?_
          show OEndsW p e below s _ _ _ _ _ (T29.setTop (mkF m 108 #[.val (.long p0), .second, .val (.int p1), .val (.int p2), .val (.int p3), .val (.long ask), .second, .val (.int c0), .val (.int c1), .unset, .val (.int (((p1.toUInt32 >>> ((2 : Int32) &&& 31).toUInt32).toInt32) &&& (3 : Int32))), .unset, .unset] [(.int (2 : Int32)), (.ref b29), (.ref b29)]))
          obtain ⟨T30, h30, k30, X30, e30, E30, A30, st30⟩ := newP X29 hx hZ (hw _ (List.mem_of_getElem? (i := 69) rfl)) e29 (g := (mkF m 108 #[.val (.long p0), .second, .val (.int p1), .val (.int p2), .val (.int p3), .val (.long ask), .second, .val (.int c0), .val (.int c1), .unset, .val (.int (((p1.toUInt32 >>> ((2 : Int32) &&& 31).toUInt32).toInt32) &&& (3 : Int32))), .unset, .unset] [(.int (2 : Int32)), (.ref b29), (.ref b29)])) rfl (hb hby at_108) rfl (by decide) (cap := 2) (by decide) (by decide) (by decide) (by decide)
          obtain ⟨b30, g30⟩ : ∃ z, z = h29.size := ⟨_, rfl⟩
          have ne_b29_b30 : b29 ≠ b30 := Nat.ne_of_lt (Nat.lt_of_lt_of_le E_b29.lt (Nat.le_of_eq g30.symm))
          have ge_b30 : n0 ≤ b30 := Nat.le_trans (Od.1 ▸ Od.2.1) (Nat.le_of_eq g30.symm)
          have sf_b30 : Safe Z consts_1 _ h29 b30 := Safe.new (EL := consts_1) (vm := s.vm) (Nat.le_of_eq g30.symm)
          rw [← g30] at A30 st30
          replace hk := Nat.le_trans hk E30.1
          replace Od := Od.ext E30
          replace sf_b29 := Safe.ext E30 CR.1 sf_b29
          replace E_b29 := Exa.ext E30 E_b29
          replace F_coder_b29 := Fld.ext E30 F_coder_b29
          replace F_value_b29 := Fld.ext E30 F_value_b29
          replace sf_b30 := Safe.ext E30 CR.1 sf_b30
          replace CR := CR.trans (CHr.ext E30 CR.1)
          have V_b30 : Arv Z h30 b30 k30 .char (2 : Int32) [(.int (0 : Int32)), (.int (0 : Int32))] (.int (0 : Int32)) := (Arv.new A30 (by decide)).pad (pad_rep [] (.int (0 : Int32)) 2)
          refine OEndsW.via (fun _ k => st30 _ k) ?_
          show OEndsW p e below s _ _ _ _ _ (T30.setTop (mkF m 110 #[.val (.long p0), .second, .val (.int p1), .val (.int p2), .val (.int p3), .val (.long ask), .second, .val (.int c0), .val (.int c1), .unset, .val (.int (((p1.toUInt32 >>> ((2 : Int32) &&& 31).toUInt32).toInt32) &&& (3 : Int32))), .unset, .unset] [(.ref b30), (.ref b29), (.ref b29)]))
          refine OEndsW.via (fun _ k => XS.dup X30.here hx rfl (hb hby at_110) rfl rfl k) ?_
          show OEndsW p e below s _ _ _ _ _ (T30.setTop (mkF m 111 #[.val (.long p0), .second, .val (.int p1), .val (.int p2), .val (.int p3), .val (.long ask), .second, .val (.int c0), .val (.int c1), .unset, .val (.int (((p1.toUInt32 >>> ((2 : Int32) &&& 31).toUInt32).toInt32) &&& (3 : Int32))), .unset, .unset] [(.ref b30), (.ref b30), (.ref b29), (.ref b29)]))
          refine OEndsW.via (fun _ k => XS.iconst X30.here hx rfl (hb hby at_111) k) ?_
          show OEndsW p e below s _ _ _ _ _ (T30.setTop (mkF m 112 #[.val (.long p0), .second, .val (.int p1), .val (.int p2), .val (.int p3), .val (.long ask), .second, .val (.int c0), .val (.int c1), .unset, .val (.int (((p1.toUInt32 >>> ((2 : Int32) &&& 31).toUInt32).toInt32) &&& (3 : Int32))), .unset, .unset] [(.int (0 : Int32)), (.ref b30), (.ref b30), (.ref b29), (.ref b29)]))
          refine OEndsW.via (fun _ k => XS.iload X30.here hx rfl (hb hby at_112) rfl k) ?_
          show OEndsW p e below s _ _ _ _ _ (T30.setTop (mkF m 114 #[.val (.long p0), .second, .val (.int p1), .val (.int p2), .val (.int p3), .val (.long ask), .second, .val (.int c0), .val (.int c1), .unset, .val (.int (((p1.toUInt32 >>> ((2 : Int32) &&& 31).toUInt32).toInt32) &&& (3 : Int32))), .unset, .unset] [(.int c0), (.int (0 : Int32)), (.ref b30), (.ref b30), (.ref b29), (.ref b29)]))
          obtain ⟨cl31, Ar31, q31, S31, M31, H31, G31⟩ := V_b30
          obtain ⟨T31, h31, X31, e31, W31, st31⟩ := stC X30 hx hZ e30 Ar31 (j := (0 : Int32)) (inb_of S31 ⟨by decide, by decide⟩) (g := (mkF m 114 #[.val (.long p0), .second, .val (.int p1), .val (.int p2), .val (.int p3), .val (.long ask), .second, .val (.int c0), .val (.int c1), .unset, .val (.int (((p1.toUInt32 >>> ((2 : Int32) &&& 31).toUInt32).toInt32) &&& (3 : Int32))), .unset, .unset] [(.int c0), (.int (0 : Int32)), (.ref b30), (.ref b30), (.ref b29), (.ref b29)])) rfl rfl (hb hby at_114)
          have V_b30 : Arv Z h31 b30 k30 .char (2 : Int32) [(.int (nar .char c0)), (.int (0 : Int32))] (.int (0 : Int32)) := Arv.set Ar31 q31 S31 M31 H31 G31 (fits_nar_char _) W31 0 rfl (Nat.le_of_ble_eq_true rfl)
          have N31 := Fr.snoc X31 N0 ge_b30
          have sfw31 := (Safe.arr (EL := consts_1) hZ.alike Ar31 (by decide))
          replace hk := Nat.le_trans hk (Keep.of_wr W31).1
          replace Od := Od.wr W31 ge_b30
          replace sf_b29 := Safe.wr W31 sfw31 CR.1 sf_b29
          replace E_b29 := Exa.wr W31 E_b29
          replace F_coder_b29 := Fld.other W31 F_coder_b29 (Or.inl ne_b29_b30)
          replace F_value_b29 := Fld.other W31 F_value_b29 (Or.inl ne_b29_b30)
          replace sf_b30 := Safe.wr W31 sfw31 CR.1 sf_b30
          replace CR := CR.trans (CHr.wr W31 sfw31 CR.1)
          refine OEndsW.via (fun _ k => st31 _ k) ?_
          show OEndsW p e below s _ _ _ _ _ (T31.setTop (mkF m 115 #[.val (.long p0), .second, .val (.int p1), .val (.int p2), .val (.int p3), .val (.long ask), .second, .val (.int c0), .val (.int c1), .unset, .val (.int (((p1.toUInt32 >>> ((2 : Int32) &&& 31).toUInt32).toInt32) &&& (3 : Int32))), .unset, .unset] [(.ref b30), (.ref b29), (.ref b29)]))
          refine OEndsW.via (fun _ k => XS.dup X31.here hx rfl (hb hby at_115) rfl rfl k) ?_
          show OEndsW p e below s _ _ _ _ _ (T31.setTop (mkF m 116 #[.val (.long p0), .second, .val (.int p1), .val (.int p2), .val (.int p3), .val (.long ask), .second, .val (.int c0), .val (.int c1), .unset, .val (.int (((p1.toUInt32 >>> ((2 : Int32) &&& 31).toUInt32).toInt32) &&& (3 : Int32))), .unset, .unset] [(.ref b30), (.ref b30), (.ref b29), (.ref b29)]))
          refine OEndsW.via (fun _ k => XS.iconst X31.here hx rfl (hb hby at_116) k) ?_
          show OEndsW p e below s _ _ _ _ _ (T31.setTop (mkF m 117 #[.val (.long p0), .second, .val (.int p1), .val (.int p2), .val (.int p3), .val (.long ask), .second, .val (.int c0), .val (.int c1), .unset, .val (.int (((p1.toUInt32 >>> ((2 : Int32) &&& 31).toUInt32).toInt32) &&& (3 : Int32))), .unset, .unset] [(.int (1 : Int32)), (.ref b30), (.ref b30), (.ref b29), (.ref b29)]))
          refine OEndsW.via (fun _ k => XS.iload X31.here hx rfl (hb hby at_117) rfl k) ?_
          show OEndsW p e below s _ _ _ _ _ (T31.setTop (mkF m 119 #[.val (.long p0), .second, .val (.int p1), .val (.int p2), .val (.int p3), .val (.long ask), .second, .val (.int c0), .val (.int c1), .unset, .val (.int (((p1.toUInt32 >>> ((2 : Int32) &&& 31).toUInt32).toInt32) &&& (3 : Int32))), .unset, .unset] [(.int c1), (.int (1 : Int32)), (.ref b30), (.ref b30), (.ref b29), (.ref b29)]))
          obtain ⟨cl32, Ar32, q32, S32, M32, H32, G32⟩ := V_b30
          obtain ⟨T32, h32, X32, e32, W32, st32⟩ := stC X31 hx hZ e31 Ar32 (j := (1 : Int32)) (inb_of S32 ⟨by decide, by decide⟩) (g := (mkF m 119 #[.val (.long p0), .second, .val (.int p1), .val (.int p2), .val (.int p3), .val (.long ask), .second, .val (.int c0), .val (.int c1), .unset, .val (.int (((p1.toUInt32 >>> ((2 : Int32) &&& 31).toUInt32).toInt32) &&& (3 : Int32))), .unset, .unset] [(.int c1), (.int (1 : Int32)), (.ref b30), (.ref b30), (.ref b29), (.ref b29)])) rfl rfl (hb hby at_119)
          have V_b30 : Arv Z h32 b30 k30 .char (2 : Int32) [(.int (nar .char c0)), (.int (nar .char c1))] (.int (0 : Int32)) := Arv.set Ar32 q32 S32 M32 H32 G32 (fits_nar_char _) W32 1 rfl (Nat.le_of_ble_eq_true rfl)
          have N32 := Fr.snoc X32 N31 ge_b30
          have sfw32 := (Safe.arr (EL := consts_1) hZ.alike Ar32 (by decide))
          replace hk := Nat.le_trans hk (Keep.of_wr W32).1
          replace Od := Od.wr W32 ge_b30
          replace sf_b29 := Safe.wr W32 sfw32 CR.1 sf_b29
          replace E_b29 := Exa.wr W32 E_b29
          replace F_coder_b29 := Fld.other W32 F_coder_b29 (Or.inl ne_b29_b30)
          replace F_value_b29 := Fld.other W32 F_value_b29 (Or.inl ne_b29_b30)
          replace sf_b30 := Safe.wr W32 sfw32 CR.1 sf_b30
          replace CR := CR.trans (CHr.wr W32 sfw32 CR.1)
          refine OEndsW.via (fun _ k => st32 _ k) ?_
          show OEndsW p e below s _ _ _ _ _ (T32.setTop (mkF m 120 #[.val (.long p0), .second, .val (.int p1), .val (.int p2), .val (.int p3), .val (.long ask), .second, .val (.int c0), .val (.int c1), .unset, .val (.int (((p1.toUInt32 >>> ((2 : Int32) &&& 31).toUInt32).toInt32) &&& (3 : Int32))), .unset, .unset] [(.ref b30), (.ref b29), (.ref b29)]))
          rw [own_narc hc0, own_narc hc1] at V_b30
          obtain ⟨cs_b29, hcs_b29⟩ : ∃ cs : List Int32, cs = [c0, c1] := ⟨_, rfl⟩
          have hp_b29 : ∀ c ∈ cs_b29, ¬ c < 0 ∧ ¬ (255 : Int32) < c := (by rw [hcs_b29]; exact own_allS hc0 (own_allS hc1 own_all0))
          have hl_b29 : cs_b29.length = 2 := by rw [hcs_b29]; rfl
          have Kc_b29 : Arv Z h32 b30 k30 .char (2 : Int32) (cs_b29.map Value.int) (.int (0 : Int32)) := by rw [hcs_b29]; exact V_b30
          obtain ⟨_, _, ⟨T33, L33, k33, n33⟩, -, X33, ⟨Lc33, hQ33, l33, y33, z33⟩, st33⟩ := X32.specialBack hx (y := (⟨"java/lang/String", "<init>", "([C)V"⟩ : MethodName)) rfl hown (mvT hZ (hw _ (List.mem_of_getElem? (i := 70) rfl))) (mvT hZ (hw _ (List.mem_of_getElem? (i := 71) rfl))) (mvT hZ (hw _ (List.mem_of_getElem? (i := 72) rfl))) (by decide) (StrChars.Road.backV (W := 1) hZ hws (kI := 4) (hw _ (List.mem_of_getElem? (i := 67) rfl)) (cs := cs_b29) (bs := cs_b29.map (fun c => c.toInt8.toInt32)) (n := 2) ge_b29 (Od.1 ▸ Od.2.1) E_b29 F_value_b29 F_coder_b29 Kc_b29 (Sta.ext Od.2 S_CS) nz_CS hl_b29 rfl (by decide) (by decide) hp_b29 rfl (by decide) (by decide)) (g := (mkF m 120 #[.val (.long p0), .second, .val (.int p1), .val (.int p2), .val (.int p3), .val (.long ask), .second, .val (.int c0), .val (.int c1), .unset, .val (.int (((p1.toUInt32 >>> ((2 : Int32) &&& 31).toUInt32).toInt32) &&& (3 : Int32))), .unset, .unset] [(.ref b30), (.ref b29), (.ref b29)])) rfl (by rw [hml]; rfl) (Steps.refl _) (a := b29) (argsL := [(.ref b30)]) (rest := [(.ref b29)]) (lenOf pd_285bC29V rfl) rfl (by show 2 * 0 + _ ≤ _; exact Nat.le_of_eq rfl) (hb hby at_120) (fun _ _ => ⟨rfl, e32, Nat.le_of_ble_eq_true rfl, Nat.le_of_ble_eq_true rfl⟩)
          dsimp only [Pt.U, Pt.locs, Pt.cells, Pt.slots] at X33 l33 y33 z33 st33 hQ33
          subst l33 y33 z33
          obtain ⟨rfl, N33q, K33, -, C_b29, t_b29, kb_b29, ge_t_b29, sz_t_b29, ntx_b29, V_b29, K_b29⟩ := hQ33
          have ne_b29_t_b29 : b29 ≠ t_b29 := Nat.ne_of_lt (Nat.lt_of_lt_of_le E_b29.lt sz_t_b29)
          have ne_b30_t_b29 : b30 ≠ t_b29 := Nat.ne_of_lt (Nat.lt_of_lt_of_le V_b30.lt sz_t_b29)
          have N33 := Fr.app N32 N33q
          have sfk33 : ∀ x ∈ ([b29] : List Addr), Safe Z consts_1 s.vm h32 x := (allS sf_b29 all0)
          replace hk := Nat.le_trans hk K33.1
          replace Od := Od.keep K33 (allS ge_b29 all0)
          replace sf_b29 := Safe.keep K33 sfk33 CR.1 sf_b29
          replace E_b29 := E_b29.keep K33
          replace sf_b30 := Safe.keep K33 sfk33 CR.1 sf_b30
          replace V_b30 := V_b30.keep K33 (ninS (Ne.symm ne_b29_b30) nin0)
          replace CR := CR.trans (CHr.keep K33 sfk33 CR.1)
          refine OEndsW.via (fun _ k => st33.trans k) ?_
          show OEndsW p e below s _ _ _ _ _ (T33.setTop (mkF m 123 #[.val (.long p0), .second, .val (.int p1), .val (.int p2), .val (.int p3), .val (.long ask), .second, .val (.int c0), .val (.int c1), .unset, .val (.int (((p1.toUInt32 >>> ((2 : Int32) &&& 31).toUInt32).toInt32) &&& (3 : Int32))), .unset, .unset] [(.ref b29)]))
          refine OEndsW.via (fun _ k => XS.astore X33.here hx rfl (hb hby at_123) rfl rfl (l' := #[.val (.long p0), .second, .val (.int p1), .val (.int p2), .val (.int p3), .val (.long ask), .second, .val (.int c0), .val (.int c1), .val (.ref b29), .val (.int (((p1.toUInt32 >>> ((2 : Int32) &&& 31).toUInt32).toInt32) &&& (3 : Int32))), .unset, .unset]) rfl k) ?_
          show OEndsW p e below s _ _ _ _ _ (T33.setTop (mkF m 125 #[.val (.long p0), .second, .val (.int p1), .val (.int p2), .val (.int p3), .val (.long ask), .second, .val (.int c0), .val (.int c1), .val (.ref b29), .val (.int (((p1.toUInt32 >>> ((2 : Int32) &&& 31).toUInt32).toInt32) &&& (3 : Int32))), .unset, .unset] []))
          refine OEndsW.via (fun _ k => XS.lload X33.here hx rfl (hb hby at_125) rfl k) ?_
          show OEndsW p e below s _ _ _ _ _ (T33.setTop (mkF m 127 #[.val (.long p0), .second, .val (.int p1), .val (.int p2), .val (.int p3), .val (.long ask), .second, .val (.int c0), .val (.int c1), .val (.ref b29), .val (.int (((p1.toUInt32 >>> ((2 : Int32) &&& 31).toUInt32).toInt32) &&& (3 : Int32))), .unset, .unset] [(.long ask)]))
          refine OEndsW.via (fun _ k => XS.aload X33.here hx rfl (hb hby at_127) rfl rfl k) ?_
          show OEndsW p e below s _ _ _ _ _ (T33.setTop (mkF m 129 #[.val (.long p0), .second, .val (.int p1), .val (.int p2), .val (.int p3), .val (.long ask), .second, .val (.int c0), .val (.int c1), .val (.ref b29), .val (.int (((p1.toUInt32 >>> ((2 : Int32) &&& 31).toUInt32).toInt32) &&& (3 : Int32))), .unset, .unset] [(.ref b29), (.long ask)]))
          obtain ⟨_, _, ⟨T34, L34, k34, n34⟩, -, X34, ⟨Lc34, hQ34, l34, y34, z34⟩, st34⟩ := Jvm.LawKit.callS X33 hx (y := (⟨"com/example/holdfast/holdfast/Acquisition", "refused", "(JLjava/lang/String;)Lcom/example/holdfast/holdfast/Acquisition;"⟩ : MethodName)) hown (mvT hZ (hw _ (List.mem_of_getElem? (i := 1) rfl))) (mvT hZ (hw _ (List.mem_of_getElem? (i := 2) rfl))) (mvT hZ (hw _ (List.mem_of_getElem? (i := 3) rfl))) (mvT hZ (hw _ (List.mem_of_getElem? (i := 4) rfl))) (by decide) (backOf (W := 0) (rmT l Z a0 hw [] ask (.ref b29) T33.heap n0 Od rfl) hZ (hw _ (List.mem_of_getElem? (i := 4) rfl)) (hw _ (List.mem_of_getElem? (i := 3) rfl)) (by decide) (by decide)) (g := (mkF m 129 #[.val (.long p0), .second, .val (.int p1), .val (.int p2), .val (.int p3), .val (.long ask), .second, .val (.int c0), .val (.int c1), .val (.ref b29), .val (.int (((p1.toUInt32 >>> ((2 : Int32) &&& 31).toUInt32).toInt32) &&& (3 : Int32))), .unset, .unset] [(.ref b29), (.long ask)])) rfl (by rw [hml]; rfl) (argsL := [(.long ask), (.ref b29)]) (rest := []) (lenOf pd_28JLjava2flang2fString3b29Lcom2fexample2fholdfast2fholdfast2fAcquisition3b rfl) rfl (by show 2 * 0 + _ ≤ _; exact Nat.le_of_eq rfl) (hb hby at_129) (fun _ _ => ⟨rfl, rfl, Nat.le_of_ble_eq_true rfl, Nat.le_of_ble_eq_true rfl⟩)
          dsimp only [Pt.U, Pt.locs, Pt.cells, Pt.slots] at X34 l34 y34 z34 st34 hQ34
          subst l34 y34 z34
          obtain ⟨b34, rfl, N34q, K34, ge34, sz34, E_b, G_token, G_askAgainMillis, G_keptBy, G_unreached⟩ := hQ34
          have N34 := Fr.app N33 N34q
          have sfk34 : ∀ x ∈ ([] : List Addr), Safe Z consts_1 s.vm T33.heap x := all0
          replace hk := Nat.le_trans hk K34.1
          replace Od := Od.keep K34 all0
          replace sf_b29 := Safe.keep K34 sfk34 CR.1 sf_b29
          replace E_b29 := E_b29.keep K34
          replace sf_b30 := Safe.keep K34 sfk34 CR.1 sf_b30
          replace V_b30 := V_b30.keep K34 nin0
          replace C_b29 := C_b29.keep K34 nin0
          replace V_b29 := V_b29.keep K34 nin0
          replace K_b29 := K_b29.keep K34 nin0
          replace CR := CR.trans (CHr.keep K34 sfk34 CR.1)
          have ne_UNASKED : b34 ≠ a_UNASKED := Ne.symm (O0.ne E_UNASKED.lt ge34)
          have ne_UNCONFIRMED : b34 ≠ a_UNCONFIRMED := Ne.symm (O0.ne E_UNCONFIRMED.lt ge34)
          refine OEndsW.via (fun _ k => st34 _ k) ?_
          show OEndsW p e below s _ _ _ _ _ (T34.setTop (mkF m 132 #[.val (.long p0), .second, .val (.int p1), .val (.int p2), .val (.int p3), .val (.long ask), .second, .val (.int c0), .val (.int c1), .val (.ref b29), .val (.int (((p1.toUInt32 >>> ((2 : Int32) &&& 31).toUInt32).toInt32) &&& (3 : Int32))), .unset, .unset] [(.ref b34)]))
          refine OEndsW.via (fun _ k => XS.astore X34.here hx rfl (hb hby at_132) rfl rfl (l' := #[.val (.long p0), .second, .val (.int p1), .val (.int p2), .val (.int p3), .val (.long ask), .second, .val (.int c0), .val (.int c1), .val (.ref b29), .val (.ref b34), .unset, .unset]) rfl k) ?_
          show OEndsW p e below s _ _ _ _ _ (T34.setTop (mkF m 134 #[.val (.long p0), .second, .val (.int p1), .val (.int p2), .val (.int p3), .val (.long ask), .second, .val (.int c0), .val (.int c1), .val (.ref b29), .val (.ref b34), .unset, .unset] []))
          refine OEndsW.via (fun _ k => XS.aload X34.here hx rfl (hb hby at_134) rfl rfl k) ?_
          show OEndsW p e below s _ _ _ _ _ (T34.setTop (mkF m 136 #[.val (.long p0), .second, .val (.int p1), .val (.int p2), .val (.int p3), .val (.long ask), .second, .val (.int c0), .val (.int c1), .val (.ref b29), .val (.ref b34), .unset, .unset] [(.ref b34)]))
          obtain ⟨cq35, kq35, q35a, q35b, q35c⟩ := isOf hZ rfl E_b
          obtain ⟨_, _, ⟨T35, L35, k35, n35⟩, -, X35, ⟨Lc35, hQ35, l35, y35, z35⟩, st35⟩ := X34.virtualBack hx (y := (⟨"com/example/holdfast/holdfast/Acquisition", "keptBy", "()Ljava/lang/String;"⟩ : MethodName)) (z := (⟨"com/example/holdfast/holdfast/Acquisition", "keptBy", "()Ljava/lang/String;"⟩ : MethodName)) hown (mvT hZ (hw _ (List.mem_of_getElem? (i := 21) rfl))) (mvT hZ (hw _ (List.mem_of_getElem? (i := 22) rfl))) (notFace_of_selects (args := #[]) (mvT hZ (hw _ (List.mem_of_getElem? (i := 24) rfl)))) (mvT hZ (hw _ (List.mem_of_getElem? (i := 24) rfl))) (mvT hZ (hw _ (List.mem_of_getElem? (i := 23) rfl))) (by decide) (backOf (W := 0) (rm_keptBy l Z a0 hw [] b34 (.ref b29) T34.heap n0 Od G_keptBy rfl) hZ (hw _ (List.mem_of_getElem? (i := 25) rfl)) (hw _ (List.mem_of_getElem? (i := 3) rfl)) (by decide) (by decide)) q35a q35c (g := (mkF m 136 #[.val (.long p0), .second, .val (.int p1), .val (.int p2), .val (.int p3), .val (.long ask), .second, .val (.int c0), .val (.int c1), .val (.ref b29), .val (.ref b34), .unset, .unset] [(.ref b34)])) rfl (by rw [hml]; rfl) (Steps.refl _) (argsL := []) (rest := []) (lenOf pd_2829Ljava2flang2fString3b rfl) rfl (by show 2 * 0 + _ ≤ _; exact Nat.le_of_eq rfl) (hb hby at_136) (fun _ _ => ⟨rfl, rfl, Nat.le_of_ble_eq_true rfl, Nat.le_of_ble_eq_true rfl⟩)
          dsimp only [Pt.U, Pt.locs, Pt.cells, Pt.slots] at X35 l35 y35 z35 st35 hQ35
          subst l35 y35 z35
          obtain ⟨rfl, N35q, e35⟩ := hQ35
          have N35 := Fr.app N34 N35q
          refine OEndsW.via (fun _ k => st35.trans k) ?_
          show OEndsW p e below s _ _ _ _ _ (T35.setTop (mkF m 139 #[.val (.long p0), .second, .val (.int p1), .val (.int p2), .val (.int p3), .val (.long ask), .second, .val (.int c0), .val (.int c1), .val (.ref b29), .val (.ref b34), .unset, .unset] [(.ref b29)]))
          refine OEndsW.via (fun _ k => XS.astore X35.here hx rfl (hb hby at_139) rfl rfl (l' := #[.val (.long p0), .second, .val (.int p1), .val (.int p2), .val (.int p3), .val (.long ask), .second, .val (.int c0), .val (.int c1), .val (.ref b29), .val (.ref b34), .val (.ref b29), .unset]) rfl k) ?_
          show OEndsW p e below s _ _ _ _ _ (T35.setTop (mkF m 141 #[.val (.long p0), .second, .val (.int p1), .val (.int p2), .val (.int p3), .val (.long ask), .second, .val (.int c0), .val (.int c1), .val (.ref b29), .val (.ref b34), .val (.ref b29), .unset] []))
          refine OEndsW.via (fun _ k => XS.aload X35.here hx rfl (hb hby at_141) rfl rfl k) ?_
          show OEndsW p e below s _ _ _ _ _ (T35.setTop (mkF m 143 #[.val (.long p0), .second, .val (.int p1), .val (.int p2), .val (.int p3), .val (.long ask), .second, .val (.int c0), .val (.int c1), .val (.ref b29), .val (.ref b34), .val (.ref b29), .unset] [(.ref b29)]))
          refine OEndsW.via (fun _ k => XS.ifnonnullYes X35.here hx rfl (pc0 := 143) (pc' := 161) rfl (hb hby at_143) rfl (by decide) (by decide) k) ?_
          show OEndsW p e below s _ _ _ _ _ (T35.setTop (mkF m 161 #[.val (.long p0), .second, .val (.int p1), .val (.int p2), .val (.int p3), .val (.long ask), .second, .val (.int c0), .val (.int c1), .val (.ref b29), .val (.ref b34), .val (.ref b29), .unset] []))
          refine OEndsW.via (fun _ k => XS.aload X35.here hx rfl (hb hby at_161) rfl rfl k) ?_
          show OEndsW p e below s _ _ _ _ _ (T35.setTop (mkF m 163 #[.val (.long p0), .second, .val (.int p1), .val (.int p2), .val (.int p3), .val (.long ask), .second, .val (.int c0), .val (.int c1), .val (.ref b29), .val (.ref b34), .val (.ref b29), .unset] [(.ref b29)]))
          refine OEndsW.via (fun _ k => XS.ifnullNo X35.here hx rfl (hb hby at_163) rfl k) ?_
          show OEndsW p e below s _ _ _ _ _ (T35.setTop (mkF m 166 #[.val (.long p0), .second, .val (.int p1), .val (.int p2), .val (.int p3), .val (.long ask), .second, .val (.int c0), .val (.int c1), .val (.ref b29), .val (.ref b34), .val (.ref b29), .unset] []))
          refine OEndsW.via (fun _ k => XS.aload X35.here hx rfl (hb hby at_166) rfl rfl k) ?_
          show OEndsW p e below s _ _ _ _ _ (T35.setTop (mkF m 168 #[.val (.long p0), .second, .val (.int p1), .val (.int p2), .val (.int p3), .val (.long ask), .second, .val (.int c0), .val (.int c1), .val (.ref b29), .val (.ref b34), .val (.ref b29), .unset] [(.ref b29)]))
          refine OEndsW.via (fun _ k => XS.aload X35.here hx rfl (hb hby at_168) rfl rfl k) ?_
          show OEndsW p e below s _ _ _ _ _ (T35.setTop (mkF m 170 #[.val (.long p0), .second, .val (.int p1), .val (.int p2), .val (.int p3), .val (.long ask), .second, .val (.int c0), .val (.int c1), .val (.ref b29), .val (.ref b34), .val (.ref b29), .unset] [(.ref b29), (.ref b29)]))
          obtain ⟨cq36, kq36, q36a, q36b, q36c⟩ := isOf hZ e35 E_b29
          obtain ⟨_, _, ⟨T36, L36, k36, n36⟩, -, X36, ⟨Lc36, hQ36, l36, y36, z36⟩, st36⟩ := X35.virtualBack hx (y := (⟨"java/lang/String", "equals", "(Ljava/lang/Object;)Z"⟩ : MethodName)) (z := (⟨"java/lang/String", "equals", "(Ljava/lang/Object;)Z"⟩ : MethodName)) hown (mvT hZ (hw _ (List.mem_of_getElem? (i := 94) rfl))) (mvT hZ (hw _ (List.mem_of_getElem? (i := 95) rfl))) (notFace_of_selects (args := #[]) (mvT hZ (hw _ (List.mem_of_getElem? (i := 97) rfl)))) (mvT hZ (hw _ (List.mem_of_getElem? (i := 97) rfl))) (mvT hZ (hw _ (List.mem_of_getElem? (i := 96) rfl))) (by decide) (backOf (W := 0) (rmSelf l Z a0 hw [] b29 T34.heap n0 Od ) hZ (hw _ (List.mem_of_getElem? (i := 98) rfl)) (hw _ (List.mem_of_getElem? (i := 68) rfl)) (by decide) (by decide)) q36a q36c (g := (mkF m 170 #[.val (.long p0), .second, .val (.int p1), .val (.int p2), .val (.int p3), .val (.long ask), .second, .val (.int c0), .val (.int c1), .val (.ref b29), .val (.ref b34), .val (.ref b29), .unset] [(.ref b29), (.ref b29)])) rfl (by rw [hml]; rfl) (Steps.refl _) (argsL := [(.ref b29)]) (rest := []) (lenOf pd_28Ljava2flang2fObject3b29Z rfl) rfl (by show 2 * 0 + _ ≤ _; exact Nat.le_of_eq rfl) (hb hby at_170) (fun _ _ => ⟨rfl, e35, Nat.le_of_ble_eq_true rfl, Nat.le_of_ble_eq_true rfl⟩)
          dsimp only [Pt.U, Pt.locs, Pt.cells, Pt.slots] at X36 l36 y36 z36 st36 hQ36
          subst l36 y36 z36
          obtain ⟨rfl, N36q, e36⟩ := hQ36
          have N36 := Fr.app N35 N36q
          refine OEndsW.via (fun _ k => st36.trans k) ?_
          show OEndsW p e below s _ _ _ _ _ (T36.setTop (mkF m 173 #[.val (.long p0), .second, .val (.int p1), .val (.int p2), .val (.int p3), .val (.long ask), .second, .val (.int c0), .val (.int c1), .val (.ref b29), .val (.ref b34), .val (.ref b29), .unset] [(.int (1 : Int32))]))
          refine OEndsW.via (fun _ k => XS.ifNo X36.here hx rfl (hb hby at_173) rfl ((if0 _ _).trans (feq (by decide : ¬ ((1 : Int32) = (0 : Int32)))).1) k) ?_
          show OEndsW p e below s _ _ _ _ _ (T36.setTop (mkF m 176 #[.val (.long p0), .second, .val (.int p1), .val (.int p2), .val (.int p3), .val (.long ask), .second, .val (.int c0), .val (.int c1), .val (.ref b29), .val (.ref b34), .val (.ref b29), .unset] []))
          refine OEndsW.via (fun _ k => XS.iconst X36.here hx rfl (hb hby at_176) k) ?_
          show OEndsW p e below s _ _ _ _ _ (T36.setTop (mkF m 177 #[.val (.long p0), .second, .val (.int p1), .val (.int p2), .val (.int p3), .val (.long ask), .second, .val (.int c0), .val (.int c1), .val (.ref b29), .val (.ref b34), .val (.ref b29), .unset] [(.int (1 : Int32))]))
          refine OEndsW.via (fun _ k => XS.goto X36.here hx rfl (pc0 := 177) (pc' := 181) rfl (hb hby at_177) (by decide) (by decide) k) ?_
          show OEndsW p e below s _ _ _ _ _ (T36.setTop (mkF m 181 #[.val (.long p0), .second, .val (.int p1), .val (.int p2), .val (.int p3), .val (.long ask), .second, .val (.int c0), .val (.int c1), .val (.ref b29), .val (.ref b34), .val (.ref b29), .unset] [(.int (1 : Int32))]))
          refine OEndsW.via (fun _ k => XS.istore X36.here hx rfl (hb hby at_181) rfl (l' := #[.val (.long p0), .second, .val (.int p1), .val (.int p2), .val (.int p3), .val (.long ask), .second, .val (.int c0), .val (.int c1), .val (.ref b29), .val (.ref b34), .val (.ref b29), .val (.int (1 : Int32))]) rfl k) ?_
          show OEndsW p e below s _ _ _ _ _ (T36.setTop (mkF m 183 #[.val (.long p0), .second, .val (.int p1), .val (.int p2), .val (.int p3), .val (.long ask), .second, .val (.int c0), .val (.int c1), .val (.ref b29), .val (.ref b34), .val (.ref b29), .val (.int (1 : Int32))] []))
          refine OEndsW.via (fun _ k => XS.aload X36.here hx rfl (hb hby at_183) rfl rfl k) ?_
          show OEndsW p e below s _ _ _ _ _ (T36.setTop (mkF m 185 #[.val (.long p0), .second, .val (.int p1), .val (.int p2), .val (.int p3), .val (.long ask), .second, .val (.int c0), .val (.int c1), .val (.ref b29), .val (.ref b34), .val (.ref b29), .val (.int (1 : Int32))] [(.ref b34)]))
          obtain ⟨cq37, kq37, q37a, q37b, q37c⟩ := isOf hZ e36 E_b
          obtain ⟨_, _, ⟨T37, L37, k37, n37⟩, -, X37, ⟨Lc37, hQ37, l37, y37, z37⟩, st37⟩ := X36.virtualBack hx (y := (⟨"com/example/holdfast/holdfast/Acquisition", "isTaken", "()Z"⟩ : MethodName)) (z := (⟨"com/example/holdfast/holdfast/Acquisition", "isTaken", "()Z"⟩ : MethodName)) hown (mvT hZ (hw _ (List.mem_of_getElem? (i := 26) rfl))) (mvT hZ (hw _ (List.mem_of_getElem? (i := 27) rfl))) (notFace_of_selects (args := #[]) (mvT hZ (hw _ (List.mem_of_getElem? (i := 29) rfl)))) (mvT hZ (hw _ (List.mem_of_getElem? (i := 29) rfl))) (mvT hZ (hw _ (List.mem_of_getElem? (i := 28) rfl))) (by decide) (backOf (W := 0) (rm_isTaken l Z a0 hw [] b34 T34.heap n0 Od G_token) hZ (hw _ (List.mem_of_getElem? (i := 30) rfl)) (hw _ (List.mem_of_getElem? (i := 3) rfl)) (by decide) (by decide)) q37a q37c (g := (mkF m 185 #[.val (.long p0), .second, .val (.int p1), .val (.int p2), .val (.int p3), .val (.long ask), .second, .val (.int c0), .val (.int c1), .val (.ref b29), .val (.ref b34), .val (.ref b29), .val (.int (1 : Int32))] [(.ref b34)])) rfl (by rw [hml]; rfl) (Steps.refl _) (argsL := []) (rest := []) (lenOf pd_2829Z rfl) rfl (by show 2 * 0 + _ ≤ _; exact Nat.le_of_eq rfl) (hb hby at_185) (fun _ _ => ⟨rfl, e36, Nat.le_of_ble_eq_true rfl, Nat.le_of_ble_eq_true rfl⟩)
          dsimp only [Pt.U, Pt.locs, Pt.cells, Pt.slots] at X37 l37 y37 z37 st37 hQ37
          subst l37 y37 z37
          obtain ⟨rfl, N37q, e37⟩ := hQ37
          have N37 := Fr.app N36 N37q
          refine OEndsW.via (fun _ k => st37.trans k) ?_
          show OEndsW p e below s _ _ _ _ _ (T37.setTop (mkF m 188 #[.val (.long p0), .second, .val (.int p1), .val (.int p2), .val (.int p3), .val (.long ask), .second, .val (.int c0), .val (.int c1), .val (.ref b29), .val (.ref b34), .val (.ref b29), .val (.int (1 : Int32))] [(.int (0 : Int32))]))
          refine OEndsW.via (fun _ k => XS.ifNo X37.here hx rfl (hb hby at_188) rfl ((if0 _ _).trans (teq (by decide : (0 : Int32) = (0 : Int32))).2) k) ?_
          show OEndsW p e below s _ _ _ _ _ (T37.setTop (mkF m 191 #[.val (.long p0), .second, .val (.int p1), .val (.int p2), .val (.int p3), .val (.long ask), .second, .val (.int c0), .val (.int c1), .val (.ref b29), .val (.ref b34), .val (.ref b29), .val (.int (1 : Int32))] []))
          refine OEndsW.via (fun _ k => XS.aload X37.here hx rfl (hb hby at_191) rfl rfl k) ?_
          show OEndsW p e below s _ _ _ _ _ (T37.setTop (mkF m 193 #[.val (.long p0), .second, .val (.int p1), .val (.int p2), .val (.int p3), .val (.long ask), .second, .val (.int c0), .val (.int c1), .val (.ref b29), .val (.ref b34), .val (.ref b29), .val (.int (1 : Int32))] [(.ref b34)]))
          obtain ⟨cq38, kq38, q38a, q38b, q38c⟩ := isOf hZ e37 E_b
          obtain ⟨_, _, ⟨T38, L38, k38, n38⟩, -, X38, ⟨Lc38, hQ38, l38, y38, z38⟩, st38⟩ := X37.virtualBack hx (y := (⟨"com/example/holdfast/holdfast/Acquisition", "token", "()J"⟩ : MethodName)) (z := (⟨"com/example/holdfast/holdfast/Acquisition", "token", "()J"⟩ : MethodName)) hown (mvT hZ (hw _ (List.mem_of_getElem? (i := 31) rfl))) (mvT hZ (hw _ (List.mem_of_getElem? (i := 32) rfl))) (notFace_of_selects (args := #[]) (mvT hZ (hw _ (List.mem_of_getElem? (i := 34) rfl)))) (mvT hZ (hw _ (List.mem_of_getElem? (i := 34) rfl))) (mvT hZ (hw _ (List.mem_of_getElem? (i := 33) rfl))) (by decide) (backOf (W := 0) (rm_token l Z a0 hw [] b34 (0 : Int64) T34.heap n0 Od G_token) hZ (hw _ (List.mem_of_getElem? (i := 35) rfl)) (hw _ (List.mem_of_getElem? (i := 3) rfl)) (by decide) (by decide)) q38a q38c (g := (mkF m 193 #[.val (.long p0), .second, .val (.int p1), .val (.int p2), .val (.int p3), .val (.long ask), .second, .val (.int c0), .val (.int c1), .val (.ref b29), .val (.ref b34), .val (.ref b29), .val (.int (1 : Int32))] [(.ref b34)])) rfl (by rw [hml]; rfl) (Steps.refl _) (argsL := []) (rest := []) (lenOf pd_2829J rfl) rfl (by show 2 * 0 + _ ≤ _; exact Nat.le_of_eq rfl) (hb hby at_193) (fun _ _ => ⟨rfl, e37, Nat.le_of_ble_eq_true rfl, Nat.le_of_ble_eq_true rfl⟩)
          dsimp only [Pt.U, Pt.locs, Pt.cells, Pt.slots] at X38 l38 y38 z38 st38 hQ38
          subst l38 y38 z38
          obtain ⟨rfl, N38q, e38⟩ := hQ38
          have N38 := Fr.app N37 N38q
          refine OEndsW.via (fun _ k => st38.trans k) ?_
          show OEndsW p e below s _ _ _ _ _ (T38.setTop (mkF m 196 #[.val (.long p0), .second, .val (.int p1), .val (.int p2), .val (.int p3), .val (.long ask), .second, .val (.int c0), .val (.int c1), .val (.ref b29), .val (.ref b34), .val (.ref b29), .val (.int (1 : Int32))] [(.long (0 : Int64))]))
          refine OEndsW.via (fun _ k => XS.lconst X38.here hx rfl (hb hby at_196) k) ?_
          show OEndsW p e below s _ _ _ _ _ (T38.setTop (mkF m 197 #[.val (.long p0), .second, .val (.int p1), .val (.int p2), .val (.int p3), .val (.long ask), .second, .val (.int c0), .val (.int c1), .val (.ref b29), .val (.ref b34), .val (.ref b29), .val (.int (1 : Int32))] [(.long (0 : Int64)), (.long (0 : Int64))]))
          refine OEndsW.via (fun _ k => XS.lcmp X38.here hx rfl (hb hby at_197) rfl k) ?_
          show OEndsW p e below s _ _ _ _ _ (T38.setTop (mkF m 198 #[.val (.long p0), .second, .val (.int p1), .val (.int p2), .val (.int p3), .val (.long ask), .second, .val (.int c0), .val (.int c1), .val (.ref b29), .val (.ref b34), .val (.ref b29), .val (.int (1 : Int32))] [(.int (lcmpW (0 : Int64) (0 : Int64)))]))
          refine OEndsW.via (fun _ k => XS.ifNo X38.here hx rfl (hb hby at_198) rfl ((if0 _ _).trans (teq (own_lc0 _)).2) k) ?_
          show OEndsW p e below s _ _ _ _ _ (T38.setTop (mkF m 201 #[.val (.long p0), .second, .val (.int p1), .val (.int p2), .val (.int p3), .val (.long ask), .second, .val (.int c0), .val (.int c1), .val (.ref b29), .val (.ref b34), .val (.ref b29), .val (.int (1 : Int32))] []))
          refine OEndsW.via (fun _ k => XS.aload X38.here hx rfl (hb hby at_201) rfl rfl k) ?_
          show OEndsW p e below s _ _ _ _ _ (T38.setTop (mkF m 203 #[.val (.long p0), .second, .val (.int p1), .val (.int p2), .val (.int p3), .val (.long ask), .second, .val (.int c0), .val (.int c1), .val (.ref b29), .val (.ref b34), .val (.ref b29), .val (.int (1 : Int32))] [(.ref b34)]))
          obtain ⟨cq39, kq39, q39a, q39b, q39c⟩ := isOf hZ e38 E_b
          obtain ⟨_, _, ⟨T39, L39, k39, n39⟩, -, X39, ⟨Lc39, hQ39, l39, y39, z39⟩, st39⟩ := X38.virtualBack hx (y := (⟨"com/example/holdfast/holdfast/Acquisition", "askAgainMillis", "()J"⟩ : MethodName)) (z := (⟨"com/example/holdfast/holdfast/Acquisition", "askAgainMillis", "()J"⟩ : MethodName)) hown (mvT hZ (hw _ (List.mem_of_getElem? (i := 36) rfl))) (mvT hZ (hw _ (List.mem_of_getElem? (i := 37) rfl))) (notFace_of_selects (args := #[]) (mvT hZ (hw _ (List.mem_of_getElem? (i := 39) rfl)))) (mvT hZ (hw _ (List.mem_of_getElem? (i := 39) rfl))) (mvT hZ (hw _ (List.mem_of_getElem? (i := 38) rfl))) (by decide) (backOf (W := 0) (rm_askAgainMillis l Z a0 hw [] b34 ask T34.heap n0 Od G_askAgainMillis) hZ (hw _ (List.mem_of_getElem? (i := 40) rfl)) (hw _ (List.mem_of_getElem? (i := 3) rfl)) (by decide) (by decide)) q39a q39c (g := (mkF m 203 #[.val (.long p0), .second, .val (.int p1), .val (.int p2), .val (.int p3), .val (.long ask), .second, .val (.int c0), .val (.int c1), .val (.ref b29), .val (.ref b34), .val (.ref b29), .val (.int (1 : Int32))] [(.ref b34)])) rfl (by rw [hml]; rfl) (Steps.refl _) (argsL := []) (rest := []) (lenOf pd_2829J rfl) rfl (by show 2 * 0 + _ ≤ _; exact Nat.le_of_eq rfl) (hb hby at_203) (fun _ _ => ⟨rfl, e38, Nat.le_of_ble_eq_true rfl, Nat.le_of_ble_eq_true rfl⟩)
          dsimp only [Pt.U, Pt.locs, Pt.cells, Pt.slots] at X39 l39 y39 z39 st39 hQ39
          subst l39 y39 z39
          obtain ⟨rfl, N39q, e39⟩ := hQ39
          have N39 := Fr.app N38 N39q
          refine OEndsW.via (fun _ k => st39.trans k) ?_
          show OEndsW p e below s _ _ _ _ _ (T39.setTop (mkF m 206 #[.val (.long p0), .second, .val (.int p1), .val (.int p2), .val (.int p3), .val (.long ask), .second, .val (.int c0), .val (.int c1), .val (.ref b29), .val (.ref b34), .val (.ref b29), .val (.int (1 : Int32))] [(.long ask)]))
          refine OEndsW.via (fun _ k => XS.lload X39.here hx rfl (hb hby at_206) rfl k) ?_
          show OEndsW p e below s _ _ _ _ _ (T39.setTop (mkF m 208 #[.val (.long p0), .second, .val (.int p1), .val (.int p2), .val (.int p3), .val (.long ask), .second, .val (.int c0), .val (.int c1), .val (.ref b29), .val (.ref b34), .val (.ref b29), .val (.int (1 : Int32))] [(.long ask), (.long ask)]))
          refine OEndsW.via (fun _ k => XS.lcmp X39.here hx rfl (hb hby at_208) rfl k) ?_
          show OEndsW p e below s _ _ _ _ _ (T39.setTop (mkF m 209 #[.val (.long p0), .second, .val (.int p1), .val (.int p2), .val (.int p3), .val (.long ask), .second, .val (.int c0), .val (.int c1), .val (.ref b29), .val (.ref b34), .val (.ref b29), .val (.int (1 : Int32))] [(.int (lcmpW ask ask))]))
          refine OEndsW.via (fun _ k => XS.ifNo X39.here hx rfl (hb hby at_209) rfl ((if0 _ _).trans (teq (own_lc0 _)).2) k) ?_
          show OEndsW p e below s _ _ _ _ _ (T39.setTop (mkF m 212 #[.val (.long p0), .second, .val (.int p1), .val (.int p2), .val (.int p3), .val (.long ask), .second, .val (.int c0), .val (.int c1), .val (.ref b29), .val (.ref b34), .val (.ref b29), .val (.int (1 : Int32))] []))
          refine OEndsW.via (fun _ k => XS.iload X39.here hx rfl (hb hby at_212) rfl k) ?_
          show OEndsW p e below s _ _ _ _ _ (T39.setTop (mkF m 214 #[.val (.long p0), .second, .val (.int p1), .val (.int p2), .val (.int p3), .val (.long ask), .second, .val (.int c0), .val (.int c1), .val (.ref b29), .val (.ref b34), .val (.ref b29), .val (.int (1 : Int32))] [(.int (1 : Int32))]))
          refine OEndsW.via (fun _ k => XS.ifNo X39.here hx rfl (hb hby at_214) rfl ((if0 _ _).trans (feq (by decide : ¬ ((1 : Int32) = (0 : Int32)))).1) k) ?_
          show OEndsW p e below s _ _ _ _ _ (T39.setTop (mkF m 217 #[.val (.long p0), .second, .val (.int p1), .val (.int p2), .val (.int p3), .val (.long ask), .second, .val (.int c0), .val (.int c1), .val (.ref b29), .val (.ref b34), .val (.ref b29), .val (.int (1 : Int32))] []))
          refine OEndsW.via (fun _ k => XS.aload X39.here hx rfl (hb hby at_217) rfl rfl k) ?_
          show OEndsW p e below s _ _ _ _ _ (T39.setTop (mkF m 219 #[.val (.long p0), .second, .val (.int p1), .val (.int p2), .val (.int p3), .val (.long ask), .second, .val (.int c0), .val (.int c1), .val (.ref b29), .val (.ref b34), .val (.ref b29), .val (.int (1 : Int32))] [(.ref b34)]))
          obtain ⟨cq40, kq40, q40a, q40b, q40c⟩ := isOf hZ e39 E_b
          obtain ⟨_, _, ⟨T40, L40, k40, n40⟩, -, X40, ⟨Lc40, hQ40, l40, y40, z40⟩, st40⟩ := X39.virtualBack hx (y := (⟨"com/example/holdfast/holdfast/Acquisition", "isUnasked", "()Z"⟩ : MethodName)) (z := (⟨"com/example/holdfast/holdfast/Acquisition", "isUnasked", "()Z"⟩ : MethodName)) hown (mvT hZ (hw _ (List.mem_of_getElem? (i := 41) rfl))) (mvT hZ (hw _ (List.mem_of_getElem? (i := 42) rfl))) (notFace_of_selects (args := #[]) (mvT hZ (hw _ (List.mem_of_getElem? (i := 44) rfl)))) (mvT hZ (hw _ (List.mem_of_getElem? (i := 44) rfl))) (mvT hZ (hw _ (List.mem_of_getElem? (i := 43) rfl))) (by decide) (backOf (W := 0) (rm_isUnasked l Z a0 hw [] b34 a_UNASKED T34.heap n0 Od S_UNASKED ne_UNASKED) hZ (hw _ (List.mem_of_getElem? (i := 45) rfl)) (hw _ (List.mem_of_getElem? (i := 3) rfl)) (by decide) (by decide)) q40a q40c (g := (mkF m 219 #[.val (.long p0), .second, .val (.int p1), .val (.int p2), .val (.int p3), .val (.long ask), .second, .val (.int c0), .val (.int c1), .val (.ref b29), .val (.ref b34), .val (.ref b29), .val (.int (1 : Int32))] [(.ref b34)])) rfl (by rw [hml]; rfl) (Steps.refl _) (argsL := []) (rest := []) (lenOf pd_2829Z rfl) rfl (by show 2 * 0 + _ ≤ _; exact Nat.le_of_eq rfl) (hb hby at_219) (fun _ _ => ⟨rfl, e39, Nat.le_of_ble_eq_true rfl, Nat.le_of_ble_eq_true rfl⟩)
          dsimp only [Pt.U, Pt.locs, Pt.cells, Pt.slots] at X40 l40 y40 z40 st40 hQ40
          subst l40 y40 z40
          obtain ⟨rfl, N40q, e40⟩ := hQ40
          have N40 := Fr.app N39 N40q
          refine OEndsW.via (fun _ k => st40.trans k) ?_
          show OEndsW p e below s _ _ _ _ _ (T40.setTop (mkF m 222 #[.val (.long p0), .second, .val (.int p1), .val (.int p2), .val (.int p3), .val (.long ask), .second, .val (.int c0), .val (.int c1), .val (.ref b29), .val (.ref b34), .val (.ref b29), .val (.int (1 : Int32))] [(.int (0 : Int32))]))
          refine OEndsW.via (fun _ k => XS.ifNo X40.here hx rfl (hb hby at_222) rfl ((if0 _ _).trans (teq (by decide : (0 : Int32) = (0 : Int32))).2) k) ?_
          show OEndsW p e below s _ _ _ _ _ (T40.setTop (mkF m 225 #[.val (.long p0), .second, .val (.int p1), .val (.int p2), .val (.int p3), .val (.long ask), .second, .val (.int c0), .val (.int c1), .val (.ref b29), .val (.ref b34), .val (.ref b29), .val (.int (1 : Int32))] []))
          refine OEndsW.via (fun _ k => XS.aload X40.here hx rfl (hb hby at_225) rfl rfl k) ?_
          show OEndsW p e below s _ _ _ _ _ (T40.setTop (mkF m 227 #[.val (.long p0), .second, .val (.int p1), .val (.int p2), .val (.int p3), .val (.long ask), .second, .val (.int c0), .val (.int c1), .val (.ref b29), .val (.ref b34), .val (.ref b29), .val (.int (1 : Int32))] [(.ref b34)]))
          obtain ⟨cq41, kq41, q41a, q41b, q41c⟩ := isOf hZ e40 E_b
          obtain ⟨_, _, ⟨T41, L41, k41, n41⟩, -, X41, ⟨Lc41, hQ41, l41, y41, z41⟩, st41⟩ := X40.virtualBack hx (y := (⟨"com/example/holdfast/holdfast/Acquisition", "isUnconfirmed", "()Z"⟩ : MethodName)) (z := (⟨"com/example/holdfast/holdfast/Acquisition", "isUnconfirmed", "()Z"⟩ : MethodName)) hown (mvT hZ (hw _ (List.mem_of_getElem? (i := 48) rfl))) (mvT hZ (hw _ (List.mem_of_getElem? (i := 49) rfl))) (notFace_of_selects (args := #[]) (mvT hZ (hw _ (List.mem_of_getElem? (i := 51) rfl)))) (mvT hZ (hw _ (List.mem_of_getElem? (i := 51) rfl))) (mvT hZ (hw _ (List.mem_of_getElem? (i := 50) rfl))) (by decide) (backOf (W := 0) (rm_isUnconfirmed l Z a0 hw [] b34 a_UNCONFIRMED T34.heap n0 Od S_UNCONFIRMED ne_UNCONFIRMED) hZ (hw _ (List.mem_of_getElem? (i := 52) rfl)) (hw _ (List.mem_of_getElem? (i := 3) rfl)) (by decide) (by decide)) q41a q41c (g := (mkF m 227 #[.val (.long p0), .second, .val (.int p1), .val (.int p2), .val (.int p3), .val (.long ask), .second, .val (.int c0), .val (.int c1), .val (.ref b29), .val (.ref b34), .val (.ref b29), .val (.int (1 : Int32))] [(.ref b34)])) rfl (by rw [hml]; rfl) (Steps.refl _) (argsL := []) (rest := []) (lenOf pd_2829Z rfl) rfl (by show 2 * 0 + _ ≤ _; exact Nat.le_of_eq rfl) (hb hby at_227) (fun _ _ => ⟨rfl, e40, Nat.le_of_ble_eq_true rfl, Nat.le_of_ble_eq_true rfl⟩)
          dsimp only [Pt.U, Pt.locs, Pt.cells, Pt.slots] at X41 l41 y41 z41 st41 hQ41
          subst l41 y41 z41
          obtain ⟨rfl, N41q, e41⟩ := hQ41
          have N41 := Fr.app N40 N41q
          refine OEndsW.via (fun _ k => st41.trans k) ?_
          show OEndsW p e below s _ _ _ _ _ (T41.setTop (mkF m 230 #[.val (.long p0), .second, .val (.int p1), .val (.int p2), .val (.int p3), .val (.long ask), .second, .val (.int c0), .val (.int c1), .val (.ref b29), .val (.ref b34), .val (.ref b29), .val (.int (1 : Int32))] [(.int (0 : Int32))]))
          refine OEndsW.via (fun _ k => XS.ifNo X41.here hx rfl (hb hby at_230) rfl ((if0 _ _).trans (teq (by decide : (0 : Int32) = (0 : Int32))).2) k) ?_
          show OEndsW p e below s _ _ _ _ _ (T41.setTop (mkF m 233 #[.val (.long p0), .second, .val (.int p1), .val (.int p2), .val (.int p3), .val (.long ask), .second, .val (.int c0), .val (.int c1), .val (.ref b29), .val (.ref b34), .val (.ref b29), .val (.int (1 : Int32))] []))
          refine OEndsW.via (fun _ k => XS.aload X41.here hx rfl (hb hby at_233) rfl rfl k) ?_
          show OEndsW p e below s _ _ _ _ _ (T41.setTop (mkF m 235 #[.val (.long p0), .second, .val (.int p1), .val (.int p2), .val (.int p3), .val (.long ask), .second, .val (.int c0), .val (.int c1), .val (.ref b29), .val (.ref b34), .val (.ref b29), .val (.int (1 : Int32))] [(.ref b34)]))
          obtain ⟨cq42, kq42, q42a, q42b, q42c⟩ := isOf hZ e41 E_b
          obtain ⟨_, _, ⟨T42, L42, k42, n42⟩, -, X42, ⟨Lc42, hQ42, l42, y42, z42⟩, st42⟩ := X41.virtualBack hx (y := (⟨"com/example/holdfast/holdfast/Acquisition", "isUnreached", "()Z"⟩ : MethodName)) (z := (⟨"com/example/holdfast/holdfast/Acquisition", "isUnreached", "()Z"⟩ : MethodName)) hown (mvT hZ (hw _ (List.mem_of_getElem? (i := 55) rfl))) (mvT hZ (hw _ (List.mem_of_getElem? (i := 56) rfl))) (notFace_of_selects (args := #[]) (mvT hZ (hw _ (List.mem_of_getElem? (i := 58) rfl)))) (mvT hZ (hw _ (List.mem_of_getElem? (i := 58) rfl))) (mvT hZ (hw _ (List.mem_of_getElem? (i := 57) rfl))) (by decide) (backOf (W := 0) (rm_isUnreached l Z a0 hw [] b34 T34.heap n0 Od G_unreached) hZ (hw _ (List.mem_of_getElem? (i := 59) rfl)) (hw _ (List.mem_of_getElem? (i := 3) rfl)) (by decide) (by decide)) q42a q42c (g := (mkF m 235 #[.val (.long p0), .second, .val (.int p1), .val (.int p2), .val (.int p3), .val (.long ask), .second, .val (.int c0), .val (.int c1), .val (.ref b29), .val (.ref b34), .val (.ref b29), .val (.int (1 : Int32))] [(.ref b34)])) rfl (by rw [hml]; rfl) (Steps.refl _) (argsL := []) (rest := []) (lenOf pd_2829Z rfl) rfl (by show 2 * 0 + _ ≤ _; exact Nat.le_of_eq rfl) (hb hby at_235) (fun _ _ => ⟨rfl, e41, Nat.le_of_ble_eq_true rfl, Nat.le_of_ble_eq_true rfl⟩)
          dsimp only [Pt.U, Pt.locs, Pt.cells, Pt.slots] at X42 l42 y42 z42 st42 hQ42
          subst l42 y42 z42
          obtain ⟨rfl, N42q, e42⟩ := hQ42
          have N42 := Fr.app N41 N42q
          refine OEndsW.via (fun _ k => st42.trans k) ?_
          show OEndsW p e below s _ _ _ _ _ (T42.setTop (mkF m 238 #[.val (.long p0), .second, .val (.int p1), .val (.int p2), .val (.int p3), .val (.long ask), .second, .val (.int c0), .val (.int c1), .val (.ref b29), .val (.ref b34), .val (.ref b29), .val (.int (1 : Int32))] [(.int (0 : Int32))]))
          refine OEndsW.via (fun _ k => XS.ifNo X42.here hx rfl (hb hby at_238) rfl ((if0 _ _).trans (teq (by decide : (0 : Int32) = (0 : Int32))).2) k) ?_
          show OEndsW p e below s _ _ _ _ _ (T42.setTop (mkF m 241 #[.val (.long p0), .second, .val (.int p1), .val (.int p2), .val (.int p3), .val (.long ask), .second, .val (.int c0), .val (.int c1), .val (.ref b29), .val (.ref b34), .val (.ref b29), .val (.int (1 : Int32))] []))
          refine OEndsW.via (fun _ k => XS.aload X42.here hx rfl (hb hby at_241) rfl rfl k) ?_
          show OEndsW p e below s _ _ _ _ _ (T42.setTop (mkF m 243 #[.val (.long p0), .second, .val (.int p1), .val (.int p2), .val (.int p3), .val (.long ask), .second, .val (.int c0), .val (.int c1), .val (.ref b29), .val (.ref b34), .val (.ref b29), .val (.int (1 : Int32))] [(.ref b34)]))
          obtain ⟨cq43, kq43, q43a, q43b, q43c⟩ := isOf hZ e42 E_b
          obtain ⟨_, _, ⟨T43, L43, k43, n43⟩, -, X43, ⟨Lc43, hQ43, l43, y43, z43⟩, st43⟩ := X42.virtualBack hx (y := (⟨"com/example/holdfast/holdfast/Acquisition", "unreachedBy", "()Lcom/example/holdfast/holdfast/HoldfastException;"⟩ : MethodName)) (z := (⟨"com/example/holdfast/holdfast/Acquisition", "unreachedBy", "()Lcom/example/holdfast/holdfast/HoldfastException;"⟩ : MethodName)) hown (mvT hZ (hw _ (List.mem_of_getElem? (i := 60) rfl))) (mvT hZ (hw _ (List.mem_of_getElem? (i := 61) rfl))) (notFace_of_selects (args := #[]) (mvT hZ (hw _ (List.mem_of_getElem? (i := 63) rfl)))) (mvT hZ (hw _ (List.mem_of_getElem? (i := 63) rfl))) (mvT hZ (hw _ (List.mem_of_getElem? (i := 62) rfl))) (by decide) (backOf (W := 0) (rm_unreachedBy l Z a0 hw [] b34 T34.heap n0 Od G_unreached) hZ (hw _ (List.mem_of_getElem? (i := 64) rfl)) (hw _ (List.mem_of_getElem? (i := 3) rfl)) (by decide) (by decide)) q43a q43c (g := (mkF m 243 #[.val (.long p0), .second, .val (.int p1), .val (.int p2), .val (.int p3), .val (.long ask), .second, .val (.int c0), .val (.int c1), .val (.ref b29), .val (.ref b34), .val (.ref b29), .val (.int (1 : Int32))] [(.ref b34)])) rfl (by rw [hml]; rfl) (Steps.refl _) (argsL := []) (rest := []) (lenOf pd_2829Lcom2fexample2fholdfast2fholdfast2fHoldfastException3b rfl) rfl (by show 2 * 0 + _ ≤ _; exact Nat.le_of_eq rfl) (hb hby at_243) (fun _ _ => ⟨rfl, e42, Nat.le_of_ble_eq_true rfl, Nat.le_of_ble_eq_true rfl⟩)
          dsimp only [Pt.U, Pt.locs, Pt.cells, Pt.slots] at X43 l43 y43 z43 st43 hQ43
          subst l43 y43 z43
          obtain ⟨rfl, N43q, e43⟩ := hQ43
          have N43 := Fr.app N42 N43q
          refine OEndsW.via (fun _ k => st43.trans k) ?_
          show OEndsW p e below s _ _ _ _ _ (T43.setTop (mkF m 246 #[.val (.long p0), .second, .val (.int p1), .val (.int p2), .val (.int p3), .val (.long ask), .second, .val (.int c0), .val (.int c1), .val (.ref b29), .val (.ref b34), .val (.ref b29), .val (.int (1 : Int32))] [.null]))
          refine OEndsW.via (fun _ k => XS.ifnonnullNo X43.here hx rfl (hb hby at_246) rfl k) ?_
          show OEndsW p e below s _ _ _ _ _ (T43.setTop (mkF m 249 #[.val (.long p0), .second, .val (.int p1), .val (.int p2), .val (.int p3), .val (.long ask), .second, .val (.int c0), .val (.int c1), .val (.ref b29), .val (.ref b34), .val (.ref b29), .val (.int (1 : Int32))] []))
          refine OEndsW.via (fun _ k => XS.iconst X43.here hx rfl (hb hby at_249) k) ?_
          show OEndsW p e below s _ _ _ _ _ (T43.setTop (mkF m 250 #[.val (.long p0), .second, .val (.int p1), .val (.int p2), .val (.int p3), .val (.long ask), .second, .val (.int c0), .val (.int c1), .val (.ref b29), .val (.ref b34), .val (.ref b29), .val (.int (1 : Int32))] [(.int (1 : Int32))]))
          refine OEndsW.via (fun _ k => XS.goto X43.here hx rfl (pc0 := 250) (pc' := 254) rfl (hb hby at_250) (by decide) (by decide) k) ?_
          show OEndsW p e below s _ _ _ _ _ (T43.setTop (mkF m 254 #[.val (.long p0), .second, .val (.int p1), .val (.int p2), .val (.int p3), .val (.long ask), .second, .val (.int c0), .val (.int c1), .val (.ref b29), .val (.ref b34), .val (.ref b29), .val (.int (1 : Int32))] [(.int (1 : Int32))]))
          refine OEndsW.retN X43 hx hlk hS hk hZ hEL e43 es CR (t := .boolean) Bd.returns (by simp) (hb hby at_254) ?_ (by decide) (by decide)
          exact ⟨rfl, N43⟩
    · skip
      refine OEndsW.via (fun _ k => XS.ifNo X0.here hx rfl (hb hby at_51) rfl ((if0 _ _).trans (feq hc51_1).1) k) ?_
      show OEndsW p e below s _ _ _ _ _ (s₁.setTop (mkF m 54 #[.val (.long p0), .second, .val (.int p1), .val (.int p2), .val (.int p3), .val (.long ask), .second, .val (.int c0), .val (.int c1), .unset, .unset, .unset, .unset] []))
      refine OEndsW.via (fun _ k => XS.aconstNull X0.here hx rfl (hb hby at_54) k) ?_
      show OEndsW p e below s _ _ _ _ _ (s₁.setTop (mkF m 55 #[.val (.long p0), .second, .val (.int p1), .val (.int p2), .val (.int p3), .val (.long ask), .second, .val (.int c0), .val (.int c1), .unset, .unset, .unset, .unset] [.null]))
      refine OEndsW.via (fun _ k => XS.astore X0.here hx rfl (hb hby at_55) rfl rfl (l' := #[.val (.long p0), .second, .val (.int p1), .val (.int p2), .val (.int p3), .val (.long ask), .second, .val (.int c0), .val (.int c1), .val .null, .unset, .unset, .unset]) rfl k) ?_
      show OEndsW p e below s _ _ _ _ _ (s₁.setTop (mkF m 57 #[.val (.long p0), .second, .val (.int p1), .val (.int p2), .val (.int p3), .val (.long ask), .second, .val (.int c0), .val (.int c1), .val .null, .unset, .unset, .unset] []))
      refine OEndsW.via (fun _ k => XS.goto X0.here hx rfl (pc0 := 57) (pc' := 125) rfl (hb hby at_57) (by decide) (by decide) k) ?_
      show OEndsW p e below s _ _ _ _ _ (s₁.setTop (mkF m 125 #[.val (.long p0), .second, .val (.int p1), .val (.int p2), .val (.int p3), .val (.long ask), .second, .val (.int c0), .val (.int c1), .val .null, .unset, .unset, .unset] []))
      refine OEndsW.via (fun _ k => XS.lload X0.here hx rfl (hb hby at_125) rfl k) ?_
      show OEndsW p e below s _ _ _ _ _ (s₁.setTop (mkF m 127 #[.val (.long p0), .second, .val (.int p1), .val (.int p2), .val (.int p3), .val (.long ask), .second, .val (.int c0), .val (.int c1), .val .null, .unset, .unset, .unset] [(.long ask)]))
      refine OEndsW.via (fun _ k => XS.aload X0.here hx rfl (hb hby at_127) rfl rfl k) ?_
      show OEndsW p e below s _ _ _ _ _ (s₁.setTop (mkF m 129 #[.val (.long p0), .second, .val (.int p1), .val (.int p2), .val (.int p3), .val (.long ask), .second, .val (.int c0), .val (.int c1), .val .null, .unset, .unset, .unset] [.null, (.long ask)]))
      obtain ⟨_, _, ⟨T44, L44, k44, n44⟩, -, X44, ⟨Lc44, hQ44, l44, y44, z44⟩, st44⟩ := Jvm.LawKit.callS X0 hx (y := (⟨"com/example/holdfast/holdfast/Acquisition", "refused", "(JLjava/lang/String;)Lcom/example/holdfast/holdfast/Acquisition;"⟩ : MethodName)) hown (mvT hZ (hw _ (List.mem_of_getElem? (i := 1) rfl))) (mvT hZ (hw _ (List.mem_of_getElem? (i := 2) rfl))) (mvT hZ (hw _ (List.mem_of_getElem? (i := 3) rfl))) (mvT hZ (hw _ (List.mem_of_getElem? (i := 4) rfl))) (by decide) (backOf (W := 0) (rmT l Z a0 hw [] ask .null h0 n0 Od rfl) hZ (hw _ (List.mem_of_getElem? (i := 4) rfl)) (hw _ (List.mem_of_getElem? (i := 3) rfl)) (by decide) (by decide)) (g := (mkF m 129 #[.val (.long p0), .second, .val (.int p1), .val (.int p2), .val (.int p3), .val (.long ask), .second, .val (.int c0), .val (.int c1), .val .null, .unset, .unset, .unset] [.null, (.long ask)])) rfl (by rw [hml]; rfl) (argsL := [(.long ask), .null]) (rest := []) (lenOf pd_28JLjava2flang2fString3b29Lcom2fexample2fholdfast2fholdfast2fAcquisition3b rfl) rfl (by show 2 * 0 + _ ≤ _; exact Nat.le_of_eq rfl) (hb hby at_129) (fun _ _ => ⟨rfl, e0, Nat.le_of_ble_eq_true rfl, Nat.le_of_ble_eq_true rfl⟩)
      dsimp only [Pt.U, Pt.locs, Pt.cells, Pt.slots] at X44 l44 y44 z44 st44 hQ44
      subst l44 y44 z44
      obtain ⟨b44, rfl, N44q, K44, ge44, sz44, E_b, G_token, G_askAgainMillis, G_keptBy, G_unreached⟩ := hQ44
      have N44 := Fr.app N0 N44q
      have sfk44 : ∀ x ∈ ([] : List Addr), Safe Z consts_1 s.vm h0 x := all0
      replace hk := Nat.le_trans hk K44.1
      replace Od := Od.keep K44 all0
      replace CR := CR.trans (CHr.keep K44 sfk44 CR.1)
      have ne_UNASKED : b44 ≠ a_UNASKED := Ne.symm (O0.ne E_UNASKED.lt ge44)
      have ne_UNCONFIRMED : b44 ≠ a_UNCONFIRMED := Ne.symm (O0.ne E_UNCONFIRMED.lt ge44)
      refine OEndsW.via (fun _ k => st44 _ k) ?_
      show OEndsW p e below s _ _ _ _ _ (T44.setTop (mkF m 132 #[.val (.long p0), .second, .val (.int p1), .val (.int p2), .val (.int p3), .val (.long ask), .second, .val (.int c0), .val (.int c1), .val .null, .unset, .unset, .unset] [(.ref b44)]))
      refine OEndsW.via (fun _ k => XS.astore X44.here hx rfl (hb hby at_132) rfl rfl (l' := #[.val (.long p0), .second, .val (.int p1), .val (.int p2), .val (.int p3), .val (.long ask), .second, .val (.int c0), .val (.int c1), .val .null, .val (.ref b44), .unset, .unset]) rfl k) ?_
      show OEndsW p e below s _ _ _ _ _ (T44.setTop (mkF m 134 #[.val (.long p0), .second, .val (.int p1), .val (.int p2), .val (.int p3), .val (.long ask), .second, .val (.int c0), .val (.int c1), .val .null, .val (.ref b44), .unset, .unset] []))
      refine OEndsW.via (fun _ k => XS.aload X44.here hx rfl (hb hby at_134) rfl rfl k) ?_
      show OEndsW p e below s _ _ _ _ _ (T44.setTop (mkF m 136 #[.val (.long p0), .second, .val (.int p1), .val (.int p2), .val (.int p3), .val (.long ask), .second, .val (.int c0), .val (.int c1), .val .null, .val (.ref b44), .unset, .unset] [(.ref b44)]))
      obtain ⟨cq45, kq45, q45a, q45b, q45c⟩ := isOf hZ rfl E_b
      obtain ⟨_, _, ⟨T45, L45, k45, n45⟩, -, X45, ⟨Lc45, hQ45, l45, y45, z45⟩, st45⟩ := X44.virtualBack hx (y := (⟨"com/example/holdfast/holdfast/Acquisition", "keptBy", "()Ljava/lang/String;"⟩ : MethodName)) (z := (⟨"com/example/holdfast/holdfast/Acquisition", "keptBy", "()Ljava/lang/String;"⟩ : MethodName)) hown (mvT hZ (hw _ (List.mem_of_getElem? (i := 21) rfl))) (mvT hZ (hw _ (List.mem_of_getElem? (i := 22) rfl))) (notFace_of_selects (args := #[]) (mvT hZ (hw _ (List.mem_of_getElem? (i := 24) rfl)))) (mvT hZ (hw _ (List.mem_of_getElem? (i := 24) rfl))) (mvT hZ (hw _ (List.mem_of_getElem? (i := 23) rfl))) (by decide) (backOf (W := 0) (rm_keptBy l Z a0 hw [] b44 .null T44.heap n0 Od G_keptBy rfl) hZ (hw _ (List.mem_of_getElem? (i := 25) rfl)) (hw _ (List.mem_of_getElem? (i := 3) rfl)) (by decide) (by decide)) q45a q45c (g := (mkF m 136 #[.val (.long p0), .second, .val (.int p1), .val (.int p2), .val (.int p3), .val (.long ask), .second, .val (.int c0), .val (.int c1), .val .null, .val (.ref b44), .unset, .unset] [(.ref b44)])) rfl (by rw [hml]; rfl) (Steps.refl _) (argsL := []) (rest := []) (lenOf pd_2829Ljava2flang2fString3b rfl) rfl (by show 2 * 0 + _ ≤ _; exact Nat.le_of_eq rfl) (hb hby at_136) (fun _ _ => ⟨rfl, rfl, Nat.le_of_ble_eq_true rfl, Nat.le_of_ble_eq_true rfl⟩)
      dsimp only [Pt.U, Pt.locs, Pt.cells, Pt.slots] at X45 l45 y45 z45 st45 hQ45
      subst l45 y45 z45
      obtain ⟨rfl, N45q, e45⟩ := hQ45
      have N45 := Fr.app N44 N45q
      refine OEndsW.via (fun _ k => st45.trans k) ?_
      show OEndsW p e below s _ _ _ _ _ (T45.setTop (mkF m 139 #[.val (.long p0), .second, .val (.int p1), .val (.int p2), .val (.int p3), .val (.long ask), .second, .val (.int c0), .val (.int c1), .val .null, .val (.ref b44), .unset, .unset] [.null]))
      refine OEndsW.via (fun _ k => XS.astore X45.here hx rfl (hb hby at_139) rfl rfl (l' := #[.val (.long p0), .second, .val (.int p1), .val (.int p2), .val (.int p3), .val (.long ask), .second, .val (.int c0), .val (.int c1), .val .null, .val (.ref b44), .val .null, .unset]) rfl k) ?_
      show OEndsW p e below s _ _ _ _ _ (T45.setTop (mkF m 141 #[.val (.long p0), .second, .val (.int p1), .val (.int p2), .val (.int p3), .val (.long ask), .second, .val (.int c0), .val (.int c1), .val .null, .val (.ref b44), .val .null, .unset] []))
      refine OEndsW.via (fun _ k => XS.aload X45.here hx rfl (hb hby at_141) rfl rfl k) ?_
      show OEndsW p e below s _ _ _ _ _ (T45.setTop (mkF m 143 #[.val (.long p0), .second, .val (.int p1), .val (.int p2), .val (.int p3), .val (.long ask), .second, .val (.int c0), .val (.int c1), .val .null, .val (.ref b44), .val .null, .unset] [.null]))
      refine OEndsW.via (fun _ k => XS.ifnonnullNo X45.here hx rfl (hb hby at_143) rfl k) ?_
      show OEndsW p e below s _ _ _ _ _ (T45.setTop (mkF m 146 #[.val (.long p0), .second, .val (.int p1), .val (.int p2), .val (.int p3), .val (.long ask), .second, .val (.int c0), .val (.int c1), .val .null, .val (.ref b44), .val .null, .unset] []))
      refine OEndsW.via (fun _ k => XS.aload X45.here hx rfl (hb hby at_146) rfl rfl k) ?_
      show OEndsW p e below s _ _ _ _ _ (T45.setTop (mkF m 148 #[.val (.long p0), .second, .val (.int p1), .val (.int p2), .val (.int p3), .val (.long ask), .second, .val (.int c0), .val (.int c1), .val .null, .val (.ref b44), .val .null, .unset] [.null]))
      refine OEndsW.via (fun _ k => XS.ifnonnullNo X45.here hx rfl (hb hby at_148) rfl k) ?_
      show OEndsW p e below s _ _ _ _ _ (T45.setTop (mkF m 151 #[.val (.long p0), .second, .val (.int p1), .val (.int p2), .val (.int p3), .val (.long ask), .second, .val (.int c0), .val (.int c1), .val .null, .val (.ref b44), .val .null, .unset] []))
      refine OEndsW.via (fun _ k => XS.iconst X45.here hx rfl (hb hby at_151) k) ?_
      show OEndsW p e below s _ _ _ _ _ (T45.setTop (mkF m 152 #[.val (.long p0), .second, .val (.int p1), .val (.int p2), .val (.int p3), .val (.long ask), .second, .val (.int c0), .val (.int c1), .val .null, .val (.ref b44), .val .null, .unset] [(.int (1 : Int32))]))
      refine OEndsW.via (fun _ k => XS.goto X45.here hx rfl (pc0 := 152) (pc' := 156) rfl (hb hby at_152) (by decide) (by decide) k) ?_
      show OEndsW p e below s _ _ _ _ _ (T45.setTop (mkF m 156 #[.val (.long p0), .second, .val (.int p1), .val (.int p2), .val (.int p3), .val (.long ask), .second, .val (.int c0), .val (.int c1), .val .null, .val (.ref b44), .val .null, .unset] [(.int (1 : Int32))]))
      refine OEndsW.via (fun _ k => XS.istore X45.here hx rfl (hb hby at_156) rfl (l' := #[.val (.long p0), .second, .val (.int p1), .val (.int p2), .val (.int p3), .val (.long ask), .second, .val (.int c0), .val (.int c1), .val .null, .val (.ref b44), .val .null, .val (.int (1 : Int32))]) rfl k) ?_
      show OEndsW p e below s _ _ _ _ _ (T45.setTop (mkF m 158 #[.val (.long p0), .second, .val (.int p1), .val (.int p2), .val (.int p3), .val (.long ask), .second, .val (.int c0), .val (.int c1), .val .null, .val (.ref b44), .val .null, .val (.int (1 : Int32))] []))
      refine OEndsW.via (fun _ k => XS.goto X45.here hx rfl (pc0 := 158) (pc' := 183) rfl (hb hby at_158) (by decide) (by decide) k) ?_
      show OEndsW p e below s _ _ _ _ _ (T45.setTop (mkF m 183 #[.val (.long p0), .second, .val (.int p1), .val (.int p2), .val (.int p3), .val (.long ask), .second, .val (.int c0), .val (.int c1), .val .null, .val (.ref b44), .val .null, .val (.int (1 : Int32))] []))
      refine OEndsW.via (fun _ k => XS.aload X45.here hx rfl (hb hby at_183) rfl rfl k) ?_
      show OEndsW p e below s _ _ _ _ _ (T45.setTop (mkF m 185 #[.val (.long p0), .second, .val (.int p1), .val (.int p2), .val (.int p3), .val (.long ask), .second, .val (.int c0), .val (.int c1), .val .null, .val (.ref b44), .val .null, .val (.int (1 : Int32))] [(.ref b44)]))
      obtain ⟨cq46, kq46, q46a, q46b, q46c⟩ := isOf hZ e45 E_b
      obtain ⟨_, _, ⟨T46, L46, k46, n46⟩, -, X46, ⟨Lc46, hQ46, l46, y46, z46⟩, st46⟩ := X45.virtualBack hx (y := (⟨"com/example/holdfast/holdfast/Acquisition", "isTaken", "()Z"⟩ : MethodName)) (z := (⟨"com/example/holdfast/holdfast/Acquisition", "isTaken", "()Z"⟩ : MethodName)) hown (mvT hZ (hw _ (List.mem_of_getElem? (i := 26) rfl))) (mvT hZ (hw _ (List.mem_of_getElem? (i := 27) rfl))) (notFace_of_selects (args := #[]) (mvT hZ (hw _ (List.mem_of_getElem? (i := 29) rfl)))) (mvT hZ (hw _ (List.mem_of_getElem? (i := 29) rfl))) (mvT hZ (hw _ (List.mem_of_getElem? (i := 28) rfl))) (by decide) (backOf (W := 0) (rm_isTaken l Z a0 hw [] b44 T44.heap n0 Od G_token) hZ (hw _ (List.mem_of_getElem? (i := 30) rfl)) (hw _ (List.mem_of_getElem? (i := 3) rfl)) (by decide) (by decide)) q46a q46c (g := (mkF m 185 #[.val (.long p0), .second, .val (.int p1), .val (.int p2), .val (.int p3), .val (.long ask), .second, .val (.int c0), .val (.int c1), .val .null, .val (.ref b44), .val .null, .val (.int (1 : Int32))] [(.ref b44)])) rfl (by rw [hml]; rfl) (Steps.refl _) (argsL := []) (rest := []) (lenOf pd_2829Z rfl) rfl (by show 2 * 0 + _ ≤ _; exact Nat.le_of_eq rfl) (hb hby at_185) (fun _ _ => ⟨rfl, e45, Nat.le_of_ble_eq_true rfl, Nat.le_of_ble_eq_true rfl⟩)
      dsimp only [Pt.U, Pt.locs, Pt.cells, Pt.slots] at X46 l46 y46 z46 st46 hQ46
      subst l46 y46 z46
      obtain ⟨rfl, N46q, e46⟩ := hQ46
      have N46 := Fr.app N45 N46q
      refine OEndsW.via (fun _ k => st46.trans k) ?_
      show OEndsW p e below s _ _ _ _ _ (T46.setTop (mkF m 188 #[.val (.long p0), .second, .val (.int p1), .val (.int p2), .val (.int p3), .val (.long ask), .second, .val (.int c0), .val (.int c1), .val .null, .val (.ref b44), .val .null, .val (.int (1 : Int32))] [(.int (0 : Int32))]))
      refine OEndsW.via (fun _ k => XS.ifNo X46.here hx rfl (hb hby at_188) rfl ((if0 _ _).trans (teq (by decide : (0 : Int32) = (0 : Int32))).2) k) ?_
      show OEndsW p e below s _ _ _ _ _ (T46.setTop (mkF m 191 #[.val (.long p0), .second, .val (.int p1), .val (.int p2), .val (.int p3), .val (.long ask), .second, .val (.int c0), .val (.int c1), .val .null, .val (.ref b44), .val .null, .val (.int (1 : Int32))] []))
      refine OEndsW.via (fun _ k => XS.aload X46.here hx rfl (hb hby at_191) rfl rfl k) ?_
      show OEndsW p e below s _ _ _ _ _ (T46.setTop (mkF m 193 #[.val (.long p0), .second, .val (.int p1), .val (.int p2), .val (.int p3), .val (.long ask), .second, .val (.int c0), .val (.int c1), .val .null, .val (.ref b44), .val .null, .val (.int (1 : Int32))] [(.ref b44)]))
      obtain ⟨cq47, kq47, q47a, q47b, q47c⟩ := isOf hZ e46 E_b
      obtain ⟨_, _, ⟨T47, L47, k47, n47⟩, -, X47, ⟨Lc47, hQ47, l47, y47, z47⟩, st47⟩ := X46.virtualBack hx (y := (⟨"com/example/holdfast/holdfast/Acquisition", "token", "()J"⟩ : MethodName)) (z := (⟨"com/example/holdfast/holdfast/Acquisition", "token", "()J"⟩ : MethodName)) hown (mvT hZ (hw _ (List.mem_of_getElem? (i := 31) rfl))) (mvT hZ (hw _ (List.mem_of_getElem? (i := 32) rfl))) (notFace_of_selects (args := #[]) (mvT hZ (hw _ (List.mem_of_getElem? (i := 34) rfl)))) (mvT hZ (hw _ (List.mem_of_getElem? (i := 34) rfl))) (mvT hZ (hw _ (List.mem_of_getElem? (i := 33) rfl))) (by decide) (backOf (W := 0) (rm_token l Z a0 hw [] b44 (0 : Int64) T44.heap n0 Od G_token) hZ (hw _ (List.mem_of_getElem? (i := 35) rfl)) (hw _ (List.mem_of_getElem? (i := 3) rfl)) (by decide) (by decide)) q47a q47c (g := (mkF m 193 #[.val (.long p0), .second, .val (.int p1), .val (.int p2), .val (.int p3), .val (.long ask), .second, .val (.int c0), .val (.int c1), .val .null, .val (.ref b44), .val .null, .val (.int (1 : Int32))] [(.ref b44)])) rfl (by rw [hml]; rfl) (Steps.refl _) (argsL := []) (rest := []) (lenOf pd_2829J rfl) rfl (by show 2 * 0 + _ ≤ _; exact Nat.le_of_eq rfl) (hb hby at_193) (fun _ _ => ⟨rfl, e46, Nat.le_of_ble_eq_true rfl, Nat.le_of_ble_eq_true rfl⟩)
      dsimp only [Pt.U, Pt.locs, Pt.cells, Pt.slots] at X47 l47 y47 z47 st47 hQ47
      subst l47 y47 z47
      obtain ⟨rfl, N47q, e47⟩ := hQ47
      have N47 := Fr.app N46 N47q
      refine OEndsW.via (fun _ k => st47.trans k) ?_
      show OEndsW p e below s _ _ _ _ _ (T47.setTop (mkF m 196 #[.val (.long p0), .second, .val (.int p1), .val (.int p2), .val (.int p3), .val (.long ask), .second, .val (.int c0), .val (.int c1), .val .null, .val (.ref b44), .val .null, .val (.int (1 : Int32))] [(.long (0 : Int64))]))
      refine OEndsW.via (fun _ k => XS.lconst X47.here hx rfl (hb hby at_196) k) ?_
      show OEndsW p e below s _ _ _ _ _ (T47.setTop (mkF m 197 #[.val (.long p0), .second, .val (.int p1), .val (.int p2), .val (.int p3), .val (.long ask), .second, .val (.int c0), .val (.int c1), .val .null, .val (.ref b44), .val .null, .val (.int (1 : Int32))] [(.long (0 : Int64)), (.long (0 : Int64))]))
      refine OEndsW.via (fun _ k => XS.lcmp X47.here hx rfl (hb hby at_197) rfl k) ?_
      show OEndsW p e below s _ _ _ _ _ (T47.setTop (mkF m 198 #[.val (.long p0), .second, .val (.int p1), .val (.int p2), .val (.int p3), .val (.long ask), .second, .val (.int c0), .val (.int c1), .val .null, .val (.ref b44), .val .null, .val (.int (1 : Int32))] [(.int (lcmpW (0 : Int64) (0 : Int64)))]))
      refine OEndsW.via (fun _ k => XS.ifNo X47.here hx rfl (hb hby at_198) rfl ((if0 _ _).trans (teq (own_lc0 _)).2) k) ?_
      show OEndsW p e below s _ _ _ _ _ (T47.setTop (mkF m 201 #[.val (.long p0), .second, .val (.int p1), .val (.int p2), .val (.int p3), .val (.long ask), .second, .val (.int c0), .val (.int c1), .val .null, .val (.ref b44), .val .null, .val (.int (1 : Int32))] []))
      refine OEndsW.via (fun _ k => XS.aload X47.here hx rfl (hb hby at_201) rfl rfl k) ?_
      show OEndsW p e below s _ _ _ _ _ (T47.setTop (mkF m 203 #[.val (.long p0), .second, .val (.int p1), .val (.int p2), .val (.int p3), .val (.long ask), .second, .val (.int c0), .val (.int c1), .val .null, .val (.ref b44), .val .null, .val (.int (1 : Int32))] [(.ref b44)]))
      obtain ⟨cq48, kq48, q48a, q48b, q48c⟩ := isOf hZ e47 E_b
      obtain ⟨_, _, ⟨T48, L48, k48, n48⟩, -, X48, ⟨Lc48, hQ48, l48, y48, z48⟩, st48⟩ := X47.virtualBack hx (y := (⟨"com/example/holdfast/holdfast/Acquisition", "askAgainMillis", "()J"⟩ : MethodName)) (z := (⟨"com/example/holdfast/holdfast/Acquisition", "askAgainMillis", "()J"⟩ : MethodName)) hown (mvT hZ (hw _ (List.mem_of_getElem? (i := 36) rfl))) (mvT hZ (hw _ (List.mem_of_getElem? (i := 37) rfl))) (notFace_of_selects (args := #[]) (mvT hZ (hw _ (List.mem_of_getElem? (i := 39) rfl)))) (mvT hZ (hw _ (List.mem_of_getElem? (i := 39) rfl))) (mvT hZ (hw _ (List.mem_of_getElem? (i := 38) rfl))) (by decide) (backOf (W := 0) (rm_askAgainMillis l Z a0 hw [] b44 ask T44.heap n0 Od G_askAgainMillis) hZ (hw _ (List.mem_of_getElem? (i := 40) rfl)) (hw _ (List.mem_of_getElem? (i := 3) rfl)) (by decide) (by decide)) q48a q48c (g := (mkF m 203 #[.val (.long p0), .second, .val (.int p1), .val (.int p2), .val (.int p3), .val (.long ask), .second, .val (.int c0), .val (.int c1), .val .null, .val (.ref b44), .val .null, .val (.int (1 : Int32))] [(.ref b44)])) rfl (by rw [hml]; rfl) (Steps.refl _) (argsL := []) (rest := []) (lenOf pd_2829J rfl) rfl (by show 2 * 0 + _ ≤ _; exact Nat.le_of_eq rfl) (hb hby at_203) (fun _ _ => ⟨rfl, e47, Nat.le_of_ble_eq_true rfl, Nat.le_of_ble_eq_true rfl⟩)
      dsimp only [Pt.U, Pt.locs, Pt.cells, Pt.slots] at X48 l48 y48 z48 st48 hQ48
      subst l48 y48 z48
      obtain ⟨rfl, N48q, e48⟩ := hQ48
      have N48 := Fr.app N47 N48q
      refine OEndsW.via (fun _ k => st48.trans k) ?_
      show OEndsW p e below s _ _ _ _ _ (T48.setTop (mkF m 206 #[.val (.long p0), .second, .val (.int p1), .val (.int p2), .val (.int p3), .val (.long ask), .second, .val (.int c0), .val (.int c1), .val .null, .val (.ref b44), .val .null, .val (.int (1 : Int32))] [(.long ask)]))
      refine OEndsW.via (fun _ k => XS.lload X48.here hx rfl (hb hby at_206) rfl k) ?_
      show OEndsW p e below s _ _ _ _ _ (T48.setTop (mkF m 208 #[.val (.long p0), .second, .val (.int p1), .val (.int p2), .val (.int p3), .val (.long ask), .second, .val (.int c0), .val (.int c1), .val .null, .val (.ref b44), .val .null, .val (.int (1 : Int32))] [(.long ask), (.long ask)]))
      refine OEndsW.via (fun _ k => XS.lcmp X48.here hx rfl (hb hby at_208) rfl k) ?_
      show OEndsW p e below s _ _ _ _ _ (T48.setTop (mkF m 209 #[.val (.long p0), .second, .val (.int p1), .val (.int p2), .val (.int p3), .val (.long ask), .second, .val (.int c0), .val (.int c1), .val .null, .val (.ref b44), .val .null, .val (.int (1 : Int32))] [(.int (lcmpW ask ask))]))
      refine OEndsW.via (fun _ k => XS.ifNo X48.here hx rfl (hb hby at_209) rfl ((if0 _ _).trans (teq (own_lc0 _)).2) k) ?_
      show OEndsW p e below s _ _ _ _ _ (T48.setTop (mkF m 212 #[.val (.long p0), .second, .val (.int p1), .val (.int p2), .val (.int p3), .val (.long ask), .second, .val (.int c0), .val (.int c1), .val .null, .val (.ref b44), .val .null, .val (.int (1 : Int32))] []))
      refine OEndsW.via (fun _ k => XS.iload X48.here hx rfl (hb hby at_212) rfl k) ?_
      show OEndsW p e below s _ _ _ _ _ (T48.setTop (mkF m 214 #[.val (.long p0), .second, .val (.int p1), .val (.int p2), .val (.int p3), .val (.long ask), .second, .val (.int c0), .val (.int c1), .val .null, .val (.ref b44), .val .null, .val (.int (1 : Int32))] [(.int (1 : Int32))]))
      refine OEndsW.via (fun _ k => XS.ifNo X48.here hx rfl (hb hby at_214) rfl ((if0 _ _).trans (feq (by decide : ¬ ((1 : Int32) = (0 : Int32)))).1) k) ?_
      show OEndsW p e below s _ _ _ _ _ (T48.setTop (mkF m 217 #[.val (.long p0), .second, .val (.int p1), .val (.int p2), .val (.int p3), .val (.long ask), .second, .val (.int c0), .val (.int c1), .val .null, .val (.ref b44), .val .null, .val (.int (1 : Int32))] []))
      refine OEndsW.via (fun _ k => XS.aload X48.here hx rfl (hb hby at_217) rfl rfl k) ?_
      show OEndsW p e below s _ _ _ _ _ (T48.setTop (mkF m 219 #[.val (.long p0), .second, .val (.int p1), .val (.int p2), .val (.int p3), .val (.long ask), .second, .val (.int c0), .val (.int c1), .val .null, .val (.ref b44), .val .null, .val (.int (1 : Int32))] [(.ref b44)]))
      obtain ⟨cq49, kq49, q49a, q49b, q49c⟩ := isOf hZ e48 E_b
      obtain ⟨_, _, ⟨T49, L49, k49, n49⟩, -, X49, ⟨Lc49, hQ49, l49, y49, z49⟩, st49⟩ := X48.virtualBack hx (y := (⟨"com/example/holdfast/holdfast/Acquisition", "isUnasked", "()Z"⟩ : MethodName)) (z := (⟨"com/example/holdfast/holdfast/Acquisition", "isUnasked", "()Z"⟩ : MethodName)) hown (mvT hZ (hw _ (List.mem_of_getElem? (i := 41) rfl))) (mvT hZ (hw _ (List.mem_of_getElem? (i := 42) rfl))) (notFace_of_selects (args := #[]) (mvT hZ (hw _ (List.mem_of_getElem? (i := 44) rfl)))) (mvT hZ (hw _ (List.mem_of_getElem? (i := 44) rfl))) (mvT hZ (hw _ (List.mem_of_getElem? (i := 43) rfl))) (by decide) (backOf (W := 0) (rm_isUnasked l Z a0 hw [] b44 a_UNASKED T44.heap n0 Od S_UNASKED ne_UNASKED) hZ (hw _ (List.mem_of_getElem? (i := 45) rfl)) (hw _ (List.mem_of_getElem? (i := 3) rfl)) (by decide) (by decide)) q49a q49c (g := (mkF m 219 #[.val (.long p0), .second, .val (.int p1), .val (.int p2), .val (.int p3), .val (.long ask), .second, .val (.int c0), .val (.int c1), .val .null, .val (.ref b44), .val .null, .val (.int (1 : Int32))] [(.ref b44)])) rfl (by rw [hml]; rfl) (Steps.refl _) (argsL := []) (rest := []) (lenOf pd_2829Z rfl) rfl (by show 2 * 0 + _ ≤ _; exact Nat.le_of_eq rfl) (hb hby at_219) (fun _ _ => ⟨rfl, e48, Nat.le_of_ble_eq_true rfl, Nat.le_of_ble_eq_true rfl⟩)
      dsimp only [Pt.U, Pt.locs, Pt.cells, Pt.slots] at X49 l49 y49 z49 st49 hQ49
      subst l49 y49 z49
      obtain ⟨rfl, N49q, e49⟩ := hQ49
      have N49 := Fr.app N48 N49q
      refine OEndsW.via (fun _ k => st49.trans k) ?_
      show OEndsW p e below s _ _ _ _ _ (T49.setTop (mkF m 222 #[.val (.long p0), .second, .val (.int p1), .val (.int p2), .val (.int p3), .val (.long ask), .second, .val (.int c0), .val (.int c1), .val .null, .val (.ref b44), .val .null, .val (.int (1 : Int32))] [(.int (0 : Int32))]))
      refine OEndsW.via (fun _ k => XS.ifNo X49.here hx rfl (hb hby at_222) rfl ((if0 _ _).trans (teq (by decide : (0 : Int32) = (0 : Int32))).2) k) ?_
      show OEndsW p e below s _ _ _ _ _ (T49.setTop (mkF m 225 #[.val (.long p0), .second, .val (.int p1), .val (.int p2), .val (.int p3), .val (.long ask), .second, .val (.int c0), .val (.int c1), .val .null, .val (.ref b44), .val .null, .val (.int (1 : Int32))] []))
      refine OEndsW.via (fun _ k => XS.aload X49.here hx rfl (hb hby at_225) rfl rfl k) ?_
      show OEndsW p e below s _ _ _ _ _ (T49.setTop (mkF m 227 #[.val (.long p0), .second, .val (.int p1), .val (.int p2), .val (.int p3), .val (.long ask), .second, .val (.int c0), .val (.int c1), .val .null, .val (.ref b44), .val .null, .val (.int (1 : Int32))] [(.ref b44)]))
      obtain ⟨cq50, kq50, q50a, q50b, q50c⟩ := isOf hZ e49 E_b
      obtain ⟨_, _, ⟨T50, L50, k50, n50⟩, -, X50, ⟨Lc50, hQ50, l50, y50, z50⟩, st50⟩ := X49.virtualBack hx (y := (⟨"com/example/holdfast/holdfast/Acquisition", "isUnconfirmed", "()Z"⟩ : MethodName)) (z := (⟨"com/example/holdfast/holdfast/Acquisition", "isUnconfirmed", "()Z"⟩ : MethodName)) hown (mvT hZ (hw _ (List.mem_of_getElem? (i := 48) rfl))) (mvT hZ (hw _ (List.mem_of_getElem? (i := 49) rfl))) (notFace_of_selects (args := #[]) (mvT hZ (hw _ (List.mem_of_getElem? (i := 51) rfl)))) (mvT hZ (hw _ (List.mem_of_getElem? (i := 51) rfl))) (mvT hZ (hw _ (List.mem_of_getElem? (i := 50) rfl))) (by decide) (backOf (W := 0) (rm_isUnconfirmed l Z a0 hw [] b44 a_UNCONFIRMED T44.heap n0 Od S_UNCONFIRMED ne_UNCONFIRMED) hZ (hw _ (List.mem_of_getElem? (i := 52) rfl)) (hw _ (List.mem_of_getElem? (i := 3) rfl)) (by decide) (by decide)) q50a q50c (g := (mkF m 227 #[.val (.long p0), .second, .val (.int p1), .val (.int p2), .val (.int p3), .val (.long ask), .second, .val (.int c0), .val (.int c1), .val .null, .val (.ref b44), .val .null, .val (.int (1 : Int32))] [(.ref b44)])) rfl (by rw [hml]; rfl) (Steps.refl _) (argsL := []) (rest := []) (lenOf pd_2829Z rfl) rfl (by show 2 * 0 + _ ≤ _; exact Nat.le_of_eq rfl) (hb hby at_227) (fun _ _ => ⟨rfl, e49, Nat.le_of_ble_eq_true rfl, Nat.le_of_ble_eq_true rfl⟩)
      dsimp only [Pt.U, Pt.locs, Pt.cells, Pt.slots] at X50 l50 y50 z50 st50 hQ50
      subst l50 y50 z50
      obtain ⟨rfl, N50q, e50⟩ := hQ50
      have N50 := Fr.app N49 N50q
      refine OEndsW.via (fun _ k => st50.trans k) ?_
      show OEndsW p e below s _ _ _ _ _ (T50.setTop (mkF m 230 #[.val (.long p0), .second, .val (.int p1), .val (.int p2), .val (.int p3), .val (.long ask), .second, .val (.int c0), .val (.int c1), .val .null, .val (.ref b44), .val .null, .val (.int (1 : Int32))] [(.int (0 : Int32))]))
      refine OEndsW.via (fun _ k => XS.ifNo X50.here hx rfl (hb hby at_230) rfl ((if0 _ _).trans (teq (by decide : (0 : Int32) = (0 : Int32))).2) k) ?_
      show OEndsW p e below s _ _ _ _ _ (T50.setTop (mkF m 233 #[.val (.long p0), .second, .val (.int p1), .val (.int p2), .val (.int p3), .val (.long ask), .second, .val (.int c0), .val (.int c1), .val .null, .val (.ref b44), .val .null, .val (.int (1 : Int32))] []))
      refine OEndsW.via (fun _ k => XS.aload X50.here hx rfl (hb hby at_233) rfl rfl k) ?_
      show OEndsW p e below s _ _ _ _ _ (T50.setTop (mkF m 235 #[.val (.long p0), .second, .val (.int p1), .val (.int p2), .val (.int p3), .val (.long ask), .second, .val (.int c0), .val (.int c1), .val .null, .val (.ref b44), .val .null, .val (.int (1 : Int32))] [(.ref b44)]))
      obtain ⟨cq51, kq51, q51a, q51b, q51c⟩ := isOf hZ e50 E_b
      obtain ⟨_, _, ⟨T51, L51, k51, n51⟩, -, X51, ⟨Lc51, hQ51, l51, y51, z51⟩, st51⟩ := X50.virtualBack hx (y := (⟨"com/example/holdfast/holdfast/Acquisition", "isUnreached", "()Z"⟩ : MethodName)) (z := (⟨"com/example/holdfast/holdfast/Acquisition", "isUnreached", "()Z"⟩ : MethodName)) hown (mvT hZ (hw _ (List.mem_of_getElem? (i := 55) rfl))) (mvT hZ (hw _ (List.mem_of_getElem? (i := 56) rfl))) (notFace_of_selects (args := #[]) (mvT hZ (hw _ (List.mem_of_getElem? (i := 58) rfl)))) (mvT hZ (hw _ (List.mem_of_getElem? (i := 58) rfl))) (mvT hZ (hw _ (List.mem_of_getElem? (i := 57) rfl))) (by decide) (backOf (W := 0) (rm_isUnreached l Z a0 hw [] b44 T44.heap n0 Od G_unreached) hZ (hw _ (List.mem_of_getElem? (i := 59) rfl)) (hw _ (List.mem_of_getElem? (i := 3) rfl)) (by decide) (by decide)) q51a q51c (g := (mkF m 235 #[.val (.long p0), .second, .val (.int p1), .val (.int p2), .val (.int p3), .val (.long ask), .second, .val (.int c0), .val (.int c1), .val .null, .val (.ref b44), .val .null, .val (.int (1 : Int32))] [(.ref b44)])) rfl (by rw [hml]; rfl) (Steps.refl _) (argsL := []) (rest := []) (lenOf pd_2829Z rfl) rfl (by show 2 * 0 + _ ≤ _; exact Nat.le_of_eq rfl) (hb hby at_235) (fun _ _ => ⟨rfl, e50, Nat.le_of_ble_eq_true rfl, Nat.le_of_ble_eq_true rfl⟩)
      dsimp only [Pt.U, Pt.locs, Pt.cells, Pt.slots] at X51 l51 y51 z51 st51 hQ51
      subst l51 y51 z51
      obtain ⟨rfl, N51q, e51⟩ := hQ51
      have N51 := Fr.app N50 N51q
      refine OEndsW.via (fun _ k => st51.trans k) ?_
      show OEndsW p e below s _ _ _ _ _ (T51.setTop (mkF m 238 #[.val (.long p0), .second, .val (.int p1), .val (.int p2), .val (.int p3), .val (.long ask), .second, .val (.int c0), .val (.int c1), .val .null, .val (.ref b44), .val .null, .val (.int (1 : Int32))] [(.int (0 : Int32))]))
      refine OEndsW.via (fun _ k => XS.ifNo X51.here hx rfl (hb hby at_238) rfl ((if0 _ _).trans (teq (by decide : (0 : Int32) = (0 : Int32))).2) k) ?_
      show OEndsW p e below s _ _ _ _ _ (T51.setTop (mkF m 241 #[.val (.long p0), .second, .val (.int p1), .val (.int p2), .val (.int p3), .val (.long ask), .second, .val (.int c0), .val (.int c1), .val .null, .val (.ref b44), .val .null, .val (.int (1 : Int32))] []))
      refine OEndsW.via (fun _ k => XS.aload X51.here hx rfl (hb hby at_241) rfl rfl k) ?_
      show OEndsW p e below s _ _ _ _ _ (T51.setTop (mkF m 243 #[.val (.long p0), .second, .val (.int p1), .val (.int p2), .val (.int p3), .val (.long ask), .second, .val (.int c0), .val (.int c1), .val .null, .val (.ref b44), .val .null, .val (.int (1 : Int32))] [(.ref b44)]))
      obtain ⟨cq52, kq52, q52a, q52b, q52c⟩ := isOf hZ e51 E_b
      obtain ⟨_, _, ⟨T52, L52, k52, n52⟩, -, X52, ⟨Lc52, hQ52, l52, y52, z52⟩, st52⟩ := X51.virtualBack hx (y := (⟨"com/example/holdfast/holdfast/Acquisition", "unreachedBy", "()Lcom/example/holdfast/holdfast/HoldfastException;"⟩ : MethodName)) (z := (⟨"com/example/holdfast/holdfast/Acquisition", "unreachedBy", "()Lcom/example/holdfast/holdfast/HoldfastException;"⟩ : MethodName)) hown (mvT hZ (hw _ (List.mem_of_getElem? (i := 60) rfl))) (mvT hZ (hw _ (List.mem_of_getElem? (i := 61) rfl))) (notFace_of_selects (args := #[]) (mvT hZ (hw _ (List.mem_of_getElem? (i := 63) rfl)))) (mvT hZ (hw _ (List.mem_of_getElem? (i := 63) rfl))) (mvT hZ (hw _ (List.mem_of_getElem? (i := 62) rfl))) (by decide) (backOf (W := 0) (rm_unreachedBy l Z a0 hw [] b44 T44.heap n0 Od G_unreached) hZ (hw _ (List.mem_of_getElem? (i := 64) rfl)) (hw _ (List.mem_of_getElem? (i := 3) rfl)) (by decide) (by decide)) q52a q52c (g := (mkF m 243 #[.val (.long p0), .second, .val (.int p1), .val (.int p2), .val (.int p3), .val (.long ask), .second, .val (.int c0), .val (.int c1), .val .null, .val (.ref b44), .val .null, .val (.int (1 : Int32))] [(.ref b44)])) rfl (by rw [hml]; rfl) (Steps.refl _) (argsL := []) (rest := []) (lenOf pd_2829Lcom2fexample2fholdfast2fholdfast2fHoldfastException3b rfl) rfl (by show 2 * 0 + _ ≤ _; exact Nat.le_of_eq rfl) (hb hby at_243) (fun _ _ => ⟨rfl, e51, Nat.le_of_ble_eq_true rfl, Nat.le_of_ble_eq_true rfl⟩)
      dsimp only [Pt.U, Pt.locs, Pt.cells, Pt.slots] at X52 l52 y52 z52 st52 hQ52
      subst l52 y52 z52
      obtain ⟨rfl, N52q, e52⟩ := hQ52
      have N52 := Fr.app N51 N52q
      refine OEndsW.via (fun _ k => st52.trans k) ?_
      show OEndsW p e below s _ _ _ _ _ (T52.setTop (mkF m 246 #[.val (.long p0), .second, .val (.int p1), .val (.int p2), .val (.int p3), .val (.long ask), .second, .val (.int c0), .val (.int c1), .val .null, .val (.ref b44), .val .null, .val (.int (1 : Int32))] [.null]))
      refine OEndsW.via (fun _ k => XS.ifnonnullNo X52.here hx rfl (hb hby at_246) rfl k) ?_
      show OEndsW p e below s _ _ _ _ _ (T52.setTop (mkF m 249 #[.val (.long p0), .second, .val (.int p1), .val (.int p2), .val (.int p3), .val (.long ask), .second, .val (.int c0), .val (.int c1), .val .null, .val (.ref b44), .val .null, .val (.int (1 : Int32))] []))
      refine OEndsW.via (fun _ k => XS.iconst X52.here hx rfl (hb hby at_249) k) ?_
      show OEndsW p e below s _ _ _ _ _ (T52.setTop (mkF m 250 #[.val (.long p0), .second, .val (.int p1), .val (.int p2), .val (.int p3), .val (.long ask), .second, .val (.int c0), .val (.int c1), .val .null, .val (.ref b44), .val .null, .val (.int (1 : Int32))] [(.int (1 : Int32))]))
      refine OEndsW.via (fun _ k => XS.goto X52.here hx rfl (pc0 := 250) (pc' := 254) rfl (hb hby at_250) (by decide) (by decide) k) ?_
      show OEndsW p e below s _ _ _ _ _ (T52.setTop (mkF m 254 #[.val (.long p0), .second, .val (.int p1), .val (.int p2), .val (.int p3), .val (.long ask), .second, .val (.int c0), .val (.int c1), .val .null, .val (.ref b44), .val .null, .val (.int (1 : Int32))] [(.int (1 : Int32))]))
      refine OEndsW.retN X52 hx hlk hS hk hZ hEL e52 es CR (t := .boolean) Bd.returns (by simp) (hb hby at_254) ?_ (by decide) (by decide)
      exact ⟨rfl, N52⟩
  by_cases hc3_52 : (p1 &&& (1 : Int32)) = (0 : Int32)
  · skip
    refine OEndsW.via (fun _ k => XS.ifYes X0.here hx rfl (pc0 := 3) (pc' := 14) rfl (hb hby at_3) rfl ((if0 _ _).trans (teq hc3_52).1) (by decide) (by decide) k) ?_
    show OEndsW p e below s _ _ _ _ _ (s₁.setTop (mkF m 14 #[.val (.long p0), .second, .val (.int p1), .val (.int p2), .val (.int p3), .unset, .unset, .unset, .unset, .unset, .unset, .unset, .unset] []))
    refine OEndsW.via (fun _ k => XS.lloadN X0.here hx rfl (hb hby at_14) rfl k) ?_
    show OEndsW p e below s _ _ _ _ _ (s₁.setTop (mkF m 15 #[.val (.long p0), .second, .val (.int p1), .val (.int p2), .val (.int p3), .unset, .unset, .unset, .unset, .unset, .unset, .unset, .unset] [(.long p0)]))
    refine OEndsW.via (fun _ k => X0.ldc2Long hx hown (mvT hZ (hw _ (List.mem_of_getElem? (i := 0) rfl))) (g := (mkF m 15 #[.val (.long p0), .second, .val (.int p1), .val (.int p2), .val (.int p3), .unset, .unset, .unset, .unset, .unset, .unset, .unset, .unset] [(.long p0)])) rfl (hb hby at_15) _ k) ?_
    show OEndsW p e below s _ _ _ _ _ (s₁.setTop (mkF m 18 #[.val (.long p0), .second, .val (.int p1), .val (.int p2), .val (.int p3), .unset, .unset, .unset, .unset, .unset, .unset, .unset, .unset] [(.long (9223372036854775807 : Int64)), (.long p0)]))
    refine OEndsW.via (fun _ k => XS.land X0.here hx rfl (hb hby at_18) rfl k) ?_
    show OEndsW p e below s _ _ _ _ _ (s₁.setTop (mkF m 19 #[.val (.long p0), .second, .val (.int p1), .val (.int p2), .val (.int p3), .unset, .unset, .unset, .unset, .unset, .unset, .unset, .unset] [(.long (p0 &&& (9223372036854775807 : Int64)))]))
    refine OEndsW.via (fun _ k => XS.lstore X0.here hx rfl (hb hby at_19) rfl (l' := #[.val (.long p0), .second, .val (.int p1), .val (.int p2), .val (.int p3), .val (.long (p0 &&& (9223372036854775807 : Int64))), .second, .unset, .unset, .unset, .unset, .unset, .unset]) rfl k) ?_
    show OEndsW p e below s _ _ _ _ _ (s₁.setTop (mkF m 21 #[.val (.long p0), .second, .val (.int p1), .val (.int p2), .val (.int p3), .val (.long (p0 &&& (9223372036854775807 : Int64))), .second, .unset, .unset, .unset, .unset, .unset, .unset] []))
    refine OEndsW.via (fun _ k => XS.lload X0.here hx rfl (hb hby at_21) rfl k) ?_
    show OEndsW p e below s _ _ _ _ _ (s₁.setTop (mkF m 23 #[.val (.long p0), .second, .val (.int p1), .val (.int p2), .val (.int p3), .val (.long (p0 &&& (9223372036854775807 : Int64))), .second, .unset, .unset, .unset, .unset, .unset, .unset] [(.long (p0 &&& (9223372036854775807 : Int64)))]))
    refine OEndsW.via (fun _ k => XS.lconst X0.here hx rfl (hb hby at_23) k) ?_
    show OEndsW p e below s _ _ _ _ _ (s₁.setTop (mkF m 24 #[.val (.long p0), .second, .val (.int p1), .val (.int p2), .val (.int p3), .val (.long (p0 &&& (9223372036854775807 : Int64))), .second, .unset, .unset, .unset, .unset, .unset, .unset] [(.long (0 : Int64)), (.long (p0 &&& (9223372036854775807 : Int64)))]))
    refine OEndsW.via (fun _ k => XS.lcmp X0.here hx rfl (hb hby at_24) rfl k) ?_
    show OEndsW p e below s _ _ _ _ _ (s₁.setTop (mkF m 25 #[.val (.long p0), .second, .val (.int p1), .val (.int p2), .val (.int p3), .val (.long (p0 &&& (9223372036854775807 : Int64))), .second, .unset, .unset, .unset, .unset, .unset, .unset] [(.int (lcmpW (p0 &&& (9223372036854775807 : Int64)) (0 : Int64)))]))
    by_cases hc25_53 : (lcmpW (p0 &&& (9223372036854775807 : Int64)) (0 : Int64)) = (0 : Int32)
    · skip
      refine OEndsW.via (fun _ k => XS.ifNo X0.here hx rfl (hb hby at_25) rfl ((if0 _ _).trans (teq hc25_53).2) k) ?_
      show OEndsW p e below s _ _ _ _ _ (s₁.setTop (mkF m 28 #[.val (.long p0), .second, .val (.int p1), .val (.int p2), .val (.int p3), .val (.long (p0 &&& (9223372036854775807 : Int64))), .second, .unset, .unset, .unset, .unset, .unset, .unset] []))
      refine OEndsW.via (fun _ k => XS.lconst X0.here hx rfl (hb hby at_28) k) ?_
      show OEndsW p e below s _ _ _ _ _ (s₁.setTop (mkF m 29 #[.val (.long p0), .second, .val (.int p1), .val (.int p2), .val (.int p3), .val (.long (p0 &&& (9223372036854775807 : Int64))), .second, .unset, .unset, .unset, .unset, .unset, .unset] [(.long (1 : Int64))]))
      refine OEndsW.via (fun _ k => XS.lstore X0.here hx rfl (hb hby at_29) rfl (l' := #[.val (.long p0), .second, .val (.int p1), .val (.int p2), .val (.int p3), .val (.long (1 : Int64)), .second, .unset, .unset, .unset, .unset, .unset, .unset]) rfl k) ?_
      show OEndsW p e below s _ _ _ _ _ (s₁.setTop (mkF m 31 #[.val (.long p0), .second, .val (.int p1), .val (.int p2), .val (.int p3), .val (.long (1 : Int64)), .second, .unset, .unset, .unset, .unset, .unset, .unset] []))
      exact J1 (1 : Int64)
    · skip
      refine OEndsW.via (fun _ k => XS.ifYes X0.here hx rfl (pc0 := 25) (pc' := 31) rfl (hb hby at_25) rfl ((if0 _ _).trans (feq hc25_53).2) (by decide) (by decide) k) ?_
      show OEndsW p e below s _ _ _ _ _ (s₁.setTop (mkF m 31 #[.val (.long p0), .second, .val (.int p1), .val (.int p2), .val (.int p3), .val (.long (p0 &&& (9223372036854775807 : Int64))), .second, .unset, .unset, .unset, .unset, .unset, .unset] []))
      exact J1 (p0 &&& (9223372036854775807 : Int64))
  · skip
    refine OEndsW.via (fun _ k => XS.ifNo X0.here hx rfl (hb hby at_3) rfl ((if0 _ _).trans (feq hc3_52).1) k) ?_
    show OEndsW p e below s _ _ _ _ _ (s₁.setTop (mkF m 6 #[.val (.long p0), .second, .val (.int p1), .val (.int p2), .val (.int p3), .unset, .unset, .unset, .unset, .unset, .unset, .unset, .unset] []))
    refine OEndsW.via (fun _ k => X0.ldc2Long hx hown (mvT hZ (hw _ (List.mem_of_getElem? (i := 65) rfl))) (g := (mkF m 6 #[.val (.long p0), .second, .val (.int p1), .val (.int p2), .val (.int p3), .unset, .unset, .unset, .unset, .unset, .unset, .unset, .unset] [])) rfl (hb hby at_6) _ k) ?_
    show OEndsW p e below s _ _ _ _ _ (s₁.setTop (mkF m 9 #[.val (.long p0), .second, .val (.int p1), .val (.int p2), .val (.int p3), .unset, .unset, .unset, .unset, .unset, .unset, .unset, .unset] [(.long (-1 : Int64))]))
    refine OEndsW.via (fun _ k => XS.lstore X0.here hx rfl (hb hby at_9) rfl (l' := #[.val (.long p0), .second, .val (.int p1), .val (.int p2), .val (.int p3), .val (.long (-1 : Int64)), .second, .unset, .unset, .unset, .unset, .unset, .unset]) rfl k) ?_
    show OEndsW p e below s _ _ _ _ _ (s₁.setTop (mkF m 11 #[.val (.long p0), .second, .val (.int p1), .val (.int p2), .val (.int p3), .val (.long (-1 : Int64)), .second, .unset, .unset, .unset, .unset, .unset, .unset] []))
    refine OEndsW.via (fun _ k => XS.goto X0.here hx rfl (pc0 := 11) (pc' := 31) rfl (hb hby at_11) (by decide) (by decide) k) ?_
    show OEndsW p e below s _ _ _ _ _ (s₁.setTop (mkF m 31 #[.val (.long p0), .second, .val (.int p1), .val (.int p2), .val (.int p3), .val (.long (-1 : Int64)), .second, .unset, .unset, .unset, .unset, .unset, .unset] []))
    exact J1 (-1 : Int64)
set_option maxRecDepth 65536 in
set_option maxHeartbeats 40000000 in
theorem comes_1 {Post : Tables → Env → Array Value → State → Outcome → State → Prop} (hpost : ∀ tb e args s v u, (limb_1_1.after args s (.returned v) u = true ∧ limb_1_2.after args s (.returned v) u = true ∧ True) → ReturnedEndW s (.returned v) u (Jvm.fieldLocs frame_1_writes args s ++ Jvm.arrayLocs frame_1_arrays args s ++ Jvm.staticLocs frame_1_statics s) 24 1152 → Post tb e args s (.returned v) u) :
    ArmFor flags0 classFile x code maxLocals ret World_1 tables_1 room_1 Calls_1 rest_1 Pre_1 Post := by
  intro l hfl _ _ p e ha hc hk s m args below hf hA hF happ hP
  obtain ⟨hcalls, hrest, hpre⟩ := hP
  obtain ⟨-, -, -, hnamed, -, -, -, hat⟩ := (Spec.applies_iff hf).mp happ
  obtain ⟨hg, hn⟩ := and_e (Cond.before_iff.mp (show (Jvm.Cond.and given_1 narrow_1).before args s = true from hpre))
  obtain ⟨g1, g2⟩ := and_e hg
  obtain ⟨g3, g4⟩ := and_e g2
  obtain ⟨g5, g6⟩ := and_e g4
  obtain ⟨g7, g8⟩ := and_e g6
  obtain ⟨w0, w1, w2, w3, rfl⟩ : ∃ w0 w1 w2 w3 : Value, args = #[w0, w1, w2, w3] := by
    have hs : args.size = 4 := by simpa [Cond.value, given_1] using g1
    obtain ⟨L⟩ := args
    match L, hs with
    | [w0, w1, w2, w3], _ => exact ⟨w0, w1, w2, w3, rfl⟩
  have hw := fun d (hd : d ∈ tables_1) => atoms_spec (ws := Jvm.Cond.code x code maxLocals ret :: tables_1) hat d (List.mem_cons_of_mem _ hd)
  have hfit : Fit s := fun {y c} hc i hi => by
    obtain ⟨ha, rfl⟩ := Array.getElem?_eq_some_iff.mp hc
    have q := List.all_eq_true.mp ((Array.all_eq_true_iff_forall_mem.mp hF) _ (Array.getElem_mem ha)) i (List.mem_range.mpr hi)
    simpa [Array.getElem?_eq_getElem hi] using q
  obtain ⟨hsets, hown0⟩ := atoms_of _ (rest_1_c_eq ▸ (show rest_1_c.before _ s = true from hrest))
  have hr0 := Cond.before_iff.mp hown0
  obtain ⟨i0, ei0⟩ := isL_v g3
  obtain rfl : w0 = (.long i0) := Option.some.inj ei0
  obtain ⟨i1, ei1⟩ := is_v g5
  obtain rfl : w1 = (.int i1) := Option.some.inj ei1
  obtain ⟨i2, ei2⟩ := is_v g7
  obtain rfl : w2 = (.int i2) := Option.some.inj ei2
  obtain ⟨i3, ei3⟩ := is_v g8
  obtain rfl : w3 = (.int i3) := Option.some.inj ei3
  obtain ⟨g9, g10⟩ := and_e hn
  obtain ⟨a_COMPACT_STRINGS, ev_a_COMPACT_STRINGS⟩ := is_v (Cond.before_iff.mp (hsets _ (List.mem_of_getElem? (i := 1) rfl)))
  have S_a_COMPACT_STRINGS : Sta s s.heap "java/lang/String" "COMPACT_STRINGS" "Z" (.int a_COMPACT_STRINGS) := Sta.start ev_a_COMPACT_STRINGS (Or.inl (hsets _ (List.mem_of_getElem? (i := 0) rfl)))
  obtain ⟨a_SIOOBE_FORMATTER, ev_a_SIOOBE_FORMATTER, rf_a_SIOOBE_FORMATTER⟩ := isR_v (Cond.before_iff.mp (hsets _ (List.mem_of_getElem? (i := 8) rfl)))
  have S_a_SIOOBE_FORMATTER : Sta s s.heap "jdk/internal/util/Preconditions" "SIOOBE_FORMATTER" "Ljava/util/function/BiFunction;" a_SIOOBE_FORMATTER := Sta.start ev_a_SIOOBE_FORMATTER (Or.inl (hsets _ (List.mem_of_getElem? (i := 7) rfl)))
  have nz_a_COMPACT_STRINGS : ¬ (a_COMPACT_STRINGS = (0 : Int32)) := gotF (Cond.eq_ints ev_a_COMPACT_STRINGS (Term.int_eval (0))) (not_v (Cond.before_iff.mp (hsets _ (List.mem_of_getElem? (i := 2) rfl))))
  obtain ⟨a_UNASKED, ev_a_UNASKED⟩ := exa_v g9
  have S_a_UNASKED : Sta s s.heap "com/example/holdfast/holdfast/Acquisition" "UNASKED" "Lcom/example/holdfast/holdfast/Acquisition;" (.ref a_UNASKED) := Sta.start ev_a_UNASKED (Or.inr ⟨(hw _ (List.mem_of_getElem? (i := 3) rfl)), (hw _ (List.mem_of_getElem? (i := 47) rfl))⟩)
  have E_a_UNASKED : Exa s s.heap a_UNASKED "com/example/holdfast/holdfast/Acquisition" := Exa.start ev_a_UNASKED g9
  obtain ⟨a_UNCONFIRMED, ev_a_UNCONFIRMED⟩ := exa_v g10
  have S_a_UNCONFIRMED : Sta s s.heap "com/example/holdfast/holdfast/Acquisition" "UNCONFIRMED" "Lcom/example/holdfast/holdfast/Acquisition;" (.ref a_UNCONFIRMED) := Sta.start ev_a_UNCONFIRMED (Or.inr ⟨(hw _ (List.mem_of_getElem? (i := 3) rfl)), (hw _ (List.mem_of_getElem? (i := 54) rfl))⟩)
  have E_a_UNCONFIRMED : Exa s s.heap a_UNCONFIRMED "com/example/holdfast/holdfast/Acquisition" := Exa.start ev_a_UNCONFIRMED g10
  have hCH0 : CHv s consts_1 s.vm s.heap := CHv.start (own_EW hw) (fun p hp => hcalls.1 p hp) (hsets _ (List.mem_of_getElem? (i := 2) rfl)) (hw _ (List.mem_of_getElem? (i := 83) rfl)) (hw _ (List.mem_of_getElem? (i := 67) rfl))
  obtain ⟨n, o, h1, h2, h3, _, L, rfl, ⟨rfl, N⟩, -, hq⟩ := rm0 l s _ hw tables_1 i0 i1 i2 i3 a_COMPACT_STRINGS a_UNASKED a_UNCONFIRMED s.heap s.heap.size (Old.start s) S_a_COMPACT_STRINGS nz_a_COMPACT_STRINGS S_a_UNASKED S_a_UNCONFIRMED E_a_UNASKED E_a_UNCONFIRMED p e ha hc hk s m _ below hf ((Spec.applies_iff_loose hf).mp happ).1 ⟨rfl, State.Warmed39.refl s, rfl, hCH0⟩ trivial
  refine ⟨n, _, h1, h2, h3, hpost _ _ _ _ _ _ ⟨Cond.after_iff.mpr rfl, Cond.after_iff.mpr (eq_i res_at (Term.int_eval (1)) rfl), trivial⟩ ⟨hq.1, hq.2.1, hq.2.2.1, (hq.2.2.2.sift fun y hy => Or.inr (N y hy)).mono (by decide) (by decide)⟩⟩
theorem main_1_1 : Claimed_1_1 := comes_1 fun _ _ _ _ _ _ h hF => ⟨h.1, hF⟩
theorem main_1_2 : Claimed_1_2 := comes_1 fun _ _ _ _ _ _ h hF => ⟨h.2.1, hF⟩
end Jvm.Pilot.@@N@@
namespace Jvm.Pilot.@@N@@
open Jvm Jvm.ClassFile Sem Op Lib Jvm.Free Jvm.Stand Jvm.Pilot.@@N@@.Jvm.D
/-! MADE BY PROGRAM (witnessworld.py) out of the Statement's table words and the real class files: 20 classes; the members and pool entries that the words name. The judged class is class 1, her method 1. -/
namespace start1
open Jvm.ClassFile
def u (s : String) : CpInfo := .utf8 (stringToUtf16 s)
/-- a pool by its gaps: so many unusable entries, then the entry; so many at the end -/
def gap : Nat → List CpInfo → List CpInfo
  | 0, r => r
  | n + 1, r => .unusable :: gap n r
def poolList (es : List (Nat × CpInfo)) (last : Nat) : List CpInfo := es.foldr (fun e r => gap e.1 (e.2 :: r)) (gap last [])
def pool (es : List (Nat × CpInfo)) (last : Nat) : Array CpInfo := ⟨poolList es last⟩
def fileOf (pool : Array CpInfo) (this : Nat) (attrs : Array Attribute := #[]) (ms : Array MethodInfo := #[]) (fl : Nat := 33) (sup : Nat := 0) (ifs : Array Nat := #[]) (fds : Array FieldInfo := #[]) : ClassFile where
  minorVersion := 0
  majorVersion := 65
  constantPool := pool
  accessFlags := fl
  thisClass := this
  superClass := sup
  interfaces := ifs
  fields := fds
  methods := ms
  attributes := attrs
def plain (name : String) (sup : Option ClassId) : Class where
  name := name
  kind := .ordinary
  loader := none
  accessFlags := 33
  super := sup
  interfaces := #[]
  cf := none
  fields := #[]
  methods := #[]
  instanceTypes := #[]
  staticTypes := #[]
  resolved := #[]
  callSites := []
  init := .initialized
  statics := none
  mirror := none

def pool0 : Array CpInfo := pool [(5, u "<init>"), (0, u "()V"), (1, .class_ 10), (1, u "java/lang/Object")] 113

def k0c0 : Code := { maxStack := 0, maxLocals := 1, code := object_method_1_code, exceptionTable := #[], attributes := #[] }
def k0m0 : Method := { name := "<init>", desc := "()V", sig := { parameters := [], returnType := none }, accessFlags := 1, code := some k0c0 }
/-- java/lang/Object -/
def k0 : Class := { plain "java/lang/Object" none with
  accessFlags := 33
  interfaces := #[]
  cf := some (fileOf pool0 8 #[] #[{ accessFlags := 1, nameIndex := 5, descriptorIndex := 6, attributes := #[] }] 33 0 #[] #[])
  fields := #[]
  methods := #[k0m0]
  instanceTypes := #[]
  staticTypes := #[]
  resolved := Array.replicate 124 none
  statics := none }

def pool1 : Array CpInfo := pool [(2, .class_ 4), (1, u "java/lang/Object"), (0, u "<init>"), (0, u "()V"), (0, .long 18446744073709551615), (3, .long 9223372036854775807), (1, .class_ 14), (0, u "java/lang/String"), (0, .methodref 13 16), (0, .nameAndType 5 17), (0, u "([C)V"), (0, .methodref 13 19), (0, .nameAndType 20 21), (0, u "valueOf"), (0, u "(C)Ljava/lang/String;"), (0, .methodref 23 24), (0, .class_ 25), (0, .nameAndType 26 27), (0, u "com/example/holdfast/holdfast/Acquisition"), (0, u "refused"), (0, u "(JLjava/lang/String;)Lcom/example/holdfast/holdfast/Acquisition;"), (0, .methodref 23 29), (0, .nameAndType 30 31), (0, u "keptBy"), (0, u "()Ljava/lang/String;"), (0, .methodref 13 33), (0, .nameAndType 34 35), (0, u "equals"), (0, u "(Ljava/lang/Object;)Z"), (0, .methodref 23 37), (0, .nameAndType 38 39), (0, u "isTaken"), (0, u "()Z"), (0, .methodref 23 41), (0, .nameAndType 42 43), (0, u "token"), (0, u "()J"), (0, .methodref 23 45), (0, .nameAndType 46 43), (0, u "askAgainMillis"), (0, .methodref 23 48), (0, .nameAndType 49 39), (0, u "isUnasked"), (0, .methodref 23 51), (0, .nameAndType 52 39), (0, u "isUnconfirmed"), (0, .methodref 23 54), (0, .nameAndType 55 39), (0, u "isUnreached"), (0, .methodref 23 57), (0, .nameAndType 58 59), (0, u "unreachedBy"), (0, u "()Lcom/example/holdfast/holdfast/HoldfastException;"), (0, .class_ 61), (0, u "com/example/holdfast/holdfast/AcquisitionRefusedPinLaw"), (2, u "law"), (0, u "(JIII)Z")] 3

def k1m0 : Method := { name := "<init>", desc := "()V", sig := { parameters := [], returnType := none }, accessFlags := 1, code := none }
def k1c1 : Code := { maxStack := 6, maxLocals := 13, code := code, exceptionTable := #[], attributes := #[] }
def k1m1 : Method := { name := "law", desc := "(JIII)Z", sig := { parameters := [.long, .int, .int, .int], returnType := some .boolean }, accessFlags := 9, code := some k1c1 }
/-- com/example/holdfast/holdfast/AcquisitionRefusedPinLaw -/
def k1 : Class := { plain "com/example/holdfast/holdfast/AcquisitionRefusedPinLaw" (some 0) with
  accessFlags := 49
  interfaces := #[]
  cf := some (fileOf pool1 60 #[] #[{ accessFlags := 1, nameIndex := 5, descriptorIndex := 6, attributes := #[] }, { accessFlags := 9, nameIndex := 64, descriptorIndex := 65, attributes := #[] }] 49 2 #[] #[])
  fields := #[]
  methods := #[k1m0, k1m1]
  instanceTypes := #[]
  staticTypes := #[]
  resolved := Array.replicate 69 none
  statics := none }

def pool2 : Array CpInfo := pool [(1, .methodref 2 3), (0, .class_ 4), (0, .nameAndType 5 6), (0, u "java/lang/Object"), (0, u "<init>"), (0, u "()V"), (0, .fieldref 8 9), (0, .class_ 10), (0, .nameAndType 11 12), (0, u "com/example/holdfast/holdfast/Acquisition"), (0, u "token"), (0, u "J"), (0, .fieldref 8 14), (0, .nameAndType 15 12), (0, u "askAgainMillis"), (0, .fieldref 8 17), (0, .nameAndType 18 19), (0, u "keptBy"), (0, u "Ljava/lang/String;"), (0, .fieldref 8 21), (0, .nameAndType 22 23), (0, u "unreached"), (0, u "Lcom/example/holdfast/holdfast/HoldfastException;"), (2, .methodref 8 27), (0, .nameAndType 5 28), (0, u "(JJLjava/lang/String;Lcom/example/holdfast/holdfast/HoldfastException;)V"), (0, .fieldref 8 30), (0, .nameAndType 31 32), (0, u "UNASKED"), (0, u "Lcom/example/holdfast/holdfast/Acquisition;"), (0, .fieldref 8 34), (0, .nameAndType 35 32), (0, u "UNCONFIRMED"), (4, u "refused"), (0, u "(JLjava/lang/String;)Lcom/example/holdfast/holdfast/Acquisition;"), (4, u "isTaken"), (0, u "()Z"), (1, u "isUnasked"), (0, u "isUnconfirmed"), (0, u "isUnreached"), (0, u "unreachedBy"), (0, u "()Lcom/example/holdfast/holdfast/HoldfastException;"), (0, u "()J"), (0, u "()Ljava/lang/String;")] 3

def k2c0 : Code := { maxStack := 3, maxLocals := 7, code := prog_1_method_1_code, exceptionTable := #[], attributes := #[] }
def k2m0 : Method := { name := "<init>", desc := "(JJLjava/lang/String;Lcom/example/holdfast/holdfast/HoldfastException;)V", sig := { parameters := [.long, .long, (.object "java/lang/String"), (.object "com/example/holdfast/holdfast/HoldfastException")], returnType := none }, accessFlags := 2, code := some k2c0 }
def k2c1 : Code := { maxStack := 8, maxLocals := 3, code := prog_1_method_3_code, exceptionTable := #[], attributes := #[] }
def k2m1 : Method := { name := "refused", desc := "(JLjava/lang/String;)Lcom/example/holdfast/holdfast/Acquisition;", sig := { parameters := [.long, (.object "java/lang/String")], returnType := some (.object "com/example/holdfast/holdfast/Acquisition") }, accessFlags := 8, code := some k2c1 }
def k2c2 : Code := { maxStack := 4, maxLocals := 1, code := prog_1_method_7_code, exceptionTable := #[], attributes := #[] }
def k2m2 : Method := { name := "isTaken", desc := "()Z", sig := { parameters := [], returnType := some .boolean }, accessFlags := 0, code := some k2c2 }
def k2c3 : Code := { maxStack := 2, maxLocals := 1, code := prog_1_method_8_code, exceptionTable := #[], attributes := #[] }
def k2m3 : Method := { name := "isUnasked", desc := "()Z", sig := { parameters := [], returnType := some .boolean }, accessFlags := 0, code := some k2c3 }
def k2c4 : Code := { maxStack := 2, maxLocals := 1, code := prog_1_method_9_code, exceptionTable := #[], attributes := #[] }
def k2m4 : Method := { name := "isUnconfirmed", desc := "()Z", sig := { parameters := [], returnType := some .boolean }, accessFlags := 0, code := some k2c4 }
def k2c5 : Code := { maxStack := 1, maxLocals := 1, code := prog_1_method_10_code, exceptionTable := #[], attributes := #[] }
def k2m5 : Method := { name := "isUnreached", desc := "()Z", sig := { parameters := [], returnType := some .boolean }, accessFlags := 0, code := some k2c5 }
def k2c6 : Code := { maxStack := 1, maxLocals := 1, code := prog_1_method_11_code, exceptionTable := #[], attributes := #[] }
def k2m6 : Method := { name := "unreachedBy", desc := "()Lcom/example/holdfast/holdfast/HoldfastException;", sig := { parameters := [], returnType := some (.object "com/example/holdfast/holdfast/HoldfastException") }, accessFlags := 0, code := some k2c6 }
def k2c7 : Code := { maxStack := 2, maxLocals := 1, code := prog_1_method_12_code, exceptionTable := #[], attributes := #[] }
def k2m7 : Method := { name := "token", desc := "()J", sig := { parameters := [], returnType := some .long }, accessFlags := 0, code := some k2c7 }
def k2c8 : Code := { maxStack := 2, maxLocals := 1, code := prog_1_method_13_code, exceptionTable := #[], attributes := #[] }
def k2m8 : Method := { name := "askAgainMillis", desc := "()J", sig := { parameters := [], returnType := some .long }, accessFlags := 0, code := some k2c8 }
def k2c9 : Code := { maxStack := 1, maxLocals := 1, code := prog_1_method_14_code, exceptionTable := #[], attributes := #[] }
def k2m9 : Method := { name := "keptBy", desc := "()Ljava/lang/String;", sig := { parameters := [], returnType := some (.object "java/lang/String") }, accessFlags := 0, code := some k2c9 }
/-- com/example/holdfast/holdfast/Acquisition -/
def k2 : Class := { plain "com/example/holdfast/holdfast/Acquisition" (some 0) with
  accessFlags := 48
  interfaces := #[]
  cf := some (fileOf pool2 8 #[] #[{ accessFlags := 2, nameIndex := 5, descriptorIndex := 28, attributes := #[] }, { accessFlags := 8, nameIndex := 40, descriptorIndex := 41, attributes := #[] }, { accessFlags := 0, nameIndex := 46, descriptorIndex := 47, attributes := #[] }, { accessFlags := 0, nameIndex := 49, descriptorIndex := 47, attributes := #[] }, { accessFlags := 0, nameIndex := 50, descriptorIndex := 47, attributes := #[] }, { accessFlags := 0, nameIndex := 51, descriptorIndex := 47, attributes := #[] }, { accessFlags := 0, nameIndex := 52, descriptorIndex := 53, attributes := #[] }, { accessFlags := 0, nameIndex := 11, descriptorIndex := 54, attributes := #[] }, { accessFlags := 0, nameIndex := 15, descriptorIndex := 54, attributes := #[] }, { accessFlags := 0, nameIndex := 18, descriptorIndex := 55, attributes := #[] }] 48 2 #[] #[{ accessFlags := 26, nameIndex := 31, descriptorIndex := 32, attributes := #[] }, { accessFlags := 26, nameIndex := 35, descriptorIndex := 32, attributes := #[] }, { accessFlags := 18, nameIndex := 11, descriptorIndex := 12, attributes := #[] }, { accessFlags := 18, nameIndex := 15, descriptorIndex := 12, attributes := #[] }, { accessFlags := 18, nameIndex := 18, descriptorIndex := 19, attributes := #[] }, { accessFlags := 18, nameIndex := 22, descriptorIndex := 23, attributes := #[] }])
  fields := #[{ name := "UNASKED", type := (.object "com/example/holdfast/holdfast/Acquisition"), accessFlags := 26, slot := 0, constantValue := 0 }, { name := "UNCONFIRMED", type := (.object "com/example/holdfast/holdfast/Acquisition"), accessFlags := 26, slot := 1, constantValue := 0 }, { name := "token", type := .long, accessFlags := 18, slot := 0, constantValue := 0 }, { name := "askAgainMillis", type := .long, accessFlags := 18, slot := 1, constantValue := 0 }, { name := "keptBy", type := (.object "java/lang/String"), accessFlags := 18, slot := 2, constantValue := 0 }, { name := "unreached", type := (.object "com/example/holdfast/holdfast/HoldfastException"), accessFlags := 18, slot := 3, constantValue := 0 }]
  methods := #[k2m0, k2m1, k2m2, k2m3, k2m4, k2m5, k2m6, k2m7, k2m8, k2m9]
  instanceTypes := #[.long, .long, (.object "java/lang/String"), (.object "com/example/holdfast/holdfast/HoldfastException")]
  staticTypes := #[(.object "com/example/holdfast/holdfast/Acquisition"), (.object "com/example/holdfast/holdfast/Acquisition")]
  resolved := Array.replicate 59 none
  statics := some 0 }

def pool3 : Array CpInfo := pool [(1, .class_ 2), (0, u "java/io/Serializable"), (0, .class_ 4), (0, u "java/lang/Object")] 2

/-- java/io/Serializable -/
def k3 : Class := { plain "java/io/Serializable" (some 0) with
  accessFlags := 1537
  interfaces := #[]
  cf := some (fileOf pool3 1 #[] #[] 1537 3 #[] #[])
  fields := #[]
  methods := #[]
  instanceTypes := #[]
  staticTypes := #[]
  resolved := Array.replicate 7 none
  statics := none }

def pool4 : Array CpInfo := pool [(1, .class_ 2), (0, u "java/lang/Comparable"), (0, .class_ 4), (0, u "java/lang/Object")] 7

/-- java/lang/Comparable -/
def k4 : Class := { plain "java/lang/Comparable" (some 0) with
  accessFlags := 1537
  interfaces := #[]
  cf := some (fileOf pool4 1 #[] #[] 1537 3 #[] #[])
  fields := #[]
  methods := #[]
  instanceTypes := #[]
  staticTypes := #[]
  resolved := Array.replicate 12 none
  statics := none }

def pool5 : Array CpInfo := pool [(2, .class_ 4), (1, u "java/lang/CharSequence"), (42, .class_ 48), (0, u "java/lang/CharSequence$1CodePointIterator"), (10, .class_ 60), (0, u "java/lang/CharSequence$1CharIterator"), (5, .class_ 67), (0, u "java/lang/Object")] 63

/-- java/lang/CharSequence -/
def k5 : Class := { plain "java/lang/CharSequence" (some 0) with
  accessFlags := 1537
  interfaces := #[]
  cf := some (fileOf pool5 2 #[.nestMembers #[47, 59]] #[] 1537 66 #[] #[])
  fields := #[]
  methods := #[]
  instanceTypes := #[]
  staticTypes := #[]
  resolved := Array.replicate 131 none
  statics := none }

def pool6 : Array CpInfo := pool [(1, .class_ 2), (0, u "java/lang/constant/Constable"), (0, .class_ 4), (0, u "java/lang/Object")] 6

/-- java/lang/constant/Constable -/
def k6 : Class := { plain "java/lang/constant/Constable" (some 0) with
  accessFlags := 1537
  interfaces := #[]
  cf := some (fileOf pool6 1 #[] #[] 1537 3 #[] #[])
  fields := #[]
  methods := #[]
  instanceTypes := #[]
  staticTypes := #[]
  resolved := Array.replicate 11 none
  statics := none }

def pool7 : Array CpInfo := pool [(1, .class_ 2), (0, u "java/lang/constant/ConstantDesc"), (0, .class_ 4), (0, u "java/lang/Object")] 32

/-- java/lang/constant/ConstantDesc -/
def k7 : Class := { plain "java/lang/constant/ConstantDesc" (some 0) with
  accessFlags := 1537
  interfaces := #[]
  cf := some (fileOf pool7 1 #[] #[] 1537 3 #[] #[])
  fields := #[]
  methods := #[]
  instanceTypes := #[]
  staticTypes := #[]
  resolved := Array.replicate 37 none
  statics := none }

def pool8 : Array CpInfo := pool [(1, .methodref 2 3), (0, .class_ 4), (0, .nameAndType 5 6), (0, u "java/lang/Object"), (0, u "<init>"), (0, u "()V"), (0, .string 8), (0, u ""), (0, .fieldref 10 11), (0, .class_ 12), (0, .nameAndType 13 14), (0, u "java/lang/String"), (0, u "value"), (0, u "[B"), (0, .fieldref 10 16), (0, .nameAndType 17 18), (0, u "coder"), (0, u "B"), (2, u "hash"), (0, u "I"), (2, u "hashIsZero"), (0, u "Z"), (0, .methodref 10 28), (0, .nameAndType 5 29), (0, u "([CIILjava/lang/Void;)V"), (8, .fieldref 10 39), (0, .nameAndType 40 26), (0, u "COMPACT_STRINGS"), (1, .class_ 44), (1, u "java/lang/StringUTF16"), (0, u "compress"), (1, .methodref 42 48), (0, .nameAndType 49 50), (0, u "coderFromArrayLen"), (0, u "([BI)B"), (2, u "toBytes"), (53, .class_ 109), (1, u "java/lang/StringLatin1"), (67, .methodref 42 178), (0, .nameAndType 45 179), (0, u "([CII)[B"), (29, .methodref 10 210), (0, .nameAndType 5 211), (0, u "([BB)V"), (157, u "(C)Z"), (173, u "equals"), (29, u "(Ljava/lang/Object;)Z"), (1, .class_ 576), (0, u "java/lang/CharSequence"), (22, u "CASE_INSENSITIVE_ORDER"), (0, u "Ljava/util/Comparator;"), (181, u "valueOf"), (0, u "(C)Ljava/lang/String;"), (226, u "([C)V"), (4, .methodref 107 1016), (0, .nameAndType 1017 369), (0, u "canEncode"), (0, .methodref 107 1019), (0, .nameAndType 53 1020), (0, u "(C)[B"), (80, u "serialPersistentFields"), (0, u "[Ljava/io/ObjectStreamField;"), (0, .class_ 1104), (0, u "java/lang/String$CaseInsensitiveComparator"), (1, .class_ 1107), (0, u "java/io/Serializable"), (0, .class_ 1109), (0, u "java/lang/Comparable"), (0, .class_ 1111), (0, u "java/lang/constant/Constable"), (0, .class_ 1113), (0, u "java/lang/constant/ConstantDesc"), (2, u "serialVersionUID"), (0, u "J"), (3, u "REPL"), (0, u "C"), (2, u "LATIN1"), (1, u "UTF16")] 323

def k8m0 : Method := { name := "<init>", desc := "()V", sig := { parameters := [], returnType := none }, accessFlags := 1, code := none }
def k8c1 : Code := { maxStack := 5, maxLocals := 2, code := jdk_42_method_3_code, exceptionTable := #[], attributes := #[] }
def k8m1 : Method := { name := "<init>", desc := "([C)V", sig := { parameters := [(.array .char)], returnType := none }, accessFlags := 1, code := some k8c1 }
def k8c2 : Code := { maxStack := 2, maxLocals := 3, code := jdk_42_method_66_code, exceptionTable := #[], attributes := #[] }
def k8m2 : Method := { name := "equals", desc := "(Ljava/lang/Object;)Z", sig := { parameters := [(.object "java/lang/Object")], returnType := some .boolean }, accessFlags := 1, code := some k8c2 }
def k8c3 : Code := { maxStack := 4, maxLocals := 1, code := jdk_42_method_139_code, exceptionTable := #[], attributes := #[] }
def k8m3 : Method := { name := "valueOf", desc := "(C)Ljava/lang/String;", sig := { parameters := [.char], returnType := some (.object "java/lang/String") }, accessFlags := 9, code := some k8c3 }
def k8c4 : Code := { maxStack := 4, maxLocals := 6, code := jdk_42_method_149_code, exceptionTable := #[], attributes := #[] }
def k8m4 : Method := { name := "<init>", desc := "([CIILjava/lang/Void;)V", sig := { parameters := [(.array .char), .int, .int, (.object "java/lang/Void")], returnType := none }, accessFlags := 2, code := some k8c4 }
def k8c5 : Code := { maxStack := 2, maxLocals := 3, code := jdk_42_method_151_code, exceptionTable := #[], attributes := #[] }
def k8m5 : Method := { name := "<init>", desc := "([BB)V", sig := { parameters := [(.array .byte), .byte], returnType := none }, accessFlags := 0, code := some k8c5 }
/-- java/lang/String -/
def k8 : Class := { plain "java/lang/String" (some 0) with
  accessFlags := 49
  interfaces := #[3, 4, 5, 6, 7]
  cf := some (fileOf pool8 10 #[.nestMembers #[1103]] #[{ accessFlags := 1, nameIndex := 5, descriptorIndex := 6, attributes := #[] }, { accessFlags := 1, nameIndex := 5, descriptorIndex := 1010, attributes := #[] }, { accessFlags := 1, nameIndex := 543, descriptorIndex := 573, attributes := #[] }, { accessFlags := 9, nameIndex := 782, descriptorIndex := 783, attributes := #[] }, { accessFlags := 2, nameIndex := 5, descriptorIndex := 29, attributes := #[] }, { accessFlags := 0, nameIndex := 5, descriptorIndex := 211, attributes := #[] }] 49 2 #[1106, 1108, 575, 1110, 1112] #[{ accessFlags := 18, nameIndex := 13, descriptorIndex := 14, attributes := #[] }, { accessFlags := 18, nameIndex := 17, descriptorIndex := 18, attributes := #[] }, { accessFlags := 2, nameIndex := 21, descriptorIndex := 22, attributes := #[] }, { accessFlags := 2, nameIndex := 25, descriptorIndex := 26, attributes := #[] }, { accessFlags := 26, nameIndex := 1116, descriptorIndex := 1117, attributes := #[] }, { accessFlags := 24, nameIndex := 40, descriptorIndex := 26, attributes := #[] }, { accessFlags := 26, nameIndex := 1101, descriptorIndex := 1102, attributes := #[] }, { accessFlags := 26, nameIndex := 1121, descriptorIndex := 1122, attributes := #[] }, { accessFlags := 25, nameIndex := 599, descriptorIndex := 600, attributes := #[] }, { accessFlags := 24, nameIndex := 1125, descriptorIndex := 18, attributes := #[] }, { accessFlags := 24, nameIndex := 1127, descriptorIndex := 18, attributes := #[] }])
  fields := #[{ name := "value", type := (.array .byte), accessFlags := 18, slot := 0, constantValue := 0 }, { name := "coder", type := .byte, accessFlags := 18, slot := 1, constantValue := 0 }, { name := "hash", type := .int, accessFlags := 2, slot := 2, constantValue := 0 }, { name := "hashIsZero", type := .boolean, accessFlags := 2, slot := 3, constantValue := 0 }, { name := "serialVersionUID", type := .long, accessFlags := 26, slot := 0, constantValue := 0 }, { name := "COMPACT_STRINGS", type := .boolean, accessFlags := 24, slot := 1, constantValue := 0 }, { name := "serialPersistentFields", type := (.array (.object "java/io/ObjectStreamField")), accessFlags := 26, slot := 2, constantValue := 0 }, { name := "REPL", type := .char, accessFlags := 26, slot := 3, constantValue := 0 }, { name := "CASE_INSENSITIVE_ORDER", type := (.object "java/util/Comparator"), accessFlags := 25, slot := 4, constantValue := 0 }, { name := "LATIN1", type := .byte, accessFlags := 24, slot := 5, constantValue := 0 }, { name := "UTF16", type := .byte, accessFlags := 24, slot := 6, constantValue := 0 }]
  methods := #[k8m0, k8m1, k8m2, k8m3, k8m4, k8m5]
  instanceTypes := #[(.array .byte), .byte, .int, .boolean]
  staticTypes := #[.long, .boolean, (.array (.object "java/io/ObjectStreamField")), .char, (.object "java/util/Comparator"), .byte, .byte]
  resolved := Array.replicate 1451 none
  statics := some 1 }

def pool9 : Array CpInfo := pool [(6, .class_ 8), (1, u "java/lang/Object"), (0, u "<init>"), (0, u "()V"), (1, .class_ 14), (1, u "java/lang/StringUTF16"), (31, u "$assertionsDisabled"), (0, u "Z"), (13, u "HI_BYTE_SHIFT"), (0, u "I"), (2, u "LO_BYTE_SHIFT"), (49, .methodref 12 116), (0, .nameAndType 117 118), (0, u "compress"), (0, u "([CI[BII)I"), (3, u "([CII)[B"), (138, u "coderFromArrayLen"), (0, u "([BI)B"), (106, .class_ 371), (1, u "java/lang/StringUTF16$LinesSpliterator"), (58, u "MAX_LENGTH"), (196, .class_ 628), (0, u "java/lang/StringUTF16$CodePointsSpliterator"), (0, .class_ 630), (0, u "java/lang/StringUTF16$CharsSpliterator")] 4

def k9m0 : Method := { name := "<init>", desc := "()V", sig := { parameters := [], returnType := none }, accessFlags := 0, code := none }
def k9c1 : Code := { maxStack := 2, maxLocals := 2, code := jdk_52_method_15_code, exceptionTable := #[], attributes := #[] }
def k9m1 : Method := { name := "coderFromArrayLen", desc := "([BI)B", sig := { parameters := [(.array .byte), .int], returnType := some .byte }, accessFlags := 8, code := some k9c1 }
def k9c2 : Code := { maxStack := 5, maxLocals := 6, code := jdk_52_method_16_code, exceptionTable := #[], attributes := #[] }
def k9m2 : Method := { name := "compress", desc := "([CII)[B", sig := { parameters := [(.array .char), .int, .int], returnType := some (.array .byte) }, accessFlags := 9, code := some k9c2 }
def k9c3 : Code := { maxStack := 3, maxLocals := 7, code := jdk_52_method_21_code, exceptionTable := #[], attributes := #[] }
def k9m3 : Method := { name := "compress", desc := "([CI[BII)I", sig := { parameters := [(.array .char), .int, (.array .byte), .int, .int], returnType := some .int }, accessFlags := 9, code := some k9c3 }
/-- java/lang/StringUTF16 -/
def k9 : Class := { plain "java/lang/StringUTF16" (some 0) with
  accessFlags := 48
  interfaces := #[]
  cf := some (fileOf pool9 12 #[.nestMembers #[627, 629, 369]] #[{ accessFlags := 0, nameIndex := 9, descriptorIndex := 10, attributes := #[] }, { accessFlags := 8, nameIndex := 261, descriptorIndex := 262, attributes := #[] }, { accessFlags := 9, nameIndex := 117, descriptorIndex := 122, attributes := #[] }, { accessFlags := 9, nameIndex := 117, descriptorIndex := 118, attributes := #[] }] 48 6 #[] #[{ accessFlags := 26, nameIndex := 61, descriptorIndex := 62, attributes := #[] }, { accessFlags := 26, nameIndex := 65, descriptorIndex := 62, attributes := #[] }, { accessFlags := 24, nameIndex := 430, descriptorIndex := 62, attributes := #[] }, { accessFlags := 4120, nameIndex := 46, descriptorIndex := 47, attributes := #[] }])
  fields := #[{ name := "HI_BYTE_SHIFT", type := .int, accessFlags := 26, slot := 0, constantValue := 0 }, { name := "LO_BYTE_SHIFT", type := .int, accessFlags := 26, slot := 1, constantValue := 0 }, { name := "MAX_LENGTH", type := .int, accessFlags := 24, slot := 2, constantValue := 0 }, { name := "$assertionsDisabled", type := .boolean, accessFlags := 4120, slot := 3, constantValue := 0 }]
  methods := #[k9m0, k9m1, k9m2, k9m3]
  instanceTypes := #[]
  staticTypes := #[.int, .int, .int, .boolean]
  resolved := Array.replicate 635 none
  statics := none }

def pool10 : Array CpInfo := pool [(4, .class_ 6), (1, u "java/lang/Object"), (0, u "<init>"), (0, u "()V"), (5, .class_ 16), (1, u "java/lang/StringLatin1"), (73, u "canEncode"), (14, u "(C)Z"), (15, u "$assertionsDisabled"), (0, u "Z"), (98, .class_ 223), (1, u "java/lang/StringLatin1$LinesSpliterator"), (156, u "toBytes"), (1, u "(C)[B"), (7, .class_ 391), (0, u "java/lang/StringLatin1$CharsSpliterator")] 3

def k10m0 : Method := { name := "<init>", desc := "()V", sig := { parameters := [], returnType := none }, accessFlags := 0, code := none }
def k10c1 : Code := { maxStack := 2, maxLocals := 1, code := jdk_43_method_3_code, exceptionTable := #[], attributes := #[] }
def k10m1 : Method := { name := "canEncode", desc := "(C)Z", sig := { parameters := [.char], returnType := some .boolean }, accessFlags := 9, code := some k10c1 }
def k10c2 : Code := { maxStack := 4, maxLocals := 1, code := jdk_43_method_46_code, exceptionTable := #[], attributes := #[] }
def k10m2 : Method := { name := "toBytes", desc := "(C)[B", sig := { parameters := [.char], returnType := some (.array .byte) }, accessFlags := 9, code := some k10c2 }
/-- java/lang/StringLatin1 -/
def k10 : Class := { plain "java/lang/StringLatin1" (some 0) with
  accessFlags := 48
  interfaces := #[]
  cf := some (fileOf pool10 14 #[.nestMembers #[390, 221]] #[{ accessFlags := 0, nameIndex := 7, descriptorIndex := 8, attributes := #[] }, { accessFlags := 9, nameIndex := 90, descriptorIndex := 105, attributes := #[] }, { accessFlags := 9, nameIndex := 380, descriptorIndex := 382, attributes := #[] }] 48 4 #[] #[{ accessFlags := 4120, nameIndex := 121, descriptorIndex := 122, attributes := #[] }])
  fields := #[{ name := "$assertionsDisabled", type := .boolean, accessFlags := 4120, slot := 0, constantValue := 0 }]
  methods := #[k10m0, k10m1, k10m2]
  instanceTypes := #[]
  staticTypes := #[.boolean]
  resolved := Array.replicate 395 none
  statics := none }

def pool11 : Array CpInfo := pool [(2, .class_ 4), (1, u "java/lang/Object"), (0, u "<init>"), (0, u "()V"), (17, .class_ 26), (1, u "jdk/internal/util/Preconditions"), (28, .class_ 56), (0, u "jdk/internal/util/Preconditions$4"), (57, .class_ 115), (0, u "jdk/internal/util/Preconditions$1"), (7, u "SIOOBE_FORMATTER"), (0, u "Ljava/util/function/BiFunction;"), (0, .class_ 126), (0, u "jdk/internal/util/Preconditions$2"), (3, u "AIOOBE_FORMATTER"), (0, .class_ 132), (0, u "jdk/internal/util/Preconditions$3"), (3, u "IOOBE_FORMATTER")] 57

def k11m0 : Method := { name := "<init>", desc := "()V", sig := { parameters := [], returnType := none }, accessFlags := 1, code := none }
/-- jdk/internal/util/Preconditions -/
def k11 : Class := { plain "jdk/internal/util/Preconditions" (some 0) with
  accessFlags := 33
  interfaces := #[]
  cf := some (fileOf pool11 24 #[.nestMembers #[55, 131, 125, 114]] #[{ accessFlags := 1, nameIndex := 5, descriptorIndex := 6, attributes := #[] }] 33 2 #[] #[{ accessFlags := 25, nameIndex := 123, descriptorIndex := 124, attributes := #[] }, { accessFlags := 25, nameIndex := 130, descriptorIndex := 124, attributes := #[] }, { accessFlags := 25, nameIndex := 136, descriptorIndex := 124, attributes := #[] }])
  fields := #[{ name := "SIOOBE_FORMATTER", type := (.object "java/util/function/BiFunction"), accessFlags := 25, slot := 0, constantValue := 0 }, { name := "AIOOBE_FORMATTER", type := (.object "java/util/function/BiFunction"), accessFlags := 25, slot := 1, constantValue := 0 }, { name := "IOOBE_FORMATTER", type := (.object "java/util/function/BiFunction"), accessFlags := 25, slot := 2, constantValue := 0 }]
  methods := #[k11m0]
  instanceTypes := #[]
  staticTypes := #[(.object "java/util/function/BiFunction"), (.object "java/util/function/BiFunction"), (.object "java/util/function/BiFunction")]
  resolved := Array.replicate 194 none
  statics := some 2 }

def pool12 : Array CpInfo := pool [(9, u "<init>"), (6, .class_ 18), (1, u "java/lang/Object"), (0, u "()V"), (1, .class_ 23), (1, u "jdk/internal/util/ArraysSupport"), (0, u "LOG2_ARRAY_LONG_INDEX_SCALE"), (0, u "I"), (2, u "U"), (0, u "Ljdk/internal/misc/Unsafe;"), (8, u "BIG_ENDIAN"), (0, u "Z"), (8, u "LOG2_BYTE_BIT_SIZE"), (4, u "LOG2_ARRAY_INT_INDEX_SCALE"), (54, u "JLA"), (0, u "Ljdk/internal/access/JavaLangAccess;"), (11, u "LOG2_ARRAY_BOOLEAN_INDEX_SCALE"), (9, u "LOG2_ARRAY_BYTE_INDEX_SCALE"), (5, u "LOG2_ARRAY_CHAR_INDEX_SCALE"), (5, u "LOG2_ARRAY_SHORT_INDEX_SCALE"), (18, u "LOG2_ARRAY_FLOAT_INDEX_SCALE"), (24, u "LOG2_ARRAY_DOUBLE_INDEX_SCALE"), (89, u "T_BOOLEAN"), (2, u "T_CHAR"), (1, u "T_FLOAT"), (1, u "T_DOUBLE"), (1, u "T_BYTE"), (1, u "T_SHORT"), (1, u "T_INT"), (1, u "T_LONG"), (1, u "SOFT_MAX_ARRAY_LENGTH")] 83

def k12m0 : Method := { name := "<init>", desc := "()V", sig := { parameters := [], returnType := none }, accessFlags := 2, code := none }
/-- jdk/internal/util/ArraysSupport -/
def k12 : Class := { plain "jdk/internal/util/ArraysSupport" (some 0) with
  accessFlags := 33
  interfaces := #[]
  cf := some (fileOf pool12 21 #[] #[{ accessFlags := 2, nameIndex := 9, descriptorIndex := 19, attributes := #[] }] 33 16 #[] #[{ accessFlags := 24, nameIndex := 28, descriptorIndex := 29, attributes := #[] }, { accessFlags := 26, nameIndex := 38, descriptorIndex := 39, attributes := #[] }, { accessFlags := 25, nameIndex := 121, descriptorIndex := 25, attributes := #[] }, { accessFlags := 25, nameIndex := 131, descriptorIndex := 25, attributes := #[] }, { accessFlags := 25, nameIndex := 137, descriptorIndex := 25, attributes := #[] }, { accessFlags := 25, nameIndex := 143, descriptorIndex := 25, attributes := #[] }, { accessFlags := 25, nameIndex := 53, descriptorIndex := 25, attributes := #[] }, { accessFlags := 25, nameIndex := 24, descriptorIndex := 25, attributes := #[] }, { accessFlags := 25, nameIndex := 162, descriptorIndex := 25, attributes := #[] }, { accessFlags := 25, nameIndex := 187, descriptorIndex := 25, attributes := #[] }, { accessFlags := 26, nameIndex := 48, descriptorIndex := 25, attributes := #[] }, { accessFlags := 25, nameIndex := 277, descriptorIndex := 25, attributes := #[] }, { accessFlags := 25, nameIndex := 280, descriptorIndex := 25, attributes := #[] }, { accessFlags := 25, nameIndex := 282, descriptorIndex := 25, attributes := #[] }, { accessFlags := 25, nameIndex := 284, descriptorIndex := 25, attributes := #[] }, { accessFlags := 25, nameIndex := 286, descriptorIndex := 25, attributes := #[] }, { accessFlags := 25, nameIndex := 288, descriptorIndex := 25, attributes := #[] }, { accessFlags := 25, nameIndex := 290, descriptorIndex := 25, attributes := #[] }, { accessFlags := 25, nameIndex := 292, descriptorIndex := 25, attributes := #[] }, { accessFlags := 26, nameIndex := 108, descriptorIndex := 109, attributes := #[] }, { accessFlags := 25, nameIndex := 294, descriptorIndex := 25, attributes := #[] }])
  fields := #[{ name := "U", type := (.object "jdk/internal/misc/Unsafe"), accessFlags := 24, slot := 0, constantValue := 0 }, { name := "BIG_ENDIAN", type := .boolean, accessFlags := 26, slot := 1, constantValue := 0 }, { name := "LOG2_ARRAY_BOOLEAN_INDEX_SCALE", type := .int, accessFlags := 25, slot := 2, constantValue := 0 }, { name := "LOG2_ARRAY_BYTE_INDEX_SCALE", type := .int, accessFlags := 25, slot := 3, constantValue := 0 }, { name := "LOG2_ARRAY_CHAR_INDEX_SCALE", type := .int, accessFlags := 25, slot := 4, constantValue := 0 }, { name := "LOG2_ARRAY_SHORT_INDEX_SCALE", type := .int, accessFlags := 25, slot := 5, constantValue := 0 }, { name := "LOG2_ARRAY_INT_INDEX_SCALE", type := .int, accessFlags := 25, slot := 6, constantValue := 0 }, { name := "LOG2_ARRAY_LONG_INDEX_SCALE", type := .int, accessFlags := 25, slot := 7, constantValue := 0 }, { name := "LOG2_ARRAY_FLOAT_INDEX_SCALE", type := .int, accessFlags := 25, slot := 8, constantValue := 0 }, { name := "LOG2_ARRAY_DOUBLE_INDEX_SCALE", type := .int, accessFlags := 25, slot := 9, constantValue := 0 }, { name := "LOG2_BYTE_BIT_SIZE", type := .int, accessFlags := 26, slot := 10, constantValue := 0 }, { name := "T_BOOLEAN", type := .int, accessFlags := 25, slot := 11, constantValue := 0 }, { name := "T_CHAR", type := .int, accessFlags := 25, slot := 12, constantValue := 0 }, { name := "T_FLOAT", type := .int, accessFlags := 25, slot := 13, constantValue := 0 }, { name := "T_DOUBLE", type := .int, accessFlags := 25, slot := 14, constantValue := 0 }, { name := "T_BYTE", type := .int, accessFlags := 25, slot := 15, constantValue := 0 }, { name := "T_SHORT", type := .int, accessFlags := 25, slot := 16, constantValue := 0 }, { name := "T_INT", type := .int, accessFlags := 25, slot := 17, constantValue := 0 }, { name := "T_LONG", type := .int, accessFlags := 25, slot := 18, constantValue := 0 }, { name := "JLA", type := (.object "jdk/internal/access/JavaLangAccess"), accessFlags := 26, slot := 19, constantValue := 0 }, { name := "SOFT_MAX_ARRAY_LENGTH", type := .int, accessFlags := 25, slot := 20, constantValue := 0 }]
  methods := #[k12m0]
  instanceTypes := #[]
  staticTypes := #[(.object "jdk/internal/misc/Unsafe"), .boolean, .int, .int, .int, .int, .int, .int, .int, .int, .int, .int, .int, .int, .int, .int, .int, .int, .int, (.object "jdk/internal/access/JavaLangAccess"), .int]
  resolved := Array.replicate 378 none
  statics := none }

def pool13 : Array CpInfo := pool [(1, u "java/lang/Cloneable"), (0, .class_ 1), (0, u "java/lang/Object"), (0, .class_ 3)] 3

/-- java/lang/Cloneable -/
def k13 : Class := { plain "java/lang/Cloneable" (some 0) with
  accessFlags := 1537
  interfaces := #[]
  cf := some (fileOf pool13 2 #[] #[] 1537 4 #[] #[])
  fields := #[]
  methods := #[]
  instanceTypes := #[]
  staticTypes := #[]
  resolved := Array.replicate 8 none
  statics := none }

/-- the primitive byte -/
def k14 : Class := { plain "byte" none with kind := .primitive 'B', accessFlags := 0x411 }
/-- [B -/
def k15 : Class := { plain "[B" (some 0) with kind := .array 14 .byte, interfaces := #[13, 3], accessFlags := 1041 }

/-- the primitive char -/
def k16 : Class := { plain "char" none with kind := .primitive 'C', accessFlags := 0x411 }
/-- [C -/
def k17 : Class := { plain "[C" (some 0) with kind := .array 16 .char, interfaces := #[13, 3], accessFlags := 1041 }

/-- the primitive int -/
def k18 : Class := { plain "int" none with kind := .primitive 'I', accessFlags := 0x411 }
/-- [I -/
def k19 : Class := { plain "[I" (some 0) with kind := .array 18 .int, interfaces := #[13, 3], accessFlags := 1041 }

def heap : Heap := #[{ cls := 2, slots := #[.ref 3, .ref 4], vm := .statics 2 },
  { cls := 8, slots := #[.long 0, .int 1, .null, .int 0, .null, .int 0, .int 0], vm := .statics 8 },
  { cls := 11, slots := #[.null, .null, .null], vm := .statics 11 },
  { cls := 2, slots := #[.long 0, .long 0, .null, .null], vm := .none },
  { cls := 2, slots := #[.long 0, .long 0, .null, .null], vm := .none }]
def classes : Array Class := #[k0, k1, k2, k3, k4, k5, k6, k7, k8, k9, k10, k11, k12, k13, k14, k15, k16, k17, k18, k19]
def interned : List (Array UInt16 × Addr) := []
def slotsUsed : Nat := 20
def theMethod : MethodId := ⟨1, 1⟩
def args0 : Array Value := #[.long 5, .int 1, .int 2, .int 3]
def aboutOver (below : List Frame) : State where
  vm := { classes := classes, interned := interned.toArray }
  heap := heap
  slotsUsed := slotsUsed
  threads := #[{ frames := .invoking theMethod args0 :: below }]
def below0 : List Frame := [.native { method := ⟨0, 0⟩, args := #[] }]
def about1 : State := aboutOver below0
def p0 : Program := .bare "" "" ""
def e0 : Env := launch0.env 0 0 0
theorem w_frames : about1.frames = Frame.invoking theMethod args0 :: below0 := rfl
set_option maxRecDepth 65536 in
theorem w_args : argsFit about1.vm theMethod args0 = true := by decide +kernel
set_option maxRecDepth 65536 in
theorem w_heap : heapFits about1 = true := by decide +kernel
set_option maxRecDepth 65536 in
theorem w_runnable : about1.curStatus? = some .runnable := by decide +kernel
set_option maxRecDepth 65536 in
theorem w_alone : about1.alone = true := by decide +kernel
set_option maxRecDepth 65536 in
theorem w_named : about1.methodNamed? x = some theMethod := by decide +kernel
set_option maxRecDepth 65536 in
theorem w_hears : about1.hears theMethod below0 = true := by decide +kernel
set_option maxRecDepth 65536 in
theorem w_ripe : about1.ripe theMethod args0 below0 = true := by decide +kernel
theorem w_running : about1.status = .running := rfl
set_option maxRecDepth 65536 in
theorem w_room : about1.hasRoom e0.platform room_1 = true :=
  launch0.hasRoom_least _ room_1 (by decide +kernel) (by decide +kernel) (by decide +kernel) (by decide +kernel) (by decide +kernel) (by decide +kernel)
theorem allAtoms_all (ts : List Jvm.Cond) (a : Array Jvm.Value) (st : Jvm.State) : (allAtoms ts).before a st = ts.all (fun c => c.before a st) := by
  induction ts with
  | nil => rfl
  | cons c t ih =>
    show (Jvm.Cond.and c (allAtoms t)).before a st = _
    rw [Jvm.Cond.before_and, ih, List.all_cons]
def words1 : List Jvm.Cond := Jvm.Cond.code x code maxLocals ret :: tables_1
/-- a 'code' word, met by the world's own term for the bytes: nothing is compared byte by byte -/
theorem code_word {y : MethodName} {bytes : ByteArray} {mx : Nat} {rt : Option FieldType} {a : Array Value} {s : State} {m : MethodId} {meth : Method} {c : Code} (h1 : s.methodNamed? y = some m) (h2 : s.vm.method? m = some meth) (h3 : meth.code = some c) (h4 : c.code = bytes)
    (h5 : (c.maxLocals == mx && c.exceptionTable.isEmpty && decide (c.maxStack ≤ mostOperands) && decide (meth.sig.returnType = rt) && !meth.locks && decide (parseMethodDescriptor y.desc = some meth.sig)) = true) : (Jvm.Cond.code y bytes mx rt).before a s = true := by
  simp only [Bool.and_eq_true, beq_iff_eq, Bool.not_eq_true', decide_eq_true_eq] at h5
  obtain ⟨⟨⟨⟨⟨g1, g2⟩, g3⟩, g4⟩, g5⟩, g6⟩ := h5
  simp [Cond.before, Cond.holds, Cond.value, h1, h2, h3, h4, g1, g2, g3, g4, g5, g6]
def isCode : Jvm.Cond → Bool
  | .code _ _ _ _ => true
  | _ => false
theorem all_split {L : List Jvm.Cond} {P : Jvm.Cond → Bool} (h1 : L.all (fun c => isCode c || P c) = true) (h2 : ∀ c ∈ L.filter isCode, P c = true) : L.all P = true := by
  refine List.all_eq_true.mpr fun c hc => ?_
  have h := List.all_eq_true.mp h1 c hc
  rcases Bool.eq_false_or_eq_true (isCode c) with hi | hi
  · exact h2 c (List.mem_filter.mpr ⟨hc, hi⟩)
  · simpa [hi] using h
set_option maxRecDepth 65536 in
theorem w_c0 : (Jvm.Cond.code x code maxLocals ret).before args0 about1 = true := code_word (m := ⟨1, 1⟩) (meth := k1m1) (c := k1c1) (by decide +kernel) rfl rfl rfl (by decide +kernel)
set_option maxRecDepth 65536 in
theorem w_c1 : (Jvm.Cond.code ({ cls := "com/example/holdfast/holdfast/Acquisition", name := "refused", desc := "(JLjava/lang/String;)Lcom/example/holdfast/holdfast/Acquisition;" } : Jvm.MethodName) prog_1_method_3_code (3 : Nat) (Option.some (Jvm.ClassFile.FieldType.object "com/example/holdfast/holdfast/Acquisition"))).before args0 about1 = true := code_word (m := ⟨2, 1⟩) (meth := k2m1) (c := k2c1) (by decide +kernel) rfl rfl rfl (by decide +kernel)
set_option maxRecDepth 65536 in
theorem w_c2 : (Jvm.Cond.code ({ cls := "com/example/holdfast/holdfast/Acquisition", name := "<init>", desc := "(JJLjava/lang/String;Lcom/example/holdfast/holdfast/HoldfastException;)V" } : Jvm.MethodName) prog_1_method_1_code (7 : Nat) (Option.none : Option Jvm.ClassFile.FieldType)).before args0 about1 = true := code_word (m := ⟨2, 0⟩) (meth := k2m0) (c := k2c0) (by decide +kernel) rfl rfl rfl (by decide +kernel)
set_option maxRecDepth 65536 in
theorem w_c3 : (Jvm.Cond.code ({ cls := "java/lang/Object", name := "<init>", desc := "()V" } : Jvm.MethodName) object_method_1_code (1 : Nat) (Option.none : Option Jvm.ClassFile.FieldType)).before args0 about1 = true := code_word (m := ⟨0, 0⟩) (meth := k0m0) (c := k0c0) (by decide +kernel) rfl rfl rfl (by decide +kernel)
set_option maxRecDepth 65536 in
theorem w_c4 : (Jvm.Cond.code ({ cls := "com/example/holdfast/holdfast/Acquisition", name := "keptBy", desc := "()Ljava/lang/String;" } : Jvm.MethodName) prog_1_method_14_code (1 : Nat) (Option.some (Jvm.ClassFile.FieldType.object "java/lang/String"))).before args0 about1 = true := code_word (m := ⟨2, 9⟩) (meth := k2m9) (c := k2c9) (by decide +kernel) rfl rfl rfl (by decide +kernel)
set_option maxRecDepth 65536 in
theorem w_c5 : (Jvm.Cond.code ({ cls := "com/example/holdfast/holdfast/Acquisition", name := "isTaken", desc := "()Z" } : Jvm.MethodName) prog_1_method_7_code (1 : Nat) (Option.some Jvm.ClassFile.FieldType.boolean)).before args0 about1 = true := code_word (m := ⟨2, 2⟩) (meth := k2m2) (c := k2c2) (by decide +kernel) rfl rfl rfl (by decide +kernel)
set_option maxRecDepth 65536 in
theorem w_c6 : (Jvm.Cond.code ({ cls := "com/example/holdfast/holdfast/Acquisition", name := "token", desc := "()J" } : Jvm.MethodName) prog_1_method_12_code (1 : Nat) (Option.some Jvm.ClassFile.FieldType.long)).before args0 about1 = true := code_word (m := ⟨2, 7⟩) (meth := k2m7) (c := k2c7) (by decide +kernel) rfl rfl rfl (by decide +kernel)
set_option maxRecDepth 65536 in
theorem w_c7 : (Jvm.Cond.code ({ cls := "com/example/holdfast/holdfast/Acquisition", name := "askAgainMillis", desc := "()J" } : Jvm.MethodName) prog_1_method_13_code (1 : Nat) (Option.some Jvm.ClassFile.FieldType.long)).before args0 about1 = true := code_word (m := ⟨2, 8⟩) (meth := k2m8) (c := k2c8) (by decide +kernel) rfl rfl rfl (by decide +kernel)
set_option maxRecDepth 65536 in
theorem w_c8 : (Jvm.Cond.code ({ cls := "com/example/holdfast/holdfast/Acquisition", name := "isUnasked", desc := "()Z" } : Jvm.MethodName) prog_1_method_8_code (1 : Nat) (Option.some Jvm.ClassFile.FieldType.boolean)).before args0 about1 = true := code_word (m := ⟨2, 3⟩) (meth := k2m3) (c := k2c3) (by decide +kernel) rfl rfl rfl (by decide +kernel)
set_option maxRecDepth 65536 in
theorem w_c9 : (Jvm.Cond.code ({ cls := "com/example/holdfast/holdfast/Acquisition", name := "isUnconfirmed", desc := "()Z" } : Jvm.MethodName) prog_1_method_9_code (1 : Nat) (Option.some Jvm.ClassFile.FieldType.boolean)).before args0 about1 = true := code_word (m := ⟨2, 4⟩) (meth := k2m4) (c := k2c4) (by decide +kernel) rfl rfl rfl (by decide +kernel)
set_option maxRecDepth 65536 in
theorem w_c10 : (Jvm.Cond.code ({ cls := "com/example/holdfast/holdfast/Acquisition", name := "isUnreached", desc := "()Z" } : Jvm.MethodName) prog_1_method_10_code (1 : Nat) (Option.some Jvm.ClassFile.FieldType.boolean)).before args0 about1 = true := code_word (m := ⟨2, 5⟩) (meth := k2m5) (c := k2c5) (by decide +kernel) rfl rfl rfl (by decide +kernel)
set_option maxRecDepth 65536 in
theorem w_c11 : (Jvm.Cond.code ({ cls := "com/example/holdfast/holdfast/Acquisition", name := "unreachedBy", desc := "()Lcom/example/holdfast/holdfast/HoldfastException;" } : Jvm.MethodName) prog_1_method_11_code (1 : Nat) (Option.some (Jvm.ClassFile.FieldType.object "com/example/holdfast/holdfast/HoldfastException"))).before args0 about1 = true := code_word (m := ⟨2, 6⟩) (meth := k2m6) (c := k2c6) (by decide +kernel) rfl rfl rfl (by decide +kernel)
set_option maxRecDepth 65536 in
theorem w_c12 : (Jvm.Cond.code ({ cls := "java/lang/String", name := "<init>", desc := "([C)V" } : Jvm.MethodName) jdk_42_method_3_code (2 : Nat) (Option.none : Option Jvm.ClassFile.FieldType)).before args0 about1 = true := code_word (m := ⟨8, 1⟩) (meth := k8m1) (c := k8c1) (by decide +kernel) rfl rfl rfl (by decide +kernel)
set_option maxRecDepth 65536 in
theorem w_c13 : (Jvm.Cond.code ({ cls := "java/lang/String", name := "<init>", desc := "([CIILjava/lang/Void;)V" } : Jvm.MethodName) jdk_42_method_149_code (6 : Nat) (Option.none : Option Jvm.ClassFile.FieldType)).before args0 about1 = true := code_word (m := ⟨8, 4⟩) (meth := k8m4) (c := k8c4) (by decide +kernel) rfl rfl rfl (by decide +kernel)
set_option maxRecDepth 65536 in
theorem w_c14 : (Jvm.Cond.code ({ cls := "java/lang/StringUTF16", name := "compress", desc := "([CII)[B" } : Jvm.MethodName) jdk_52_method_16_code (6 : Nat) (Option.some (Jvm.ClassFile.FieldType.array Jvm.ClassFile.FieldType.byte))).before args0 about1 = true := code_word (m := ⟨9, 2⟩) (meth := k9m2) (c := k9c2) (by decide +kernel) rfl rfl rfl (by decide +kernel)
set_option maxRecDepth 65536 in
theorem w_c15 : (Jvm.Cond.code ({ cls := "java/lang/StringUTF16", name := "compress", desc := "([CI[BII)I" } : Jvm.MethodName) jdk_52_method_21_code (7 : Nat) (Option.some Jvm.ClassFile.FieldType.int)).before args0 about1 = true := code_word (m := ⟨9, 3⟩) (meth := k9m3) (c := k9c3) (by decide +kernel) rfl rfl rfl (by decide +kernel)
set_option maxRecDepth 65536 in
theorem w_c16 : (Jvm.Cond.code ({ cls := "java/lang/StringUTF16", name := "coderFromArrayLen", desc := "([BI)B" } : Jvm.MethodName) jdk_52_method_15_code (2 : Nat) (Option.some Jvm.ClassFile.FieldType.byte)).before args0 about1 = true := code_word (m := ⟨9, 1⟩) (meth := k9m1) (c := k9c1) (by decide +kernel) rfl rfl rfl (by decide +kernel)
set_option maxRecDepth 65536 in
theorem w_c17 : (Jvm.Cond.code ({ cls := "java/lang/String", name := "equals", desc := "(Ljava/lang/Object;)Z" } : Jvm.MethodName) jdk_42_method_66_code (3 : Nat) (Option.some Jvm.ClassFile.FieldType.boolean)).before args0 about1 = true := code_word (m := ⟨8, 2⟩) (meth := k8m2) (c := k8c2) (by decide +kernel) rfl rfl rfl (by decide +kernel)
set_option maxRecDepth 65536 in
theorem w_c18 : (Jvm.Cond.code ({ cls := "java/lang/String", name := "valueOf", desc := "(C)Ljava/lang/String;" } : Jvm.MethodName) jdk_42_method_139_code (1 : Nat) (Option.some (Jvm.ClassFile.FieldType.object "java/lang/String"))).before args0 about1 = true := code_word (m := ⟨8, 3⟩) (meth := k8m3) (c := k8c3) (by decide +kernel) rfl rfl rfl (by decide +kernel)
set_option maxRecDepth 65536 in
theorem w_c19 : (Jvm.Cond.code ({ cls := "java/lang/StringLatin1", name := "canEncode", desc := "(C)Z" } : Jvm.MethodName) jdk_43_method_3_code (1 : Nat) (Option.some Jvm.ClassFile.FieldType.boolean)).before args0 about1 = true := code_word (m := ⟨10, 1⟩) (meth := k10m1) (c := k10c1) (by decide +kernel) rfl rfl rfl (by decide +kernel)
set_option maxRecDepth 65536 in
theorem w_c20 : (Jvm.Cond.code ({ cls := "java/lang/StringLatin1", name := "toBytes", desc := "(C)[B" } : Jvm.MethodName) jdk_43_method_46_code (1 : Nat) (Option.some (Jvm.ClassFile.FieldType.array Jvm.ClassFile.FieldType.byte))).before args0 about1 = true := code_word (m := ⟨10, 2⟩) (meth := k10m2) (c := k10c2) (by decide +kernel) rfl rfl rfl (by decide +kernel)
set_option maxRecDepth 65536 in
theorem w_c21 : (Jvm.Cond.code ({ cls := "java/lang/String", name := "<init>", desc := "([BB)V" } : Jvm.MethodName) jdk_42_method_151_code (3 : Nat) (Option.none : Option Jvm.ClassFile.FieldType)).before args0 about1 = true := code_word (m := ⟨8, 5⟩) (meth := k8m5) (c := k8c5) (by decide +kernel) rfl rfl rfl (by decide +kernel)
def codes1 : List Jvm.Cond := [Jvm.Cond.code x code maxLocals ret, Jvm.Cond.code ({ cls := "com/example/holdfast/holdfast/Acquisition", name := "refused", desc := "(JLjava/lang/String;)Lcom/example/holdfast/holdfast/Acquisition;" } : Jvm.MethodName) prog_1_method_3_code (3 : Nat) (Option.some (Jvm.ClassFile.FieldType.object "com/example/holdfast/holdfast/Acquisition")), Jvm.Cond.code ({ cls := "com/example/holdfast/holdfast/Acquisition", name := "<init>", desc := "(JJLjava/lang/String;Lcom/example/holdfast/holdfast/HoldfastException;)V" } : Jvm.MethodName) prog_1_method_1_code (7 : Nat) (Option.none : Option Jvm.ClassFile.FieldType), Jvm.Cond.code ({ cls := "java/lang/Object", name := "<init>", desc := "()V" } : Jvm.MethodName) object_method_1_code (1 : Nat) (Option.none : Option Jvm.ClassFile.FieldType), Jvm.Cond.code ({ cls := "com/example/holdfast/holdfast/Acquisition", name := "keptBy", desc := "()Ljava/lang/String;" } : Jvm.MethodName) prog_1_method_14_code (1 : Nat) (Option.some (Jvm.ClassFile.FieldType.object "java/lang/String")), Jvm.Cond.code ({ cls := "com/example/holdfast/holdfast/Acquisition", name := "isTaken", desc := "()Z" } : Jvm.MethodName) prog_1_method_7_code (1 : Nat) (Option.some Jvm.ClassFile.FieldType.boolean), Jvm.Cond.code ({ cls := "com/example/holdfast/holdfast/Acquisition", name := "token", desc := "()J" } : Jvm.MethodName) prog_1_method_12_code (1 : Nat) (Option.some Jvm.ClassFile.FieldType.long), Jvm.Cond.code ({ cls := "com/example/holdfast/holdfast/Acquisition", name := "askAgainMillis", desc := "()J" } : Jvm.MethodName) prog_1_method_13_code (1 : Nat) (Option.some Jvm.ClassFile.FieldType.long), Jvm.Cond.code ({ cls := "com/example/holdfast/holdfast/Acquisition", name := "isUnasked", desc := "()Z" } : Jvm.MethodName) prog_1_method_8_code (1 : Nat) (Option.some Jvm.ClassFile.FieldType.boolean), Jvm.Cond.code ({ cls := "com/example/holdfast/holdfast/Acquisition", name := "isUnconfirmed", desc := "()Z" } : Jvm.MethodName) prog_1_method_9_code (1 : Nat) (Option.some Jvm.ClassFile.FieldType.boolean), Jvm.Cond.code ({ cls := "com/example/holdfast/holdfast/Acquisition", name := "isUnreached", desc := "()Z" } : Jvm.MethodName) prog_1_method_10_code (1 : Nat) (Option.some Jvm.ClassFile.FieldType.boolean), Jvm.Cond.code ({ cls := "com/example/holdfast/holdfast/Acquisition", name := "unreachedBy", desc := "()Lcom/example/holdfast/holdfast/HoldfastException;" } : Jvm.MethodName) prog_1_method_11_code (1 : Nat) (Option.some (Jvm.ClassFile.FieldType.object "com/example/holdfast/holdfast/HoldfastException")), Jvm.Cond.code ({ cls := "java/lang/String", name := "<init>", desc := "([C)V" } : Jvm.MethodName) jdk_42_method_3_code (2 : Nat) (Option.none : Option Jvm.ClassFile.FieldType), Jvm.Cond.code ({ cls := "java/lang/String", name := "<init>", desc := "([CIILjava/lang/Void;)V" } : Jvm.MethodName) jdk_42_method_149_code (6 : Nat) (Option.none : Option Jvm.ClassFile.FieldType), Jvm.Cond.code ({ cls := "java/lang/StringUTF16", name := "compress", desc := "([CII)[B" } : Jvm.MethodName) jdk_52_method_16_code (6 : Nat) (Option.some (Jvm.ClassFile.FieldType.array Jvm.ClassFile.FieldType.byte)), Jvm.Cond.code ({ cls := "java/lang/StringUTF16", name := "compress", desc := "([CI[BII)I" } : Jvm.MethodName) jdk_52_method_21_code (7 : Nat) (Option.some Jvm.ClassFile.FieldType.int), Jvm.Cond.code ({ cls := "java/lang/StringUTF16", name := "coderFromArrayLen", desc := "([BI)B" } : Jvm.MethodName) jdk_52_method_15_code (2 : Nat) (Option.some Jvm.ClassFile.FieldType.byte), Jvm.Cond.code ({ cls := "java/lang/String", name := "equals", desc := "(Ljava/lang/Object;)Z" } : Jvm.MethodName) jdk_42_method_66_code (3 : Nat) (Option.some Jvm.ClassFile.FieldType.boolean), Jvm.Cond.code ({ cls := "java/lang/String", name := "valueOf", desc := "(C)Ljava/lang/String;" } : Jvm.MethodName) jdk_42_method_139_code (1 : Nat) (Option.some (Jvm.ClassFile.FieldType.object "java/lang/String")), Jvm.Cond.code ({ cls := "java/lang/StringLatin1", name := "canEncode", desc := "(C)Z" } : Jvm.MethodName) jdk_43_method_3_code (1 : Nat) (Option.some Jvm.ClassFile.FieldType.boolean), Jvm.Cond.code ({ cls := "java/lang/StringLatin1", name := "toBytes", desc := "(C)[B" } : Jvm.MethodName) jdk_43_method_46_code (1 : Nat) (Option.some (Jvm.ClassFile.FieldType.array Jvm.ClassFile.FieldType.byte)), Jvm.Cond.code ({ cls := "java/lang/String", name := "<init>", desc := "([BB)V" } : Jvm.MethodName) jdk_42_method_151_code (3 : Nat) (Option.none : Option Jvm.ClassFile.FieldType)]
set_option maxRecDepth 65536 in
theorem codes_eq : words1.filter isCode = codes1 := rfl
theorem w_codes : ∀ c ∈ words1.filter isCode, c.before args0 about1 = true := by
  rw [codes_eq]
  intro c hc
  simp only [codes1, List.mem_cons, List.not_mem_nil, or_false] at hc
  rcases hc with rfl | rfl | rfl | rfl | rfl | rfl | rfl | rfl | rfl | rfl | rfl | rfl | rfl | rfl | rfl | rfl | rfl | rfl | rfl | rfl | rfl | rfl
  · exact w_c0
  · exact w_c1
  · exact w_c2
  · exact w_c3
  · exact w_c4
  · exact w_c5
  · exact w_c6
  · exact w_c7
  · exact w_c8
  · exact w_c9
  · exact w_c10
  · exact w_c11
  · exact w_c12
  · exact w_c13
  · exact w_c14
  · exact w_c15
  · exact w_c16
  · exact w_c17
  · exact w_c18
  · exact w_c19
  · exact w_c20
  · exact w_c21
set_option maxRecDepth 65536 in
theorem w_t1 : (words1.take 24).all (fun c => isCode c || c.before args0 about1) = true := by decide +kernel
set_option maxRecDepth 65536 in
theorem w_t2 : ((words1.drop 24).take 24).all (fun c => isCode c || c.before args0 about1) = true := by decide +kernel
set_option maxRecDepth 65536 in
theorem w_t3 : (((words1.drop 24).drop 24).take 24).all (fun c => isCode c || c.before args0 about1) = true := by decide +kernel
set_option maxRecDepth 65536 in
theorem w_t4 : ((((words1.drop 24).drop 24).drop 24).take 24).all (fun c => isCode c || c.before args0 about1) = true := by decide +kernel
set_option maxRecDepth 65536 in
theorem w_t5 : ((((words1.drop 24).drop 24).drop 24).drop 24).all (fun c => isCode c || c.before args0 about1) = true := by decide +kernel
theorem w_tables : (allAtoms (Jvm.Cond.code x code maxLocals ret :: tables_1)).before args0 about1 = true := by
  rw [allAtoms_all]
  show words1.all (fun c => c.before args0 about1) = true
  refine all_split ?_ w_codes
  rw [← List.take_append_drop 24 words1, List.all_append, w_t1, ← List.take_append_drop 24 (words1.drop 24), List.all_append, w_t2, ← List.take_append_drop 24 ((words1.drop 24).drop 24), List.all_append, w_t3, ← List.take_append_drop 24 (((words1.drop 24).drop 24).drop 24), List.all_append, w_t4, w_t5]
  rfl
set_option maxRecDepth 65536 in
theorem w_rest : rest_1_c.before args0 about1 = true := by decide +kernel
set_option maxRecDepth 65536 in
theorem w_case : (Jvm.Cond.and given_1 narrow_1).before args0 about1 = true := by decide +kernel
set_option maxRecDepth 65536 in
theorem w_consts : constsHeld consts_1 about1 := Jvm.Lit.constsHeldB_iff.mp (by decide +kernel)
theorem w_applies : (headSpec (Jvm.Cond.code x code maxLocals ret :: tables_1) room_1).applies x e0.platform about1 = true :=
  (Spec.applies_iff w_frames).mpr ⟨w_running, w_runnable, w_alone, w_named, w_hears, w_ripe, w_room, w_tables⟩
theorem atStart : AtStart classFile x code maxLocals ret World_1 tables_1 room_1 Calls_1 rest_1 Pre_1 launch0 p0 e0 about1 theMethod args0 below0 :=
  ⟨lists_1, trivial, launch0.admits_env _ _ _, launch0.least_env, fairChoices_fair.cas, fairChoices_fair.clock, w_frames, w_args, w_heap, w_applies, ⟨w_consts, trivial⟩, w_rest, w_case⟩
end start1
theorem witness_1 : WitnessClaimed_1 := ⟨start1.p0, start1.e0, start1.about1, start1.theMethod, start1.args0, start1.below0, start1.atStart⟩
end Jvm.Pilot.@@N@@
