import JvmDerived
import JvmDerived.Pilot.@@N@@Statement
import JvmDerived.Pilot.@@N@@Code
set_option linter.unusedVariables false
set_option linter.unusedSimpArgs false
namespace Jvm.RoadKit
open Sem ClassFile Op Lib Jvm.Stand Jvm.Free Jvm.LawKit
section OwnKit
variable {p : Program} {l : Launch} {e : Env} {R : Room} {s : State} {m : MethodId} {args : Array Value} {below : List Frame} {meth : Method} {c : Code} {T : State} {locs : List Loc} {cells slots : Nat} {rc rs : Nat} {Q : Option Value → Heap → List Loc → Prop} {S S' : State}
/-- from S on the invocation ends, it returns, and Q holds of what it returns, of the heap and of the places written -/
def OEnds (p : Program) (e : Env) (below : List Frame) (s : State) (rc rs : Nat) (Q : Option Value → Heap → List Loc → Prop) (S : State) : Prop :=
  ∃ s₂ o, Steps p.tables e below S s₂ ∧ s₂.status = .running ∧ Ended s₂ below o ∧ ∃ v L, o = .returned v ∧ Q v s₂.heap L ∧ FrameEnd s o s₂ L rc rs
theorem OEnds.via (h : ∀ t, Steps p.tables e below S' t → Steps p.tables e below S t) (k : OEnds p e below s rc rs Q S') : OEnds p e below s rc rs Q S := by
  obtain ⟨t, o, h1, r⟩ := k
  exact ⟨t, o, h _ h1, r⟩
theorem OEnds.retN (X : Stand p l e R s m args below meth c T locs cells slots) (hx : p.tables.exec = Jvm.exec) (hlk : meth.locks = false) {pc : Nat} {Ls : Array Slot} {z : Int32} {t : FieldType} {rest : List Value} (hret : meth.sig.returnType = some t) (ht : t = .boolean ∨ t = .byte ∨ t = .char ∨ t = .short)
    (hd : decode c.code pc = .ok (.ireturn, 1)) (q : Q (some (.int (nar t z))) T.heap locs) (hc : cells ≤ rc) (hs : slots ≤ rs) : OEnds p e below s rc rs Q (T.setTop (mkF m pc Ls (.int z :: rest))) := by
  obtain ⟨fs, hr, hrun, hended, hW, hsame⟩ := X.leave (v := some (.int (nar t z))) (fun h => by rw [hret] at h; cases h) hlk
  exact ⟨_, _, Jvm.RoadKit.retN X hx hret ht hd hr, hrun, hended, _, _, rfl, q, ⟨_, rfl⟩, hW, hsame.mono hc hs⟩
theorem OEnds.retI (X : Stand p l e R s m args below meth c T locs cells slots) (hx : p.tables.exec = Jvm.exec) (hlk : meth.locks = false) {pc : Nat} {Ls : Array Slot} {z : Int32} {rest : List Value} (hret : meth.sig.returnType = some .int)
    (hd : decode c.code pc = .ok (.ireturn, 1)) (q : Q (some (.int z)) T.heap locs) (hc : cells ≤ rc) (hs : slots ≤ rs) : OEnds p e below s rc rs Q (T.setTop (mkF m pc Ls (.int z :: rest))) := by
  obtain ⟨fs, hr, hrun, hended, hW, hsame⟩ := X.leave (v := some (.int z)) (fun h => by rw [hret] at h; cases h) hlk
  exact ⟨_, _, retOut X hx hret rfl (Or.inl ⟨rfl, Or.inl rfl, z, rfl⟩) hd hr, hrun, hended, _, _, rfl, q, ⟨_, rfl⟩, hW, hsame.mono hc hs⟩
theorem OEnds.retJ (X : Stand p l e R s m args below meth c T locs cells slots) (hx : p.tables.exec = Jvm.exec) (hlk : meth.locks = false) {pc : Nat} {Ls : Array Slot} {z : Int64} {rest : List Value} (hret : meth.sig.returnType = some .long)
    (hd : decode c.code pc = .ok (.lreturn, 1)) (q : Q (some (.long z)) T.heap locs) (hc : cells ≤ rc) (hs : slots ≤ rs) : OEnds p e below s rc rs Q (T.setTop (mkF m pc Ls (.long z :: rest))) := by
  obtain ⟨fs, hr, hrun, hended, hW, hsame⟩ := X.leave (v := some (.long z)) (fun h => by rw [hret] at h; cases h) hlk
  exact ⟨_, _, retOut X hx hret rfl (Or.inr (Or.inl ⟨rfl, rfl, z, rfl⟩)) hd hr, hrun, hended, _, _, rfl, q, ⟨_, rfl⟩, hW, hsame.mono hc hs⟩
theorem OEnds.retR (X : Stand p l e R s m args below meth c T locs cells slots) (hx : p.tables.exec = Jvm.exec) (hlk : meth.locks = false) {pc : Nat} {Ls : Array Slot} {w : Value} {t : FieldType} {rest : List Value} (hret : meth.sig.returnType = some t) (ht : t.isReference = true) (hw : w.isRef = true)
    (hd : decode c.code pc = .ok (.areturn, 1)) (q : Q (some w) T.heap locs) (hc : cells ≤ rc) (hs : slots ≤ rs) : OEnds p e below s rc rs Q (T.setTop (mkF m pc Ls (w :: rest))) := by
  obtain ⟨fs, hr, hrun, hended, hW, hsame⟩ := X.leave (v := some w) (fun h => by rw [hret] at h; cases h) hlk
  have hn : narrow t w = w := by rcases ref_cases hw with rfl | ⟨a, rfl⟩ <;> cases t <;> rfl
  exact ⟨_, _, retOut X hx hret hn (Or.inr (Or.inr (Or.inr (Or.inr ⟨rfl, ht, hw⟩)))) hd hr, hrun, hended, _, _, rfl, q, ⟨_, rfl⟩, hW, hsame.mono hc hs⟩
theorem OEnds.retV (X : Stand p l e R s m args below meth c T locs cells slots) (hx : p.tables.exec = Jvm.exec) (hlk : meth.locks = false) {pc : Nat} {Ls : Array Slot} (hret : meth.sig.returnType = none)
    (hd : decode c.code pc = .ok (.return_, 1)) (q : Q none T.heap locs) (hc : cells ≤ rc) (hs : slots ≤ rs) : OEnds p e below s rc rs Q (T.setTop (mkF m pc Ls [])) := by
  obtain ⟨fs, hr, hrun, hended, hW, hsame⟩ := X.leave (v := none) (fun _ => rfl) hlk
  exact ⟨_, _, X.returnOut hx hret hd hr, hrun, hended, _, _, rfl, q, ⟨_, rfl⟩, hW, hsame.mono hc hs⟩
/-- the call answers r, writes nothing that was there, makes nothing -/
def QA (r : Option Value) (h0 : Heap) (n0 : Nat) : Option Value → Heap → List Loc → Prop := fun v h L => v = r ∧ Fr n0 L ∧ h = h0
/-- the law's own answer -/
def QL (n0 : Nat) : Option Value → Heap → List Loc → Prop := fun v _ L => v = some (.int 1) ∧ Fr n0 L
theorem own_lc0 (x : Int64) : lcmpW x x = 0 := by rw [lcW]; exact (lc_eq _ _).mpr rfl
theorem own_lcpos {x y : Int64} (h : y < x) : 0 < lcmpW x y := by rw [lcW]; exact (lc_gt _ _).mpr h
theorem own_lcnpos {x y : Int64} (h : ¬ y < x) : ¬ 0 < lcmpW x y := by rw [lcW]; exact fun q => h ((lc_gt _ _).mp q)
theorem own_narrow {t : String} {w : Value} (h : w.isRef = true) : narrow (.object t) w = w := by rcases ref_cases h with rfl | ⟨_, rfl⟩ <;> rfl
theorem own_fits {t : String} {w : Value} (h : w.isRef = true) : fits (.object t) w = true := by rcases ref_cases h with rfl | ⟨_, rfl⟩ <;> rfl
end OwnKit
section OwnWords
variable {args : Array Value} {s : State} {t u : Term} {a : Addr} {cl : Cell} {ty : FieldType} {j k : Int32}
theorem own_eqint (h : (Jvm.Cond.eq t (.int k)).value args s none s [] = some true) : t.eval args s none [] s = some (.int k) := by
  obtain ⟨x, y, e1, e2, -, k2⟩ := cmp_v (Or.inl h)
  obtain rfl : Value.int k = y := Option.some.inj ((Term.int_eval k).symm.trans e2)
  obtain ⟨z, rfl⟩ : ∃ z, x = .int z := k2
  have q := gotT (Cond.eq_ints e1 (Term.int_eval k)) h
  rw [e1, q]
theorem own_len (h : (Jvm.Cond.eq (.length t) (.int k)).value args s none s [] = some true) (ev : t.eval args s none [] s = some (.ref a)) (A : Arr s s.heap a cl ty) : cl.slots.size < 2 ^ 31 ∧ cl.slots.size.toInt32 = k := by
  have e1 := own_eqint h
  have e2 : s.arrayAt? a = some cl := A.fin (Vm.Alike.refl _)
  have e3 : cl.slots.size < 2 ^ 31 := by
    refine Classical.byContradiction fun q => ?_
    simp [Term.eval, ev, e2, q] at e1
  have e4 := len_f ev e2 e3
  rw [e1] at e4
  exact ⟨e3, (Value.int.inj (Option.some.inj e4)).symm⟩
theorem own_elem (h : (Jvm.Cond.eq (.elem t (.int j)) (.int k)).value args s none s [] = some true) (ev : t.eval args s none [] s = some (.ref a)) (A : Arr s s.heap a cl ty) : cl.slots[j.toNatClampNeg]? = some (.int k) :=
  (elem_in (own_eqint h) ev (Term.int_eval j) A.1).2
theorem own_eqref (h : (Jvm.Cond.eq t u).value args s none s [] = some true) (eu : u.eval args s none [] s = some (.ref a)) : t.eval args s none [] s = some (.ref a) := by
  obtain ⟨x, y, e1, e2, -, k2⟩ := cmp_v (Or.inl h)
  obtain rfl : Value.ref a = y := Option.some.inj (eu.symm.trans e2)
  have hx : x.isRef = true := k2.2
  have q := gotT (eq_R e1 eu hx rfl) h
  rw [e1, q]
theorem own_elemR (h : (Jvm.Cond.eq (.elem t (.int j)) u).value args s none s [] = some true) {b : Addr} (eu : u.eval args s none [] s = some (.ref b)) (ev : t.eval args s none [] s = some (.ref a)) (A : Arr s s.heap a cl ty) : cl.slots[j.toNatClampNeg]? = some (.ref b) :=
  (elem_in (own_eqref h eu) ev (Term.int_eval j) A.1).2
end OwnWords
end Jvm.RoadKit
namespace Jvm.RoadKit
open Sem ClassFile Op Lib Jvm.Stand Jvm.Free Jvm.LawKit
section OwnWide
variable {p : Program} {l : Launch} {e : Env} {R : Room} {s : State} {m : MethodId} {args : Array Value} {below : List Frame} {meth : Method} {c : Code} {T : State} {locs : List Loc} {cells slots : Nat} {rc rs : Nat} {Q : Option Value → Heap → List Loc → Prop} {S S' : State} {Z : State} {a0 : Array Value} {EL : List (String × Nat)} {vm : Vm} {k0 : Nat} {h h0 : Heap}
/-- as OEnds, for a road that may intern constants: the books of the constants go on -/
def OEndsW (p : Program) (e : Env) (below : List Frame) (s : State) (Z : State) (EL : List (String × Nat)) (rc rs : Nat) (Q : Option Value → Heap → List Loc → Prop) (S : State) : Prop :=
  ∃ s₂ o, Steps p.tables e below S s₂ ∧ s₂.status = .running ∧ Ended s₂ below o ∧ ∃ v L, o = .returned v ∧ Q v s₂.heap L ∧ CHr Z EL s.vm s.heap s₂.vm s₂.heap ∧ ReturnedEndW s o s₂ L rc rs
theorem OEndsW.via (g : ∀ t, Steps p.tables e below S' t → Steps p.tables e below S t) (k : OEndsW p e below s Z EL rc rs Q S') : OEndsW p e below s Z EL rc rs Q S := by
  obtain ⟨t, o, h1, r⟩ := k
  exact ⟨t, o, g _ h1, r⟩
theorem OEndsW.out (X : Stand p l e R (s.setVm vm) m args below meth c T locs cells slots) (hlk : meth.locks = false) (hS : s.Since vm k0) (hk : k0 ≤ h.size) (hZ : Z.Warmed39 vm) (hEL : EW Z a0 EL) (eT : T.heap = h) (es : s.heap = h0) (CR : CHr Z EL s.vm h0 vm h) {v : Option Value} (hv : meth.sig.returnType = none → v = none)
    (hst : ∀ fs, (∀ (f : JFrame) (acts : List Action), f.method = m → f.locked = none → f.entered = [] → (doReturn e (T.setTop f) acts v).1 = T.setFrames fs) → Steps p.tables e below S (T.setFrames fs)) (q : Q v T.heap locs) (hc : cells ≤ rc) (hs : slots ≤ rs) : OEndsW p e below s Z EL rc rs Q S := by
  obtain ⟨fs, hr, hrun, hended, a, b, c', d⟩ := X.leaveW hS (by rw [eT]; exact hk) (v := v) hv hlk
  have A := CR.trans (CHv.at X hZ hEL CR.1)
  refine ⟨_, _, hst fs hr, hrun, hended, _, _, rfl, q, ?_, a, b, c', d.mono hc hs⟩
  show CHr Z EL s.vm s.heap T.vm T.heap
  rw [es, eT]
  exact A
theorem OEndsW.retN (X : Stand p l e R (s.setVm vm) m args below meth c T locs cells slots) (hx : p.tables.exec = Jvm.exec) (hlk : meth.locks = false) (hS : s.Since vm k0) (hk : k0 ≤ h.size) (hZ : Z.Warmed39 vm) (hEL : EW Z a0 EL) (eT : T.heap = h) (es : s.heap = h0) (CR : CHr Z EL s.vm h0 vm h) {pc : Nat} {Ls : Array Slot} {z : Int32} {t : FieldType} {rest : List Value} (hret : meth.sig.returnType = some t) (ht : t = .boolean ∨ t = .byte ∨ t = .char ∨ t = .short)
    (hd : decode c.code pc = .ok (.ireturn, 1)) (q : Q (some (.int (nar t z))) T.heap locs) (hc : cells ≤ rc) (hs : slots ≤ rs) : OEndsW p e below s Z EL rc rs Q (T.setTop (mkF m pc Ls (.int z :: rest))) :=
  OEndsW.out X hlk hS hk hZ hEL eT es CR (fun h => by rw [hret] at h; cases h) (fun fs hr => Jvm.RoadKit.retN X hx hret ht hd hr) q hc hs
theorem OEndsW.retI (X : Stand p l e R (s.setVm vm) m args below meth c T locs cells slots) (hx : p.tables.exec = Jvm.exec) (hlk : meth.locks = false) (hS : s.Since vm k0) (hk : k0 ≤ h.size) (hZ : Z.Warmed39 vm) (hEL : EW Z a0 EL) (eT : T.heap = h) (es : s.heap = h0) (CR : CHr Z EL s.vm h0 vm h) {pc : Nat} {Ls : Array Slot} {z : Int32} {rest : List Value} (hret : meth.sig.returnType = some .int)
    (hd : decode c.code pc = .ok (.ireturn, 1)) (q : Q (some (.int z)) T.heap locs) (hc : cells ≤ rc) (hs : slots ≤ rs) : OEndsW p e below s Z EL rc rs Q (T.setTop (mkF m pc Ls (.int z :: rest))) :=
  OEndsW.out X hlk hS hk hZ hEL eT es CR (fun h => by rw [hret] at h; cases h) (fun fs hr => retOut X hx hret rfl (Or.inl ⟨rfl, Or.inl rfl, z, rfl⟩) hd hr) q hc hs
theorem OEndsW.retJ (X : Stand p l e R (s.setVm vm) m args below meth c T locs cells slots) (hx : p.tables.exec = Jvm.exec) (hlk : meth.locks = false) (hS : s.Since vm k0) (hk : k0 ≤ h.size) (hZ : Z.Warmed39 vm) (hEL : EW Z a0 EL) (eT : T.heap = h) (es : s.heap = h0) (CR : CHr Z EL s.vm h0 vm h) {pc : Nat} {Ls : Array Slot} {z : Int64} {rest : List Value} (hret : meth.sig.returnType = some .long)
    (hd : decode c.code pc = .ok (.lreturn, 1)) (q : Q (some (.long z)) T.heap locs) (hc : cells ≤ rc) (hs : slots ≤ rs) : OEndsW p e below s Z EL rc rs Q (T.setTop (mkF m pc Ls (.long z :: rest))) :=
  OEndsW.out X hlk hS hk hZ hEL eT es CR (fun h => by rw [hret] at h; cases h) (fun fs hr => retOut X hx hret rfl (Or.inr (Or.inl ⟨rfl, rfl, z, rfl⟩)) hd hr) q hc hs
theorem OEndsW.retR (X : Stand p l e R (s.setVm vm) m args below meth c T locs cells slots) (hx : p.tables.exec = Jvm.exec) (hlk : meth.locks = false) (hS : s.Since vm k0) (hk : k0 ≤ h.size) (hZ : Z.Warmed39 vm) (hEL : EW Z a0 EL) (eT : T.heap = h) (es : s.heap = h0) (CR : CHr Z EL s.vm h0 vm h) {pc : Nat} {Ls : Array Slot} {w : Value} {t : FieldType} {rest : List Value} (hret : meth.sig.returnType = some t) (ht : t.isReference = true) (hw : w.isRef = true)
    (hd : decode c.code pc = .ok (.areturn, 1)) (q : Q (some w) T.heap locs) (hc : cells ≤ rc) (hs : slots ≤ rs) : OEndsW p e below s Z EL rc rs Q (T.setTop (mkF m pc Ls (w :: rest))) :=
  OEndsW.out X hlk hS hk hZ hEL eT es CR (fun h => by rw [hret] at h; cases h) (fun fs hr => retOut X hx hret (by rcases ref_cases hw with rfl | ⟨a, rfl⟩ <;> cases t <;> rfl) (Or.inr (Or.inr (Or.inr (Or.inr ⟨rfl, ht, hw⟩)))) hd hr) q hc hs
theorem OEndsW.retV (X : Stand p l e R (s.setVm vm) m args below meth c T locs cells slots) (hx : p.tables.exec = Jvm.exec) (hlk : meth.locks = false) (hS : s.Since vm k0) (hk : k0 ≤ h.size) (hZ : Z.Warmed39 vm) (hEL : EW Z a0 EL) (eT : T.heap = h) (es : s.heap = h0) (CR : CHr Z EL s.vm h0 vm h) {pc : Nat} {Ls : Array Slot} (hret : meth.sig.returnType = none)
    (hd : decode c.code pc = .ok (.return_, 1)) (q : Q none T.heap locs) (hc : cells ≤ rc) (hs : slots ≤ rs) : OEndsW p e below s Z EL rc rs Q (T.setTop (mkF m pc Ls [])) :=
  OEndsW.out X hlk hS hk hZ hEL eT es CR (fun _ => rfl) (fun fs hr => X.returnOut hx hret hd hr) q hc hs
theorem own_safeV {a : Addr} {k : ClassId} {ty : FieldType} {n : Int32} {vs : List Value} {d : Value} (hal : Z.vm.Alike vm) (V : Arv Z h a k ty n vs d) (ht : ty ≠ .byte) : Safe Z EL vm h a := by
  obtain ⟨c, A, -⟩ := V
  exact Safe.arr hal A ht
theorem own_safe_null {x : Addr} (hal : Z.vm.Alike vm) (E : Exa Z h x "java/lang/String") (F : Fld Z h x "java/lang/String" "value" "[B" .null) : Safe Z EL vm h x := fun B => by
  obtain ⟨p, -, u, a, -, q, -, G, rfl | rfl⟩ := B
  · obtain ⟨cell, cf, k, i, f, h1, h2, -, -, -, -, h7⟩ := F
    cases (show h[q.sa]? = some q.sC from G.ha).symm.trans h1
    obtain ⟨cS, ⟨⟨s1, s2, s3, ⟨cv, kv, iv, s4, s4'⟩, s5, s6, s7, s8, r⟩, hfS, hcS⟩, -⟩ := G
    obtain ⟨kv', z4⟩ := ff_back (U := Wst Z vm h) hal s4
    cases h2.symm.trans z4
    rw [s8] at h7
    cases h7
  · obtain ⟨cell, k, e1, e2, e3, -, -⟩ := E
    cases (show h[q.sd]? = some q.SA from G.hd).symm.trans e1
    obtain ⟨cS, -, -, f, -⟩ := G
    have f : vm.findClass "[B" = some q.SA.cls := f
    rw [hal.findClass] at f
    obtain ⟨k1, q1, q2⟩ := Vm.findClass_spec f
    obtain ⟨k2, q3, q4⟩ := Vm.findClass_spec e2
    cases q1.symm.trans q3
    exact absurd (q2.symm.trans q4) (by decide)
end OwnWide
end Jvm.RoadKit
/- laws to paste: Road.backV, Road.lenW, Road.chN, Road.eqW, Road.codOf (cut by pick.py; bodies as the Statement names them) -/
namespace Jvm.Pilot.@@N@@
namespace StrChars
open Jvm Sem ClassFile Op Lib Jvm.Stand Jvm.Free.XT Jvm.Free.ALB Jvm.Free.JM Jvm.Free
open Jvm.Lib.Cold (StaticIs)
/-- a char array whose places are chars -/
def Ch (a : Addr) (A : Cell) (U : State) : Prop := Arr .char a A U ∧ Typed .char A
theorem Ch.mv {a : Addr} {A : Cell} {U U' : State} (h : Ch a A U) (hal : U.vm.Alike U'.vm) (hh : U'.heap = U.heap) : Ch a A U' := ⟨h.1.mv hal hh, h.2⟩
theorem Ch.keep {a : Addr} {A : Cell} {U U' : State} (h : Ch a A U) (hal : U.vm.Alike U'.vm) (hk : U'.heap[a]? = some A) : Ch a A U' := ⟨h.1.keep hal hk, h.2⟩
/-- what place i of a char[]'s cell holds -/
def cv (A : Cell) (i : Nat) : Int32 := match A.slots[i]? with | some (.int x) => x | _ => 0
theorem Ch.get {a : Addr} {A : Cell} {U : State} (h : Ch a A U) {i : Nat} (hi : i < A.slots.size) : A.slots[i]? = some (.int (cv A i)) := by
  have e := Array.getElem?_eq_getElem hi
  have f := h.2 i _ e
  unfold cv; rw [e]
  generalize A.slots[i] = v at f
  cases v <;> simp [fits] at f ⊢
/-- the byte that i2b leaves of a char -/
def lo8 (x : Int32) : Int32 := x.toInt8.toInt32
theorem fits_lo8 (y : Int32) : fits .byte (.int (lo8 y)) = true := by
  have h1 := y.toInt8.le_toInt
  have h2 := y.toInt8.toInt_lt
  simp only [lo8, fits, Bool.and_eq_true, decide_eq_true_eq, Int32.le_iff_toInt_le, Int8.toInt_toInt32, show (-128 : Int32).toInt = -128 from by decide, show (127 : Int32).toInt = 127 from by decide]
  omega
/-- A' is A but that each place j of lo .. hi - 1 holds f j -/
def Laid (A A' : Cell) (lo hi : Nat) (f : Nat → Value) : Prop := A'.cls = A.cls ∧ A'.vm = A.vm ∧ A'.slots.size = A.slots.size ∧ ∀ i, A'.slots[i]? = if lo ≤ i ∧ i < hi then some (f i) else A.slots[i]?
theorem Laid.zero (A : Cell) (lo : Nat) (f : Nat → Value) : Laid A A lo (lo + 0) f := ⟨rfl, rfl, rfl, fun i => by rw [if_neg (by omega)]⟩
theorem Laid.step {A Ak : Cell} {lo k : Nat} {f : Nat → Value} {v : Value} (h : Laid A Ak lo k f) (hlo : lo ≤ k) (hk : k < Ak.slots.size) (hv : v = f k) : Laid A (Ak.setSlot k v) lo (k + 1) f := by
  refine ⟨h.1, h.2.1, by simpa [Cell.setSlot] using h.2.2.1, fun i => ?_⟩
  by_cases e : k = i
  · subst e; rw [Cell.slots_setSlot_self v hk, if_pos (by omega), hv]
  · rw [Cell.slots_setSlot_ne v e, h.2.2.2 i]
    by_cases q : lo ≤ i ∧ i < k
    · rw [if_pos q, if_pos (by omega)]
    · rw [if_neg q, if_neg (by omega)]
def U16 : String := "java/lang/StringUTF16"
namespace Cmp5
def yN : MethodName := ⟨"java/lang/StringUTF16", "compress", "([CI[BII)I"⟩
abbrev yB : ByteArray := jdk_52_method_21_code
theorem d0 : decode yB 0 = .ok (.iconst 0, 1) := by decide +kernel
theorem d1 : decode yB 1 = .ok (.istore 5, 2) := by decide +kernel
theorem d3 : decode yB 3 = .ok (.iload 5, 2) := by decide +kernel
theorem d5 : decode yB 5 = .ok (.iload 4, 2) := by decide +kernel
theorem d7 : decode yB 7 = .ok (.if_icmp (.ge) 37, 3) := by decide +kernel
theorem d10 : decode yB 10 = .ok (.aload_n 0, 1) := by decide +kernel
theorem d11 : decode yB 11 = .ok (.iload_n 1, 1) := by decide +kernel
theorem d12 : decode yB 12 = .ok (.caload, 1) := by decide +kernel
theorem d13 : decode yB 13 = .ok (.istore 6, 2) := by decide +kernel
theorem d15 : decode yB 15 = .ok (.iload 6, 2) := by decide +kernel
theorem d17 : decode yB 17 = .ok (.sipush 255, 3) := by decide +kernel
theorem d20 : decode yB 20 = .ok (.if_icmp (.le) 6, 3) := by decide +kernel
theorem d26 : decode yB 26 = .ok (.aload_n 2, 1) := by decide +kernel
theorem d27 : decode yB 27 = .ok (.iload_n 3, 1) := by decide +kernel
theorem d28 : decode yB 28 = .ok (.iload 6, 2) := by decide +kernel
theorem d30 : decode yB 30 = .ok (.i2b, 1) := by decide +kernel
theorem d31 : decode yB 31 = .ok (.bastore, 1) := by decide +kernel
theorem d32 : decode yB 32 = .ok (.iinc 1 1, 3) := by decide +kernel
theorem d35 : decode yB 35 = .ok (.iinc 3 1, 3) := by decide +kernel
theorem d38 : decode yB 38 = .ok (.iinc 5 1, 3) := by decide +kernel
theorem d41 : decode yB 41 = .ok (.goto (-38), 3) := by decide +kernel
theorem d44 : decode yB 44 = .ok (.iload 4, 2) := by decide +kernel
theorem d46 : decode yB 46 = .ok (.ireturn, 1) := by decide +kernel
def site : List Cond := []
def tab : Cond := tabOf yN yB 7 (some .int) site
def P (b : Addr) (A : Cell) (d : Addr) (B : Cell) (o q len : Nat) (args : Array Value) (s : State) : Prop := args = #[.ref b, .int (Int32.ofNat o), .ref d, .int (Int32.ofNat q), .int (Int32.ofNat len)] ∧ Ch b A s ∧ Arr .byte d B s ∧ b ≠ d ∧ o + len ≤ A.slots.size ∧ q + len ≤ B.slots.size ∧ ∀ i, i < len → ¬ 255 < cv A (o + i)
def E (b : Addr) (A : Cell) (d : Addr) (B : Cell) (o q len : Nat) (r : Option Value) (s u : State) : Prop := r = some (.int (Int32.ofNat len)) ∧ ∃ B', Put d B' s u ∧ Laid B B' q (q + len) (fun j => Value.int (lo8 (cv A (o + (j - q)))))
/-- no char of the range above 255: len; the places written hold each char's low byte -/
theorem law (l : Launch) (b : Addr) (A : Cell) (d : Addr) (B : Cell) (o q len : Nat) : Law l yN 5 5 0 0 yB 7 (some .int) site (P b A d B o q len) (E b A d B o q len) (copyLocs d q len) 0 0 := by
  refine Law.of_walk (plainFor_of_name (by decide +kernel)) (by decide +kernel) (by decide +kernel) (by decide) (fun _ _ h => by rw [h.1]; rfl) (fun _ U U' hal hh h => ⟨h.1, h.2.1.mv hal hh, h.2.2.1.mv hal hh, h.2.2.2⟩) (fun r U U' V V' h1 hal h2 h => ⟨h.1, h.2.elim fun B' q => ⟨B', q.1.mv h1 h2, q.2⟩⟩) ?_
  intro p e s m args below meth c s₁ X0 hexec hbytes hml hret hlk hnm hown hh0 W hP
  obtain ⟨rfl, hA, hB, hne, l1, l2, hp⟩ := hP
  have c1 : Steps p.tables e below (s₁.setTop (entryFrame m #[.ref b, .int (Int32.ofNat o), .ref d, .int (Int32.ofNat q), .int (Int32.ofNat len)] 7)) (s₁.setTop (mkF m 0 #[.val (.ref b), .val (.int (Int32.ofNat o)), .val (.ref d), .val (.int (Int32.ofNat q)), .val (.int (Int32.ofNat len)), .unset, .unset] [])) := entry rfl
  have hA0 := hA.1.mv X0.warmed.alike hh0
  have hB0 := hB.mv X0.warmed.alike hh0
  have a31 := hA.1.2.2.2
  have c2 : Steps p.tables e below (s₁.setTop (entryFrame m #[.ref b, .int (Int32.ofNat o), .ref d, .int (Int32.ofNat q), .int (Int32.ofNat len)] 7)) (s₁.setTop (mkF m 3 #[.val (.ref b), .val (.int (Int32.ofNat o)), .val (.ref d), .val (.int (Int32.ofNat q)), .val (.int (Int32.ofNat len)), .val (.int 0), .unset] [])) := c1.trans (by
    refine iconstV X0.here hexec rfl 0 (hb hbytes d0) (by decide) ?_
    refine XS.istore X0.here hexec rfl (hb hbytes d1) rfl rfl ?_
    exact Steps.refl _)
  have loop : ∀ (r i : Nat), i + r = len → ∀ (z : Slot), (z = .unset ∨ ∃ w, z = .val w ∧ w.category = 1) → ∀ (Tl : State) (Bk : Cell), Stand p l e { frames := 0, locals := 0, cells := 0, slots := 0 } s m #[.ref b, .int (Int32.ofNat o), .ref d, .int (Int32.ofNat q), .int (Int32.ofNat len)] below meth c Tl ([] ++ copyLocs d q i) 0 0 → Put d Bk s₁ Tl → Laid B Bk q (q + i) (fun j => Value.int (lo8 (cv A (o + (j - q))))) →
      Steps p.tables e below (s₁.setTop (entryFrame m #[.ref b, .int (Int32.ofNat o), .ref d, .int (Int32.ofNat q), .int (Int32.ofNat len)] 7)) (Tl.setTop (mkF m 3 #[.val (.ref b), .val (.int (Int32.ofNat (o + i))), .val (.ref d), .val (.int (Int32.ofNat (q + i))), .val (.int (Int32.ofNat len)), .val (.int (Int32.ofNat i)), z] [])) → ∃ (T' : State) (B' : Cell) (z' : Slot), Stand p l e { frames := 0, locals := 0, cells := 0, slots := 0 } s m #[.ref b, .int (Int32.ofNat o), .ref d, .int (Int32.ofNat q), .int (Int32.ofNat len)] below meth c T' ([] ++ copyLocs d q len) 0 0 ∧ Put d B' s₁ T' ∧ Laid B B' q (q + len) (fun j => Value.int (lo8 (cv A (o + (j - q))))) ∧
      Steps p.tables e below (s₁.setTop (entryFrame m #[.ref b, .int (Int32.ofNat o), .ref d, .int (Int32.ofNat q), .int (Int32.ofNat len)] 7)) (T'.setTop (mkF m 3 #[.val (.ref b), .val (.int (Int32.ofNat (o + len))), .val (.ref d), .val (.int (Int32.ofNat (q + len))), .val (.int (Int32.ofNat len)), .val (.int (Int32.ofNat len)), z'] [])) := by
    intro r
    induction r with
    | zero =>
      intro i hi z hz Tl Bk Xl pl fl cl
      have hil : i = len := by omega
      rw [hil] at Xl fl cl
      exact ⟨Tl, Bk, z, Xl, pl, fl, cl⟩
    | succ r ih =>
      intro i hi z hz Tl Bk Xl pl fl cl
      have all := X0.warmed.alike.symm.trans Xl.warmed.alike
      have hAl := hA0.keep all (pl.other hne hA0.1)
      have hBk := hB0.like all pl.1 fl.1 fl.2.1 fl.2.2.1
      have hlt : q + i < Bk.slots.size := by rw [fl.2.2.1]; omega
      have c3 : Steps p.tables e below (s₁.setTop (entryFrame m #[.ref b, .int (Int32.ofNat o), .ref d, .int (Int32.ofNat q), .int (Int32.ofNat len)] 7)) (Tl.setTop (mkF m 12 #[.val (.ref b), .val (.int (Int32.ofNat (o + i))), .val (.ref d), .val (.int (Int32.ofNat (q + i))), .val (.int (Int32.ofNat len)), .val (.int (Int32.ofNat i)), z] [.int (Int32.ofNat (o + i)), .ref b])) := cl.trans (by
        refine XS.iload Xl.here hexec rfl (hb hbytes d3) rfl ?_
        refine XS.iload Xl.here hexec rfl (hb hbytes d5) rfl ?_
        refine XS.icmpNo Xl.here hexec rfl (hb hbytes d7) rfl (ii_ge_f (lt32 (by omega) (by omega))) ?_
        refine XS.aloadN Xl.here hexec rfl (hb hbytes d10) rfl rfl ?_
        refine XS.iloadN Xl.here hexec rfl (hb hbytes d11) rfl ?_
        exact Steps.refl _)
      have c4 : Steps p.tables e below (s₁.setTop (entryFrame m #[.ref b, .int (Int32.ofNat o), .ref d, .int (Int32.ofNat q), .int (Int32.ofNat len)] 7)) (Tl.setTop (mkF m 13 #[.val (.ref b), .val (.int (Int32.ofNat (o + i))), .val (.ref d), .val (.int (Int32.ofNat (q + i))), .val (.int (Int32.ofNat len)), .val (.int (Int32.ofNat i)), z] [.int (cv A (o + i))])) := c3.trans (by
        refine Xl.aget hexec hAl rfl (hA.get (i := o + i) (by omega)) rfl rfl (hb hbytes d12) ?_
        exact Steps.refl _)
      have c5 : Steps p.tables e below (s₁.setTop (entryFrame m #[.ref b, .int (Int32.ofNat o), .ref d, .int (Int32.ofNat q), .int (Int32.ofNat len)] 7)) (Tl.setTop (mkF m 15 #[.val (.ref b), .val (.int (Int32.ofNat (o + i))), .val (.ref d), .val (.int (Int32.ofNat (q + i))), .val (.int (Int32.ofNat len)), .val (.int (Int32.ofNat i)), .val (.int (cv A (o + i)))] [])) := c4.trans (by
        refine XS.istoreS Xl.here hexec rfl (hb hbytes d13) rfl rfl hz ?_
        exact Steps.refl _)
      have c6 : Steps p.tables e below (s₁.setTop (entryFrame m #[.ref b, .int (Int32.ofNat o), .ref d, .int (Int32.ofNat q), .int (Int32.ofNat len)] 7)) (Tl.setTop (mkF m 31 #[.val (.ref b), .val (.int (Int32.ofNat (o + i))), .val (.ref d), .val (.int (Int32.ofNat (q + i))), .val (.int (Int32.ofNat len)), .val (.int (Int32.ofNat i)), .val (.int (cv A (o + i)))] [.int (lo8 (cv A (o + i))), .int (Int32.ofNat (q + i)), .ref d])) := c5.trans (by
        refine XS.iload Xl.here hexec rfl (hb hbytes d15) rfl ?_
        refine sipushV Xl.here hexec rfl 255 (hb hbytes d17) (by decide) ?_
        refine XS.icmpYes Xl.here hexec rfl (pc0 := 20) rfl (hb hbytes d20) rfl (ii_le_t (hp i (by omega))) (by decide) rfl ?_
        refine XS.aloadN Xl.here hexec rfl (hb hbytes d26) rfl rfl ?_
        refine XS.iloadN Xl.here hexec rfl (hb hbytes d27) rfl ?_
        refine XS.iload Xl.here hexec rfl (hb hbytes d28) rfl ?_
        refine i2b Xl.here hexec rfl (hb hbytes d30) rfl ?_
        exact Steps.refl _)
      obtain ⟨T7, X7, p7, st7⟩ := Xl.aput hexec hBk rfl hlt rfl (fits_lo8 (cv A (o + i))) (g := (mkF m 31 #[.val (.ref b), .val (.int (Int32.ofNat (o + i))), .val (.ref d), .val (.int (Int32.ofNat (q + i))), .val (.int (Int32.ofNat len)), .val (.int (Int32.ofNat i)), .val (.int (cv A (o + i)))] [.int (lo8 (cv A (o + i))), .int (Int32.ofNat (q + i)), .ref d])) rfl (rest := []) rfl (hb hbytes d31)
      have c8 : Steps p.tables e below (s₁.setTop (entryFrame m #[.ref b, .int (Int32.ofNat o), .ref d, .int (Int32.ofNat q), .int (Int32.ofNat len)] 7)) (T7.setTop (mkF m 32 #[.val (.ref b), .val (.int (Int32.ofNat (o + i))), .val (.ref d), .val (.int (Int32.ofNat (q + i))), .val (.int (Int32.ofNat len)), .val (.int (Int32.ofNat i)), .val (.int (cv A (o + i)))] [])) := c6.trans (st7 _ (Steps.refl _))
      have c9 : Steps p.tables e below (s₁.setTop (entryFrame m #[.ref b, .int (Int32.ofNat o), .ref d, .int (Int32.ofNat q), .int (Int32.ofNat len)] 7)) (T7.setTop (mkF m 3 #[.val (.ref b), .val (.int (Int32.ofNat (o + i) + 1)), .val (.ref d), .val (.int (Int32.ofNat (q + i) + 1)), .val (.int (Int32.ofNat len)), .val (.int (Int32.ofNat i + 1)), .val (.int (cv A (o + i)))] [])) := c8.trans (by
        refine iincV X7.here hexec rfl 1 (hb hbytes d32) (by decide) rfl rfl ?_
        refine iincV X7.here hexec rfl 1 (hb hbytes d35) (by decide) rfl rfl ?_
        refine iincV X7.here hexec rfl 1 (hb hbytes d38) (by decide) rfl rfl ?_
        refine XS.goto X7.here hexec rfl (pc0 := 41) rfl (hb hbytes d41) (by decide) rfl ?_
        exact Steps.refl _)
      have c10 : Steps p.tables e below (s₁.setTop (entryFrame m #[.ref b, .int (Int32.ofNat o), .ref d, .int (Int32.ofNat q), .int (Int32.ofNat len)] 7)) (T7.setTop (mkF m 3 #[.val (.ref b), .val (.int (Int32.ofNat (o + (i + 1)))), .val (.ref d), .val (.int (Int32.ofNat (q + (i + 1)))), .val (.int (Int32.ofNat len)), .val (.int (Int32.ofNat (i + 1))), .val (.int (cv A (o + i)))] [])) := by
        have := c9
        rw [succ32, succ32, succ32] at this
        exact this
      exact ih (i + 1) (by omega) _ (Or.inr ⟨_, rfl, rfl⟩) T7 _ (by rw [copyLocs_step, ← List.append_assoc]; exact X7) (pl.trans p7) (fl.step (by omega) hlt (by simp)) c10
  obtain ⟨T9, B9, z9, X9, p9, f9, g9⟩ := loop len 0 (by omega) .unset (Or.inl rfl) s₁ B (by simpa [copyLocs] using X0) ⟨hB0.1, fun _ _ => rfl, rfl⟩ (Laid.zero _ _ _) c2
  have c11 : Steps p.tables e below (s₁.setTop (entryFrame m #[.ref b, .int (Int32.ofNat o), .ref d, .int (Int32.ofNat q), .int (Int32.ofNat len)] 7)) (T9.setTop (mkF m 46 #[.val (.ref b), .val (.int (Int32.ofNat (o + len))), .val (.ref d), .val (.int (Int32.ofNat (q + len))), .val (.int (Int32.ofNat len)), .val (.int (Int32.ofNat len)), z9] [.int (Int32.ofNat len)])) := g9.trans (by
    refine XS.iload X9.here hexec rfl (hb hbytes d3) rfl ?_
    refine XS.iload X9.here hexec rfl (hb hbytes d5) rfl ?_
    refine XS.icmpYes X9.here hexec rfl (pc0 := 7) rfl (hb hbytes d7) rfl (ii_ge_t (nlt32 (by omega) (Nat.le_refl _))) (by decide) rfl ?_
    refine XS.iload X9.here hexec rfl (hb hbytes d44) rfl ?_
    exact Steps.refl _)
  exact ⟨T9, some (.int (Int32.ofNat len)), _, _, _, X9, by simp, rfl, rfl, (fun h => by cases h), ⟨rfl, B9, p9.from hh0, f9⟩, fun fs hl => c11.trans (X9.ireturnOut hexec hret rfl (Or.inl rfl) (hb hbytes d46) hl)⟩
end Cmp5
namespace Cmp3
def yN : MethodName := ⟨"java/lang/StringUTF16", "compress", "([CII)[B"⟩
abbrev yB : ByteArray := jdk_52_method_16_code
theorem d0 : decode yB 0 = .ok (.iload_n 2, 1) := by decide +kernel
theorem d1 : decode yB 1 = .ok (.newarray .byte, 2) := by decide +kernel
theorem d3 : decode yB 3 = .ok (.astore_n 3, 1) := by decide +kernel
theorem d4 : decode yB 4 = .ok (.aload_n 0, 1) := by decide +kernel
theorem d5 : decode yB 5 = .ok (.iload_n 1, 1) := by decide +kernel
theorem d6 : decode yB 6 = .ok (.aload_n 3, 1) := by decide +kernel
theorem d7 : decode yB 7 = .ok (.iconst 0, 1) := by decide +kernel
theorem d8 : decode yB 8 = .ok (.iload_n 2, 1) := by decide +kernel
theorem d9 : decode yB 9 = .ok (.invokestatic 115, 3) := by decide +kernel
theorem d12 : decode yB 12 = .ok (.istore 4, 2) := by decide +kernel
theorem d14 : decode yB 14 = .ok (.iload 4, 2) := by decide +kernel
theorem d16 : decode yB 16 = .ok (.iload_n 2, 1) := by decide +kernel
theorem d17 : decode yB 17 = .ok (.if_icmp (.eq) 40, 3) := by decide +kernel
theorem d57 : decode yB 57 = .ok (.aload_n 3, 1) := by decide +kernel
theorem d58 : decode yB 58 = .ok (.areturn, 1) := by decide +kernel
def site : List Cond := [.arrayClass .byte, Cmp5.tab] ++ staticW U16 115 Cmp5.yN
def tab : Cond := tabOf yN yB 6 (some (.array .byte)) site
def P (b : Addr) (A : Cell) (o len : Nat) (args : Array Value) (s : State) : Prop := args = #[.ref b, .int (Int32.ofNat o), .int (Int32.ofNat len)] ∧ Ch b A s ∧ o + len ≤ A.slots.size ∧ len ≤ 536870912 ∧ ∀ i, i < len → ¬ 255 < cv A (o + i)
def E (b : Addr) (A : Cell) (o len : Nat) (r : Option Value) (s u : State) : Prop := NewArr .byte "[B" len (fun j => .int (lo8 (cv A (o + j)))) r s u ∧ u.heap.size = s.heap.size + 1
/-- no char of the range above 255: a new byte[] of their low bytes -/
theorem law (l : Launch) (b : Addr) (A : Cell) (o len : Nat) : Law l yN 3 3 1 18 yB 6 (some (.array .byte)) site (P b A o len) (E b A o len) [] 1 len := by
  refine Law.of_walk (plainFor_of_name (by decide +kernel)) (by decide +kernel) (by decide +kernel) (by decide) (fun _ _ h => by rw [h.1]; rfl) (fun _ U U' hal hh h => ⟨h.1, h.2.1.mv hal hh, h.2.2⟩) (fun r U U' V V' h1 hal h2 h => ⟨NewArr.mv r U U' V V' h1 hal h2 h.1, by rw [h1, h2]; exact h.2⟩) ?_
  intro p e s m args below meth c s₁ X0 hexec hbytes hml hret hlk hnm hown hh0 W hP
  obtain ⟨rfl, hA, l1, l2, hp⟩ := hP
  have a31 := hA.1.2.2.2
  have c1 : Steps p.tables e below (s₁.setTop (entryFrame m #[.ref b, .int (Int32.ofNat o), .int (Int32.ofNat len)] 6)) (s₁.setTop (mkF m 0 #[.val (.ref b), .val (.int (Int32.ofNat o)), .val (.int (Int32.ofNat len)), .unset, .unset, .unset] [])) := entry rfl
  have c2 : Steps p.tables e below (s₁.setTop (entryFrame m #[.ref b, .int (Int32.ofNat o), .int (Int32.ofNat len)] 6)) (s₁.setTop (mkF m 1 #[.val (.ref b), .val (.int (Int32.ofNat o)), .val (.int (Int32.ofNat len)), .unset, .unset, .unset] [.int (Int32.ofNat len)])) := c1.trans (by
    refine XS.iloadN X0.here hexec rfl (hb hbytes d0) rfl ?_
    exact Steps.refl _)
  obtain ⟨T3, B3, X3, ba3, bs3, bv3, bh3, bf3, st3⟩ := X0.anew hexec (atype := .byte) (wk W (.arrayClass .byte)) rfl (by show len * 1 ≤ _; omega) (by omega) (g := (mkF m 1 #[.val (.ref b), .val (.int (Int32.ofNat o)), .val (.int (Int32.ofNat len)), .unset, .unset, .unset] [.int (Int32.ofNat len)])) rfl (hb hbytes d1) (rest := []) rfl (Nat.le_refl _) (by show 0 + len ≤ len; omega)
  rw [hh0] at ba3 st3
  have kp3 : XT.Kept s T3 := (XT.Kept.of_eq hh0).push bh3
  have hA3 := hA.keep X3.warmed.alike (kp3 _ _ hA.1.1)
  have hne : b ≠ s.heap.size := hA.1.ne
  have c4 : Steps p.tables e below (s₁.setTop (entryFrame m #[.ref b, .int (Int32.ofNat o), .int (Int32.ofNat len)] 6)) (T3.setTop (mkF m 3 #[.val (.ref b), .val (.int (Int32.ofNat o)), .val (.int (Int32.ofNat len)), .unset, .unset, .unset] [.ref s.heap.size])) := c2.trans (st3 _ (Steps.refl _))
  have c5 : Steps p.tables e below (s₁.setTop (entryFrame m #[.ref b, .int (Int32.ofNat o), .int (Int32.ofNat len)] 6)) (T3.setTop (mkF m 9 #[.val (.ref b), .val (.int (Int32.ofNat o)), .val (.int (Int32.ofNat len)), .val (.ref s.heap.size), .unset, .unset] [.int (Int32.ofNat len), .int 0, .ref s.heap.size, .int (Int32.ofNat o), .ref b])) := c4.trans (by
    refine XS.astoreN X3.here hexec rfl (hb hbytes d3) rfl rfl rfl ?_
    refine XS.aloadN X3.here hexec rfl (hb hbytes d4) rfl rfl ?_
    refine XS.iloadN X3.here hexec rfl (hb hbytes d5) rfl ?_
    refine XS.aloadN X3.here hexec rfl (hb hbytes d6) rfl rfl ?_
    refine iconstV X3.here hexec rfl 0 (hb hbytes d7) (by decide) ?_
    refine XS.iloadN X3.here hexec rfl (hb hbytes d8) rfl ?_
    exact Steps.refl _)
  obtain ⟨v6, T6, X6, E6, g6⟩ := X3.callS hexec (Cmp5.law l b A s.heap.size B3 o 0 len) hown (wks W (staticW U16 115 Cmp5.yN)) (wk W Cmp5.tab) (W := 0) (Nat.le_of_ble_eq_true rfl) (Nat.le_of_ble_eq_true rfl) (Nat.le_refl _) (by show 0 + len + 0 ≤ len; omega) (g := (mkF m 9 #[.val (.ref b), .val (.int (Int32.ofNat o)), .val (.int (Int32.ofNat len)), .val (.ref s.heap.size), .unset, .unset] [.int (Int32.ofNat len), .int (Int32.ofNat 0), .ref s.heap.size, .int (Int32.ofNat o), .ref b])) rfl (by rw [hml]; rfl) c5 (argsL := [.ref b, .int (Int32.ofNat o), .ref s.heap.size, .int (Int32.ofNat 0), .int (Int32.ofNat len)]) (rest := []) rfl rfl (by show 2 * 0 + 0 ≤ _; decide) (hb hbytes d9) (⟨rfl, hA3, ba3, hne, l1, by rw [bs3]; simp, hp⟩)
  obtain ⟨rfl, B6, p6, f6⟩ := E6
  have c7 : Steps p.tables e below (s₁.setTop (entryFrame m #[.ref b, .int (Int32.ofNat o), .int (Int32.ofNat len)] 6)) (T6.setTop (mkF m 12 #[.val (.ref b), .val (.int (Int32.ofNat o)), .val (.int (Int32.ofNat len)), .val (.ref s.heap.size), .unset, .unset] [.int (Int32.ofNat len)])) := g6
  have c8 : Steps p.tables e below (s₁.setTop (entryFrame m #[.ref b, .int (Int32.ofNat o), .int (Int32.ofNat len)] 6)) (T6.setTop (mkF m 58 #[.val (.ref b), .val (.int (Int32.ofNat o)), .val (.int (Int32.ofNat len)), .val (.ref s.heap.size), .val (.int (Int32.ofNat len)), .unset] [.ref s.heap.size])) := c7.trans (by
    refine XS.istore X6.here hexec rfl (hb hbytes d12) rfl rfl ?_
    refine XS.iload X6.here hexec rfl (hb hbytes d14) rfl ?_
    refine XS.iloadN X6.here hexec rfl (hb hbytes d16) rfl ?_
    refine XS.icmpYes X6.here hexec rfl (pc0 := 17) rfl (hb hbytes d17) rfl (ii_eq_t rfl) (by decide) rfl ?_
    refine XS.aloadN X6.here hexec rfl (hb hbytes d57) rfl rfl ?_
    exact Steps.refl _)
  have X8 := X6.wide (L' := []) (cells' := 1) (slots' := len) (fun x hx hlt => by
    simp only [List.nil_append, copyLocs, List.mem_map, List.mem_range] at hx
    obtain ⟨i, -, rfl⟩ := hx
    exact absurd hlt (Nat.lt_irrefl _)) (Nat.le_refl _) (by omega)
  exact ⟨T6, some (.ref s.heap.size), _, _, _, X8, rfl, rfl, rfl, (fun h => by cases h), ⟨⟨rfl, B6, ba3.like (X3.warmed.alike.symm.trans X6.warmed.alike) p6.1 f6.1 f6.2.1 f6.2.2.1, f6.2.1.trans bv3, by rw [X6.warmed.alike.findClass, f6.1]; exact bf3, by rw [f6.2.2.1, bs3]; simp, fun j hj => by rw [f6.2.2.2 j, if_pos (by omega)]; rfl, kp3.put p6 (Nat.le_refl _)⟩, by rw [p6.2.2, bh3, hh0]; simp⟩, fun fs hl => c8.trans (X8.areturnOut hexec rfl hret rfl (hb hbytes d58) hl)⟩
end Cmp3
namespace CodL
def yN : MethodName := ⟨"java/lang/StringUTF16", "coderFromArrayLen", "([BI)B"⟩
abbrev yB : ByteArray := jdk_52_method_15_code
theorem d0 : decode yB 0 = .ok (.iload_n 1, 1) := by decide +kernel
theorem d1 : decode yB 1 = .ok (.aload_n 0, 1) := by decide +kernel
theorem d2 : decode yB 2 = .ok (.arraylength, 1) := by decide +kernel
theorem d3 : decode yB 3 = .ok (.isub, 1) := by decide +kernel
theorem d4 : decode yB 4 = .ok (.bipush 31, 2) := by decide +kernel
theorem d6 : decode yB 6 = .ok (.iushr, 1) := by decide +kernel
theorem d7 : decode yB 7 = .ok (.i2b, 1) := by decide +kernel
theorem d8 : decode yB 8 = .ok (.ireturn, 1) := by decide +kernel
def site : List Cond := []
def tab : Cond := tabOf yN yB 2 (some .byte) site
def P (d : Addr) (B : Cell) (args : Array Value) (s : State) : Prop := args = #[.ref d, .int (Int32.ofNat B.slots.size)] ∧ Arr .byte d B s
def E (r : Option Value) (s u : State) : Prop := XT.PureE (some (.int 0)) r s u
/-- an array as long as the number of chars: LATIN1 -/
theorem law (l : Launch) (d : Addr) (B : Cell) : Law l yN 2 2 0 0 yB 2 (some .byte) site (P d B) E [] 0 0 := by
  refine Law.of_walk (plainFor_of_name (by decide +kernel)) (by decide +kernel) (by decide +kernel) (by decide) (fun _ _ h => by rw [h.1]; rfl) (fun _ U U' hal hh h => ⟨h.1, h.2.mv hal hh⟩) (fun r U U' V V' h1 hal h2 h => XT.PureE.mv r U U' V V' h1 hal h2 h) ?_
  intro p e s m args below meth c s₁ X0 hexec hbytes hml hret hlk hnm hown hh0 W hP
  obtain ⟨rfl, hB⟩ := hP
  have hB0 := hB.mv X0.warmed.alike hh0
  have c1 : Steps p.tables e below (s₁.setTop (entryFrame m #[.ref d, .int (Int32.ofNat B.slots.size)] 2)) (s₁.setTop (mkF m 0 #[.val (.ref d), .val (.int (Int32.ofNat B.slots.size))] [])) := entry rfl
  have c2 : Steps p.tables e below (s₁.setTop (entryFrame m #[.ref d, .int (Int32.ofNat B.slots.size)] 2)) (s₁.setTop (mkF m 2 #[.val (.ref d), .val (.int (Int32.ofNat B.slots.size))] [.ref d, .int (Int32.ofNat B.slots.size)])) := c1.trans (by
    refine XS.iloadN X0.here hexec rfl (hb hbytes d0) rfl ?_
    refine XS.aloadN X0.here hexec rfl (hb hbytes d1) rfl rfl ?_
    exact Steps.refl _)
  have c3 : Steps p.tables e below (s₁.setTop (entryFrame m #[.ref d, .int (Int32.ofNat B.slots.size)] 2)) (s₁.setTop (mkF m 8 #[.val (.ref d), .val (.int (Int32.ofNat B.slots.size))] [.int (lo8 (ushr (Int32.ofNat B.slots.size - Int32.ofNat B.slots.size) 31))])) := c2.trans (by
    refine X0.alen hexec hB0 rfl rfl (hb hbytes d2) ?_
    refine XS.isub X0.here hexec rfl (hb hbytes d3) rfl ?_
    refine bipushV X0.here hexec rfl 31 (hb hbytes d4) (by decide) ?_
    refine iushr X0.here hexec rfl (hb hbytes d6) rfl ?_
    refine i2b X0.here hexec rfl (hb hbytes d7) rfl ?_
    exact Steps.refl _)
  have e0 : lo8 (ushr (Int32.ofNat B.slots.size - Int32.ofNat B.slots.size) 31) = 0 := by rw [Int32.sub_self]; decide
  rw [e0] at c3
  exact ⟨s₁, some (.int 0), _, _, _, X0, rfl, rfl, rfl, (fun h => by cases h), ⟨rfl, hh0⟩, fun fs hl => c3.trans (X0.ireturnOut hexec hret rfl (Or.inr (Or.inr (Or.inl rfl))) (hb hbytes d8) hl)⟩
end CodL
/-- the String at a is Latin-1 over a new byte[] (the heap's one new cell): the low bytes of the len chars of A from o on; every cell but a is kept -/
def Got (a : Addr) (D : Cell) (fV fC : Field) (A : Cell) (o len : Nat) (r : Option Value) (s u : State) : Prop := r = none ∧ ∃ D' V : Cell, Blank "java/lang/String" a D' u ∧ Same D D' [fV.slot, fC.slot] ∧ D'.slots[fV.slot]? = some (.ref s.heap.size) ∧ D'.slots[fC.slot]? = some (.int 0) ∧ Arr .byte s.heap.size V u ∧ V.vm = .none ∧ u.vm.findClass "[B" = some V.cls ∧ V.slots.size = len ∧ (∀ j, j < len → V.slots[j]? = some (.int (lo8 (cv A (o + j))))) ∧ (∀ (y : Addr) (c : Cell), y ≠ a → s.heap[y]? = some c → u.heap[y]? = some c) ∧ u.heap.size = s.heap.size + 1
theorem Got.mv {a : Addr} {D A : Cell} {fV fC : Field} {o len : Nat} : ∀ r (U U' V V' : State), U'.heap = U.heap → V.vm.Alike V'.vm → V'.heap = V.heap → Got a D fV fC A o len r U V → Got a D fV fC A o len r U' V' :=
  fun r U U' V V' h1 hal h2 ⟨e0, D', X, a1, a2, a3, a4, a5, a6, a7, a8, a9, a10, a11⟩ => ⟨e0, D', X, a1.mv hal h2, a2, by rw [h1]; exact a3, a4, by rw [h1]; exact a5.mv hal h2, a6, by rw [hal.findClass]; exact a7, a8, a9, by rw [h1, h2]; exact a10, by rw [h1, h2]; exact a11⟩
namespace New4
def yN : MethodName := ⟨"java/lang/String", "<init>", "([CIILjava/lang/Void;)V"⟩
abbrev yB : ByteArray := jdk_42_method_149_code
theorem d0 : decode yB 0 = .ok (.aload_n 0, 1) := by decide +kernel
theorem d1 : decode yB 1 = .ok (.invokespecial 1, 3) := by decide +kernel
theorem d4 : decode yB 4 = .ok (.iload_n 3, 1) := by decide +kernel
theorem d5 : decode yB 5 = .ok (.ifCond (.ne) 22, 3) := by decide +kernel
theorem d27 : decode yB 27 = .ok (.getstatic 38, 3) := by decide +kernel
theorem d30 : decode yB 30 = .ok (.ifCond (.eq) 28, 3) := by decide +kernel
theorem d33 : decode yB 33 = .ok (.aload_n 1, 1) := by decide +kernel
theorem d34 : decode yB 34 = .ok (.iload_n 2, 1) := by decide +kernel
theorem d35 : decode yB 35 = .ok (.iload_n 3, 1) := by decide +kernel
theorem d36 : decode yB 36 = .ok (.invokestatic 177, 3) := by decide +kernel
theorem d39 : decode yB 39 = .ok (.astore 5, 2) := by decide +kernel
theorem d41 : decode yB 41 = .ok (.aload_n 0, 1) := by decide +kernel
theorem d42 : decode yB 42 = .ok (.aload 5, 2) := by decide +kernel
theorem d44 : decode yB 44 = .ok (.iload_n 3, 1) := by decide +kernel
theorem d45 : decode yB 45 = .ok (.invokestatic 47, 3) := by decide +kernel
theorem d48 : decode yB 48 = .ok (.putfield 15, 3) := by decide +kernel
theorem d51 : decode yB 51 = .ok (.aload_n 0, 1) := by decide +kernel
theorem d52 : decode yB 52 = .ok (.aload 5, 2) := by decide +kernel
theorem d54 : decode yB 54 = .ok (.putfield 9, 3) := by decide +kernel
theorem d57 : decode yB 57 = .ok (.return_, 1) := by decide +kernel
def site : List Cond := [.fieldLink "java/lang/String" 38 "java/lang/String" "COMPACT_STRINGS" "Z", Cmp3.tab, CodL.tab, .laysFinal "java/lang/String" "java/lang/String" "value" "[B", .fieldLink "java/lang/String" 9 "java/lang/String" "value" "[B", .laysFinal "java/lang/String" "java/lang/String" "coder" "B", .fieldLink "java/lang/String" 15 "java/lang/String" "coder" "B"] ++ objW "java/lang/String" 1 ++ staticW "java/lang/String" 177 Cmp3.yN ++ staticW "java/lang/String" 47 CodL.yN
def tab : Cond := tabOf yN yB 6 none site
def P (a : Addr) (D : Cell) (fV fC : Field) (b : Addr) (A : Cell) (z : Int32) (o len : Nat) (args : Array Value) (s : State) : Prop := args = #[.ref a, .ref b, .int (Int32.ofNat o), .int (Int32.ofNat len), .null] ∧ Blank "java/lang/String" a D s ∧ Found "java/lang/String" "value" "[B" fV s ∧ Found "java/lang/String" "coder" "B" fC s ∧ Ch b A s ∧ StaticIs s "java/lang/String" "COMPACT_STRINGS" "Z" (.int z) ∧ ¬ z = 0 ∧ 0 < len ∧ o + len ≤ A.slots.size ∧ len ≤ 536870912 ∧ ∀ i, i < len → ¬ 255 < cv A (o + i)
def E (a : Addr) (D : Cell) (fV fC : Field) (A : Cell) (o len : Nat) (r : Option Value) (s u : State) : Prop := Got a D fV fC A o len r s u
/-- len > 0, no char of the range above 255: a Latin-1 String of their low bytes -/
theorem law (l : Launch) (a : Addr) (D : Cell) (fV fC : Field) (b : Addr) (A : Cell) (z : Int32) (o len : Nat) : Law l yN 5 4 2 35 yB 6 none site (P a D fV fC b A z o len) (E a D fV fC A o len) [⟨a, fC.slot⟩, ⟨a, fV.slot⟩] 1 len := by
  refine Law.of_walk (plainFor_of_name (by decide +kernel)) (by decide +kernel) (by decide +kernel) (by decide) (fun _ _ h => by rw [h.1]; rfl) (fun _ U U' hal hh h => ⟨h.1, h.2.1.mv hal hh, h.2.2.1.al hal, h.2.2.2.1.al hal, h.2.2.2.2.1.mv hal hh, h.2.2.2.2.2.1.there hal hh, h.2.2.2.2.2.2⟩) (fun r U U' V V' h1 hal h2 h => Got.mv r U U' V V' h1 hal h2 h) ?_
  intro p e s m args below meth c s₁ X0 hexec hbytes hml hret hlk hnm hown hh0 W hP
  obtain ⟨rfl, hB, f1, f2, hA, s1, hz, l0, l1, l2, hp⟩ := hP
  have a31 := hA.1.2.2.2
  have c1 : Steps p.tables e below (s₁.setTop (entryFrame m #[.ref a, .ref b, .int (Int32.ofNat o), .int (Int32.ofNat len), .null] 6)) (s₁.setTop (mkF m 0 #[.val (.ref a), .val (.ref b), .val (.int (Int32.ofNat o)), .val (.int (Int32.ofNat len)), .val .null, .unset] [])) := entry rfl
  have c2 : Steps p.tables e below (s₁.setTop (entryFrame m #[.ref a, .ref b, .int (Int32.ofNat o), .int (Int32.ofNat len), .null] 6)) (s₁.setTop (mkF m 1 #[.val (.ref a), .val (.ref b), .val (.int (Int32.ofNat o)), .val (.int (Int32.ofNat len)), .val .null, .unset] [.ref a])) := c1.trans (by
    refine XS.aloadN X0.here hexec rfl (hb hbytes d0) rfl rfl ?_
    exact Steps.refl _)
  obtain ⟨T3, X3, q3, st3⟩ := X0.oinit hexec hown (wks W (objW "java/lang/String" 1)) (g := (mkF m 1 #[.val (.ref a), .val (.ref b), .val (.int (Int32.ofNat o)), .val (.int (Int32.ofNat len)), .val .null, .unset] [.ref a])) rfl (by rw [hml]; rfl) (rest := []) rfl (hb hbytes d1) (W := 0) (by show 2 * 0 + 0 ≤ _; decide) (Nat.le_of_ble_eq_true rfl) (Nat.le_of_ble_eq_true rfl)
  have hh3 := q3.trans hh0
  have c4 : Steps p.tables e below (s₁.setTop (entryFrame m #[.ref a, .ref b, .int (Int32.ofNat o), .int (Int32.ofNat len), .null] 6)) (T3.setTop (mkF m 27 #[.val (.ref a), .val (.ref b), .val (.int (Int32.ofNat o)), .val (.int (Int32.ofNat len)), .val .null, .unset] [])) := (c2.trans (st3 _ (Steps.refl _))).trans (by
    refine XS.iloadN X3.here hexec rfl (hb hbytes d4) rfl ?_
    refine XS.ifYes X3.here hexec rfl (pc0 := 5) rfl (hb hbytes d5) rfl (i0_ne_t (nz32 (by omega) l0)) (by decide) rfl ?_
    exact Steps.refl _)
  obtain ⟨T5, X5, q5, st5⟩ := X3.sget hexec hown (wk W (.fieldLink "java/lang/String" 38 "java/lang/String" "COMPACT_STRINGS" "Z")) s1 (fun _ _ h => by rw [hh3]; exact h) (g := (mkF m 27 #[.val (.ref a), .val (.ref b), .val (.int (Int32.ofNat o)), .val (.int (Int32.ofNat len)), .val .null, .unset] [])) rfl (hb hbytes d27)
  have hh5 := q5.trans hh3
  have c6 : Steps p.tables e below (s₁.setTop (entryFrame m #[.ref a, .ref b, .int (Int32.ofNat o), .int (Int32.ofNat len), .null] 6)) (T5.setTop (mkF m 30 #[.val (.ref a), .val (.ref b), .val (.int (Int32.ofNat o)), .val (.int (Int32.ofNat len)), .val .null, .unset] [.int z])) := c4.trans (st5 _ (Steps.refl _))
  have c7 : Steps p.tables e below (s₁.setTop (entryFrame m #[.ref a, .ref b, .int (Int32.ofNat o), .int (Int32.ofNat len), .null] 6)) (T5.setTop (mkF m 36 #[.val (.ref a), .val (.ref b), .val (.int (Int32.ofNat o)), .val (.int (Int32.ofNat len)), .val .null, .unset] [.int (Int32.ofNat len), .int (Int32.ofNat o), .ref b])) := c6.trans (by
    refine XS.ifNo X5.here hexec rfl (hb hbytes d30) rfl (i0_eq_f hz) ?_
    refine XS.aloadN X5.here hexec rfl (hb hbytes d33) rfl rfl ?_
    refine XS.iloadN X5.here hexec rfl (hb hbytes d34) rfl ?_
    refine XS.iloadN X5.here hexec rfl (hb hbytes d35) rfl ?_
    exact Steps.refl _)
  obtain ⟨v8, T8, X8, E8, g8⟩ := X5.callS hexec (Cmp3.law l b A o len) hown (wks W (staticW "java/lang/String" 177 Cmp3.yN)) (wk W Cmp3.tab) (W := 0) (Nat.le_of_ble_eq_true rfl) (Nat.le_of_ble_eq_true rfl) (Nat.le_refl _) (by show 0 + len ≤ len; omega) (g := (mkF m 36 #[.val (.ref a), .val (.ref b), .val (.int (Int32.ofNat o)), .val (.int (Int32.ofNat len)), .val .null, .unset] [.int (Int32.ofNat len), .int (Int32.ofNat o), .ref b])) rfl (by rw [hml]; rfl) c7 (argsL := [.ref b, .int (Int32.ofNat o), .int (Int32.ofNat len)]) (rest := []) rfl rfl (by show 2 * 0 + 0 ≤ _; decide) (hb hbytes d36) (⟨rfl, hA.mv X5.warmed.alike hh5, l1, l2, hp⟩)
  obtain ⟨e8, z8⟩ := E8
  obtain ⟨rfl, N, n1, n2, n3, n4, n5, n6⟩ := NewArr.mv _ T5 s _ _ hh5.symm (Vm.Alike.refl _) rfl e8
  rw [hh5] at z8
  have hB1 := hB.keep X8.warmed.alike (n6 _ _ hB.1)
  have hne : s.heap.size ≠ a := (Nat.ne_of_lt (Array.getElem?_eq_some_iff.mp hB.1).1).symm
  have c9 : Steps p.tables e below (s₁.setTop (entryFrame m #[.ref a, .ref b, .int (Int32.ofNat o), .int (Int32.ofNat len), .null] 6)) (T8.setTop (mkF m 39 #[.val (.ref a), .val (.ref b), .val (.int (Int32.ofNat o)), .val (.int (Int32.ofNat len)), .val .null, .unset] [.ref s.heap.size])) := g8
  have c10 : Steps p.tables e below (s₁.setTop (entryFrame m #[.ref a, .ref b, .int (Int32.ofNat o), .int (Int32.ofNat len), .null] 6)) (T8.setTop (mkF m 45 #[.val (.ref a), .val (.ref b), .val (.int (Int32.ofNat o)), .val (.int (Int32.ofNat len)), .val .null, .val (.ref s.heap.size)] [.int (Int32.ofNat N.slots.size), .ref s.heap.size, .ref a])) := by
    have hc : Steps p.tables e below (s₁.setTop (entryFrame m #[.ref a, .ref b, .int (Int32.ofNat o), .int (Int32.ofNat len), .null] 6)) (T8.setTop (mkF m 45 #[.val (.ref a), .val (.ref b), .val (.int (Int32.ofNat o)), .val (.int (Int32.ofNat len)), .val .null, .val (.ref s.heap.size)] [.int (Int32.ofNat len), .ref s.heap.size, .ref a])) := c9.trans (by
      refine XS.astore X8.here hexec rfl (hb hbytes d39) rfl rfl rfl ?_
      refine XS.aloadN X8.here hexec rfl (hb hbytes d41) rfl rfl ?_
      refine XS.aload X8.here hexec rfl (hb hbytes d42) rfl rfl ?_
      refine XS.iloadN X8.here hexec rfl (hb hbytes d44) rfl ?_
      exact Steps.refl _)
    rw [n4]; exact hc
  obtain ⟨v11, T11, X11, E11, g11⟩ := X8.callS hexec (CodL.law l s.heap.size N) hown (wks W (staticW "java/lang/String" 47 CodL.yN)) (wk W CodL.tab) (W := 1) (Nat.le_of_ble_eq_true rfl) (Nat.le_of_ble_eq_true rfl) (Nat.le_refl _) (by show 0 + len + 0 ≤ len; omega) (g := (mkF m 45 #[.val (.ref a), .val (.ref b), .val (.int (Int32.ofNat o)), .val (.int (Int32.ofNat len)), .val .null, .val (.ref s.heap.size)] [.int (Int32.ofNat N.slots.size), .ref s.heap.size, .ref a])) rfl (by rw [hml]; rfl) c10 (argsL := [.ref s.heap.size, .int (Int32.ofNat N.slots.size)]) (rest := [.ref a]) rfl rfl (by show 2 * 0 + (1 + 0) ≤ _; decide) (hb hbytes d45) (⟨rfl, n1⟩)
  obtain ⟨rfl, q11⟩ := E11
  have hB11 := hB1.mv (X8.warmed.alike.symm.trans X11.warmed.alike) q11
  have c12 : Steps p.tables e below (s₁.setTop (entryFrame m #[.ref a, .ref b, .int (Int32.ofNat o), .int (Int32.ofNat len), .null] 6)) (T11.setTop (mkF m 48 #[.val (.ref a), .val (.ref b), .val (.int (Int32.ofNat o)), .val (.int (Int32.ofNat len)), .val .null, .val (.ref s.heap.size)] [.int 0, .ref a])) := g11
  obtain ⟨T13, X13, p13, bl13, sl13, st13⟩ := X11.finit hexec hown (wk W (.fieldLink "java/lang/String" 15 "java/lang/String" "coder" "B")) (Or.inr ⟨_, (wk W (.laysFinal "java/lang/String" "java/lang/String" "coder" "B"))⟩) (Or.inl ⟨rfl, hnm⟩) f2 (Or.inl rfl) hB11 (t := .byte) (by decide +kernel) rfl (g := (mkF m 48 #[.val (.ref a), .val (.ref b), .val (.int (Int32.ofNat o)), .val (.int (Int32.ofNat len)), .val .null, .val (.ref s.heap.size)] [.int 0, .ref a])) rfl (rest := []) rfl (hb hbytes d48)
  have c14 : Steps p.tables e below (s₁.setTop (entryFrame m #[.ref a, .ref b, .int (Int32.ofNat o), .int (Int32.ofNat len), .null] 6)) (T13.setTop (mkF m 54 #[.val (.ref a), .val (.ref b), .val (.int (Int32.ofNat o)), .val (.int (Int32.ofNat len)), .val .null, .val (.ref s.heap.size)] [.ref s.heap.size, .ref a])) := (c12.trans (st13 _ (Steps.refl _))).trans (by
    refine XS.aloadN X13.here hexec rfl (hb hbytes d51) rfl rfl ?_
    refine XS.aload X13.here hexec rfl (hb hbytes d52) rfl rfl ?_
    exact Steps.refl _)
  obtain ⟨T15, X15, p15, bl15, sl15, st15⟩ := X13.finit hexec hown (wk W (.fieldLink "java/lang/String" 9 "java/lang/String" "value" "[B")) (Or.inr ⟨_, (wk W (.laysFinal "java/lang/String" "java/lang/String" "value" "[B"))⟩) (Or.inl ⟨rfl, hnm⟩) f1 (Or.inl rfl) bl13 (t := (.array .byte)) (by decide +kernel) rfl (g := (mkF m 54 #[.val (.ref a), .val (.ref b), .val (.int (Int32.ofNat o)), .val (.int (Int32.ofNat len)), .val .null, .val (.ref s.heap.size)] [.ref s.heap.size, .ref a])) rfl (rest := []) rfl (hb hbytes d54)
  have c16 : Steps p.tables e below (s₁.setTop (entryFrame m #[.ref a, .ref b, .int (Int32.ofNat o), .int (Int32.ofNat len), .null] 6)) (T15.setTop (mkF m 57 #[.val (.ref a), .val (.ref b), .val (.int (Int32.ofNat o)), .val (.int (Int32.ofNat len)), .val .null, .val (.ref s.heap.size)] [])) := c14.trans (st15 _ (Steps.refl _))
  have ap := apart (Or.inr ⟨_, (wk W (.laysFinal "java/lang/String" "java/lang/String" "value" "[B"))⟩) (Or.inr ⟨_, (wk W (.laysFinal "java/lang/String" "java/lang/String" "coder" "B"))⟩) f1 f2 (t₁ := .array .byte) (t₂ := .byte) (by decide +kernel) (by decide +kernel) (by decide)
  have al := X8.warmed.alike.symm.trans X15.warmed.alike
  have n7 : T11.heap[s.heap.size]? = some N := by rw [q11]; exact n1.1
  exact ⟨T15, none, _, _, _, X15, by simp, rfl, by omega, (fun _ => rfl), ⟨rfl, _, N, bl15, ((Same.refl D _).set _ (by simp)).set _ (by simp), sl15, (Cell.slots_setSlot_ne _ ap).trans sl13, n1.keep al (p15.other hne (p13.other hne n7)), n2, by rw [al.findClass]; exact n3, n4, n5, fun y c h1 h2 => p15.other h1 (p13.other h1 (by rw [q11]; exact n6 y c h2)), by rw [p15.2.2, p13.2.2, q11]; exact z8⟩, fun fs hl => c16.trans (X15.returnOut hexec hret (hb hbytes d57) hl)⟩
end New4
namespace New1
def yN : MethodName := ⟨"java/lang/String", "<init>", "([C)V"⟩
abbrev yB : ByteArray := jdk_42_method_3_code
theorem d0 : decode yB 0 = .ok (.aload_n 0, 1) := by decide +kernel
theorem d1 : decode yB 1 = .ok (.aload_n 1, 1) := by decide +kernel
theorem d2 : decode yB 2 = .ok (.iconst 0, 1) := by decide +kernel
theorem d3 : decode yB 3 = .ok (.aload_n 1, 1) := by decide +kernel
theorem d4 : decode yB 4 = .ok (.arraylength, 1) := by decide +kernel
theorem d5 : decode yB 5 = .ok (.aconst_null, 1) := by decide +kernel
theorem d6 : decode yB 6 = .ok (.invokespecial 27, 3) := by decide +kernel
theorem d9 : decode yB 9 = .ok (.return_, 1) := by decide +kernel
def site : List Cond := [New4.tab] ++ initW "java/lang/String" 27 New4.yN
def tab : Cond := tabOf yN yB 2 none site
def P (a : Addr) (D : Cell) (fV fC : Field) (b : Addr) (A : Cell) (z : Int32) (args : Array Value) (s : State) : Prop := args = #[.ref a, .ref b] ∧ Blank "java/lang/String" a D s ∧ Found "java/lang/String" "value" "[B" fV s ∧ Found "java/lang/String" "coder" "B" fC s ∧ Ch b A s ∧ StaticIs s "java/lang/String" "COMPACT_STRINGS" "Z" (.int z) ∧ ¬ z = 0 ∧ 0 < A.slots.size ∧ A.slots.size ≤ 536870912 ∧ ∀ i, i < A.slots.size → ¬ 255 < cv A i
def E (a : Addr) (D : Cell) (fV fC : Field) (A : Cell) (r : Option Value) (s u : State) : Prop := Got a D fV fC A 0 A.slots.size r s u
/-- new String(chars), not empty, no char above 255: a Latin-1 String of their low bytes -/
theorem law (l : Launch) (a : Addr) (D : Cell) (fV fC : Field) (b : Addr) (A : Cell) (z : Int32) : Law l yN 2 1 3 52 yB 2 none site (P a D fV fC b A z) (E a D fV fC A) [⟨a, fC.slot⟩, ⟨a, fV.slot⟩] 1 A.slots.size := by
  refine Law.of_walk (plainFor_of_name (by decide +kernel)) (by decide +kernel) (by decide +kernel) (by decide) (fun _ _ h => by rw [h.1]; rfl) (fun _ U U' hal hh h => ⟨h.1, h.2.1.mv hal hh, h.2.2.1.al hal, h.2.2.2.1.al hal, h.2.2.2.2.1.mv hal hh, h.2.2.2.2.2.1.there hal hh, h.2.2.2.2.2.2⟩) (fun r U U' V V' h1 hal h2 h => Got.mv r U U' V V' h1 hal h2 h) ?_
  intro p e s m args below meth c s₁ X0 hexec hbytes hml hret hlk hnm hown hh0 W hP
  obtain ⟨rfl, hB, f1, f2, hA, s1, hz, l0, l2, hp⟩ := hP
  have c1 : Steps p.tables e below (s₁.setTop (entryFrame m #[.ref a, .ref b] 2)) (s₁.setTop (mkF m 0 #[.val (.ref a), .val (.ref b)] [])) := entry rfl
  have c2 : Steps p.tables e below (s₁.setTop (entryFrame m #[.ref a, .ref b] 2)) (s₁.setTop (mkF m 6 #[.val (.ref a), .val (.ref b)] [.null, .int (Int32.ofNat A.slots.size), .int 0, .ref b, .ref a])) := c1.trans (by
    refine XS.aloadN X0.here hexec rfl (hb hbytes d0) rfl rfl ?_
    refine XS.aloadN X0.here hexec rfl (hb hbytes d1) rfl rfl ?_
    refine iconstV X0.here hexec rfl 0 (hb hbytes d2) (by decide) ?_
    refine XS.aloadN X0.here hexec rfl (hb hbytes d3) rfl rfl ?_
    refine X0.alen hexec (hA.1.mv X0.warmed.alike hh0) rfl rfl (hb hbytes d4) ?_
    refine XS.aconstNull X0.here hexec rfl (hb hbytes d5) ?_
    exact Steps.refl _)
  obtain ⟨v3, T3, X3, E3, g3⟩ := X0.callN hexec (New4.law l a D fV fC b A z 0 A.slots.size) rfl hown (wks W (initW "java/lang/String" 27 New4.yN)) (W New4.tab (by simp only [site, List.mem_cons, List.mem_append, true_or, or_true])) (W := 0) (Nat.le_of_ble_eq_true rfl) (Nat.le_of_ble_eq_true rfl) (Nat.le_refl _) (by show 0 + A.slots.size ≤ A.slots.size; omega) (g := (mkF m 6 #[.val (.ref a), .val (.ref b)] [.null, .int (Int32.ofNat A.slots.size), .int (Int32.ofNat 0), .ref b, .ref a])) rfl (by rw [hml]; rfl) c2 (argsL := [.ref b, .int (Int32.ofNat 0), .int (Int32.ofNat A.slots.size), .null]) (rest := []) rfl rfl (by show 2 * 0 + 0 ≤ _; decide) (hb hbytes d6) (⟨rfl, hB.mv X0.warmed.alike hh0, f1.al X0.warmed.alike, f2.al X0.warmed.alike, hA.mv X0.warmed.alike hh0, s1.there X0.warmed.alike hh0, hz, l0, by omega, l2, fun i hi => by rw [Nat.zero_add]; exact hp i hi⟩)
  have e0 := Got.mv _ s₁ s _ _ hh0.symm (Vm.Alike.refl _) rfl E3
  obtain rfl := e0.1
  have c4 : Steps p.tables e below (s₁.setTop (entryFrame m #[.ref a, .ref b] 2)) (T3.setTop (mkF m 9 #[.val (.ref a), .val (.ref b)] [])) := g3
  exact ⟨T3, none, _, _, _, X3, by simp, rfl, by omega, (fun _ => rfl), e0, fun fs hl => c4.trans (X3.returnOut hexec hret (hb hbytes d9) hl)⟩
theorem pays {l : Launch} {R : Room} {p : Program} {e : Env} {below : List Frame} {s : State} {sargs : Array Value} {len W : Nat} (a : Addr) (D : Cell) (fV fC : Field) (b : Addr) (A : Cell) (z : Int32) (htab : tab.before sargs s = true) (hfr : 4 ≤ R.frames) (hlo : W + 65 ≤ R.locals) :
    Back l R p e below s sargs yN len W (fun A₁ a₁ => A₁.cells + 1 ≤ R.cells ∧ A₁.slots + A.slots.size ≤ R.slots ∧ P a D fV fC b A z a₁ A₁.U) (fun A₁ _ v₁ B₁ => E a D fV fC A v₁ A₁.U B₁.U ∧ B₁.locs = A₁.locs ++ [⟨a, fC.slot⟩, ⟨a, fV.slot⟩] ∧ B₁.cells = A₁.cells + 1 ∧ B₁.slots = A₁.slots + A.slots.size) :=
  (law l a D fV fC b A z).pays htab hfr (by omega)
end New1
/-- the byte, read back as charAt reads it, is the char -/
theorem lo8_mask {x : Int32} (h0 : ¬ x < 0) (h1 : ¬ 255 < x) : lo8 x &&& 255 = x := by
  have t : ∀ k : Fin 256, lo8 (Int32.ofNat k.val) &&& 255 = Int32.ofNat k.val := by decide +kernel
  rw [Int32.lt_iff_toInt_lt] at h0 h1
  have e0 : (0 : Int32).toInt = 0 := rfl
  have e1 : (255 : Int32).toInt = 255 := rfl
  obtain ⟨k, hk⟩ : ∃ k : Nat, x.toInt = k := ⟨x.toInt.toNat, by omega⟩
  have hx : x = Int32.ofNat k := Int32.toInt_inj.mp (by rw [hk, Int32.toInt_ofNat_small (by omega)])
  rw [hx]
  exact t ⟨k, by omega⟩
end StrChars
namespace StrChars.Road
open Jvm Sem ClassFile Op Lib Jvm.Stand Jvm.Free Jvm.Free.XT
open Jvm.Lib.Cold (StaticIs)
abbrev ST : String := "java/lang/String"
/-- every table word that New1's law asks, flat -/
abbrev words : List Jvm.Cond := [.code New1.yN New1.yB 2 none, .initialized ST, .methodLink ST 27 New4.yN, .instanceMethod New4.yN,
  .code New4.yN New4.yB 6 none, .fieldLink ST 38 ST "COMPACT_STRINGS" "Z", .laysFinal ST ST "value" "[B", .fieldLink ST 9 ST "value" "[B", .laysFinal ST ST "coder" "B", .fieldLink ST 15 ST "coder" "B",
  .methodLink ST 1 Lib.objectInit, .instanceMethod Lib.objectInit, .code Lib.objectInit ⟨#[0xb1]⟩ 1 none, .methodLink ST 177 Cmp3.yN, .static Cmp3.yN, .methodLink ST 47 CodL.yN, .static CodL.yN,
  .code Cmp3.yN Cmp3.yB 6 (some (.array .byte)), .initialized U16, .arrayClass .byte, .methodLink U16 115 Cmp5.yN, .static Cmp5.yN, .code Cmp5.yN Cmp5.yB 7 (some .int), .code CodL.yN CodL.yB 2 (some .byte)]
theorem tab_of {a : Array Value} {s : State} (h : ∀ w ∈ words, w.before a s = true) : New1.tab.before a s = true := by
  have h5 : Cmp5.tab.before a s = true := unparts (wk h (.code Cmp5.yN Cmp5.yB 7 (some .int))) (wks h (.initialized Cmp5.yN.cls :: Cmp5.site))
  have hc : CodL.tab.before a s = true := unparts (wk h (.code CodL.yN CodL.yB 2 (some .byte))) (wks h (.initialized CodL.yN.cls :: CodL.site))
  have q5 : ∀ w ∈ Cmp5.tab :: words, w.before a s = true := fun w hw => (List.mem_cons.mp hw).elim (fun e => e ▸ h5) (h w)
  have h3 : Cmp3.tab.before a s = true := unparts (wk q5 (.code Cmp3.yN Cmp3.yB 6 (some (.array .byte)))) (wks q5 (.initialized Cmp3.yN.cls :: Cmp3.site))
  have q3 : ∀ w ∈ Cmp3.tab :: CodL.tab :: words, w.before a s = true := fun w hw => (List.mem_cons.mp hw).elim (fun e => e ▸ h3) fun hw => (List.mem_cons.mp hw).elim (fun e => e ▸ hc) (h w)
  have h4 : New4.tab.before a s = true := unparts (wk q3 (.code New4.yN New4.yB 6 none)) (wks q3 (.initialized New4.yN.cls :: New4.site))
  have q4 : ∀ w ∈ New4.tab :: words, w.before a s = true := fun w hw => (List.mem_cons.mp hw).elim (fun e => e ▸ h4) (h w)
  exact unparts (wk q4 (.code New1.yN New1.yB 2 none)) (wks q4 (.initialized New1.yN.cls :: New1.site))
/-- the words ride from the start Z to the walk's own state -/
theorem moved {Z s : State} {a0 args : Array Value} (hZ : Z.Warmed39 s.vm) (hw : ∀ d ∈ words, d.before a0 Z = true) : ∀ d ∈ words, d.before args s = true := fun d hd => by
  have q := hw d hd
  have t : ∀ d ∈ words, d = .arrayClass .byte ∨ (d.onTables && d.keepsFace) = true := by decide +kernel
  rcases t d hd with rfl | t
  · exact RoadKit.mvA hZ q
  · exact RoadKit.mv hZ q t
/-- WHAT COMES BACK, over the tables of the start Z: h the heap at the call, h' behind it -/
def Q (Z : State) (x : Addr) (A : Cell) (h : Heap) (v : Option Value) (h' : Heap) (L : List Loc) : Prop := v = none ∧ (∀ y ∈ L, y.base = x) ∧ RoadKit.Keep h h' [x] ∧ h'.size = h.size + 1 ∧ RoadKit.Exa Z h' x ST ∧ RoadKit.Fld Z h' x ST "value" "[B" (.ref h.size) ∧ RoadKit.Fld Z h' x ST "coder" "B" (.int 0) ∧
  (∃ V : Cell, RoadKit.Arr Z h' h.size V .byte ∧ V.vm = .none ∧ Z.vm.findClass "[B" = some V.cls ∧ V.slots.size = A.slots.size ∧ ∀ j, j < A.slots.size → V.slots[j]? = some (.int (lo8 (cv A j)))) ∧
  ∀ (O n d : String) (w : Value), RoadKit.Fld Z h x O n d w → RoadKit.slotOf Z O n d ≠ RoadKit.slotOf Z ST "value" "[B" → RoadKit.slotOf Z O n d ≠ RoadKit.slotOf Z ST "coder" "B" → RoadKit.Fld Z h' x O n d w
/-- **new String(chars) AT A CALL, IN THE ROAD'S FORM**: for specialBack behind newO: x the fresh String, b the char[] with the cell A -/
theorem back {p : Program} {l : Launch} {e : Env} {R : Room} {s : State} {args : Array Value} {below : List Frame} {len W : Nat} {Z : State} {a0 : Array Value} {h : Heap} (hZ : Z.Warmed39 s.vm) (hw : ∀ d ∈ words, d.before a0 Z = true) {kI : Nat} (wi : (Jvm.Cond.instantiable ST kI).before a0 Z = true)
    {x b : Addr} {A : Cell} {z : Int32} {v0 c0 : Value} (E : RoadKit.Exa Z h x ST) (V : RoadKit.Fld Z h x ST "value" "[B" v0) (C : RoadKit.Fld Z h x ST "coder" "B" c0) (K : RoadKit.Arr Z h b A .char) (hty : Typed .char A) (S : RoadKit.Sta Z h ST "COMPACT_STRINGS" "Z" (.int z)) (hz : ¬ z = 0)
    (l0 : 0 < A.slots.size) (l2 : A.slots.size ≤ 536870912) (hp : ∀ i, i < A.slots.size → ¬ 255 < cv A i) (hfr : 4 ≤ R.frames) (hlo : W + 65 ≤ R.locals) :
    Back l R p e below s args New1.yN len W (fun P a => a = #[.ref x, .ref b] ∧ P.U.heap = h ∧ P.cells + 1 ≤ R.cells ∧ P.slots + A.slots.size ≤ R.slots)
      (fun P _ v B => ∃ L, Q Z x A h v B.U.heap L ∧ B.locs = P.locs ++ L ∧ B.cells = P.cells + 1 ∧ B.slots = P.slots + A.slots.size) := by
  intro m meth c P g ig mk a X hg hsize hdg hW hn hp'
  obtain ⟨rfl, rfl, r1, r2⟩ := hp'
  have al : Z.vm.Alike P.U.vm := hZ.alike.trans X.warmed.alike
  obtain ⟨D, cfV, kV, iV, fV, hD, gV, stV, knV, obV, asV, slV⟩ := id V
  obtain ⟨D', cfC, kC, iC, fC, hD', gC, stC, -, -, asC, slC⟩ := id C
  cases hD.symm.trans hD'
  obtain ⟨D2, kD, e1, e2, e3, e4, e5⟩ := id E
  cases hD.symm.trans e1
  obtain ⟨c2, k2, i1, i2, i3, -⟩ := Cond.instantiable_spec wi
  cases e2.symm.trans i1
  cases e3.symm.trans i2
  obtain ⟨kU, u1, u2⟩ := al.2.2 _ _ e3
  have hB : Blank ST x D P.U := ⟨hD, ⟨knV, fun q hq => by rw [hq] at obV; cases obV⟩, by rw [al.findClass]; exact e2, kU, u1, by rw [u2]; exact i3, by rw [u2]; exact e5 i3⟩
  have F1 : Found ST "value" "[B" fV P.U := ⟨SBG.found_only al ⟨cfV, kV, iV, gV⟩, stV⟩
  have F2 : Found ST "coder" "B" fC P.U := ⟨SBG.found_only al ⟨cfC, kC, iC, gC⟩, stC⟩
  have hA : Ch b A P.U := ⟨⟨K.1, State.isArrayOf_alike al K.2.1, K.2.2, by omega⟩, hty⟩
  have hS : StaticIs P.U ST "COMPACT_STRINGS" "Z" (.int z) := by
    obtain ⟨cfS, iS, kS, fS, st, cS, t1, t2, t3, t4, t5, t6, t7⟩ := S
    exact StaticIs.there (s := { Z with heap := P.U.heap }) ⟨cfS, iS, kS, fS, st, cS, t1, t2, t3, t4, t5, (fun q => by rw [q] at t6; cases t6), t7⟩ al rfl
  obtain ⟨v, B, X', ⟨⟨hv, E', V', q1, q2, q3, q4, q5, q6, q7, q8, q9, q10, q11⟩, hl, hc, hs⟩, st⟩ := New1.pays x D fV fC b A z (tab_of (moved hZ hw)) hfr hlo m meth c P g ig mk _ X hg hsize hdg hW hn ⟨r1, r2, rfl, hB, F1, F2, hA, hS, hz, l0, l2, hp⟩
  have al' : Z.vm.Alike B.U.vm := hZ.alike.trans X'.warmed.alike
  have hsz : E'.slots.size = D.slots.size := by
    obtain ⟨-, -, -, kB, w1, w2, w3⟩ := q1
    obtain ⟨kB', y1, y2⟩ := al'.2.2 _ _ e3
    rw [q2.2.1] at w1
    cases w1.symm.trans y1
    rw [w3, e5 i3, y2]
  refine ⟨v, B, X', ⟨_, ⟨hv, ?_, ⟨by omega, fun y cy hy hn' => q10 y cy (by simpa using hn') hy, fun y cy hy => ?_⟩, q11, ⟨E', _, q1.1, by rw [q2.2.1]; exact e2, by rw [q2.2.1]; exact e3, by rw [q2.1]; exact obV, fun _ => by rw [hsz]; exact e5 i3⟩,
    ⟨E', cfV, kV, iV, fV, q1.1, gV, stV, by rw [q2.1]; exact knV, by rw [q2.1]; exact obV, by rw [q2.2.1]; exact asV, q3⟩, ⟨E', cfC, kC, iC, fC, q1.1, gC, stC, by rw [q2.1]; exact knV, by rw [q2.1]; exact obV, by rw [q2.2.1]; exact asC, q4⟩,
    ⟨V', ⟨q5.1, State.isArrayOf_alike al'.symm q5.2.1, q5.2.2.1⟩, q6, by rw [← al'.findClass]; exact q7, q8, fun j hj => by have := q9 j hj; rwa [Nat.zero_add] at this⟩, fun O n d w F n1 n2 => ?_⟩, hl, hc, hs⟩, st⟩
  · intro y hy
    simp only [List.mem_cons, List.not_mem_nil, or_false] at hy
    rcases hy with rfl | rfl <;> rfl
  · by_cases q : y = x
    · subst q
      cases hD.symm.trans hy
      exact ⟨E', q1.1, q2.2.1, q2.1, hsz⟩
    · exact ⟨cy, q10 y cy q hy, rfl, rfl, rfl⟩
  · obtain ⟨D3, cf, k, i, f, g1, g2, g3, g4, g5, g6, g7⟩ := F
    cases hD.symm.trans g1
    simp only [RoadKit.slotOf, g2, gV, gC, Option.map_some, Option.getD_some] at n1 n2
    exact ⟨E', cf, k, i, f, q1.1, g2, g3, by rw [q2.1]; exact g4, by rw [q2.1]; exact g5, by rw [q2.2.1]; exact g6, by rw [q2.2.2 f.slot (by simp [n1, n2])]; exact g7⟩
end StrChars.Road
namespace StrChars.Road
open Jvm Sem ClassFile Op Lib Jvm.Stand Jvm.Free Jvm.Free.XT
/-- WHAT COMES BACK, the byte[] as a list of values -/
def QA (Z : State) (x : Addr) (zn : Int32) (cs : List Int32) (h : Heap) (v : Option Value) (h' : Heap) (L : List Loc) : Prop := v = none ∧ (∀ y ∈ L, y.base = x) ∧ RoadKit.Keep h h' [x] ∧ h'.size = h.size + 1 ∧ RoadKit.Exa Z h' x ST ∧ RoadKit.Fld Z h' x ST "value" "[B" (.ref h.size) ∧ RoadKit.Fld Z h' x ST "coder" "B" (.int 0) ∧
  (∃ kb, Z.vm.findClass "[B" = some kb ∧ RoadKit.Arv Z h' h.size kb .byte zn (cs.map fun c => .int (lo8 c)) (.int 0)) ∧
  ∀ (O n d : String) (w : Value), RoadKit.Fld Z h x O n d w → RoadKit.slotOf Z O n d ≠ RoadKit.slotOf Z ST "value" "[B" → RoadKit.slotOf Z O n d ≠ RoadKit.slotOf Z ST "coder" "B" → RoadKit.Fld Z h' x O n d w
/-- **new String(chars) AT A CALL, THE ARRAYS AS LISTS**: the char[] at b holds cs, not empty, no char above 255 -/
theorem backArv {p : Program} {l : Launch} {e : Env} {R : Room} {s : State} {args : Array Value} {below : List Frame} {len W : Nat} {Z : State} {a0 : Array Value} {h : Heap} (hZ : Z.Warmed39 s.vm) (hw : ∀ d ∈ words, d.before a0 Z = true) {kI : Nat} (wi : (Jvm.Cond.instantiable ST kI).before a0 Z = true)
    {x b : Addr} {k : ClassId} {zn z : Int32} {cs : List Int32} {dv v0 c0 : Value} (E : RoadKit.Exa Z h x ST) (V : RoadKit.Fld Z h x ST "value" "[B" v0) (C : RoadKit.Fld Z h x ST "coder" "B" c0) (K : RoadKit.Arv Z h b k .char zn (cs.map Value.int) dv) (S : RoadKit.Sta Z h ST "COMPACT_STRINGS" "Z" (.int z)) (hz : ¬ z = 0)
    (hlen : zn.toNatClampNeg = cs.length) (h0 : 0 < cs.length) (hbig : cs.length ≤ 536870912) (hall : ∀ c ∈ cs, ¬ 255 < c) (hfr : 4 ≤ R.frames) (hlo : W + 65 ≤ R.locals) :
    Back l R p e below s args New1.yN len W (fun P a => a = #[.ref x, .ref b] ∧ P.U.heap = h ∧ P.cells + 1 ≤ R.cells ∧ P.slots + cs.length ≤ R.slots)
      (fun P _ v B => ∃ L, QA Z x zn cs h v B.U.heap L ∧ B.locs = P.locs ++ L ∧ B.cells = P.cells + 1 ∧ B.slots = P.slots + cs.length) := by
  obtain ⟨A, K1, K2, K3, K4, K5, K6⟩ := K
  have e : A.slots.size = cs.length := K3.trans hlen
  have hat : ∀ (i : Nat) (hi : i < cs.length), A.slots[i]? = some (.int cs[i]) := fun i hi => by rw [K5 i (by omega)]; simp [List.getD_eq_getElem?_getD, hi]
  have hcv : ∀ (i : Nat) (hi : i < cs.length), cv A i = cs[i] := fun i hi => by unfold cv; rw [hat i hi]
  have hty : Typed .char A := fun i v hv => by
    have hi : i < A.slots.size := (Array.getElem?_eq_some_iff.mp hv).1
    have q := K5 i hi
    rw [hv] at q
    rw [Option.some.inj q]
    exact K6 i hi
  refine Back.mono (back hZ hw wi E V C K1 hty S hz (by omega) (by omega) (fun i hi => by rw [hcv i (by omega)]; exact hall _ (List.getElem_mem _)) hfr hlo) (fun P a hp => ⟨hp.1, hp.2.1, hp.2.2.1, by rw [e]; exact hp.2.2.2⟩) (fun P a v B hp hq => ?_)
  obtain ⟨L, ⟨q1, q2, q3, q4, q5, q6, q7, ⟨V', v1, v2, v3, v4, v5⟩, q9⟩, hl, hc, hs⟩ := hq
  refine ⟨L, ⟨q1, q2, q3, q4, q5, q6, q7, ⟨V'.cls, v3, V', v1, rfl, by rw [v4, e, hlen], K4, fun i hi => ?_, fun i hi => ?_⟩, q9⟩, hl, hc, by rw [hs, e]⟩
  · have hi' : i < cs.length := by omega
    rw [v5 i (by omega), hcv i hi']; simp [List.getD_eq_getElem?_getD, hi']
  · have hi' : i < cs.length := by omega
    simp only [List.getD_eq_getElem?_getD, List.getElem?_map, List.getElem?_eq_getElem hi', Option.map_some, Option.getD_some]
    exact fits_lo8 _
end StrChars.Road
namespace StrChars.Road
open Jvm Sem ClassFile Op Lib Jvm.Stand Jvm.Free Jvm.Free.XT
/-- WHAT COMES BACK, in the writer's own shape -/
def QV (Z : State) (x : Addr) (N : Int32) (bs : List Int32) (h : Heap) (n0 : Nat) (v : Option Value) (h' : Heap) (L : List Loc) : Prop := v = none ∧ RoadKit.Fr n0 L ∧ RoadKit.Keep h h' [x] ∧ RoadKit.Exa Z h' x ST ∧ RoadKit.Fld Z h' x ST "coder" "B" (.int 0) ∧
  ∃ (t : Addr) (kb : ClassId), n0 ≤ t ∧ h.size ≤ t ∧ ¬ t = x ∧ RoadKit.Fld Z h' x ST "value" "[B" (.ref t) ∧ RoadKit.Arv Z h' t kb .byte N (bs.map Value.int) (.int 0)
/-- **new String(chars) AT A CALL, FOR THE WRITER**: a char[] of n known ints, each 0 to 255 -/
theorem backV {p : Program} {l : Launch} {e : Env} {R : Room} {s : State} {args : Array Value} {below : List Frame} {len W : Nat} {Z : State} {a0 : Array Value} {h : Heap} (hZ : Z.Warmed39 s.vm) (hw : ∀ d ∈ words, d.before a0 Z = true) {kI : Nat} (wi : (Jvm.Cond.instantiable ST kI).before a0 Z = true)
    {x b : Addr} {kC : ClassId} {cs bs : List Int32} {d v0 c0 : Value} {z N : Int32} {n n0 : Nat} (hx0 : n0 ≤ x) (hh0 : n0 ≤ h.size) (E : RoadKit.Exa Z h x ST) (V : RoadKit.Fld Z h x ST "value" "[B" v0) (C : RoadKit.Fld Z h x ST "coder" "B" c0) (K : RoadKit.Arv Z h b kC .char N (cs.map Value.int) d) (S : RoadKit.Sta Z h ST "COMPACT_STRINGS" "Z" (.int z)) (hz : ¬ z = 0)
    (hn : cs.length = n) (hN : N = Int32.ofNat n) (l0 : 0 < n) (l2 : n ≤ 4000) (hp : ∀ c ∈ cs, ¬ c < 0 ∧ ¬ (255 : Int32) < c) (hb : bs = cs.map (fun c => c.toInt8.toInt32)) (hfr : 4 ≤ R.frames) (hlo : W + 65 ≤ R.locals) :
    Back l R p e below s args (⟨"java/lang/String", "<init>", "([C)V"⟩ : MethodName) len W (fun P a => a = #[.ref x, .ref b] ∧ P.U.heap = h ∧ P.cells + 1 ≤ R.cells ∧ P.slots + n ≤ R.slots)
      (fun P _ v B => ∃ L, QV Z x N bs h n0 v B.U.heap L ∧ B.locs = P.locs ++ L ∧ B.cells = P.cells + 1 ∧ B.slots = P.slots + n) := by
  subst hn hN hb
  refine Back.mono (backArv hZ hw wi E V C K S hz (n32 (by omega)) l0 (by omega) (fun c hc => (hp c hc).2) hfr hlo) (fun P a hp => hp) (fun P a v B hp hq => ?_)
  obtain ⟨L, ⟨q1, q2, q3, q4, q5, q6, q7, ⟨kb, v1, v2⟩, q9⟩, hl, hc, hs⟩ := hq
  exact ⟨L, ⟨q1, fun y hy => by rw [q2 y hy]; exact hx0, q3, q5, q7, h.size, kb, hh0, Nat.le_refl _, Nat.ne_of_gt E.lt, q6, by rw [List.map_map]; exact v2⟩, hl, hc, hs⟩
end StrChars.Road
namespace StrChars
open Jvm Sem ClassFile Op Lib Jvm.Stand Jvm.Free.XT Jvm.Free.ALB Jvm.Free.JM Jvm.Free
open Jvm.Lib.Cold (StaticIs)
def hi8 (x : Int32) : Int32 := lo8 (x >>> ((8 : Int32) &&& 31))
/-- what StringUTF16.getChar makes of two bytes -/
def pairCh (u v : Int32) : Int32 := (((u &&& 255) <<< ((0 : Int32) &&& 31)) ||| ((v &&& 255) <<< ((8 : Int32) &&& 31))).toUInt32.toUInt16.toUInt32.toInt32
theorem shr0 (c : Int32) : c >>> ((0 : Int32) &&& 31) = c := by
  have e : ((0 : Int32) &&& 31) = 0 := by decide
  rw [e]
  apply Int32.toBitVec_inj.mp
  rw [Int32.toBitVec_shiftRight]
  have e1 : ((0 : Int32).toBitVec.smod 32) = 0#32 := by decide
  rw [e1, BitVec.sshiftRight_eq']
  exact BitVec.sshiftRight_zero
theorem lo8_and (x : Int32) : (lo8 x &&& 255).toBitVec.toNat = x.toBitVec.toNat % 256 := by
  have h : (lo8 x).toBitVec = (x.toBitVec.signExtend 8).signExtend 32 := by rw [lo8, Int8.toBitVec_toInt32, Int32.toBitVec_toInt8]
  rw [Int32.toBitVec_and, BitVec.toNat_and, h]
  have e : ((x.toBitVec.signExtend 8).signExtend 32).toNat % 256 = x.toBitVec.toNat % 256 := by
    rw [BitVec.toNat_signExtend]
    have hlt := x.toBitVec.isLt
    simp only [BitVec.toNat_setWidth, BitVec.toNat_signExtend]
    split <;> split <;> omega
  rw [← e]
  exact Nat.and_two_pow_sub_one_eq_mod _ 8
theorem pair_says {c : Int32} (h0 : ¬ c < 0) (h1 : ¬ 65535 < c) : pairCh (lo8 c) (hi8 c) = c := by
  rw [Int32.lt_iff_toInt_lt] at h0 h1
  have e0 : (0 : Int32).toInt = 0 := rfl
  have e1 : (65535 : Int32).toInt = 65535 := rfl
  have hc : c.toInt = c.toBitVec.toNat := by
    have := c.toBitVec.isLt
    have e : c.toInt = c.toBitVec.toInt := rfl
    rw [e] at h0 h1
    rw [e]
    rw [BitVec.toInt_eq_toNat_cond] at h0 h1 ⊢
    split at h0 <;> split <;> omega
  have hn : c.toBitVec.toNat < 65536 := by omega
  have a1 := lo8_and c
  have a2 : (hi8 c &&& 255).toBitVec.toNat = c.toBitVec.toNat / 256 := by
    rw [hi8, lo8_and]
    have e : ((8 : Int32) &&& 31) = 8 := by decide
    rw [e, Int32.toBitVec_shiftRight]
    have e2 : ((8 : Int32).toBitVec.smod 32) = 8#32 := by decide
    rw [e2, BitVec.sshiftRight_eq', BitVec.toNat_sshiftRight_of_msb_false (by rw [BitVec.msb_eq_false_iff_two_mul_lt]; omega)]
    show c.toBitVec.toNat >>> 8 % 256 = _
    rw [Nat.shiftRight_eq_div_pow]
    omega
  unfold pairCh
  apply Int32.toBitVec_inj.mp
  apply BitVec.eq_of_toNat_eq
  have f0 : ((0 : Int32) &&& 31) = 0 := by decide
  have f8 : ((8 : Int32) &&& 31) = 8 := by decide
  rw [f0, f8]
  have g : (((lo8 c &&& 255) <<< (0 : Int32)) ||| ((hi8 c &&& 255) <<< (8 : Int32))).toBitVec.toNat = c.toBitVec.toNat := by
    rw [Int32.toBitVec_or, Int32.toBitVec_shiftLeft, Int32.toBitVec_shiftLeft]
    have s0 : ((0 : Int32).toBitVec.smod 32) = 0#32 := by decide
    have s8 : ((8 : Int32).toBitVec.smod 32) = 8#32 := by decide
    rw [s0, s8, BitVec.toNat_or]
    simp only [BitVec.shiftLeft_eq', BitVec.toNat_shiftLeft, a1, a2]
    show (c.toBitVec.toNat % 256) <<< 0 % 2 ^ 32 ||| (c.toBitVec.toNat / 256) <<< 8 % 2 ^ 32 = _
    rw [Nat.shiftLeft_zero, Nat.mod_eq_of_lt (show c.toBitVec.toNat % 256 < 2 ^ 32 by omega), Nat.mod_eq_of_lt (show (c.toBitVec.toNat / 256) <<< 8 < 2 ^ 32 by rw [Nat.shiftLeft_eq]; omega), Nat.or_comm, ← Nat.shiftLeft_add_eq_or_of_lt (by omega), Nat.shiftLeft_eq]
    omega
  show BitVec.toNat (((((lo8 c &&& 255) <<< (0 : Int32)) ||| ((hi8 c &&& 255) <<< (8 : Int32))).toBitVec.setWidth 16).setWidth 32) = _
  rw [BitVec.toNat_setWidth, BitVec.toNat_setWidth, g]
  omega
end StrChars
namespace StrChars
open Jvm Sem ClassFile Op Lib Jvm.Stand Jvm.Free.XT Jvm.Free.ALB Jvm.Free.JM Jvm.Free
open Jvm.Lib.Cold (StaticIs)
theorem shr1 {n : Nat} (h : 2 * n < 2 ^ 31) : Int32.ofNat (2 * n) >>> ((1 : Int32) &&& 31) = Int32.ofNat n := by
  have e : ((1 : Int32) &&& 31) = 1 := by decide
  rw [e]
  apply Int32.toBitVec_inj.mp
  rw [Int32.toBitVec_shiftRight]
  have e1 : ((1 : Int32).toBitVec.smod 32) = 1#32 := by decide
  have hm : (BitVec.ofNat 32 (2 * n)).toNat = 2 * n := by rw [BitVec.toNat_ofNat, Nat.mod_eq_of_lt (by omega)]
  rw [e1, BitVec.sshiftRight_eq']
  apply BitVec.eq_of_toNat_eq
  show ((BitVec.ofNat 32 (2 * n)).sshiftRight 1).toNat = (BitVec.ofNat 32 n).toNat
  rw [BitVec.toNat_sshiftRight_of_msb_false (by rw [BitVec.msb_eq_false_iff_two_mul_lt, hm]; omega), hm, BitVec.toNat_ofNat, Nat.shiftRight_eq_div_pow]
  omega
/-- charAt's cast of a byte read back -/
def chr8 (u : Int32) : Int32 := (u &&& 255).toUInt32.toUInt16.toUInt32.toInt32
theorem chr8_lo8 {c : Int32} (h0 : ¬ c < 0) (h1 : ¬ 255 < c) : chr8 (lo8 c) = c := by
  have t : ∀ k : Fin 256, (Int32.ofNat k.val).toUInt32.toUInt16.toUInt32.toInt32 = Int32.ofNat k.val := by decide +kernel
  unfold chr8
  rw [lo8_mask h0 h1]
  rw [Int32.lt_iff_toInt_lt] at h0 h1
  have e0 : (0 : Int32).toInt = 0 := rfl
  have e1 : (255 : Int32).toInt = 255 := rfl
  obtain ⟨k, hk⟩ : ∃ k : Nat, c.toInt = k := ⟨c.toInt.toNat, by omega⟩
  have hx : c = Int32.ofNat k := Int32.toInt_inj.mp (by rw [hk, Int32.toInt_ofNat_small (by omega)])
  rw [hx]
  exact t ⟨k, by omega⟩
theorem narrow_ch {c : Int32} (h0 : ¬ c < 0) (h1 : ¬ 65535 < c) : narrow .char (.int c) = .int c := by
  have q : narrow .char (.int (pairCh (lo8 c) (hi8 c))) = .int (pairCh (lo8 c) (hi8 c)) := narrow_c _
  rwa [pair_says h0 h1] at q
/-- the array's cell V codes the n chars f 0 .. f (n - 1) by the coder cd, as the JDK does: coder 1 just where some char is above 255 -/
def Cod (cd : Int32) (n : Nat) (f : Nat → Int32) (V : Cell) : Prop := (cd = 0 ∧ V.slots.size = n ∧ ∀ j, j < n → V.slots[j]? = some (.int (lo8 (f j))) ∧ ¬ 255 < f j) ∨ (cd = 1 ∧ V.slots.size = 2 * n ∧ (∀ j, j < n → V.slots[2 * j]? = some (.int (lo8 (f j))) ∧ V.slots[2 * j + 1]? = some (.int (hi8 (f j)))) ∧ ∃ j, j < n ∧ 255 < f j)
theorem Cod.cd {cd : Int32} {n : Nat} {f : Nat → Int32} {V : Cell} (h : Cod cd n f V) : cd = 0 ∨ cd = 1 := h.imp (fun q => q.1) fun q => q.1
theorem Cod.len {cd : Int32} {n : Nat} {f : Nat → Int32} {V : Cell} (h : Cod cd n f V) (hs : V.slots.size < 2 ^ 31) : Int32.ofNat V.slots.size >>> (cd &&& 31) = Int32.ofNat n := by
  rcases h with ⟨rfl, h, -⟩ | ⟨rfl, h, -⟩
  · rw [shr0, h]
  · rw [h, shr1 (by omega)]
/-- **x is a String of the n chars f 0 .. f (n - 1)**, Latin-1 or UTF-16; its array at t has the cell V -/
def Txt (x t : Addr) (V : Cell) (cd : Int32) (n : Nat) (f : Nat → Int32) (U : State) : Prop := Exact "java/lang/String" x U ∧ Has x "java/lang/String" "value" "[B" (.ref t) U ∧ Has x "java/lang/String" "coder" "B" (.int cd) U ∧ XT.Arr .byte t V U ∧ Cod cd n f V ∧ ∀ j, j < n → ¬ f j < 0 ∧ ¬ 65535 < f j
theorem Txt.mv {x t : Addr} {V : Cell} {cd : Int32} {n : Nat} {f : Nat → Int32} {U U' : State} (h : Txt x t V cd n f U) (hal : U.vm.Alike U'.vm) (hh : U'.heap = U.heap) : Txt x t V cd n f U' := ⟨h.1.mv hal hh, h.2.1.mv hal hh, h.2.2.1.mv hal hh, h.2.2.2.1.mv hal hh, h.2.2.2.2⟩
namespace Cdr
def yN : MethodName := ⟨"java/lang/String", "coder", "()B"⟩
abbrev yB : ByteArray := jdk_42_method_152_code
theorem d0 : decode yB 0 = .ok (.getstatic 38, 3) := by decide +kernel
theorem d3 : decode yB 3 = .ok (.ifCond (.eq) 10, 3) := by decide +kernel
theorem d6 : decode yB 6 = .ok (.aload_n 0, 1) := by decide +kernel
theorem d7 : decode yB 7 = .ok (.getfield 15, 3) := by decide +kernel
theorem d10 : decode yB 10 = .ok (.goto 4, 3) := by decide +kernel
theorem d14 : decode yB 14 = .ok (.ireturn, 1) := by decide +kernel
def site : List Cond := [.fieldLink "java/lang/String" 38 "java/lang/String" "COMPACT_STRINGS" "Z", .fieldLink "java/lang/String" 15 "java/lang/String" "coder" "B"]
def tab : Cond := tabOf yN yB 1 (some .byte) site
def P (x : Addr) (cd z : Int32) (args : Array Value) (s : State) : Prop := args = #[.ref x] ∧ Has x "java/lang/String" "coder" "B" (.int cd) s ∧ (cd = 0 ∨ cd = 1) ∧ StaticIs s "java/lang/String" "COMPACT_STRINGS" "Z" (.int z) ∧ ¬ z = 0
def E (cd : Int32) (r : Option Value) (s u : State) : Prop := XT.PureE (some (.int cd)) r s u
theorem law (l : Launch) (x : Addr) (cd z : Int32) : Law l yN 1 0 0 0 yB 1 (some .byte) site (P x cd z) (E cd) [] 0 0 := by
  refine Law.of_walk (plainFor_of_name (by decide +kernel)) (by decide +kernel) (by decide +kernel) (by decide) (fun _ _ h => by rw [h.1]; rfl) (fun _ U U' hal hh h => ⟨h.1, h.2.1.mv hal hh, h.2.2.1, h.2.2.2.1.there hal hh, h.2.2.2.2⟩) (fun r U U' V V' h1 hal h2 h => XT.PureE.mv r U U' V V' h1 hal h2 h) ?_
  intro p e s m args below meth c s₁ X0 hexec hbytes hml hret hlk hnm hown hh0 W hP
  obtain ⟨rfl, hx, hc, s1, hz⟩ := hP
  have c1 : Steps p.tables e below (s₁.setTop (entryFrame m #[.ref x] 1)) (s₁.setTop (mkF m 0 #[.val (.ref x)] [])) := entry rfl
  obtain ⟨T2, X2, q2, st2⟩ := X0.sget hexec hown (wk W (.fieldLink "java/lang/String" 38 "java/lang/String" "COMPACT_STRINGS" "Z")) s1 (fun _ _ h => by rw [hh0]; exact h) (g := (mkF m 0 #[.val (.ref x)] [])) rfl (hb hbytes d0)
  have hh2 := q2.trans hh0
  have c3 : Steps p.tables e below (s₁.setTop (entryFrame m #[.ref x] 1)) (T2.setTop (mkF m 7 #[.val (.ref x)] [.ref x])) := (c1.trans (st2 _ (Steps.refl _))).trans (by
    refine XS.ifNo X2.here hexec rfl (hb hbytes d3) rfl (i0_eq_f hz) ?_
    refine XS.aloadN X2.here hexec rfl (hb hbytes d6) rfl rfl ?_
    exact Steps.refl _)
  obtain ⟨T4, X4, q4, st4⟩ := X2.hget hexec hown (wk W (.fieldLink "java/lang/String" 15 "java/lang/String" "coder" "B")) (hx.mv X2.warmed.alike hh2) (g := (mkF m 7 #[.val (.ref x)] [.ref x])) rfl (rest := []) rfl (hb hbytes d7)
  have c5 : Steps p.tables e below (s₁.setTop (entryFrame m #[.ref x] 1)) (T4.setTop (mkF m 14 #[.val (.ref x)] [.int cd])) := (c3.trans (st4 _ (Steps.refl _))).trans (by
    refine XS.goto X4.here hexec rfl (pc0 := 10) rfl (hb hbytes d10) (by decide) rfl ?_
    exact Steps.refl _)
  exact ⟨T4, some (.int cd), _, _, _, X4, rfl, rfl, rfl, (fun h => by cases h), ⟨rfl, q4.trans hh2⟩, fun fs hl => c5.trans (X4.ireturnOut hexec hret (by rcases hc with rfl | rfl <;> rfl) (Or.inr (Or.inr (Or.inl rfl))) (hb hbytes d14) hl)⟩
end Cdr
namespace Len
def yN : MethodName := ⟨"java/lang/String", "length", "()I"⟩
abbrev yB : ByteArray := jdk_42_method_54_code
theorem d0 : decode yB 0 = .ok (.aload_n 0, 1) := by decide +kernel
theorem d1 : decode yB 1 = .ok (.getfield 9, 3) := by decide +kernel
theorem d4 : decode yB 4 = .ok (.arraylength, 1) := by decide +kernel
theorem d5 : decode yB 5 = .ok (.aload_n 0, 1) := by decide +kernel
theorem d6 : decode yB 6 = .ok (.invokevirtual 335, 3) := by decide +kernel
theorem d9 : decode yB 9 = .ok (.ishr, 1) := by decide +kernel
theorem d10 : decode yB 10 = .ok (.ireturn, 1) := by decide +kernel
def site : List Cond := [.fieldLink "java/lang/String" 9 "java/lang/String" "value" "[B", Cdr.tab] ++ virtW "java/lang/String" 335 "java/lang/String" Cdr.yN Cdr.yN
def tab : Cond := tabOf yN yB 1 (some .int) site
def P (x t : Addr) (V : Cell) (cd : Int32) (n : Nat) (f : Nat → Int32) (z : Int32) (args : Array Value) (s : State) : Prop := args = #[.ref x] ∧ Txt x t V cd n f s ∧ StaticIs s "java/lang/String" "COMPACT_STRINGS" "Z" (.int z) ∧ ¬ z = 0
def E (n : Nat) (r : Option Value) (s u : State) : Prop := XT.PureE (some (.int (Int32.ofNat n))) r s u
/-- length() of a String of n chars, in either coding -/
theorem law (l : Launch) (x t : Addr) (V : Cell) (cd : Int32) (n : Nat) (f : Nat → Int32) (z : Int32) : Law l yN 1 0 1 13 yB 1 (some .int) site (P x t V cd n f z) (E n) [] 0 0 := by
  refine Law.of_walk (plainFor_of_name (by decide +kernel)) (by decide +kernel) (by decide +kernel) (by decide) (fun _ _ h => by rw [h.1]; rfl) (fun _ U U' hal hh h => ⟨h.1, h.2.1.mv hal hh, h.2.2.1.there hal hh, h.2.2.2⟩) (fun r U U' V V' h1 hal h2 h => XT.PureE.mv r U U' V V' h1 hal h2 h) ?_
  intro p e s m args below meth c s₁ X0 hexec hbytes hml hret hlk hnm hown hh0 W hP
  obtain ⟨rfl, hx, s1, hz⟩ := hP
  have v31 := hx.2.2.2.1.2.2.2
  have c1 : Steps p.tables e below (s₁.setTop (entryFrame m #[.ref x] 1)) (s₁.setTop (mkF m 1 #[.val (.ref x)] [.ref x])) := Steps.trans (entry rfl) (by
    show Steps p.tables e below (s₁.setTop (mkF m 0 #[.val (.ref x)] [])) _
    refine XS.aloadN X0.here hexec rfl (hb hbytes d0) rfl rfl ?_
    exact Steps.refl _)
  obtain ⟨T2, X2, q2, st2⟩ := X0.hget hexec hown (wk W (.fieldLink "java/lang/String" 9 "java/lang/String" "value" "[B")) (hx.mv X0.warmed.alike hh0).2.1 (g := (mkF m 1 #[.val (.ref x)] [.ref x])) rfl (rest := []) rfl (hb hbytes d1)
  have hh2 := q2.trans hh0
  have hx2 := hx.mv X2.warmed.alike hh2
  have c3 : Steps p.tables e below (s₁.setTop (entryFrame m #[.ref x] 1)) (T2.setTop (mkF m 6 #[.val (.ref x)] [.ref x, .int (Int32.ofNat V.slots.size)])) := (c1.trans (st2 _ (Steps.refl _))).trans (by
    refine X2.alen hexec hx2.2.2.2.1 rfl rfl (hb hbytes d4) ?_
    refine XS.aloadN X2.here hexec rfl (hb hbytes d5) rfl rfl ?_
    exact Steps.refl _)
  obtain ⟨v4, T4, X4, E4, g4⟩ := X2.callV hexec (Cdr.law l x cd z) hown (wks W (virtW "java/lang/String" 335 "java/lang/String" Cdr.yN Cdr.yN)) rfl (by decide) (wk W Cdr.tab) (W := 1) (Nat.le_of_ble_eq_true rfl) (Nat.le_of_ble_eq_true rfl) (Nat.le_refl _) (Nat.le_refl _) (hx2.1.fc X2.warmed.alike) hx2.1.is (g := (mkF m 6 #[.val (.ref x)] [.ref x, .int (Int32.ofNat V.slots.size)])) rfl (by rw [hml]; rfl) c3 (argsL := []) (rest := [.int (Int32.ofNat V.slots.size)]) rfl rfl (by show 2 * 0 + (1 + 0) ≤ _; decide) (hb hbytes d6) (⟨rfl, hx2.2.2.1, hx.2.2.2.2.1.cd, s1.there X2.warmed.alike hh2, hz⟩)
  obtain ⟨rfl, q4⟩ := E4
  have c5 : Steps p.tables e below (s₁.setTop (entryFrame m #[.ref x] 1)) (T4.setTop (mkF m 10 #[.val (.ref x)] [.int (Int32.ofNat V.slots.size >>> (cd &&& 31))])) := Steps.trans g4 (by
    refine ishr X4.here hexec rfl (hb hbytes d9) rfl ?_
    exact Steps.refl _)
  rw [hx.2.2.2.2.1.len v31] at c5
  exact ⟨T4, some (.int (Int32.ofNat n)), _, _, _, X4, rfl, rfl, rfl, (fun h => by cases h), ⟨rfl, q4.trans hh2⟩, fun fs hl => c5.trans (X4.ireturnOut hexec hret rfl (Or.inl rfl) (hb hbytes d10) hl)⟩
theorem pays {l : Launch} {R : Room} {p : Program} {e : Env} {below : List Frame} {s : State} {sargs : Array Value} {len W : Nat} (x t : Addr) (V : Cell) (cd : Int32) (n : Nat) (f : Nat → Int32) (z : Int32) (htab : tab.before sargs s = true) (hfr : 2 ≤ R.frames) (hlo : W + 25 ≤ R.locals) :
    Back l R p e below s sargs yN len W (fun A₁ a₁ => A₁.cells + 0 ≤ R.cells ∧ A₁.slots + 0 ≤ R.slots ∧ P x t V cd n f z a₁ A₁.U) (fun A₁ _ v₁ B₁ => E n v₁ A₁.U B₁.U ∧ B₁.locs = A₁.locs ++ [] ∧ B₁.cells = A₁.cells + 0 ∧ B₁.slots = A₁.slots + 0) :=
  (law l x t V cd n f z).pays htab hfr (by omega)
end Len
namespace IsL
def yN : MethodName := ⟨"java/lang/String", "isLatin1", "()Z"⟩
abbrev yB : ByteArray := jdk_42_method_154_code
theorem d0 : decode yB 0 = .ok (.getstatic 38, 3) := by decide +kernel
theorem d3 : decode yB 3 = .ok (.ifCond (.eq) 14, 3) := by decide +kernel
theorem d6 : decode yB 6 = .ok (.aload_n 0, 1) := by decide +kernel
theorem d7 : decode yB 7 = .ok (.getfield 15, 3) := by decide +kernel
theorem d10 : decode yB 10 = .ok (.ifCond (.ne) 7, 3) := by decide +kernel
theorem d13 : decode yB 13 = .ok (.iconst 1, 1) := by decide +kernel
theorem d14 : decode yB 14 = .ok (.goto 4, 3) := by decide +kernel
theorem d17 : decode yB 17 = .ok (.iconst 0, 1) := by decide +kernel
theorem d18 : decode yB 18 = .ok (.ireturn, 1) := by decide +kernel
def site : List Cond := [.fieldLink "java/lang/String" 38 "java/lang/String" "COMPACT_STRINGS" "Z", .fieldLink "java/lang/String" 15 "java/lang/String" "coder" "B"]
def tab : Cond := tabOf yN yB 1 (some .boolean) site
def P (x : Addr) (cd z : Int32) (args : Array Value) (s : State) : Prop := args = #[.ref x] ∧ Has x "java/lang/String" "coder" "B" (.int cd) s ∧ (cd = 0 ∨ cd = 1) ∧ StaticIs s "java/lang/String" "COMPACT_STRINGS" "Z" (.int z) ∧ ¬ z = 0
def E (cd : Int32) (r : Option Value) (s u : State) : Prop := XT.PureE (some (.int (1 - cd))) r s u
theorem law (l : Launch) (x : Addr) (cd z : Int32) : Law l yN 1 0 0 0 yB 1 (some .boolean) site (P x cd z) (E cd) [] 0 0 := by
  refine Law.of_walk (plainFor_of_name (by decide +kernel)) (by decide +kernel) (by decide +kernel) (by decide) (fun _ _ h => by rw [h.1]; rfl) (fun _ U U' hal hh h => ⟨h.1, h.2.1.mv hal hh, h.2.2.1, h.2.2.2.1.there hal hh, h.2.2.2.2⟩) (fun r U U' V V' h1 hal h2 h => XT.PureE.mv r U U' V V' h1 hal h2 h) ?_
  intro p e s m args below meth c s₁ X0 hexec hbytes hml hret hlk hnm hown hh0 W hP
  obtain ⟨rfl, hx, hc, s1, hz⟩ := hP
  have c1 : Steps p.tables e below (s₁.setTop (entryFrame m #[.ref x] 1)) (s₁.setTop (mkF m 0 #[.val (.ref x)] [])) := entry rfl
  obtain ⟨T2, X2, q2, st2⟩ := X0.sget hexec hown (wk W (.fieldLink "java/lang/String" 38 "java/lang/String" "COMPACT_STRINGS" "Z")) s1 (fun _ _ h => by rw [hh0]; exact h) (g := (mkF m 0 #[.val (.ref x)] [])) rfl (hb hbytes d0)
  have hh2 := q2.trans hh0
  have c3 : Steps p.tables e below (s₁.setTop (entryFrame m #[.ref x] 1)) (T2.setTop (mkF m 7 #[.val (.ref x)] [.ref x])) := (c1.trans (st2 _ (Steps.refl _))).trans (by
    refine XS.ifNo X2.here hexec rfl (hb hbytes d3) rfl (i0_eq_f hz) ?_
    refine XS.aloadN X2.here hexec rfl (hb hbytes d6) rfl rfl ?_
    exact Steps.refl _)
  obtain ⟨T4, X4, q4, st4⟩ := X2.hget hexec hown (wk W (.fieldLink "java/lang/String" 15 "java/lang/String" "coder" "B")) (hx.mv X2.warmed.alike hh2) (g := (mkF m 7 #[.val (.ref x)] [.ref x])) rfl (rest := []) rfl (hb hbytes d7)
  have c5 : Steps p.tables e below (s₁.setTop (entryFrame m #[.ref x] 1)) (T4.setTop (mkF m 10 #[.val (.ref x)] [.int cd])) := c3.trans (st4 _ (Steps.refl _))
  have c6 : Steps p.tables e below (s₁.setTop (entryFrame m #[.ref x] 1)) (T4.setTop (mkF m 18 #[.val (.ref x)] [.int (1 - cd)])) := by
    rcases hc with rfl | rfl
    · exact c5.trans (by
        refine XS.ifNo X4.here hexec rfl (hb hbytes d10) rfl (i0_ne_f rfl) ?_
        refine iconstV X4.here hexec rfl 1 (hb hbytes d13) (by decide) ?_
        refine XS.goto X4.here hexec rfl (pc0 := 14) rfl (hb hbytes d14) (by decide) rfl ?_
        exact Steps.refl _)
    · exact c5.trans (by
        refine XS.ifYes X4.here hexec rfl (pc0 := 10) rfl (hb hbytes d10) rfl (i0_ne_t (by decide)) (by decide) rfl ?_
        refine iconstV X4.here hexec rfl 0 (hb hbytes d17) (by decide) ?_
        exact Steps.refl _)
  exact ⟨T4, some (.int (1 - cd)), _, _, _, X4, rfl, rfl, rfl, (fun h => by cases h), ⟨rfl, q4.trans hh2⟩, fun fs hl => c6.trans (X4.ireturnOut hexec hret (by rcases hc with rfl | rfl <;> rfl) (Or.inr (Or.inl rfl)) (hb hbytes d18) hl)⟩
end IsL
namespace LChA
def yN : MethodName := ⟨"java/lang/StringLatin1", "charAt", "([BI)C"⟩
abbrev yB : ByteArray := jdk_43_method_2_code
theorem d0 : decode yB 0 = .ok (.iload_n 1, 1) := by decide +kernel
theorem d1 : decode yB 1 = .ok (.aload_n 0, 1) := by decide +kernel
theorem d2 : decode yB 2 = .ok (.arraylength, 1) := by decide +kernel
theorem d3 : decode yB 3 = .ok (.invokestatic 9, 3) := by decide +kernel
theorem d6 : decode yB 6 = .ok (.aload_n 0, 1) := by decide +kernel
theorem d7 : decode yB 7 = .ok (.iload_n 1, 1) := by decide +kernel
theorem d8 : decode yB 8 = .ok (.baload, 1) := by decide +kernel
theorem d9 : decode yB 9 = .ok (.sipush 255, 3) := by decide +kernel
theorem d12 : decode yB 12 = .ok (.iand, 1) := by decide +kernel
theorem d13 : decode yB 13 = .ok (.i2c, 1) := by decide +kernel
theorem d14 : decode yB 14 = .ok (.ireturn, 1) := by decide +kernel
def site : List Cond := [JO.Str_checkIndex.tab] ++ staticW "java/lang/StringLatin1" 9 JO.Str_checkIndex.yN
def tab : Cond := tabOf yN yB 2 (some .char) site
def P (t : Addr) (V : Cell) (i : Nat) (u : Int32) (fm : Value) (args : Array Value) (s : State) : Prop := args = #[.ref t, .int (Int32.ofNat i)] ∧ XT.Arr .byte t V s ∧ V.slots[i]? = some (.int u) ∧ (StaticIs s "jdk/internal/util/Preconditions" "SIOOBE_FORMATTER" "Ljava/util/function/BiFunction;" fm ∧ fm.isRef = true)
def E (u : Int32) (r : Option Value) (s w : State) : Prop := XT.PureE (some (.int (chr8 u))) r s w
theorem law (l : Launch) (t : Addr) (V : Cell) (i : Nat) (u : Int32) (fm : Value) : Law l yN 2 2 2 27 yB 2 (some .char) site (P t V i u fm) (E u) [] 0 0 := by
  refine Law.of_walk (plainFor_of_name (by decide +kernel)) (by decide +kernel) (by decide +kernel) (by decide) (fun _ _ h => by rw [h.1]; rfl) (fun _ U U' hal hh h => ⟨h.1, h.2.1.mv hal hh, h.2.2.1, h.2.2.2.1.there hal hh, h.2.2.2.2⟩) (fun r U U' V V' h1 hal h2 h => XT.PureE.mv r U U' V V' h1 hal h2 h) ?_
  intro p e s m args below meth c s₁ X0 hexec hbytes hml hret hlk hnm hown hh0 W hP
  obtain ⟨rfl, hV, hu, s1, rf⟩ := hP
  have v31 := hV.2.2.2
  have hi : i < V.slots.size := (Array.getElem?_eq_some_iff.mp hu).1
  have c1 : Steps p.tables e below (s₁.setTop (entryFrame m #[.ref t, .int (Int32.ofNat i)] 2)) (s₁.setTop (mkF m 0 #[.val (.ref t), .val (.int (Int32.ofNat i))] [])) := entry rfl
  have c2 : Steps p.tables e below (s₁.setTop (entryFrame m #[.ref t, .int (Int32.ofNat i)] 2)) (s₁.setTop (mkF m 3 #[.val (.ref t), .val (.int (Int32.ofNat i))] [.int (Int32.ofNat V.slots.size), .int (Int32.ofNat i)])) := c1.trans (by
    refine XS.iloadN X0.here hexec rfl (hb hbytes d0) rfl ?_
    refine XS.aloadN X0.here hexec rfl (hb hbytes d1) rfl rfl ?_
    refine X0.alen hexec (hV.mv X0.warmed.alike hh0) rfl rfl (hb hbytes d2) ?_
    exact Steps.refl _)
  obtain ⟨v3, T3, X3, E3, g3⟩ := X0.callS hexec (JO.Str_checkIndex.law l (Int32.ofNat i) (Int32.ofNat V.slots.size) fm) hown (wks W (staticW "java/lang/StringLatin1" 9 JO.Str_checkIndex.yN)) (wk W JO.Str_checkIndex.tab) (W := 0) (Nat.le_of_ble_eq_true rfl) (Nat.le_of_ble_eq_true rfl) (Nat.le_refl _) (Nat.le_refl _) (g := (mkF m 3 #[.val (.ref t), .val (.int (Int32.ofNat i))] [.int (Int32.ofNat V.slots.size), .int (Int32.ofNat i)])) rfl (by rw [hml]; rfl) c2 (argsL := [.int (Int32.ofNat i), .int (Int32.ofNat V.slots.size)]) (rest := []) rfl rfl (by show 2 * 0 + 0 ≤ _; decide) (hb hbytes d3) (⟨rfl, rf, s1.there X0.warmed.alike hh0, Int32.ofNat_not_neg (by omega), lt32 v31 hi⟩)
  obtain ⟨rfl, q3⟩ := E3
  have hh3 := q3.trans hh0
  have c4 : Steps p.tables e below (s₁.setTop (entryFrame m #[.ref t, .int (Int32.ofNat i)] 2)) (T3.setTop (mkF m 14 #[.val (.ref t), .val (.int (Int32.ofNat i))] [.int (chr8 u)])) := Steps.trans g3 (by
    refine XS.aloadN X3.here hexec rfl (hb hbytes d6) rfl rfl ?_
    refine XS.iloadN X3.here hexec rfl (hb hbytes d7) rfl ?_
    refine X3.aget hexec (hV.mv X3.warmed.alike hh3) rfl hu rfl rfl (hb hbytes d8) ?_
    refine sipushV X3.here hexec rfl 255 (hb hbytes d9) (by decide) ?_
    refine XS.iand X3.here hexec rfl (hb hbytes d12) rfl ?_
    refine i2c X3.here hexec rfl (hb hbytes d13) rfl ?_
    exact Steps.refl _)
  exact ⟨T3, some (.int (chr8 u)), _, _, _, X3, rfl, rfl, rfl, (fun h => by cases h), ⟨rfl, hh3⟩, fun fs hl => c4.trans (X3.ireturnOut hexec hret (narrow_c _) (Or.inr (Or.inr (Or.inr (Or.inl rfl)))) (hb hbytes d14) hl)⟩
end LChA
end StrChars
namespace StrChars.Road
open Jvm Sem ClassFile Op Lib Jvm.Stand Jvm.Free Jvm.Free.XT
open Jvm.Lib.Cold (StaticIs)
theorem consq {a : Array Value} {s : State} {c : Jvm.Cond} {L : List Jvm.Cond} (h0 : c.before a s = true) (h : ∀ w ∈ L, w.before a s = true) : ∀ w ∈ c :: L, w.before a s = true := fun w hw => (List.mem_cons.mp hw).elim (fun e => e ▸ h0) (h w)
/-- the words of String.length(), either coding -/
abbrev wordsLen : List Jvm.Cond := [.code Len.yN Len.yB 1 (some .int), .initialized ST, .fieldLink ST 9 ST "value" "[B", .fieldLink ST 38 ST "COMPACT_STRINGS" "Z", .fieldLink ST 15 ST "coder" "B", .code Cdr.yN Cdr.yB 1 (some .byte), .methodLink ST 335 Cdr.yN, .declares Cdr.yN, .selects ST Cdr.yN Cdr.yN, .instanceMethod Cdr.yN]
theorem tabLen_of {a : Array Value} {s : State} (h : ∀ w ∈ wordsLen, w.before a s = true) : Len.tab.before a s = true := by
  have hc : Cdr.tab.before a s = true := unparts (wk h (.code Cdr.yN Cdr.yB 1 (some .byte))) (wks h (.initialized Cdr.yN.cls :: Cdr.site))
  have q := consq hc h
  exact unparts (wk q (.code Len.yN Len.yB 1 (some .int))) (wks q (.initialized Len.yN.cls :: Len.site))
theorem movedLen {Z s : State} {a0 args : Array Value} (hZ : Z.Warmed39 s.vm) (hw : ∀ d ∈ wordsLen, d.before a0 Z = true) : ∀ d ∈ wordsLen, d.before args s = true := fun d hd => by
  have q := hw d hd
  have t : ∀ d ∈ wordsLen, d = .arrayClass .byte ∨ (d.onTables && d.keepsFace) = true := by decide +kernel
  rcases t d hd with rfl | t
  · exact RoadKit.mvA hZ q
  · exact RoadKit.mv hZ q t
/-- the bytes of the chars cs, low before high -/
def wideBytes : List Int32 → List Value
  | [] => []
  | c :: cs => .int (lo8 c) :: .int (hi8 c) :: wideBytes cs
theorem wide_lo (d : Value) : ∀ (cs : List Int32) (j : Nat), j < cs.length → (wideBytes cs).getD (2 * j) d = .int (lo8 (cs.getD j 0))
  | [], j, h => absurd h (Nat.not_lt_zero j)
  | c :: cs, 0, _ => rfl
  | c :: cs, j + 1, h => by
    have q := wide_lo d cs j (by simpa using h)
    rw [show 2 * (j + 1) = 2 * j + 1 + 1 from by omega]
    simpa [wideBytes] using q
theorem wide_hi (d : Value) : ∀ (cs : List Int32) (j : Nat), j < cs.length → (wideBytes cs).getD (2 * j + 1) d = .int (hi8 (cs.getD j 0))
  | [], j, h => absurd h (Nat.not_lt_zero j)
  | c :: cs, 0, _ => rfl
  | c :: cs, j + 1, h => by
    have q := wide_hi d cs j (by simpa using h)
    rw [show 2 * (j + 1) + 1 = 2 * j + 1 + 1 + 1 from by omega]
    simpa [wideBytes] using q
theorem low_at (d : Value) (cs : List Int32) (j : Nat) (h : j < cs.length) : (cs.map fun c => Value.int (lo8 c)).getD j d = .int (lo8 (cs.getD j 0)) := by
  simp [List.getD_eq_getElem?_getD, h]
/-- an array of N2 bytes vs codes the chars cs by the coder cd -/
def CodA (cs : List Int32) (cd N2 : Int32) (vs : List Value) : Prop := (cd = 0 ∧ N2 = Int32.ofNat cs.length ∧ vs = (cs.map fun c => Value.int (lo8 c)) ∧ ∀ c ∈ cs, ¬ 255 < c) ∨ (cd = 1 ∧ N2 = Int32.ofNat (2 * cs.length) ∧ vs = wideBytes cs ∧ ∃ c ∈ cs, 255 < c)
theorem CodA.cod {cs : List Int32} {cd N2 : Int32} {vs : List Value} {V : Cell} (h : CodA cs cd N2 vs) (hn : 2 * cs.length < 2 ^ 31) (hs : V.slots.size = N2.toNatClampNeg) (hv : RoadKit.Has V vs (.int 0)) : Cod cd cs.length (fun j => cs.getD j 0) V := by
  rcases h with ⟨rfl, rfl, rfl, h⟩ | ⟨rfl, rfl, rfl, c, hc, hw⟩
  · rw [n32 (by omega)] at hs
    exact Or.inl ⟨rfl, hs, fun j hj => ⟨by rw [hv j (by omega), low_at _ _ _ hj], by
      have e : cs.getD j 0 = cs[j] := by simp [List.getD_eq_getElem?_getD, hj]
      show ¬ 255 < cs.getD j 0
      rw [e]; exact h _ (List.getElem_mem _)⟩⟩
  · rw [n32 (by omega)] at hs
    obtain ⟨j, hj, rfl⟩ := List.getElem_of_mem hc
    exact Or.inr ⟨rfl, hs, fun j hj => ⟨by rw [hv _ (by omega), wide_lo _ _ _ hj], by rw [hv _ (by omega), wide_hi _ _ _ hj]⟩, j, hj, by
      have e : cs.getD j 0 = cs[j] := by simp [List.getD_eq_getElem?_getD, hj]
      show 255 < cs.getD j 0
      rw [e]; exact hw⟩
/-- an object of exactly java/lang/String, its two fields found: as the laws ask it -/
theorem strObj {Z U : State} {a0 : Array Value} {kI : Nat} (wi : (Jvm.Cond.instantiable ST kI).before a0 Z = true) (al : Z.vm.Alike U.vm) {x : Addr} {v0 c0 : Value} (E : RoadKit.Exa Z U.heap x ST) (V : RoadKit.Fld Z U.heap x ST "value" "[B" v0) (C : RoadKit.Fld Z U.heap x ST "coder" "B" c0) :
    ∃ (D : Cell) (fV fC : Field), Blank ST x D U ∧ Found ST "value" "[B" fV U ∧ Found ST "coder" "B" fC U ∧ D.slots[fV.slot]? = some v0 ∧ D.slots[fC.slot]? = some c0 ∧ RoadKit.slotOf Z ST "value" "[B" = fV.slot ∧ RoadKit.slotOf Z ST "coder" "B" = fC.slot := by
  obtain ⟨D, cfV, kV, iV, fV, hD, gV, stV, knV, obV, asV, slV⟩ := V
  obtain ⟨D', cfC, kC, iC, fC, hD', gC, stC, -, -, asC, slC⟩ := C
  cases hD.symm.trans hD'
  obtain ⟨D2, kD, e1, e2, e3, e4, e5⟩ := E
  cases hD.symm.trans e1
  obtain ⟨c2, k2, i1, i2, i3, -⟩ := Cond.instantiable_spec wi
  cases e2.symm.trans i1
  cases e3.symm.trans i2
  obtain ⟨kU, u1, u2⟩ := al.2.2 _ _ e3
  exact ⟨D, fV, fC, ⟨hD, ⟨knV, fun q hq => by rw [hq] at obV; cases obV⟩, by rw [al.findClass]; exact e2, kU, u1, by rw [u2]; exact i3, by rw [u2]; exact e5 i3⟩, ⟨SBG.found_only al ⟨cfV, kV, iV, gV⟩, stV⟩, ⟨SBG.found_only al ⟨cfC, kC, iC, gC⟩, stC⟩, slV, slC, by simp [RoadKit.slotOf, gV], by simp [RoadKit.slotOf, gC]⟩
theorem sta_is {Z U : State} (al : Z.vm.Alike U.vm) {C n d : String} {v : Value} (S : RoadKit.Sta Z U.heap C n d v) : StaticIs U C n d v := by
  obtain ⟨cfS, iS, kS, fS, st, cS, t1, t2, t3, t4, t5, t6, t7⟩ := S
  exact StaticIs.there (s := { Z with heap := U.heap }) ⟨cfS, iS, kS, fS, st, cS, t1, t2, t3, t4, t5, (fun q => by rw [q] at t6; cases t6), t7⟩ al rfl
/-- **length() OF SUCH A STRING** -/
theorem lenW {p : Program} {l : Launch} {e : Env} {R : Room} {s : State} {args : Array Value} {below : List Frame} {len W : Nat} {Z : State} {a0 : Array Value} {h : Heap} (hZ : Z.Warmed39 s.vm) (hw : ∀ d ∈ wordsLen, d.before a0 Z = true) {kI : Nat} (wi : (Jvm.Cond.instantiable ST kI).before a0 Z = true)
    {x t : Addr} {kb : ClassId} {cs : List Int32} {cd N2 z : Int32} {vs : List Value} (E : RoadKit.Exa Z h x ST) (V : RoadKit.Fld Z h x ST "value" "[B" (.ref t)) (C : RoadKit.Fld Z h x ST "coder" "B" (.int cd)) (K : RoadKit.Arv Z h t kb .byte N2 vs (.int 0)) (hc : CodA cs cd N2 vs) (hb : ∀ c ∈ cs, ¬ c < 0 ∧ ¬ (65535 : Int32) < c)
    (S : RoadKit.Sta Z h ST "COMPACT_STRINGS" "Z" (.int z)) (hz : ¬ z = 0) (l2 : cs.length ≤ 4000) (hfr : 2 ≤ R.frames) (hlo : W + 25 ≤ R.locals) :
    Back l R p e below s args (⟨"java/lang/String", "length", "()I"⟩ : MethodName) len W (fun P a => a = #[.ref x] ∧ P.U.heap = h ∧ P.cells + 0 ≤ R.cells ∧ P.slots + 0 ≤ R.slots)
      (fun P _ v B => ∃ L, (v = some (.int (Int32.ofNat cs.length)) ∧ L = [] ∧ B.U.heap = h) ∧ B.locs = P.locs ++ L ∧ B.cells = P.cells + 0 ∧ B.slots = P.slots + 0) := by
  obtain ⟨A, K1, K2, K3, K4, K5, K6⟩ := K
  have hcod := hc.cod (by omega) K3 K5
  intro m meth c P g ig mk a X hg hsize hdg hW hn hp'
  obtain ⟨rfl, rfl, r1, r2⟩ := hp'
  have al : Z.vm.Alike P.U.vm := hZ.alike.trans X.warmed.alike
  obtain ⟨D, fV, fC, hB, F1, F2, g1, g2, -, -⟩ := strObj wi al E V C
  have hx : Txt x t A cd cs.length (fun j => cs.getD j 0) P.U := ⟨⟨_, hB.2.2.1, D, hB.1, rfl, by cases q : D.vm <;> first | rfl | exact absurd q (hB.2.1.2 _)⟩, Has.of hB F1 g1, Has.of hB F2 g2, ⟨K1.1, State.isArrayOf_alike al K1.2.1, K1.2.2, by rcases hcod with ⟨-, q, -⟩ | ⟨-, q, -⟩ <;> omega⟩, hcod, fun j hj => by
    have e : cs.getD j 0 = cs[j] := by simp [List.getD_eq_getElem?_getD, hj]
    show ¬ cs.getD j 0 < 0 ∧ ¬ 65535 < cs.getD j 0
    rw [e]; exact hb _ (List.getElem_mem _)⟩
  obtain ⟨v, B, X', ⟨⟨hv, hh⟩, hl, hk, hs⟩, st⟩ := Len.pays x t A cd cs.length (fun j => cs.getD j 0) z (tabLen_of (movedLen hZ hw)) hfr hlo m meth c P g ig mk _ X hg hsize hdg hW hn ⟨r1, r2, rfl, hx, sta_is al S, hz⟩
  exact ⟨v, B, X', ⟨[], ⟨hv, rfl, hh⟩, hl, hk, hs⟩, st⟩
end StrChars.Road
namespace StrChars
open Jvm Sem ClassFile Op Lib Jvm.Stand Jvm.Free.XT Jvm.Free.ALB Jvm.Free.JM Jvm.Free
open Jvm.Lib.Cold (StaticIs)
/-- what place i of a byte[]'s cell holds -/
def yv (A : Cell) (i : Nat) : Int32 := match A.slots[i]? with | some (.int x) => x | _ => 0
theorem yv_get {a : Addr} {A : Cell} {U : State} (h : XT.Arr .byte a A U) (ht : Typed .byte A) {i : Nat} (hi : i < A.slots.size) : A.slots[i]? = some (.int (yv A i)) := by
  have e := Array.getElem?_eq_getElem hi
  have f := ht i _ e
  unfold yv; rw [e]
  generalize A.slots[i] = v at f
  cases v <;> simp [fits] at f ⊢
/-- the two arrays are equal, place for place -/
def EqC (A B : Cell) : Prop := A.slots.size = B.slots.size ∧ ∀ i, i < A.slots.size → yv A i = yv B i
/-- a boolean that says whether p -/
def Says01 (q : Prop) (r : Option Value) (s u : State) : Prop := ∃ v : Int32, r = some (.int v) ∧ u.heap = s.heap ∧ ((v = 1 ∧ q) ∨ (v = 0 ∧ ¬ q))
theorem Says01.mv {q : Prop} : ∀ r (U U' V V' : State), U'.heap = U.heap → V.vm.Alike V'.vm → V'.heap = V.heap → Says01 q r U V → Says01 q r U' V' :=
  fun r U U' V V' h1 _ h2 ⟨v, a, b, c⟩ => ⟨v, a, by rw [h1, h2]; exact b, c⟩
namespace LEq
def yN : MethodName := ⟨"java/lang/StringLatin1", "equals", "([B[B)Z"⟩
abbrev yB : ByteArray := jdk_43_method_13_code
theorem d0 : decode yB 0 = .ok (.aload_n 0, 1) := by decide +kernel
theorem d1 : decode yB 1 = .ok (.arraylength, 1) := by decide +kernel
theorem d2 : decode yB 2 = .ok (.aload_n 1, 1) := by decide +kernel
theorem d3 : decode yB 3 = .ok (.arraylength, 1) := by decide +kernel
theorem d4 : decode yB 4 = .ok (.if_icmp (.ne) 30, 3) := by decide +kernel
theorem d7 : decode yB 7 = .ok (.iconst 0, 1) := by decide +kernel
theorem d8 : decode yB 8 = .ok (.istore_n 2, 1) := by decide +kernel
theorem d9 : decode yB 9 = .ok (.iload_n 2, 1) := by decide +kernel
theorem d10 : decode yB 10 = .ok (.aload_n 0, 1) := by decide +kernel
theorem d11 : decode yB 11 = .ok (.arraylength, 1) := by decide +kernel
theorem d12 : decode yB 12 = .ok (.if_icmp (.ge) 20, 3) := by decide +kernel
theorem d15 : decode yB 15 = .ok (.aload_n 0, 1) := by decide +kernel
theorem d16 : decode yB 16 = .ok (.iload_n 2, 1) := by decide +kernel
theorem d17 : decode yB 17 = .ok (.baload, 1) := by decide +kernel
theorem d18 : decode yB 18 = .ok (.aload_n 1, 1) := by decide +kernel
theorem d19 : decode yB 19 = .ok (.iload_n 2, 1) := by decide +kernel
theorem d20 : decode yB 20 = .ok (.baload, 1) := by decide +kernel
theorem d21 : decode yB 21 = .ok (.if_icmp (.eq) 5, 3) := by decide +kernel
theorem d24 : decode yB 24 = .ok (.iconst 0, 1) := by decide +kernel
theorem d25 : decode yB 25 = .ok (.ireturn, 1) := by decide +kernel
theorem d26 : decode yB 26 = .ok (.iinc 2 1, 3) := by decide +kernel
theorem d29 : decode yB 29 = .ok (.goto (-20), 3) := by decide +kernel
theorem d32 : decode yB 32 = .ok (.iconst 1, 1) := by decide +kernel
theorem d33 : decode yB 33 = .ok (.ireturn, 1) := by decide +kernel
theorem d34 : decode yB 34 = .ok (.iconst 0, 1) := by decide +kernel
theorem d35 : decode yB 35 = .ok (.ireturn, 1) := by decide +kernel
def site : List Cond := []
def tab : Cond := tabOf yN yB 3 (some .boolean) site
def P (a : Addr) (A : Cell) (b : Addr) (B : Cell) (args : Array Value) (s : State) : Prop := args = #[.ref a, .ref b] ∧ XT.Arr .byte a A s ∧ Typed .byte A ∧ XT.Arr .byte b B s ∧ Typed .byte B
/-- whether two byte[] are equal, place for place -/
theorem law (l : Launch) (a : Addr) (A : Cell) (b : Addr) (B : Cell) : Law l yN 2 2 0 0 yB 3 (some .boolean) site (P a A b B) (Says01 (EqC A B)) [] 0 0 := by
  refine Law.of_walk (plainFor_of_name (by decide +kernel)) (by decide +kernel) (by decide +kernel) (by decide) (fun _ _ h => by rw [h.1]; rfl) (fun _ U U' hal hh h => ⟨h.1, h.2.1.mv hal hh, h.2.2.1, h.2.2.2.1.mv hal hh, h.2.2.2.2⟩) (fun r U U' V V' h1 hal h2 h => Says01.mv r U U' V V' h1 hal h2 h) ?_
  intro p e s m args below meth c s₁ X0 hexec hbytes hml hret hlk hnm hown hh0 W hP
  obtain ⟨rfl, hA, tA, hB, tB⟩ := hP
  have a31 := hA.2.2.2
  have b31 := hB.2.2.2
  have hA0 := hA.mv X0.warmed.alike hh0
  have hB0 := hB.mv X0.warmed.alike hh0
  have c1 : Steps p.tables e below (s₁.setTop (entryFrame m #[.ref a, .ref b] 3)) (s₁.setTop (mkF m 0 #[.val (.ref a), .val (.ref b), .unset] [])) := entry rfl
  have c2 : Steps p.tables e below (s₁.setTop (entryFrame m #[.ref a, .ref b] 3)) (s₁.setTop (mkF m 4 #[.val (.ref a), .val (.ref b), .unset] [.int (Int32.ofNat B.slots.size), .int (Int32.ofNat A.slots.size)])) := c1.trans (by
    refine XS.aloadN X0.here hexec rfl (hb hbytes d0) rfl rfl ?_
    refine X0.alen hexec hA0 rfl rfl (hb hbytes d1) ?_
    refine XS.aloadN X0.here hexec rfl (hb hbytes d2) rfl rfl ?_
    refine X0.alen hexec hB0 rfl rfl (hb hbytes d3) ?_
    exact Steps.refl _)
  by_cases hs : A.slots.size = B.slots.size
  · have c3 : Steps p.tables e below (s₁.setTop (entryFrame m #[.ref a, .ref b] 3)) (s₁.setTop (mkF m 9 #[.val (.ref a), .val (.ref b), .val (.int 0)] [])) := c2.trans (by
      refine XS.icmpNo X0.here hexec rfl (hb hbytes d4) rfl (ii_ne_f (by rw [hs])) ?_
      refine iconstV X0.here hexec rfl 0 (hb hbytes d7) (by decide) ?_
      refine XS.istoreN X0.here hexec rfl (hb hbytes d8) rfl rfl ?_
      exact Steps.refl _)
    have loop : ∀ (r i : Nat), i + r = A.slots.size → (∀ j, j < i → yv A j = yv B j) → Steps p.tables e below (s₁.setTop (entryFrame m #[.ref a, .ref b] 3)) (s₁.setTop (mkF m 9 #[.val (.ref a), .val (.ref b), .val (.int (Int32.ofNat i))] [])) → ∃ (pc : Nat) (Ls : Array Slot) (v : Int32), (pc = 25 ∨ pc = 33) ∧ ((v = 1 ∧ EqC A B) ∨ (v = 0 ∧ ¬ EqC A B)) ∧ Steps p.tables e below (s₁.setTop (entryFrame m #[.ref a, .ref b] 3)) (s₁.setTop (mkF m pc Ls [.int v])) := by
      intro r
      induction r with
      | zero =>
        intro i hi he cl
        exact ⟨33, _, 1, Or.inr rfl, Or.inl ⟨rfl, hs, fun j hj => he j (by omega)⟩, cl.trans (by
          refine XS.iloadN X0.here hexec rfl (hb hbytes d9) rfl ?_
          refine XS.aloadN X0.here hexec rfl (hb hbytes d10) rfl rfl ?_
          refine X0.alen hexec hA0 rfl rfl (hb hbytes d11) ?_
          refine XS.icmpYes X0.here hexec rfl (pc0 := 12) rfl (hb hbytes d12) rfl (ii_ge_t (nlt32 (by omega) (by omega))) (by decide) rfl ?_
          refine iconstV X0.here hexec rfl 1 (hb hbytes d32) (by decide) ?_
          exact Steps.refl _)⟩
      | succ r ih =>
        intro i hi he cl
        have c4 : Steps p.tables e below (s₁.setTop (entryFrame m #[.ref a, .ref b] 3)) (s₁.setTop (mkF m 21 #[.val (.ref a), .val (.ref b), .val (.int (Int32.ofNat i))] [.int (yv B i), .int (yv A i)])) := cl.trans (by
          refine XS.iloadN X0.here hexec rfl (hb hbytes d9) rfl ?_
          refine XS.aloadN X0.here hexec rfl (hb hbytes d10) rfl rfl ?_
          refine X0.alen hexec hA0 rfl rfl (hb hbytes d11) ?_
          refine XS.icmpNo X0.here hexec rfl (hb hbytes d12) rfl (ii_ge_f (lt32 (by omega) (by omega))) ?_
          refine XS.aloadN X0.here hexec rfl (hb hbytes d15) rfl rfl ?_
          refine XS.iloadN X0.here hexec rfl (hb hbytes d16) rfl ?_
          refine X0.aget hexec hA0 rfl (yv_get hA tA (i := i) (by omega)) rfl rfl (hb hbytes d17) ?_
          refine XS.aloadN X0.here hexec rfl (hb hbytes d18) rfl rfl ?_
          refine XS.iloadN X0.here hexec rfl (hb hbytes d19) rfl ?_
          refine X0.aget hexec hB0 rfl (yv_get hB tB (i := i) (by omega)) rfl rfl (hb hbytes d20) ?_
          exact Steps.refl _)
        by_cases hv : yv A i = yv B i
        · have c5 : Steps p.tables e below (s₁.setTop (entryFrame m #[.ref a, .ref b] 3)) (s₁.setTop (mkF m 9 #[.val (.ref a), .val (.ref b), .val (.int (Int32.ofNat i + 1))] [])) := c4.trans (by
            refine XS.icmpYes X0.here hexec rfl (pc0 := 21) rfl (hb hbytes d21) rfl (ii_eq_t hv) (by decide) rfl ?_
            refine iincV X0.here hexec rfl 1 (hb hbytes d26) (by decide) rfl rfl ?_
            refine XS.goto X0.here hexec rfl (pc0 := 29) rfl (hb hbytes d29) (by decide) rfl ?_
            exact Steps.refl _)
          rw [succ32] at c5
          exact ih (i + 1) (by omega) (fun j hj => by
            by_cases e : j = i
            · rw [e]; exact hv
            · exact he j (by omega)) c5
        · exact ⟨25, _, 0, Or.inl rfl, Or.inr ⟨rfl, fun q => hv (q.2 i (by omega))⟩, c4.trans (by
            refine XS.icmpNo X0.here hexec rfl (hb hbytes d21) rfl (ii_eq_f hv) ?_
            refine iconstV X0.here hexec rfl 0 (hb hbytes d24) (by decide) ?_
            exact Steps.refl _)⟩
    obtain ⟨pc, Ls, v, hpc, hv, cz⟩ := loop A.slots.size 0 (by omega) (fun j hj => absurd hj (Nat.not_lt_zero j)) c3
    have nv : narrow .boolean (.int v) = .int v := by rcases hv with ⟨rfl, -⟩ | ⟨rfl, -⟩ <;> rfl
    rcases hpc with rfl | rfl
    · exact ⟨s₁, some (.int v), _, _, _, X0, rfl, rfl, rfl, (fun h => by cases h), ⟨v, rfl, hh0, hv⟩, fun fs hl => cz.trans (X0.ireturnOut hexec hret nv (Or.inr (Or.inl rfl)) (hb hbytes d25) hl)⟩
    · exact ⟨s₁, some (.int v), _, _, _, X0, rfl, rfl, rfl, (fun h => by cases h), ⟨v, rfl, hh0, hv⟩, fun fs hl => cz.trans (X0.ireturnOut hexec hret nv (Or.inr (Or.inl rfl)) (hb hbytes d33) hl)⟩
  · have c3 : Steps p.tables e below (s₁.setTop (entryFrame m #[.ref a, .ref b] 3)) (s₁.setTop (mkF m 35 #[.val (.ref a), .val (.ref b), .unset] [.int 0])) := c2.trans (by
      refine XS.icmpYes X0.here hexec rfl (pc0 := 4) rfl (hb hbytes d4) rfl (ii_ne_t (ne32 a31 b31 hs)) (by decide) rfl ?_
      refine iconstV X0.here hexec rfl 0 (hb hbytes d34) (by decide) ?_
      exact Steps.refl _)
    exact ⟨s₁, some (.int 0), _, _, _, X0, rfl, rfl, rfl, (fun h => by cases h), ⟨0, rfl, hh0, Or.inr ⟨rfl, fun q => hs q.1⟩⟩, fun fs hl => c3.trans (X0.ireturnOut hexec hret rfl (Or.inr (Or.inl rfl)) (hb hbytes d35) hl)⟩
end LEq
theorem Cod.ty {cd : Int32} {n : Nat} {f : Nat → Int32} {V : Cell} (h : Cod cd n f V) : Typed .byte V := fun i v hv => by
  have hi : i < V.slots.size := (Array.getElem?_eq_some_iff.mp hv).1
  rcases h with ⟨-, k1, k2⟩ | ⟨-, k1, k2, -⟩
  · rw [(k2 i (by omega)).1] at hv; cases hv; exact fits_lo8 _
  · rcases Nat.mod_two_eq_zero_or_one i with e | e
    · obtain ⟨j, rfl⟩ : ∃ j, i = 2 * j := ⟨i / 2, by omega⟩
      rw [(k2 j (by omega)).1] at hv; cases hv; exact fits_lo8 _
    · obtain ⟨j, rfl⟩ : ∃ j, i = 2 * j + 1 := ⟨i / 2, by omega⟩
      rw [(k2 j (by omega)).2] at hv; cases hv; exact fits_lo8 _
/-- the same text -/
def SameT (n : Nat) (f : Nat → Int32) (k : Nat) (g : Nat → Int32) : Prop := n = k ∧ ∀ j, j < n → f j = g j
theorem lo8_inj {x y : Int32} (h0 : ¬ x < 0) (h1 : ¬ 255 < x) (k0 : ¬ y < 0) (k1 : ¬ 255 < y) (h : lo8 x = lo8 y) : x = y := by
  rw [← lo8_mask h0 h1, ← lo8_mask k0 k1, h]
/-- arrays coded by one coder are equal just where the texts are -/
theorem Cod.eqv {cd : Int32} {n k : Nat} {f g : Nat → Int32} {V V' : Cell} (h : Cod cd n f V) (h' : Cod cd k g V') (hf : ∀ j, j < n → ¬ f j < 0 ∧ ¬ 65535 < f j) (hg : ∀ j, j < k → ¬ g j < 0 ∧ ¬ 65535 < g j) : EqC V V' ↔ SameT n f k g := by
  have yvv : ∀ {W : Cell} {i : Nat} {x : Int32}, W.slots[i]? = some (.int x) → yv W i = x := fun q => by unfold yv; rw [q]
  rcases h with ⟨rfl, k1, k2⟩ | ⟨rfl, k1, k2, -⟩
  · rcases h' with ⟨-, m1, m2⟩ | ⟨e, -⟩
    · constructor
      · rintro ⟨e1, e2⟩
        refine ⟨by omega, fun j hj => ?_⟩
        have q := e2 j (by omega)
        rw [yvv (k2 j hj).1, yvv (m2 j (by omega)).1] at q
        exact lo8_inj (hf j hj).1 (k2 j hj).2 (hg j (by omega)).1 (m2 j (by omega)).2 q
      · rintro ⟨rfl, e2⟩
        refine ⟨by omega, fun j hj => ?_⟩
        rw [yvv (k2 j (by omega)).1, yvv (m2 j (by omega)).1, e2 j (by omega)]
    · exact absurd e (by decide)
  · rcases h' with ⟨e, -⟩ | ⟨-, m1, m2, -⟩
    · exact absurd e (by decide)
    · constructor
      · rintro ⟨e1, e2⟩
        refine ⟨by omega, fun j hj => ?_⟩
        have q1 := e2 (2 * j) (by omega)
        have q2 := e2 (2 * j + 1) (by omega)
        rw [yvv (k2 j hj).1, yvv (m2 j (by omega)).1] at q1
        rw [yvv (k2 j hj).2, yvv (m2 j (by omega)).2] at q2
        rw [← pair_says (hf j hj).1 (hf j hj).2, ← pair_says (hg j (by omega)).1 (hg j (by omega)).2, q1, q2]
      · rintro ⟨rfl, e2⟩
        refine ⟨by omega, fun i hi => ?_⟩
        rcases Nat.mod_two_eq_zero_or_one i with e | e
        · obtain ⟨j, rfl⟩ : ∃ j, i = 2 * j := ⟨i / 2, by omega⟩
          rw [yvv (k2 j (by omega)).1, yvv (m2 j (by omega)).1, e2 j (by omega)]
        · obtain ⟨j, rfl⟩ : ∃ j, i = 2 * j + 1 := ⟨i / 2, by omega⟩
          rw [yvv (k2 j (by omega)).2, yvv (m2 j (by omega)).2, e2 j (by omega)]
/-- two codings differ: so do the texts -/
theorem Cod.dif {cd cd' : Int32} {n k : Nat} {f g : Nat → Int32} {V V' : Cell} (h : Cod cd n f V) (h' : Cod cd' k g V') (hne : ¬ cd = cd') : ¬ SameT n f k g := by
  rintro ⟨rfl, e⟩
  rcases h with ⟨rfl, -, k2⟩ | ⟨rfl, -, -, j, hj, hw⟩
  · rcases h' with ⟨rfl, -⟩ | ⟨-, -, -, j, hj, hw⟩
    · exact hne rfl
    · exact (k2 j hj).2 (by rw [e j hj]; exact hw)
  · rcases h' with ⟨-, -, m2⟩ | ⟨rfl, -⟩
    · exact (m2 j hj).2 (by rw [← e j hj]; exact hw)
    · exact hne rfl
/-- an object of exactly C is an instance of C -/
theorem cinst {p : Program} {l : Launch} {e : Env} {R : Room} {s : State} {m : MethodId} {args : Array Value} {below : List Frame} {meth : Method} {c : Code} {T : State} {locs : List Loc} {cells slots : Nat} (X : Stand p l e R s m args below meth c T locs cells slots) (hexec : p.tables.exec = Jvm.exec) {own C : String} {index : Nat} (hown : s.vm.findClass own = some m.cls) (hlink : (Cond.classLink own index C).before args s = true) {a : Addr} (hE : Exact C a T)
    {g : JFrame} (hg : g.method = m) {rest : List Value} (hstack : g.stack = .ref a :: rest) (hdg : decode c.code g.pc = .ok (.instanceof index, 3)) :
    ∃ T', Stand p l e R s m args below meth c T' locs cells slots ∧ T'.heap = T.heap ∧ ∀ target, Steps p.tables e below (T'.setTop { g with pc := g.pc + 3, stack := .int 1 :: rest }) target → Steps p.tables e below (T.setTop g) target := by
  obtain ⟨cB, h1, D, h2, h3, h4⟩ := hE
  have h1' : s.vm.findClass C = some cB := by rw [← X.warmed.alike.findClass]; exact h1
  obtain ⟨vm', X', st⟩ := X.instanceofYes hexec hown hlink h2 h4 h1' (by rw [h3]; exact Jvm.Free.SB.assignable_self _ _) hg hstack hdg
  exact ⟨_, X', rfl, st⟩
theorem cself {p : Program} {l : Launch} {e : Env} {R : Room} {s : State} {m : MethodId} {args : Array Value} {below : List Frame} {meth : Method} {c : Code} {T : State} {locs : List Loc} {cells slots : Nat} (X : Stand p l e R s m args below meth c T locs cells slots) (hexec : p.tables.exec = Jvm.exec) {own C : String} {index : Nat} (hown : s.vm.findClass own = some m.cls) (hlink : (Cond.classLink own index C).before args s = true) {a : Addr} (hE : Exact C a T)
    {g : JFrame} (hg : g.method = m) {rest : List Value} (hstack : g.stack = .ref a :: rest) (hdg : decode c.code g.pc = .ok (.checkcast index, 3)) :
    ∃ T', Stand p l e R s m args below meth c T' locs cells slots ∧ T'.heap = T.heap ∧ ∀ target, Steps p.tables e below (T'.setTop { g with pc := g.pc + 3, stack := .ref a :: rest }) target → Steps p.tables e below (T.setTop g) target := by
  obtain ⟨cB, h1, D, h2, h3, h4⟩ := hE
  have h1' : s.vm.findClass C = some cB := by rw [← X.warmed.alike.findClass]; exact h1
  obtain ⟨vm', X', st⟩ := X.checkcastYes hexec hown hlink h2 h4 h1' (by rw [h3]; exact Jvm.Free.SB.assignable_self _ _) hg hstack hdg
  exact ⟨_, X', rfl, fun t h => st t (by rw [← hstack] at h; exact h)⟩
namespace SEq
def yN : MethodName := ⟨"java/lang/String", "equals", "(Ljava/lang/Object;)Z"⟩
abbrev yB : ByteArray := jdk_42_method_66_code
theorem d0 : decode yB 0 = .ok (.aload_n 0, 1) := by decide +kernel
theorem d1 : decode yB 1 = .ok (.aload_n 1, 1) := by decide +kernel
theorem d2 : decode yB 2 = .ok (.if_acmp (.ne) 5, 3) := by decide +kernel
theorem d5 : decode yB 5 = .ok (.iconst 1, 1) := by decide +kernel
theorem d6 : decode yB 6 = .ok (.ireturn, 1) := by decide +kernel
theorem d7 : decode yB 7 = .ok (.aload_n 1, 1) := by decide +kernel
theorem d8 : decode yB 8 = .ok (.instanceof 10, 3) := by decide +kernel
theorem d11 : decode yB 11 = .ok (.ifCond (.eq) 43, 3) := by decide +kernel
theorem d14 : decode yB 14 = .ok (.aload_n 1, 1) := by decide +kernel
theorem d15 : decode yB 15 = .ok (.checkcast 10, 3) := by decide +kernel
theorem d18 : decode yB 18 = .ok (.astore_n 2, 1) := by decide +kernel
theorem d19 : decode yB 19 = .ok (.getstatic 38, 3) := by decide +kernel
theorem d22 : decode yB 22 = .ok (.ifCond (.eq) 14, 3) := by decide +kernel
theorem d25 : decode yB 25 = .ok (.aload_n 0, 1) := by decide +kernel
theorem d26 : decode yB 26 = .ok (.getfield 15, 3) := by decide +kernel
theorem d29 : decode yB 29 = .ok (.aload_n 2, 1) := by decide +kernel
theorem d30 : decode yB 30 = .ok (.getfield 15, 3) := by decide +kernel
theorem d33 : decode yB 33 = .ok (.if_icmp (.ne) 21, 3) := by decide +kernel
theorem d36 : decode yB 36 = .ok (.aload_n 0, 1) := by decide +kernel
theorem d37 : decode yB 37 = .ok (.getfield 9, 3) := by decide +kernel
theorem d40 : decode yB 40 = .ok (.aload_n 2, 1) := by decide +kernel
theorem d41 : decode yB 41 = .ok (.getfield 9, 3) := by decide +kernel
theorem d44 : decode yB 44 = .ok (.invokestatic 541, 3) := by decide +kernel
theorem d47 : decode yB 47 = .ok (.ifCond (.eq) 7, 3) := by decide +kernel
theorem d50 : decode yB 50 = .ok (.iconst 1, 1) := by decide +kernel
theorem d51 : decode yB 51 = .ok (.goto 4, 3) := by decide +kernel
theorem d54 : decode yB 54 = .ok (.iconst 0, 1) := by decide +kernel
theorem d55 : decode yB 55 = .ok (.ireturn, 1) := by decide +kernel
def site : List Cond := [.classLink "java/lang/String" 10 "java/lang/String", .fieldLink "java/lang/String" 38 "java/lang/String" "COMPACT_STRINGS" "Z", .fieldLink "java/lang/String" 15 "java/lang/String" "coder" "B", .fieldLink "java/lang/String" 9 "java/lang/String" "value" "[B", LEq.tab] ++ staticW "java/lang/String" 541 LEq.yN
def tab : Cond := tabOf yN yB 3 (some .boolean) site
def P (x t : Addr) (V : Cell) (cd : Int32) (n : Nat) (f : Nat → Int32) (y t' : Addr) (V' : Cell) (cd' : Int32) (k : Nat) (g : Nat → Int32) (z : Int32) (args : Array Value) (s : State) : Prop := args = #[.ref x, .ref y] ∧ Txt x t V cd n f s ∧ Txt y t' V' cd' k g s ∧ StaticIs s "java/lang/String" "COMPACT_STRINGS" "Z" (.int z) ∧ ¬ z = 0
/-- equals(Object) of two Strings: whether the texts are the same -/
theorem law (l : Launch) (x t : Addr) (V : Cell) (cd : Int32) (n : Nat) (f : Nat → Int32) (y t' : Addr) (V' : Cell) (cd' : Int32) (k : Nat) (g : Nat → Int32) (z : Int32) : Law l yN 2 1 1 14 yB 3 (some .boolean) site (P x t V cd n f y t' V' cd' k g z) (Says01 (SameT n f k g)) [] 0 0 := by
  refine Law.of_walk (plainFor_of_name (by decide +kernel)) (by decide +kernel) (by decide +kernel) (by decide) (fun _ _ h => by rw [h.1]; rfl) (fun _ U U' hal hh h => ⟨h.1, h.2.1.mv hal hh, h.2.2.1.mv hal hh, h.2.2.2.1.there hal hh, h.2.2.2.2⟩) (fun r U U' V V' h1 hal h2 h => Says01.mv r U U' V V' h1 hal h2 h) ?_
  intro p e s m args below meth c s₁ X0 hexec hbytes hml hret hlk hnm hown hh0 W hP
  obtain ⟨rfl, hx, hy, s1, hz⟩ := hP
  have c1 : Steps p.tables e below (s₁.setTop (entryFrame m #[.ref x, .ref y] 3)) (s₁.setTop (mkF m 2 #[.val (.ref x), .val (.ref y), .unset] [.ref y, .ref x])) := Steps.trans (entry rfl) (by
    show Steps p.tables e below (s₁.setTop (mkF m 0 #[.val (.ref x), .val (.ref y), .unset] [])) _
    refine XS.aloadN X0.here hexec rfl (hb hbytes d0) rfl rfl ?_
    refine XS.aloadN X0.here hexec rfl (hb hbytes d1) rfl rfl ?_
    exact Steps.refl _)
  by_cases hxy : x = y
  · have c2 : Steps p.tables e below (s₁.setTop (entryFrame m #[.ref x, .ref y] 3)) (s₁.setTop (mkF m 6 #[.val (.ref x), .val (.ref y), .unset] [.int 1])) := c1.trans (by
      refine acmpNo X0.here hexec rfl (hb hbytes d2) rfl rfl rfl (by simp [acmp, hxy]) ?_
      refine iconstV X0.here hexec rfl 1 (hb hbytes d5) (by decide) ?_
      exact Steps.refl _)
    subst hxy
    have ec : cd = cd' := by
      obtain ⟨D, fd, a1, a2, a3⟩ := hx.2.2.1
      obtain ⟨D', fd', b1, b2, b3⟩ := hy.2.2.1
      cases a1.symm.trans b1
      obtain ⟨q1, q2, q3, q4⟩ := a2.1
      obtain ⟨r1, r2, r3, r4⟩ := b2.1
      cases q4.symm.trans r4
      cases a3.symm.trans b3; rfl
    have et : t = t' := by
      obtain ⟨D, fd, a1, a2, a3⟩ := hx.2.1
      obtain ⟨D', fd', b1, b2, b3⟩ := hy.2.1
      cases a1.symm.trans b1
      obtain ⟨q1, q2, q3, q4⟩ := a2.1
      obtain ⟨r1, r2, r3, r4⟩ := b2.1
      cases q4.symm.trans r4
      cases a3.symm.trans b3; rfl
    subst ec et
    have ev : V = V' := by cases hx.2.2.2.1.1.symm.trans hy.2.2.2.1.1; rfl
    subst ev
    have hs : SameT n f k g := (Cod.eqv hx.2.2.2.2.1 hy.2.2.2.2.1 hx.2.2.2.2.2 hy.2.2.2.2.2).mp ⟨rfl, fun _ _ => rfl⟩
    exact ⟨s₁, some (.int 1), _, _, _, X0, rfl, rfl, rfl, (fun h => by cases h), ⟨1, rfl, hh0, Or.inl ⟨rfl, hs⟩⟩, fun fs hl => c2.trans (X0.ireturnOut hexec hret rfl (Or.inr (Or.inl rfl)) (hb hbytes d6) hl)⟩
  · have c2 : Steps p.tables e below (s₁.setTop (entryFrame m #[.ref x, .ref y] 3)) (s₁.setTop (mkF m 8 #[.val (.ref x), .val (.ref y), .unset] [.ref y])) := c1.trans (by
      refine acmpYes X0.here hexec rfl (pc0 := 2) rfl (hb hbytes d2) rfl rfl rfl (by simp [acmp, hxy]) (by decide) rfl ?_
      refine XS.aloadN X0.here hexec rfl (hb hbytes d7) rfl rfl ?_
      exact Steps.refl _)
    obtain ⟨T3, X3, q3, st3⟩ := cinst X0 hexec hown (wk W (.classLink "java/lang/String" 10 "java/lang/String")) (hy.mv X0.warmed.alike hh0).1 (g := (mkF m 8 #[.val (.ref x), .val (.ref y), .unset] [.ref y])) rfl (rest := []) rfl (hb hbytes d8)
    have hh3 := q3.trans hh0
    have c4 : Steps p.tables e below (s₁.setTop (entryFrame m #[.ref x, .ref y] 3)) (T3.setTop (mkF m 15 #[.val (.ref x), .val (.ref y), .unset] [.ref y])) := (c2.trans (st3 _ (Steps.refl _))).trans (by
      refine XS.ifNo X3.here hexec rfl (hb hbytes d11) rfl (i0_eq_f (by decide)) ?_
      refine XS.aloadN X3.here hexec rfl (hb hbytes d14) rfl rfl ?_
      exact Steps.refl _)
    obtain ⟨T5, X5, q5, st5⟩ := cself X3 hexec hown (wk W (.classLink "java/lang/String" 10 "java/lang/String")) (hy.mv X3.warmed.alike hh3).1 (g := (mkF m 15 #[.val (.ref x), .val (.ref y), .unset] [.ref y])) rfl (rest := []) rfl (hb hbytes d15)
    have hh5 := q5.trans hh3
    have c6 : Steps p.tables e below (s₁.setTop (entryFrame m #[.ref x, .ref y] 3)) (T5.setTop (mkF m 19 #[.val (.ref x), .val (.ref y), .val (.ref y)] [])) := (c4.trans (st5 _ (Steps.refl _))).trans (by
      refine XS.astoreN X5.here hexec rfl (hb hbytes d18) rfl rfl rfl ?_
      exact Steps.refl _)
    obtain ⟨T7, X7, q7, st7⟩ := X5.sget hexec hown (wk W (.fieldLink "java/lang/String" 38 "java/lang/String" "COMPACT_STRINGS" "Z")) s1 (fun _ _ h => by rw [hh5]; exact h) (g := (mkF m 19 #[.val (.ref x), .val (.ref y), .val (.ref y)] [])) rfl (hb hbytes d19)
    have hh7 := q7.trans hh5
    have c8 : Steps p.tables e below (s₁.setTop (entryFrame m #[.ref x, .ref y] 3)) (T7.setTop (mkF m 26 #[.val (.ref x), .val (.ref y), .val (.ref y)] [.ref x])) := (c6.trans (st7 _ (Steps.refl _))).trans (by
      refine XS.ifNo X7.here hexec rfl (hb hbytes d22) rfl (i0_eq_f hz) ?_
      refine XS.aloadN X7.here hexec rfl (hb hbytes d25) rfl rfl ?_
      exact Steps.refl _)
    obtain ⟨T9, X9, q9, st9⟩ := X7.hget hexec hown (wk W (.fieldLink "java/lang/String" 15 "java/lang/String" "coder" "B")) (hx.mv X7.warmed.alike hh7).2.2.1 (g := (mkF m 26 #[.val (.ref x), .val (.ref y), .val (.ref y)] [.ref x])) rfl (rest := []) rfl (hb hbytes d26)
    have hh9 := q9.trans hh7
    have c10 : Steps p.tables e below (s₁.setTop (entryFrame m #[.ref x, .ref y] 3)) (T9.setTop (mkF m 30 #[.val (.ref x), .val (.ref y), .val (.ref y)] [.ref y, .int cd])) := (c8.trans (st9 _ (Steps.refl _))).trans (by
      refine XS.aloadN X9.here hexec rfl (hb hbytes d29) rfl rfl ?_
      exact Steps.refl _)
    obtain ⟨T11, X11, q11, st11⟩ := X9.hget hexec hown (wk W (.fieldLink "java/lang/String" 15 "java/lang/String" "coder" "B")) (hy.mv X9.warmed.alike hh9).2.2.1 (g := (mkF m 30 #[.val (.ref x), .val (.ref y), .val (.ref y)] [.ref y, .int cd])) rfl (rest := [.int cd]) rfl (hb hbytes d30)
    have hh11 := q11.trans hh9
    have c12 : Steps p.tables e below (s₁.setTop (entryFrame m #[.ref x, .ref y] 3)) (T11.setTop (mkF m 33 #[.val (.ref x), .val (.ref y), .val (.ref y)] [.int cd', .int cd])) := c10.trans (st11 _ (Steps.refl _))
    by_cases hcd : cd = cd'
    · subst hcd
      have c13 : Steps p.tables e below (s₁.setTop (entryFrame m #[.ref x, .ref y] 3)) (T11.setTop (mkF m 37 #[.val (.ref x), .val (.ref y), .val (.ref y)] [.ref x])) := c12.trans (by
        refine XS.icmpNo X11.here hexec rfl (hb hbytes d33) rfl (ii_ne_f rfl) ?_
        refine XS.aloadN X11.here hexec rfl (hb hbytes d36) rfl rfl ?_
        exact Steps.refl _)
      obtain ⟨T14, X14, q14, st14⟩ := X11.hget hexec hown (wk W (.fieldLink "java/lang/String" 9 "java/lang/String" "value" "[B")) (hx.mv X11.warmed.alike hh11).2.1 (g := (mkF m 37 #[.val (.ref x), .val (.ref y), .val (.ref y)] [.ref x])) rfl (rest := []) rfl (hb hbytes d37)
      have hh14 := q14.trans hh11
      have c15 : Steps p.tables e below (s₁.setTop (entryFrame m #[.ref x, .ref y] 3)) (T14.setTop (mkF m 41 #[.val (.ref x), .val (.ref y), .val (.ref y)] [.ref y, .ref t])) := (c13.trans (st14 _ (Steps.refl _))).trans (by
        refine XS.aloadN X14.here hexec rfl (hb hbytes d40) rfl rfl ?_
        exact Steps.refl _)
      obtain ⟨T16, X16, q16, st16⟩ := X14.hget hexec hown (wk W (.fieldLink "java/lang/String" 9 "java/lang/String" "value" "[B")) (hy.mv X14.warmed.alike hh14).2.1 (g := (mkF m 41 #[.val (.ref x), .val (.ref y), .val (.ref y)] [.ref y, .ref t])) rfl (rest := [.ref t]) rfl (hb hbytes d41)
      have hh16 := q16.trans hh14
      have c17 : Steps p.tables e below (s₁.setTop (entryFrame m #[.ref x, .ref y] 3)) (T16.setTop (mkF m 44 #[.val (.ref x), .val (.ref y), .val (.ref y)] [.ref t', .ref t])) := c15.trans (st16 _ (Steps.refl _))
      obtain ⟨v18, T18, X18, E18, g18⟩ := X16.callS hexec (LEq.law l t V t' V') hown (wks W (staticW "java/lang/String" 541 LEq.yN)) (wk W LEq.tab) (W := 0) (Nat.le_of_ble_eq_true rfl) (Nat.le_of_ble_eq_true rfl) (Nat.le_refl _) (Nat.le_refl _) (g := (mkF m 44 #[.val (.ref x), .val (.ref y), .val (.ref y)] [.ref t', .ref t])) rfl (by rw [hml]; rfl) c17 (argsL := [.ref t, .ref t']) (rest := []) rfl rfl (by show 2 * 0 + 0 ≤ _; decide) (hb hbytes d44) (⟨rfl, hx.2.2.2.1.mv X16.warmed.alike hh16, hx.2.2.2.2.1.ty, hy.2.2.2.1.mv X16.warmed.alike hh16, hy.2.2.2.2.1.ty⟩)
      obtain ⟨v, rfl, q18, hv⟩ := E18
      have iff := Cod.eqv hx.2.2.2.2.1 hy.2.2.2.2.1 hx.2.2.2.2.2 hy.2.2.2.2.2
      rcases hv with ⟨rfl, he⟩ | ⟨rfl, he⟩
      · have c19 : Steps p.tables e below (s₁.setTop (entryFrame m #[.ref x, .ref y] 3)) (T18.setTop (mkF m 55 #[.val (.ref x), .val (.ref y), .val (.ref y)] [.int 1])) := Steps.trans g18 (by
          refine XS.ifNo X18.here hexec rfl (hb hbytes d47) rfl (i0_eq_f (by decide)) ?_
          refine iconstV X18.here hexec rfl 1 (hb hbytes d50) (by decide) ?_
          refine XS.goto X18.here hexec rfl (pc0 := 51) rfl (hb hbytes d51) (by decide) rfl ?_
          exact Steps.refl _)
        exact ⟨T18, some (.int 1), _, _, _, X18, rfl, rfl, rfl, (fun h => by cases h), ⟨1, rfl, q18.trans hh16, Or.inl ⟨rfl, iff.mp he⟩⟩, fun fs hl => c19.trans (X18.ireturnOut hexec hret rfl (Or.inr (Or.inl rfl)) (hb hbytes d55) hl)⟩
      · have c19 : Steps p.tables e below (s₁.setTop (entryFrame m #[.ref x, .ref y] 3)) (T18.setTop (mkF m 55 #[.val (.ref x), .val (.ref y), .val (.ref y)] [.int 0])) := Steps.trans g18 (by
          refine XS.ifYes X18.here hexec rfl (pc0 := 47) rfl (hb hbytes d47) rfl (i0_eq_t rfl) (by decide) rfl ?_
          refine iconstV X18.here hexec rfl 0 (hb hbytes d54) (by decide) ?_
          exact Steps.refl _)
        exact ⟨T18, some (.int 0), _, _, _, X18, rfl, rfl, rfl, (fun h => by cases h), ⟨0, rfl, q18.trans hh16, Or.inr ⟨rfl, fun q => he (iff.mpr q)⟩⟩, fun fs hl => c19.trans (X18.ireturnOut hexec hret rfl (Or.inr (Or.inl rfl)) (hb hbytes d55) hl)⟩
    · have c13 : Steps p.tables e below (s₁.setTop (entryFrame m #[.ref x, .ref y] 3)) (T11.setTop (mkF m 55 #[.val (.ref x), .val (.ref y), .val (.ref y)] [.int 0])) := c12.trans (by
        refine XS.icmpYes X11.here hexec rfl (pc0 := 33) rfl (hb hbytes d33) rfl (ii_ne_t hcd) (by decide) rfl ?_
        refine iconstV X11.here hexec rfl 0 (hb hbytes d54) (by decide) ?_
        exact Steps.refl _)
      exact ⟨T11, some (.int 0), _, _, _, X11, rfl, rfl, rfl, (fun h => by cases h), ⟨0, rfl, hh11, Or.inr ⟨rfl, Cod.dif hx.2.2.2.2.1 hy.2.2.2.2.1 hcd⟩⟩, fun fs hl => c13.trans (X11.ireturnOut hexec hret rfl (Or.inr (Or.inl rfl)) (hb hbytes d55) hl)⟩
theorem pays {l : Launch} {R : Room} {p : Program} {e : Env} {below : List Frame} {s : State} {sargs : Array Value} {len W : Nat} (x t : Addr) (V : Cell) (cd : Int32) (n : Nat) (f : Nat → Int32) (y t' : Addr) (V' : Cell) (cd' : Int32) (k : Nat) (g : Nat → Int32) (z : Int32) (htab : tab.before sargs s = true) (hfr : 2 ≤ R.frames) (hlo : W + 28 ≤ R.locals) :
    Back l R p e below s sargs yN len W (fun A₁ a₁ => A₁.cells + 0 ≤ R.cells ∧ A₁.slots + 0 ≤ R.slots ∧ P x t V cd n f y t' V' cd' k g z a₁ A₁.U) (fun A₁ _ v₁ B₁ => Says01 (SameT n f k g) v₁ A₁.U B₁.U ∧ B₁.locs = A₁.locs ++ [] ∧ B₁.cells = A₁.cells + 0 ∧ B₁.slots = A₁.slots + 0) :=
  (law l x t V cd n f y t' V' cd' k g z).pays htab hfr (by omega)
end SEq
end StrChars
namespace StrChars.Road
open Jvm Sem ClassFile Op Lib Jvm.Stand Jvm.Free Jvm.Free.XT
open Jvm.Lib.Cold (StaticIs)
/-- the words of String.equals(Object) -/
abbrev wordsEq : List Jvm.Cond := [.code SEq.yN SEq.yB 3 (some .boolean), .initialized ST, .classLink ST 10 ST, .fieldLink ST 38 ST "COMPACT_STRINGS" "Z", .fieldLink ST 15 ST "coder" "B", .fieldLink ST 9 ST "value" "[B", .methodLink ST 541 LEq.yN, .static LEq.yN, .code LEq.yN LEq.yB 3 (some .boolean), .initialized "java/lang/StringLatin1"]
theorem tabEq_of {a : Array Value} {s : State} (h : ∀ w ∈ wordsEq, w.before a s = true) : SEq.tab.before a s = true := by
  have hl : LEq.tab.before a s = true := unparts (wk h (.code LEq.yN LEq.yB 3 (some .boolean))) (wks h (.initialized LEq.yN.cls :: LEq.site))
  have q := consq hl h
  exact unparts (wk q (.code SEq.yN SEq.yB 3 (some .boolean))) (wks q (.initialized SEq.yN.cls :: SEq.site))
theorem movedEq {Z s : State} {a0 args : Array Value} (hZ : Z.Warmed39 s.vm) (hw : ∀ d ∈ wordsEq, d.before a0 Z = true) : ∀ d ∈ wordsEq, d.before args s = true := fun d hd => by
  have t : ∀ d ∈ wordsEq, (d.onTables && d.keepsFace) = true := by decide +kernel
  exact RoadKit.mv hZ (hw d hd) (t d hd)
/-- the road's facts of a String, as the laws ask it -/
theorem txt_of {Z U : State} {a0 : Array Value} {kI : Nat} (wi : (Jvm.Cond.instantiable ST kI).before a0 Z = true) (al : Z.vm.Alike U.vm) {x t : Addr} {kb : ClassId} {cs : List Int32} {cd N2 : Int32} {vs : List Value} (E : RoadKit.Exa Z U.heap x ST) (V : RoadKit.Fld Z U.heap x ST "value" "[B" (.ref t)) (C : RoadKit.Fld Z U.heap x ST "coder" "B" (.int cd)) (K : RoadKit.Arv Z U.heap t kb .byte N2 vs (.int 0)) (hc : CodA cs cd N2 vs) (hb : ∀ c ∈ cs, ¬ c < 0 ∧ ¬ (65535 : Int32) < c) (l2 : cs.length ≤ 4000) :
    ∃ A, Txt x t A cd cs.length (fun j => cs.getD j 0) U := by
  obtain ⟨A, K1, K2, K3, K4, K5, K6⟩ := K
  have hcod := hc.cod (by omega) K3 K5
  obtain ⟨D, fV, fC, hB, F1, F2, g1, g2, -, -⟩ := strObj wi al E V C
  exact ⟨A, ⟨_, hB.2.2.1, D, hB.1, rfl, by cases q : D.vm <;> first | rfl | exact absurd q (hB.2.1.2 _)⟩, Has.of hB F1 g1, Has.of hB F2 g2, ⟨K1.1, State.isArrayOf_alike al K1.2.1, K1.2.2, by rcases hcod with ⟨-, q, -⟩ | ⟨-, q, -⟩ <;> omega⟩, hcod, fun j hj => by
    have e : cs.getD j 0 = cs[j] := by simp [List.getD_eq_getElem?_getD, hj]
    show ¬ cs.getD j 0 < 0 ∧ ¬ 65535 < cs.getD j 0
    rw [e]; exact hb _ (List.getElem_mem _)⟩
theorem same_list (cs ds : List Int32) : SameT cs.length (fun j => cs.getD j 0) ds.length (fun j => ds.getD j 0) ↔ cs = ds := by
  constructor
  · rintro ⟨e, q⟩
    refine List.ext_getElem e fun j h1 h2 => ?_
    have := q j h1
    simpa [List.getD_eq_getElem?_getD, h1, h2] using this
  · rintro rfl
    exact ⟨rfl, fun _ _ => rfl⟩
/-- **equals(Object) OF TWO SUCH STRINGS**: 1 just where the chars are the same -/
theorem eqW {p : Program} {l : Launch} {e : Env} {R : Room} {s : State} {args : Array Value} {below : List Frame} {len W : Nat} {Z : State} {a0 : Array Value} {h : Heap} (hZ : Z.Warmed39 s.vm) (hw : ∀ d ∈ wordsEq, d.before a0 Z = true) {kI : Nat} (wi : (Jvm.Cond.instantiable ST kI).before a0 Z = true)
    {x t : Addr} {kb : ClassId} {cs : List Int32} {cd N2 : Int32} {vs : List Value} (E : RoadKit.Exa Z h x ST) (V : RoadKit.Fld Z h x ST "value" "[B" (.ref t)) (C : RoadKit.Fld Z h x ST "coder" "B" (.int cd)) (K : RoadKit.Arv Z h t kb .byte N2 vs (.int 0)) (hc : CodA cs cd N2 vs) (hb : ∀ c ∈ cs, ¬ c < 0 ∧ ¬ (65535 : Int32) < c) (l2 : cs.length ≤ 4000)
    {y t' : Addr} {kb' : ClassId} {ds : List Int32} {cd' N2' : Int32} {vs' : List Value} (E' : RoadKit.Exa Z h y ST) (V' : RoadKit.Fld Z h y ST "value" "[B" (.ref t')) (C' : RoadKit.Fld Z h y ST "coder" "B" (.int cd')) (K' : RoadKit.Arv Z h t' kb' .byte N2' vs' (.int 0)) (hc' : CodA ds cd' N2' vs') (hb' : ∀ c ∈ ds, ¬ c < 0 ∧ ¬ (65535 : Int32) < c) (l2' : ds.length ≤ 4000)
    {z : Int32} (S : RoadKit.Sta Z h ST "COMPACT_STRINGS" "Z" (.int z)) (hz : ¬ z = 0) (hfr : 2 ≤ R.frames) (hlo : W + 28 ≤ R.locals) :
    Back l R p e below s args (⟨"java/lang/String", "equals", "(Ljava/lang/Object;)Z"⟩ : MethodName) len W (fun P a => a = #[.ref x, .ref y] ∧ P.U.heap = h ∧ P.cells + 0 ≤ R.cells ∧ P.slots + 0 ≤ R.slots)
      (fun P _ v B => ∃ L, (((v = some (.int 1) ∧ cs = ds) ∨ (v = some (.int 0) ∧ ¬ cs = ds)) ∧ L = [] ∧ B.U.heap = h) ∧ B.locs = P.locs ++ L ∧ B.cells = P.cells + 0 ∧ B.slots = P.slots + 0) := by
  intro m meth c P g ig mk a X hg hsize hdg hW hn hp'
  obtain ⟨rfl, rfl, r1, r2⟩ := hp'
  have al : Z.vm.Alike P.U.vm := hZ.alike.trans X.warmed.alike
  obtain ⟨A, hx⟩ := txt_of wi al E V C K hc hb l2
  obtain ⟨A', hy⟩ := txt_of wi al E' V' C' K' hc' hb' l2'
  obtain ⟨v, B, X', ⟨⟨w, hv, hh, hq⟩, hl, hk, hs⟩, st⟩ := SEq.pays x t A cd cs.length (fun j => cs.getD j 0) y t' A' cd' ds.length (fun j => ds.getD j 0) z (tabEq_of (movedEq hZ hw)) hfr hlo m meth c P g ig mk _ X hg hsize hdg hW hn ⟨r1, r2, rfl, hx, hy, sta_is al S, hz⟩
  refine ⟨v, B, X', ⟨[], ⟨?_, rfl, hh⟩, hl, hk, hs⟩, st⟩
  rcases hq with ⟨rfl, q⟩ | ⟨rfl, q⟩
  · exact Or.inl ⟨hv, (same_list cs ds).mp q⟩
  · exact Or.inr ⟨hv, fun e => q ((same_list cs ds).mpr e)⟩
end StrChars.Road
namespace StrChars
open Jvm Sem ClassFile Op Lib Jvm.Stand Jvm.Free.XT Jvm.Free.ALB Jvm.Free.JM Jvm.Free
open Jvm.Lib.Cold (StaticIs)
namespace ChN
def yN : MethodName := ⟨"java/lang/String", "charAt", "(I)C"⟩
abbrev yB : ByteArray := jdk_42_method_56_code
theorem d0 : decode yB 0 = .ok (.aload_n 0, 1) := by decide +kernel
theorem d1 : decode yB 1 = .ok (.invokevirtual 492, 3) := by decide +kernel
theorem d4 : decode yB 4 = .ok (.ifCond (.eq) 12, 3) := by decide +kernel
theorem d7 : decode yB 7 = .ok (.aload_n 0, 1) := by decide +kernel
theorem d8 : decode yB 8 = .ok (.getfield 9, 3) := by decide +kernel
theorem d11 : decode yB 11 = .ok (.iload_n 1, 1) := by decide +kernel
theorem d12 : decode yB 12 = .ok (.invokestatic 495, 3) := by decide +kernel
theorem d15 : decode yB 15 = .ok (.ireturn, 1) := by decide +kernel
def site : List Cond := [.fieldLink "java/lang/String" 9 "java/lang/String" "value" "[B", IsL.tab, LChA.tab] ++ virtW "java/lang/String" 492 "java/lang/String" IsL.yN IsL.yN ++ staticW "java/lang/String" 495 LChA.yN
def tab : Cond := tabOf yN yB 2 (some .char) site
def P (x t : Addr) (V : Cell) (n : Nat) (f : Nat → Int32) (z : Int32) (fm : Value) (i : Nat) (args : Array Value) (s : State) : Prop := args = #[.ref x, .int (Int32.ofNat i)] ∧ Txt x t V 0 n f s ∧ i < n ∧ StaticIs s "java/lang/String" "COMPACT_STRINGS" "Z" (.int z) ∧ ¬ z = 0 ∧ StaticIs s "jdk/internal/util/Preconditions" "SIOOBE_FORMATTER" "Ljava/util/function/BiFunction;" fm ∧ fm.isRef = true
def E (f : Nat → Int32) (i : Nat) (r : Option Value) (s u : State) : Prop := XT.PureE (some (.int (f i))) r s u
/-- charAt(i) of a Latin-1 String of n chars, i < n: f i -/
theorem law (l : Launch) (x t : Addr) (V : Cell) (n : Nat) (f : Nat → Int32) (z : Int32) (fm : Value) (i : Nat) : Law l yN 2 1 3 40 yB 2 (some .char) site (P x t V n f z fm i) (E f i) [] 0 0 := by
  refine Law.of_walk (plainFor_of_name (by decide +kernel)) (by decide +kernel) (by decide +kernel) (by decide) (fun _ _ h => by rw [h.1]; rfl) (fun _ U U' hal hh h => ⟨h.1, h.2.1.mv hal hh, h.2.2.1, h.2.2.2.1.there hal hh, h.2.2.2.2.1, h.2.2.2.2.2.1.there hal hh, h.2.2.2.2.2.2⟩) (fun r U U' V V' h1 hal h2 h => XT.PureE.mv r U U' V V' h1 hal h2 h) ?_
  intro p e s m args below meth c s₁ X0 hexec hbytes hml hret hlk hnm hown hh0 W hP
  obtain ⟨rfl, hx, hi, s1, hz, s3, rf⟩ := hP
  have v31 := hx.2.2.2.1.2.2.2
  have hr := hx.2.2.2.2.2 i hi
  have hx0 := hx.mv X0.warmed.alike hh0
  have c1 : Steps p.tables e below (s₁.setTop (entryFrame m #[.ref x, .int (Int32.ofNat i)] 2)) (s₁.setTop (mkF m 1 #[.val (.ref x), .val (.int (Int32.ofNat i))] [.ref x])) := Steps.trans (entry rfl) (by
    show Steps p.tables e below (s₁.setTop (mkF m 0 #[.val (.ref x), .val (.int (Int32.ofNat i))] [])) _
    refine XS.aloadN X0.here hexec rfl (hb hbytes d0) rfl rfl ?_
    exact Steps.refl _)
  obtain ⟨v2, T2, X2, E2, g2⟩ := X0.callV hexec (IsL.law l x 0 z) hown (wks W (virtW "java/lang/String" 492 "java/lang/String" IsL.yN IsL.yN)) rfl (by decide) (wk W IsL.tab) (W := 0) (Nat.le_of_ble_eq_true rfl) (Nat.le_of_ble_eq_true rfl) (Nat.le_refl _) (Nat.le_refl _) (hx0.1.fc X0.warmed.alike) hx0.1.is (g := (mkF m 1 #[.val (.ref x), .val (.int (Int32.ofNat i))] [.ref x])) rfl (by rw [hml]; rfl) c1 (argsL := []) (rest := []) rfl rfl (by show 2 * 0 + 0 ≤ _; decide) (hb hbytes d1) (⟨rfl, hx0.2.2.1, hx.2.2.2.2.1.cd, s1.there X0.warmed.alike hh0, hz⟩)
  obtain ⟨rfl, q2⟩ := E2
  have hh2 := q2.trans hh0
  have hx2 := hx.mv X2.warmed.alike hh2
  obtain ⟨-, k1, k2⟩ | ⟨k0, -⟩ := hx.2.2.2.2.1
  · have c3 : Steps p.tables e below (s₁.setTop (entryFrame m #[.ref x, .int (Int32.ofNat i)] 2)) (T2.setTop (mkF m 8 #[.val (.ref x), .val (.int (Int32.ofNat i))] [.ref x])) := Steps.trans g2 (by
      refine XS.ifNo X2.here hexec rfl (hb hbytes d4) rfl (i0_eq_f (by decide)) ?_
      refine XS.aloadN X2.here hexec rfl (hb hbytes d7) rfl rfl ?_
      exact Steps.refl _)
    obtain ⟨T4, X4, q4, st4⟩ := X2.hget hexec hown (wk W (.fieldLink "java/lang/String" 9 "java/lang/String" "value" "[B")) hx2.2.1 (g := (mkF m 8 #[.val (.ref x), .val (.int (Int32.ofNat i))] [.ref x])) rfl (rest := []) rfl (hb hbytes d8)
    have hh4 := q4.trans hh2
    have c5 : Steps p.tables e below (s₁.setTop (entryFrame m #[.ref x, .int (Int32.ofNat i)] 2)) (T4.setTop (mkF m 12 #[.val (.ref x), .val (.int (Int32.ofNat i))] [.int (Int32.ofNat i), .ref t])) := (c3.trans (st4 _ (Steps.refl _))).trans (by
      refine XS.iloadN X4.here hexec rfl (hb hbytes d11) rfl ?_
      exact Steps.refl _)
    obtain ⟨v6, T6, X6, E6, g6⟩ := X4.callS hexec (LChA.law l t V i (lo8 (f i)) fm) hown (wks W (staticW "java/lang/String" 495 LChA.yN)) (wk W LChA.tab) (W := 0) (Nat.le_of_ble_eq_true rfl) (Nat.le_of_ble_eq_true rfl) (Nat.le_refl _) (Nat.le_refl _) (g := (mkF m 12 #[.val (.ref x), .val (.int (Int32.ofNat i))] [.int (Int32.ofNat i), .ref t])) rfl (by rw [hml]; rfl) c5 (argsL := [.ref t, .int (Int32.ofNat i)]) (rest := []) rfl rfl (by show 2 * 0 + 0 ≤ _; decide) (hb hbytes d12) (⟨rfl, hx.2.2.2.1.mv X4.warmed.alike hh4, (k2 i hi).1, s3.there X4.warmed.alike hh4, rf⟩)
    obtain ⟨rfl, q6⟩ := E6
    rw [chr8_lo8 hr.1 (k2 i hi).2] at g6
    exact ⟨T6, some (.int (f i)), _, _, _, X6, rfl, rfl, rfl, (fun h => by cases h), ⟨rfl, q6.trans hh4⟩, fun fs hl => Steps.trans g6 (X6.ireturnOut hexec hret (narrow_ch hr.1 hr.2) (Or.inr (Or.inr (Or.inr (Or.inl rfl)))) (hb hbytes d15) hl)⟩
  · exact absurd k0 (by decide)
theorem pays {l : Launch} {R : Room} {p : Program} {e : Env} {below : List Frame} {s : State} {sargs : Array Value} {len W : Nat} (x t : Addr) (V : Cell) (n : Nat) (f : Nat → Int32) (z : Int32) (fm : Value) (i : Nat) (htab : tab.before sargs s = true) (hfr : 4 ≤ R.frames) (hlo : W + 53 ≤ R.locals) :
    Back l R p e below s sargs yN len W (fun A₁ a₁ => A₁.cells + 0 ≤ R.cells ∧ A₁.slots + 0 ≤ R.slots ∧ P x t V n f z fm i a₁ A₁.U) (fun A₁ _ v₁ B₁ => E f i v₁ A₁.U B₁.U ∧ B₁.locs = A₁.locs ++ [] ∧ B₁.cells = A₁.cells + 0 ∧ B₁.slots = A₁.slots + 0) :=
  (law l x t V n f z fm i).pays htab hfr (by omega)
end ChN
end StrChars
namespace StrChars.Road
open Jvm Sem ClassFile Op Lib Jvm.Stand Jvm.Free Jvm.Free.XT
open Jvm.Lib.Cold (StaticIs)
/-- the words of String.charAt(int), the Latin-1 road alone -/
abbrev wordsChN : List Jvm.Cond := [.code ChN.yN ChN.yB 2 (some .char), .initialized ST, .fieldLink ST 9 ST "value" "[B", .fieldLink ST 38 ST "COMPACT_STRINGS" "Z", .fieldLink ST 15 ST "coder" "B", .code IsL.yN IsL.yB 1 (some .boolean), .methodLink ST 492 IsL.yN, .declares IsL.yN, .selects ST IsL.yN IsL.yN, .instanceMethod IsL.yN,
  .methodLink ST 495 LChA.yN, .static LChA.yN, .code LChA.yN LChA.yB 2 (some .char), .initialized "java/lang/StringLatin1", .methodLink "java/lang/StringLatin1" 9 JO.Str_checkIndex.yN, .static JO.Str_checkIndex.yN, .code JO.Str_checkIndex.yN JO.Str_checkIndex.yB 2 none,
  .fieldLink ST 1053 "jdk/internal/util/Preconditions" "SIOOBE_FORMATTER" "Ljava/util/function/BiFunction;", .methodLink ST 1059 JC.PreCheck.yN, .static JC.PreCheck.yN, .code JC.PreCheck.yN JC.PreCheck.yB 3 (some .int), .initialized "jdk/internal/util/Preconditions"]
theorem tabChN_of {a : Array Value} {s : State} (h : ∀ w ∈ wordsChN, w.before a s = true) : ChN.tab.before a s = true := by
  have hp : JC.PreCheck.tab.before a s = true := unparts (wk h (.code JC.PreCheck.yN JC.PreCheck.yB 3 (some .int))) (wks h (.initialized JC.PreCheck.yN.cls :: JC.PreCheck.site))
  have qk := consq hp h
  have hk : JO.Str_checkIndex.tab.before a s = true := unparts (wk qk (.code JO.Str_checkIndex.yN JO.Str_checkIndex.yB 2 none)) (wks qk (.initialized JO.Str_checkIndex.yN.cls :: JO.Str_checkIndex.site))
  have ql := consq hk h
  have hl : LChA.tab.before a s = true := unparts (wk ql (.code LChA.yN LChA.yB 2 (some .char))) (wks ql (.initialized LChA.yN.cls :: LChA.site))
  have hi : IsL.tab.before a s = true := unparts (wk h (.code IsL.yN IsL.yB 1 (some .boolean))) (wks h (.initialized IsL.yN.cls :: IsL.site))
  have q := consq hi (consq hl h)
  exact unparts (wk q (.code ChN.yN ChN.yB 2 (some .char))) (wks q (.initialized ChN.yN.cls :: ChN.site))
theorem movedChN {Z s : State} {a0 args : Array Value} (hZ : Z.Warmed39 s.vm) (hw : ∀ d ∈ wordsChN, d.before a0 Z = true) : ∀ d ∈ wordsChN, d.before args s = true := fun d hd => by
  have t : ∀ d ∈ wordsChN, (d.onTables && d.keepsFace) = true := by decide +kernel
  exact RoadKit.mv hZ (hw d hd) (t d hd)
/-- **charAt(i) OF A LATIN-1 STRING**, i < n: the char -/
theorem chN {p : Program} {l : Launch} {e : Env} {R : Room} {s : State} {args : Array Value} {below : List Frame} {len W : Nat} {Z : State} {a0 : Array Value} {h : Heap} (hZ : Z.Warmed39 s.vm) (hw : ∀ d ∈ wordsChN, d.before a0 Z = true) {kI : Nat} (wi : (Jvm.Cond.instantiable ST kI).before a0 Z = true)
    {x t : Addr} {kb : ClassId} {cs : List Int32} {N2 z : Int32} {vs : List Value} {fm : Value} {i : Nat} {j : Int32} (E : RoadKit.Exa Z h x ST) (V : RoadKit.Fld Z h x ST "value" "[B" (.ref t)) (C : RoadKit.Fld Z h x ST "coder" "B" (.int 0)) (K : RoadKit.Arv Z h t kb .byte N2 vs (.int 0)) (hc : CodA cs 0 N2 vs) (hb : ∀ c ∈ cs, ¬ c < 0 ∧ ¬ (65535 : Int32) < c)
    (S : RoadKit.Sta Z h ST "COMPACT_STRINGS" "Z" (.int z)) (hz : ¬ z = 0) (F : RoadKit.Sta Z h "jdk/internal/util/Preconditions" "SIOOBE_FORMATTER" "Ljava/util/function/BiFunction;" fm) (rf : fm.isRef = true) (l2 : cs.length ≤ 4000) (hi : i < cs.length) (hj : j = Int32.ofNat i) (hfr : 4 ≤ R.frames) (hlo : W + 53 ≤ R.locals) :
    Back l R p e below s args (⟨"java/lang/String", "charAt", "(I)C"⟩ : MethodName) len W (fun P a => a = #[.ref x, .int j] ∧ P.U.heap = h ∧ P.cells + 0 ≤ R.cells ∧ P.slots + 0 ≤ R.slots)
      (fun P _ v B => ∃ L, (v = some (.int (cs.getD i 0)) ∧ L = [] ∧ B.U.heap = h) ∧ B.locs = P.locs ++ L ∧ B.cells = P.cells + 0 ∧ B.slots = P.slots + 0) := by
  subst hj
  intro m meth c P g ig mk a X hg hsize hdg hW hn hp'
  obtain ⟨rfl, rfl, r1, r2⟩ := hp'
  have al : Z.vm.Alike P.U.vm := hZ.alike.trans X.warmed.alike
  obtain ⟨A, hx⟩ := txt_of wi al E V C K hc hb l2
  obtain ⟨v, B, X', ⟨⟨hv, hh⟩, hl, hk, hs⟩, st⟩ := ChN.pays x t A cs.length (fun j => cs.getD j 0) z fm i (tabChN_of (movedChN hZ hw)) hfr hlo m meth c P g ig mk _ X hg hsize hdg hW hn ⟨r1, r2, rfl, hx, hi, sta_is al S, hz, sta_is al F, rf⟩
  exact ⟨v, B, X', ⟨[], ⟨hv, rfl, hh⟩, hl, hk, hs⟩, st⟩
/-- what backV says of its String, as the contracts of this text ask it: cs's low bytes, coder 0 -/
theorem codOf {cs : List Int32} {n : Nat} (hn : cs.length = n) (hb : ∀ c ∈ cs, ¬ 255 < c) : CodA cs 0 (Int32.ofNat n) ((cs.map lo8).map Value.int) := Or.inl ⟨rfl, by rw [hn], by simp [List.map_map, Function.comp_def], hb⟩
end StrChars.Road
end Jvm.Pilot.@@N@@
@@BLOCK:NumsL.lean.txt@@
namespace Jvm.Pilot.@@N@@
open Jvm Jvm.ClassFile Sem Op Lib Jvm.Free Jvm.Stand Jvm.LawKit Jvm.RoadKit Bundle Jvm.Pilot.@@N@@.Jvm.D
theorem own_EW {Z : State} {a0 : Array Value} (hw : ∀ d ∈ tables_1, d.before a0 Z = true) : EW Z a0 consts_1 := (EW.cons (hw _ (List.mem_of_getElem? (i := 1) rfl)) (by decide) (EW.cons (hw _ (List.mem_of_getElem? (i := 82) rfl)) (by decide) (EW.cons (hw _ (List.mem_of_getElem? (i := 83) rfl)) (by decide) (EW.cons (hw _ (List.mem_of_getElem? (i := 109) rfl)) (by decide) (EW.cons (hw _ (List.mem_of_getElem? (i := 111) rfl)) (by decide) EW.nil)))))
theorem own_wS {Z : State} {a0 : Array Value} (hw : ∀ d ∈ tables_1, d.before a0 Z = true) : ∀ a ∈ Bundle.stringAtoms, a.before a0 Z = true := fun d hd => hw d ((by decide +kernel : ∀ d ∈ Bundle.stringAtoms, d ∈ tables_1) d hd)
theorem own_up (cs : List Int32) (h : ∀ c ∈ cs, ¬ c < 0 ∧ ¬ (255 : Int32) < c) : ∀ c ∈ cs, ¬ c < 0 ∧ ¬ (65535 : Int32) < c := fun c hc => ⟨(h c hc).1, fun q => (h c hc).2 (by rw [Int32.lt_iff_toInt_lt] at q ⊢; have e1 : (65535 : Int32).toInt = 65535 := rfl; have e2 : (255 : Int32).toInt = 255 := rfl; omega)⟩
theorem own_all0 {P : Int32 → Prop} : ∀ c ∈ ([] : List Int32), P c := fun _ h => nomatch h
theorem own_allS {P : Int32 → Prop} {a : Int32} {L : List Int32} (h : P a) (r : ∀ c ∈ L, P c) : ∀ c ∈ a :: L, P c := fun c hc => (List.mem_cons.mp hc).elim (fun e => e ▸ h) (r c)
/-- a String of these chars -/
def OStr (Z : State) (h : Heap) (x : Addr) (cs : List Int32) : Prop := ∃ (t : Addr) (kb : ClassId) (cd N2 : Int32) (vs : List Value), Exa Z h x "java/lang/String" ∧ Fld Z h x "java/lang/String" "value" "[B" (.ref t) ∧ Fld Z h x "java/lang/String" "coder" "B" (.int cd) ∧ Arv Z h t kb .byte N2 vs (.int (0 : Int32)) ∧ StrChars.Road.CodA cs cd N2 vs
theorem own_cod0 : StrChars.Road.CodA [] 0 (0 : Int32) [] := Or.inl ⟨rfl, rfl, rfl, fun _ h => nomatch h⟩
theorem own_and255 (x : Int32) : ¬ ((x &&& (255 : Int32)).toUInt32.toUInt16.toUInt32.toInt32) < 0 ∧ ¬ (255 : Int32) < ((x &&& (255 : Int32)).toUInt32.toUInt16.toUInt32.toInt32) := by
  have t : ∀ k : Fin 256, ¬ ((Int32.ofNat k.val).toUInt32.toUInt16.toUInt32.toInt32) < 0 ∧ ¬ (255 : Int32) < ((Int32.ofNat k.val).toUInt32.toUInt16.toUInt32.toInt32) := by decide +kernel
  have h : (x &&& 255).toBitVec.toNat < 256 := by
    simp only [Int32.toBitVec_and, BitVec.toNat_and]
    exact Nat.lt_succ_of_le Nat.and_le_right
  have e : (x &&& 255) = Int32.ofNat (x &&& 255).toBitVec.toNat := by
    apply Int32.toBitVec_inj.mp
    show _ = BitVec.ofNat 32 _
    rw [BitVec.ofNat_toNat]; simp
  rw [e]
  exact t ⟨_, h⟩
theorem own_and3 (x : Int32) : (x &&& (3 : Int32)) = 0 ∨ (x &&& (3 : Int32)) = 1 ∨ (x &&& (3 : Int32)) = 2 ∨ (x &&& (3 : Int32)) = 3 := by
  have t : ∀ k : Fin 4, (Int32.ofNat k.val) = 0 ∨ (Int32.ofNat k.val) = 1 ∨ (Int32.ofNat k.val) = 2 ∨ (Int32.ofNat k.val) = 3 := by decide +kernel
  have h : (x &&& 3).toBitVec.toNat < 4 := by
    simp only [Int32.toBitVec_and, BitVec.toNat_and]
    exact Nat.lt_succ_of_le Nat.and_le_right
  have e : (x &&& 3) = Int32.ofNat (x &&& 3).toBitVec.toNat := by
    apply Int32.toBitVec_inj.mp
    show _ = BitVec.ofNat 32 _
    rw [BitVec.ofNat_toNat]; simp
  rw [e]
  exact t ⟨_, h⟩
theorem own_narc {x : Int32} (h : ¬ x < 0 ∧ ¬ (255 : Int32) < x) : nar .char x = x := by
  have h1 := h.1
  have h2 := h.2
  rw [Int32.lt_iff_toInt_lt, show (0 : Int32).toInt = 0 from rfl] at h1
  rw [Int32.lt_iff_toInt_lt, show (255 : Int32).toInt = 255 from rfl] at h2
  obtain ⟨k, rfl⟩ : ∃ k : Fin 256, x = Int32.ofNat k.val := ⟨⟨x.toInt.toNat, by omega⟩, by
    rw [← Int32.toInt_inj, Int32.toInt_ofNat_of_lt (by omega)]
    show x.toInt = ((x.toInt.toNat : Nat) : Int)
    omega⟩
  clear h h1 h2
  revert k
  decide +kernel
theorem own_set {Z : State} {h h' : Heap} {b : Addr} {k : ClassId} {n : Int32} {ys : List Int32} {d : Value} {c : Cell} {j r : Int32} (A : Arr Z h b c .char) (q1 : c.cls = k) (S : c.slots.size = n.toNatClampNeg) (q3 : ¬ n < 0) (H : Has c (ys.map Value.int) d) (G : ∀ i, i < c.slots.size → fits .char ((ys.map Value.int).getD i d) = true) (hl : ys.length = n.toNatClampNeg) (hj : ¬ (j < 0 ∨ c.slots.size ≤ j.toNatClampNeg)) (W : Wr h h' b j.toNatClampNeg (.int (nar .char r))) (hr : ¬ r < 0 ∧ ¬ (255 : Int32) < r) : Arv Z h' b k .char n ((ys.set j.toNatClampNeg r).map Value.int) d := by
  have q := Arv.set A q1 S q3 H G (fits_nar_char r) W j.toNatClampNeg rfl (by rw [List.length_map, hl, ← S]; exact Nat.lt_of_not_le fun y => hj (Or.inr y))
  rw [own_narc hr] at q
  rw [List.map_set]
  exact q
theorem own_setp {ys : List Int32} {i : Nat} {r : Int32} (h : ∀ c ∈ ys, ¬ c < 0 ∧ ¬ (255 : Int32) < c) (hr : ¬ r < 0 ∧ ¬ (255 : Int32) < r) : ∀ c ∈ ys.set i r, ¬ c < 0 ∧ ¬ (255 : Int32) < c := fun c hc => (List.mem_or_eq_of_mem_set hc).elim (h c) (fun e => e ▸ hr)
theorem own_rep (k : Nat) : ∀ c ∈ List.replicate k (0 : Int32), ¬ c < 0 ∧ ¬ (255 : Int32) < c := fun c hc => by rw [List.eq_of_mem_replicate hc]; decide
theorem own_nn {k : Nat} (h : k ≤ 7) : ¬ Int32.ofNat k < 0 := by
  rw [Int32.lt_iff_toInt_lt, Int32.toInt_ofNat_of_lt (by omega), show (0 : Int32).toInt = 0 from rfl]
  omega
theorem own_cl {k : Nat} (h : k ≤ 7) : (Int32.ofNat k).toNatClampNeg = k := clamp_of rfl (by omega)
theorem own_mod8 (x : Int32) : ∃ k : Nat, k ≤ 7 ∧ (x &&& (2147483647 : Int32)) % (8 : Int32) = Int32.ofNat k := by
  have e1 : (x &&& (2147483647 : Int32)).toInt = x.toInt % 2 ^ 31 := Jvm.Kit.i32_mask x _ (k := 31) (by decide) (by decide)
  have e2 : ((x &&& (2147483647 : Int32)) % (8 : Int32)).toInt = (x &&& (2147483647 : Int32)).toInt % (8 : Int32).toInt := Jvm.Kit.i32_rem_nonneg (by omega)
  have e3 : (8 : Int32).toInt = 8 := rfl
  rw [e3] at e2
  refine ⟨((x &&& (2147483647 : Int32)) % (8 : Int32)).toInt.toNat, by omega, ?_⟩
  rw [← Int32.toInt_inj, Int32.toInt_ofNat_of_lt (by omega)]
  omega
theorem own_modk {x : Int32} {k : Nat} (h7 : k ≤ 7) (h : (0 : Int32) < Int32.ofNat k) : ¬ ((x &&& (2147483647 : Int32)) % Int32.ofNat k) < 0 ∧ ((x &&& (2147483647 : Int32)) % Int32.ofNat k) < Int32.ofNat k := by
  have e1 : (x &&& (2147483647 : Int32)).toInt = x.toInt % 2 ^ 31 := Jvm.Kit.i32_mask x _ (k := 31) (by decide) (by decide)
  have e2 : ((x &&& (2147483647 : Int32)) % Int32.ofNat k).toInt = (x &&& (2147483647 : Int32)).toInt % (Int32.ofNat k).toInt := Jvm.Kit.i32_rem_nonneg (by omega)
  have e3 : (Int32.ofNat k).toInt = k := Int32.toInt_ofNat_of_lt (by omega)
  rw [Int32.lt_iff_toInt_lt, e3, show (0 : Int32).toInt = 0 from rfl] at h
  rw [Int32.lt_iff_toInt_lt, Int32.lt_iff_toInt_lt, e2, e3, show (0 : Int32).toInt = 0 from rfl]
  have q1 := Int.emod_nonneg (x &&& (2147483647 : Int32)).toInt (b := (k : Int)) (by omega)
  have q2 := Int.emod_lt_of_pos (x &&& (2147483647 : Int32)).toInt (b := (k : Int)) (by omega)
  omega
theorem own_long255 (x : Int64) : ¬ ((x &&& (255 : Int64)).toInt32.toUInt32.toUInt16.toUInt32.toInt32) < 0 ∧ ¬ (255 : Int32) < ((x &&& (255 : Int64)).toInt32.toUInt32.toUInt16.toUInt32.toInt32) := by
  have t : ∀ k : Fin 256, ¬ ((Int64.ofNat k.val).toInt32.toUInt32.toUInt16.toUInt32.toInt32) < 0 ∧ ¬ (255 : Int32) < ((Int64.ofNat k.val).toInt32.toUInt32.toUInt16.toUInt32.toInt32) := by decide +kernel
  have h : (x &&& 255).toBitVec.toNat < 256 := by
    simp only [Int64.toBitVec_and, BitVec.toNat_and]
    exact Nat.lt_succ_of_le Nat.and_le_right
  have e : (x &&& 255) = Int64.ofNat (x &&& 255).toBitVec.toNat := by
    apply Int64.toBitVec_inj.mp
    show _ = BitVec.ofNat 64 _
    rw [BitVec.ofNat_toNat]; simp
  rw [e]
  exact t ⟨_, h⟩
theorem own_getp {cs : List Int32} {i : Nat} (h : ∀ c ∈ cs, ¬ c < 0 ∧ ¬ (255 : Int32) < c) (hi : i < cs.length) : ¬ cs.getD i 0 < 0 ∧ ¬ (255 : Int32) < cs.getD i 0 := by
  rw [List.getD_eq_getElem?_getD, List.getElem?_eq_getElem hi]
  exact h _ (List.getElem_mem hi)
theorem own_ltlen {i n : Nat} (h1 : i < 100) (h2 : n ≤ 4000) (h : Int32.ofNat i < Int32.ofNat n) : i < n := by
  rw [Int32.lt_iff_toInt_lt, Int32.toInt_ofNat_of_lt (by omega), Int32.toInt_ofNat_of_lt (by omega)] at h
  omega
theorem own_and7 (x : Int32) : ∃ k : Nat, k ≤ 7 ∧ (x &&& (7 : Int32)) = Int32.ofNat k := by
  have h : (x &&& 7).toBitVec.toNat < 8 := by
    simp only [Int32.toBitVec_and, BitVec.toNat_and]
    exact Nat.lt_succ_of_le Nat.and_le_right
  refine ⟨(x &&& 7).toBitVec.toNat, by omega, ?_⟩
  apply Int32.toBitVec_inj.mp
  show _ = BitVec.ofNat 32 _
  rw [BitVec.ofNat_toNat]; simp
theorem own_inj7 {k j : Nat} (h : k ≤ 7) (hj : j ≤ 7) (e : Int32.ofNat k = Int32.ofNat j) : k = j := by
  have q := congrArg Int32.toInt e
  rw [Int32.toInt_ofNat_of_lt (by omega), Int32.toInt_ofNat_of_lt (by omega)] at q
  omega
theorem own_last {k : Nat} (h : k ≤ 7) (h0 : ¬ Int32.ofNat k = (0 : Int32)) (h1 : ¬ Int32.ofNat k = (1 : Int32)) (h2 : ¬ Int32.ofNat k = (2 : Int32)) (h3 : ¬ Int32.ofNat k = (3 : Int32)) (h4 : ¬ Int32.ofNat k = (4 : Int32)) (h5 : ¬ Int32.ofNat k = (5 : Int32)) (h6 : ¬ Int32.ofNat k = (6 : Int32)) : k = 7 := by
  have q0 : k ≠ 0 := fun e => h0 (e ▸ rfl)
  have q1 : k ≠ 1 := fun e => h1 (e ▸ rfl)
  have q2 : k ≠ 2 := fun e => h2 (e ▸ rfl)
  have q3 : k ≠ 3 := fun e => h3 (e ▸ rfl)
  have q4 : k ≠ 4 := fun e => h4 (e ▸ rfl)
  have q5 : k ≠ 5 := fun e => h5 (e ▸ rfl)
  have q6 : k ≠ 6 := fun e => h6 (e ▸ rfl)
  omega
def own_named (a_NUMBER a_BOOLEAN a_STRING : Addr) (cs : List Int32) : Value := if ([(110 : Int32), (117 : Int32), (109 : Int32), (98 : Int32), (101 : Int32), (114 : Int32)] : List Int32) = cs then .ref a_NUMBER else if ([(98 : Int32), (111 : Int32), (111 : Int32), (108 : Int32), (101 : Int32), (97 : Int32), (110 : Int32)] : List Int32) = cs then .ref a_BOOLEAN else if ([(115 : Int32), (116 : Int32), (114 : Int32), (105 : Int32), (110 : Int32), (103 : Int32)] : List Int32) = cs then .ref a_STRING else .null
theorem d11_0 : decode jdk_42_method_149_code 0 = .ok (.aload_n 0, 1) := by decide +kernel
theorem d11_1 : decode jdk_42_method_149_code 1 = .ok (.invokespecial 1, 3) := by decide +kernel
theorem d11_4 : decode jdk_42_method_149_code 4 = .ok (.iload_n 3, 1) := by decide +kernel
theorem d11_5 : decode jdk_42_method_149_code 5 = .ok (.ifCond .ne 22, 3) := by decide +kernel
theorem d11_8 : decode jdk_42_method_149_code 8 = .ok (.aload_n 0, 1) := by decide +kernel
theorem d11_9 : decode jdk_42_method_149_code 9 = .ok (.ldc 7, 2) := by decide +kernel
theorem d11_11 : decode jdk_42_method_149_code 11 = .ok (.getfield 9, 3) := by decide +kernel
theorem d11_14 : decode jdk_42_method_149_code 14 = .ok (.putfield 9, 3) := by decide +kernel
theorem d11_17 : decode jdk_42_method_149_code 17 = .ok (.aload_n 0, 1) := by decide +kernel
theorem d11_18 : decode jdk_42_method_149_code 18 = .ok (.ldc 7, 2) := by decide +kernel
theorem d11_20 : decode jdk_42_method_149_code 20 = .ok (.getfield 15, 3) := by decide +kernel
theorem d11_23 : decode jdk_42_method_149_code 23 = .ok (.putfield 15, 3) := by decide +kernel
theorem d11_26 : decode jdk_42_method_149_code 26 = .ok (.return_, 1) := by decide +kernel
theorem d11_27 : decode jdk_42_method_149_code 27 = .ok (.getstatic 38, 3) := by decide +kernel
theorem d11_30 : decode jdk_42_method_149_code 30 = .ok (.ifCond .eq 28, 3) := by decide +kernel
theorem d11_33 : decode jdk_42_method_149_code 33 = .ok (.aload_n 1, 1) := by decide +kernel
theorem d11_34 : decode jdk_42_method_149_code 34 = .ok (.iload_n 2, 1) := by decide +kernel
theorem d11_35 : decode jdk_42_method_149_code 35 = .ok (.iload_n 3, 1) := by decide +kernel
theorem d11_36 : decode jdk_42_method_149_code 36 = .ok (.invokestatic 177, 3) := by decide +kernel
theorem d11_39 : decode jdk_42_method_149_code 39 = .ok (.astore 5, 2) := by decide +kernel
theorem d11_41 : decode jdk_42_method_149_code 41 = .ok (.aload_n 0, 1) := by decide +kernel
theorem d11_42 : decode jdk_42_method_149_code 42 = .ok (.aload 5, 2) := by decide +kernel
theorem d11_44 : decode jdk_42_method_149_code 44 = .ok (.iload_n 3, 1) := by decide +kernel
theorem d11_45 : decode jdk_42_method_149_code 45 = .ok (.invokestatic 47, 3) := by decide +kernel
theorem d11_48 : decode jdk_42_method_149_code 48 = .ok (.putfield 15, 3) := by decide +kernel
theorem d11_51 : decode jdk_42_method_149_code 51 = .ok (.aload_n 0, 1) := by decide +kernel
theorem d11_52 : decode jdk_42_method_149_code 52 = .ok (.aload 5, 2) := by decide +kernel
theorem d11_54 : decode jdk_42_method_149_code 54 = .ok (.putfield 9, 3) := by decide +kernel
theorem d11_57 : decode jdk_42_method_149_code 57 = .ok (.return_, 1) := by decide +kernel
theorem d11_58 : decode jdk_42_method_149_code 58 = .ok (.aload_n 0, 1) := by decide +kernel
theorem d11_59 : decode jdk_42_method_149_code 59 = .ok (.iconst 1, 1) := by decide +kernel
theorem d11_60 : decode jdk_42_method_149_code 60 = .ok (.putfield 15, 3) := by decide +kernel
theorem d11_63 : decode jdk_42_method_149_code 63 = .ok (.aload_n 0, 1) := by decide +kernel
theorem d11_64 : decode jdk_42_method_149_code 64 = .ok (.aload_n 1, 1) := by decide +kernel
theorem d11_65 : decode jdk_42_method_149_code 65 = .ok (.iload_n 2, 1) := by decide +kernel
theorem d11_66 : decode jdk_42_method_149_code 66 = .ok (.iload_n 3, 1) := by decide +kernel
theorem d11_67 : decode jdk_42_method_149_code 67 = .ok (.invokestatic 180, 3) := by decide +kernel
theorem d11_70 : decode jdk_42_method_149_code 70 = .ok (.putfield 9, 3) := by decide +kernel
theorem d11_73 : decode jdk_42_method_149_code 73 = .ok (.return_, 1) := by decide +kernel
theorem pn_java_lang_String : plainName "java/lang/String" = true := by first | (simp [plainName, overriddenIn]; done) | decide +kernel
def Q_rmE4 (Z : State) (x : Addr) (b : Addr) (h0 : Heap) (n0 : Nat) (v : Option Value) (h : Heap) (L : List Loc) : Prop := v = none ∧ Fr n0 L ∧ Keep h0 h [x] ∧ OStr Z h x []
theorem pd_2829V : parseMethodDescriptor "()V" = some ⟨[], none⟩ := by decide +kernel
theorem pd_285bBI29B : parseMethodDescriptor "([BI)B" = some ⟨[(.array .byte), .int], some .byte⟩ := by decide +kernel
theorem pd_285bCII295bB : parseMethodDescriptor "([CII)[B" = some ⟨[(.array .char), .int, .int], some (.array .byte)⟩ := by decide +kernel
set_option maxRecDepth 65536 in
set_option maxHeartbeats 40000000 in
theorem rmE4 (l : Launch) (Z : State) (a0 : Array Value) (hw : ∀ d ∈ tables_1, d.before a0 Z = true) (ws : List Jvm.Cond) (x : Addr) (b : Addr) (h0 : Heap) (n0 : Nat) (O0 : Old Z n0 h0) (F_value_x : Fld Z h0 x "java/lang/String" "value" "[B" .null) (F_coder_x : Fld Z h0 x "java/lang/String" "coder" "B" (.int (0 : Int32))) (E_x : Exa Z h0 x "java/lang/String") (ge_x : n0 ≤ x) :
    MetFree l (⟨"java/lang/String", "<init>", "([CIILjava/lang/Void;)V"⟩ : MethodName) (head1 (Jvm.Cond.code (⟨"java/lang/String", "<init>", "([CIILjava/lang/Void;)V"⟩ : MethodName) jdk_42_method_149_code 6 none :: ws) ({ frames := 1, cells := 4, slots := 8, locals := 40 } : Room)) (fun ar' U => ar' = #[(.ref x), (.ref b), (.int (0 : Int32)), (.int (0 : Int32)), .null] ∧ Z.Warmed39 U.vm ∧ U.heap = h0 ∧ CHv Z consts_1 U.vm h0) (fun _ _ _ _ _ => True) (fun _ U o U' => ∃ v L, o = .returned v ∧ (Q_rmE4 Z x b h0 n0) v U'.heap L ∧ CHr Z consts_1 U.vm U.heap U'.vm U'.heap ∧ ReturnedEndW U o U' L ({ frames := 1, cells := 4, slots := 8, locals := 40 } : Room).cells ({ frames := 1, cells := 4, slots := 8, locals := 40 } : Room).slots) := by
  refine MetFree.of_bodySF (plainFor_of_name pn_java_lang_String) hisR ?_
  intro p e s m args below meth c s₁ Bd hml0 hP hK
  obtain ⟨rfl, hZ, hh, hCH0⟩ := hP
  have hx := Bd.exec
  have hby := Bd.bytes
  have hlk := BodyLoose.notSynchronized Bd
  have hml : c.maxLocals = 6 := hml0
  have hown : s.vm.findClass "java/lang/String" = some m.cls := findClass_of_methodNamed Bd.named
  have hnm := (name_of_methodNamed Bd.named Bd.method).1
  have X0 : Stand p l e ({ frames := 1, cells := 4, slots := 8, locals := 40 } : Room) (s.setVm s.vm) m #[(.ref x), (.ref b), (.int (0 : Int32)), (.int (0 : Int32)), .null] below meth c s₁ [] 0 0 := Stand.of_body Bd
  have e0 : s₁.heap = h0 := by rw [← hh, Bd.state]; rfl
  have N0 := Fr.nil n0
  have Z0 : n0 ≤ h0.size := O0.1 ▸ O0.2.1
  have hEL : EW Z a0 consts_1 := own_EW hw
  have wS := own_wS hw
  have es : s.heap = h0 := hh
  have hS : s.Since s.vm h0.size := (State.WarmedH.refl s).since _
  have hk : h0.size ≤ h0.size := Nat.le_refl _
  have CR : CHr Z consts_1 s.vm h0 s.vm h0 := CHr.refl hCH0
  show OEndsW p e below s Z consts_1 ({ frames := 1, cells := 4, slots := 8, locals := 40 } : Room).cells ({ frames := 1, cells := 4, slots := 8, locals := 40 } : Room).slots (Q_rmE4 Z x b h0 n0) (s₁.setTop (entryFrame m #[(.ref x), (.ref b), (.int (0 : Int32)), (.int (0 : Int32)), .null] 6))
  refine OEndsW.via (fun _ k => castTop (show entryFrame m #[(.ref x), (.ref b), (.int (0 : Int32)), (.int (0 : Int32)), .null] 6 = (mkF m 0 #[.val (.ref x), .val (.ref b), .val (.int (0 : Int32)), .val (.int (0 : Int32)), .val .null, .unset] []) by first | (simp [entryFrame, mkF, argsToLocals, Value.category, maxLocals]; done) | rfl) k) ?_
  have Od := O0
  have Kp := Keep.refl h0 [x]
  have sf_x : Safe Z consts_1 s.vm h0 x := own_safe_null hZ.alike E_x F_value_x
  show OEndsW p e below s _ _ _ _ _ (s₁.setTop (mkF m 0 #[.val (.ref x), .val (.ref b), .val (.int (0 : Int32)), .val (.int (0 : Int32)), .val .null, .unset] []))
  refine OEndsW.via (fun _ k => XS.aloadN X0.here hx rfl (hb hby d11_0) rfl rfl k) ?_
  show OEndsW p e below s _ _ _ _ _ (s₁.setTop (mkF m 1 #[.val (.ref x), .val (.ref b), .val (.int (0 : Int32)), .val (.int (0 : Int32)), .val .null, .unset] [(.ref x)]))
  obtain ⟨T1, X1, e1, st1⟩ := initO X0 hx hZ hown (hw _ (List.mem_of_getElem? (i := 60) rfl)) (hw _ (List.mem_of_getElem? (i := 61) rfl)) (hw _ (List.mem_of_getElem? (i := 62) rfl)) e0 (g := (mkF m 1 #[.val (.ref x), .val (.ref b), .val (.int (0 : Int32)), .val (.int (0 : Int32)), .val .null, .unset] [(.ref x)])) rfl (by rw [hml]; rfl) rfl (hb hby d11_1) (by decide) (W := 0) (by show 2 * 0 + _ ≤ _; exact Nat.le_of_eq rfl) (by decide)
  refine OEndsW.via (fun _ k => st1 _ k) ?_
  show OEndsW p e below s _ _ _ _ _ (T1.setTop (mkF m 4 #[.val (.ref x), .val (.ref b), .val (.int (0 : Int32)), .val (.int (0 : Int32)), .val .null, .unset] []))
  refine OEndsW.via (fun _ k => XS.iloadN X1.here hx rfl (hb hby d11_4) rfl k) ?_
  show OEndsW p e below s _ _ _ _ _ (T1.setTop (mkF m 5 #[.val (.ref x), .val (.ref b), .val (.int (0 : Int32)), .val (.int (0 : Int32)), .val .null, .unset] [(.int (0 : Int32))]))
  refine OEndsW.via (fun _ k => XS.ifNo X1.here hx rfl (hb hby d11_5) rfl ((if0 _ _).trans (teq (by decide : (0 : Int32) = (0 : Int32))).2) k) ?_
  show OEndsW p e below s _ _ _ _ _ (T1.setTop (mkF m 8 #[.val (.ref x), .val (.ref b), .val (.int (0 : Int32)), .val (.int (0 : Int32)), .val .null, .unset] []))
  refine OEndsW.via (fun _ k => XS.aloadN X1.here hx rfl (hb hby d11_8) rfl rfl k) ?_
  show OEndsW p e below s _ _ _ _ _ (T1.setTop (mkF m 9 #[.val (.ref x), .val (.ref b), .val (.int (0 : Int32)), .val (.int (0 : Int32)), .val .null, .unset] [(.ref x)]))
  obtain ⟨q2, T2, h2, k12, qv2, kq2, X2, e2, E2, hS2, hk2, hZ2, hown2, E_q2, C_q2, V_q2, K_q2, la2, lb2, CH2, Lt2, hsafe2, st2⟩ := ldcCH X1 hx hZ hown (hw _ (List.mem_of_getElem? (i := 111) rfl)) wS e1 hS hk hEL (by decide : ("java/lang/String", 7) ∈ consts_1) CR.1 (vs := []) (z := (0 : Int32)) (by decide) (by decide) (by decide) (g := (mkF m 9 #[.val (.ref x), .val (.ref b), .val (.int (0 : Int32)), .val (.int (0 : Int32)), .val .null, .unset] [(.ref x)])) rfl (hb hby d11_9) (n := 0) (by decide) (by decide) (by decide) (by decide)
  replace sf_x := CH2.safe F_value_x.lt sf_x
  have ne_x_q2 := (hsafe2 _ sf_x).1
  have ne_x_qv2 := (hsafe2 _ sf_x).2
  replace Od := Od.ext E2
  replace Kp := Kp.ext E2
  replace F_value_x := Fld.ext E2 F_value_x
  replace F_coder_x := Fld.ext E2 F_coder_x
  replace E_x := Exa.ext E2 E_x
  replace CR := CR.trans CH2
  replace hS := hS2
  replace hk := hk2
  replace hZ := hZ2
  replace hown := hown2
  refine OEndsW.via (fun _ k => st2 _ k) ?_
  show OEndsW p e below s _ _ _ _ _ (T2.setTop (mkF m 11 #[.val (.ref x), .val (.ref b), .val (.int (0 : Int32)), .val (.int (0 : Int32)), .val .null, .unset] [(.ref q2), (.ref x)]))
  obtain ⟨T3, X3, e3, st3⟩ := getF X2 hx hZ hown (host := "") (Or.inl (hw _ (List.mem_of_getElem? (i := 14) rfl))) Via.refl e2 V_q2 (g := (mkF m 11 #[.val (.ref x), .val (.ref b), .val (.int (0 : Int32)), .val (.int (0 : Int32)), .val .null, .unset] [(.ref q2), (.ref x)])) rfl rfl (hb hby d11_11)
  refine OEndsW.via (fun _ k => st3 _ k) ?_
  show OEndsW p e below s _ _ _ _ _ (T3.setTop (mkF m 14 #[.val (.ref x), .val (.ref b), .val (.int (0 : Int32)), .val (.int (0 : Int32)), .val .null, .unset] [(.ref qv2), (.ref x)]))
  obtain ⟨T4, h4, X4, e4, W4, st4⟩ := putF X3 hx hZ hown (host := "") (Or.inl (hw _ (List.mem_of_getElem? (i := 14) rfl))) Via.refl e3 F_value_x E_x (Or.inr ⟨(hw _ (List.mem_of_getElem? (i := 5) rfl)), rfl, hnm⟩) (hw _ (List.mem_of_getElem? (i := 3) rfl)) (ty := (.array .byte)) (by decide) rfl rfl (g := (mkF m 14 #[.val (.ref x), .val (.ref b), .val (.int (0 : Int32)), .val (.int (0 : Int32)), .val .null, .unset] [(.ref qv2), (.ref x)])) rfl rfl (hb hby d11_14)
  have N4 := Fr.snoc X4 N0 ge_x
  have sfw4 := sf_x
  replace hk := Nat.le_trans hk (Keep.of_wr W4).1
  replace Od := Od.wr W4 ge_x
  replace Kp := Kp.wr W4 (Or.inl (by simp))
  replace F_value_x := Fld.same W4 F_value_x
  replace F_coder_x := Fld.other W4 F_coder_x (Or.inr (slot_ne (Or.inr (hw _ (List.mem_of_getElem? (i := 6) rfl))) (Or.inr (hw _ (List.mem_of_getElem? (i := 5) rfl))) (by decide) (t := .byte) (t' := (.array .byte)) (by decide) (by decide)))
  replace E_x := Exa.wr W4 E_x
  replace sf_x := Safe.wr W4 sfw4 CR.1 sf_x
  replace E_q2 := Exa.wr W4 E_q2
  replace C_q2 := Fld.other W4 C_q2 (Or.inl (Ne.symm ne_x_q2))
  replace V_q2 := Fld.other W4 V_q2 (Or.inl (Ne.symm ne_x_q2))
  replace K_q2 := K_q2.other W4 (Ne.symm ne_x_qv2)
  replace CR := CR.trans (CHr.wr W4 sfw4 CR.1)
  refine OEndsW.via (fun _ k => st4 _ k) ?_
  show OEndsW p e below s _ _ _ _ _ (T4.setTop (mkF m 17 #[.val (.ref x), .val (.ref b), .val (.int (0 : Int32)), .val (.int (0 : Int32)), .val .null, .unset] []))
  refine OEndsW.via (fun _ k => XS.aloadN X4.here hx rfl (hb hby d11_17) rfl rfl k) ?_
  show OEndsW p e below s _ _ _ _ _ (T4.setTop (mkF m 18 #[.val (.ref x), .val (.ref b), .val (.int (0 : Int32)), .val (.int (0 : Int32)), .val .null, .unset] [(.ref x)]))
  obtain ⟨q5, T5, h5, k15, qv5, kq5, X5, e5, E5, hS5, hk5, hZ5, hown5, E_q5, C_q5, V_q5, K_q5, la5, lb5, CH5, Lt5, hsafe5, st5⟩ := ldcCH X4 hx hZ hown (hw _ (List.mem_of_getElem? (i := 111) rfl)) wS e4 hS hk hEL (by decide : ("java/lang/String", 7) ∈ consts_1) CR.1 (vs := []) (z := (0 : Int32)) (by decide) (by decide) (by decide) (g := (mkF m 18 #[.val (.ref x), .val (.ref b), .val (.int (0 : Int32)), .val (.int (0 : Int32)), .val .null, .unset] [(.ref x)])) rfl (hb hby d11_18) (n := 0) (by decide) (by decide) (by decide) (by decide)
  replace sf_x := CH5.safe F_value_x.lt sf_x
  have ne_x_q5 := (hsafe5 _ sf_x).1
  have ne_x_qv5 := (hsafe5 _ sf_x).2
  replace Od := Od.ext E5
  replace Kp := Kp.ext E5
  replace F_value_x := Fld.ext E5 F_value_x
  replace F_coder_x := Fld.ext E5 F_coder_x
  replace E_x := Exa.ext E5 E_x
  replace E_q2 := Exa.ext E5 E_q2
  replace C_q2 := Fld.ext E5 C_q2
  replace V_q2 := Fld.ext E5 V_q2
  replace K_q2 := K_q2.ext E5
  replace CR := CR.trans CH5
  replace hS := hS5
  replace hk := hk5
  replace hZ := hZ5
  replace hown := hown5
  refine OEndsW.via (fun _ k => st5 _ k) ?_
  show OEndsW p e below s _ _ _ _ _ (T5.setTop (mkF m 20 #[.val (.ref x), .val (.ref b), .val (.int (0 : Int32)), .val (.int (0 : Int32)), .val .null, .unset] [(.ref q5), (.ref x)]))
  obtain ⟨T6, X6, e6, st6⟩ := getF X5 hx hZ hown (host := "") (Or.inl (hw _ (List.mem_of_getElem? (i := 21) rfl))) Via.refl e5 C_q5 (g := (mkF m 20 #[.val (.ref x), .val (.ref b), .val (.int (0 : Int32)), .val (.int (0 : Int32)), .val .null, .unset] [(.ref q5), (.ref x)])) rfl rfl (hb hby d11_20)
  refine OEndsW.via (fun _ k => st6 _ k) ?_
  show OEndsW p e below s _ _ _ _ _ (T6.setTop (mkF m 23 #[.val (.ref x), .val (.ref b), .val (.int (0 : Int32)), .val (.int (0 : Int32)), .val .null, .unset] [(.int (0 : Int32)), (.ref x)]))
  obtain ⟨T7, h7, X7, e7, W7, st7⟩ := putFN X6 hx hZ hown (hw _ (List.mem_of_getElem? (i := 21) rfl)) Via.refl e6 F_coder_x E_x (Or.inr ⟨(hw _ (List.mem_of_getElem? (i := 6) rfl)), rfl, hnm⟩) (hw _ (List.mem_of_getElem? (i := 3) rfl)) (ty := .byte) (v' := (.int (0 : Int32))) (by decide) rfl rfl (g := (mkF m 23 #[.val (.ref x), .val (.ref b), .val (.int (0 : Int32)), .val (.int (0 : Int32)), .val .null, .unset] [(.int (0 : Int32)), (.ref x)])) rfl rfl (hb hby d11_23)
  have N7 := Fr.snoc X7 N4 ge_x
  have sfw7 := sf_x
  replace hk := Nat.le_trans hk (Keep.of_wr W7).1
  replace Od := Od.wr W7 ge_x
  replace Kp := Kp.wr W7 (Or.inl (by simp))
  replace F_value_x := Fld.other W7 F_value_x (Or.inr (slot_ne (Or.inr (hw _ (List.mem_of_getElem? (i := 5) rfl))) (Or.inr (hw _ (List.mem_of_getElem? (i := 6) rfl))) (by decide) (t := (.array .byte)) (t' := .byte) (by decide) (by decide)))
  replace F_coder_x := Fld.same W7 F_coder_x
  replace E_x := Exa.wr W7 E_x
  replace sf_x := Safe.wr W7 sfw7 CR.1 sf_x
  replace E_q2 := Exa.wr W7 E_q2
  replace C_q2 := Fld.other W7 C_q2 (Or.inl (Ne.symm ne_x_q2))
  replace V_q2 := Fld.other W7 V_q2 (Or.inl (Ne.symm ne_x_q2))
  replace K_q2 := K_q2.other W7 (Ne.symm ne_x_qv2)
  replace E_q5 := Exa.wr W7 E_q5
  replace C_q5 := Fld.other W7 C_q5 (Or.inl (Ne.symm ne_x_q5))
  replace V_q5 := Fld.other W7 V_q5 (Or.inl (Ne.symm ne_x_q5))
  replace K_q5 := K_q5.other W7 (Ne.symm ne_x_qv5)
  replace CR := CR.trans (CHr.wr W7 sfw7 CR.1)
  refine OEndsW.via (fun _ k => st7 _ k) ?_
  show OEndsW p e below s _ _ _ _ _ (T7.setTop (mkF m 26 #[.val (.ref x), .val (.ref b), .val (.int (0 : Int32)), .val (.int (0 : Int32)), .val .null, .unset] []))
  refine OEndsW.retV X7 hx hlk hS hk hZ hEL e7 es CR Bd.returns (hb hby d11_26) ?_ (by decide) (by decide)
  rw [e7]
  exact ⟨rfl, N7, Kp, ⟨_, _, _, _, _, E_x, F_value_x, F_coder_x, K_q2, own_cod0⟩⟩
theorem d10_0 : decode jdk_42_method_3_code 0 = .ok (.aload_n 0, 1) := by decide +kernel
theorem d10_1 : decode jdk_42_method_3_code 1 = .ok (.aload_n 1, 1) := by decide +kernel
theorem d10_2 : decode jdk_42_method_3_code 2 = .ok (.iconst 0, 1) := by decide +kernel
theorem d10_3 : decode jdk_42_method_3_code 3 = .ok (.aload_n 1, 1) := by decide +kernel
theorem d10_4 : decode jdk_42_method_3_code 4 = .ok (.arraylength, 1) := by decide +kernel
theorem d10_5 : decode jdk_42_method_3_code 5 = .ok (.aconst_null, 1) := by decide +kernel
theorem d10_6 : decode jdk_42_method_3_code 6 = .ok (.invokespecial 27, 3) := by decide +kernel
theorem d10_9 : decode jdk_42_method_3_code 9 = .ok (.return_, 1) := by decide +kernel
def Q_rmE1 (Z : State) (x : Addr) (b : Addr) (kC : ClassId) (dC : Value) (h0 : Heap) (n0 : Nat) (v : Option Value) (h : Heap) (L : List Loc) : Prop := v = none ∧ Fr n0 L ∧ Keep h0 h [x] ∧ OStr Z h x []
theorem pd_285bCIILjava2flang2fVoid3b29V : parseMethodDescriptor "([CIILjava/lang/Void;)V" = some ⟨[(.array .char), .int, .int, (.object "java/lang/Void")], none⟩ := by decide +kernel
set_option maxRecDepth 65536 in
set_option maxHeartbeats 40000000 in
theorem rmE1 (l : Launch) (Z : State) (a0 : Array Value) (hw : ∀ d ∈ tables_1, d.before a0 Z = true) (ws : List Jvm.Cond) (x : Addr) (b : Addr) (kC : ClassId) (dC : Value) (h0 : Heap) (n0 : Nat) (O0 : Old Z n0 h0) (F_value_x : Fld Z h0 x "java/lang/String" "value" "[B" .null) (F_coder_x : Fld Z h0 x "java/lang/String" "coder" "B" (.int (0 : Int32))) (E_x : Exa Z h0 x "java/lang/String") (ge_x : n0 ≤ x) (V_b : Arv Z h0 b kC .char (0 : Int32) [] dC) :
    MetFree l (⟨"java/lang/String", "<init>", "([C)V"⟩ : MethodName) (head1 (Jvm.Cond.code (⟨"java/lang/String", "<init>", "([C)V"⟩ : MethodName) jdk_42_method_3_code 2 none :: ws) ({ frames := 2, cells := 4, slots := 8, locals := 64 } : Room)) (fun ar' U => ar' = #[(.ref x), (.ref b)] ∧ Z.Warmed39 U.vm ∧ U.heap = h0 ∧ CHv Z consts_1 U.vm h0) (fun _ _ _ _ _ => True) (fun _ U o U' => ∃ v L, o = .returned v ∧ (Q_rmE1 Z x b kC dC h0 n0) v U'.heap L ∧ CHr Z consts_1 U.vm U.heap U'.vm U'.heap ∧ ReturnedEndW U o U' L ({ frames := 2, cells := 4, slots := 8, locals := 64 } : Room).cells ({ frames := 2, cells := 4, slots := 8, locals := 64 } : Room).slots) := by
  refine MetFree.of_bodySF (plainFor_of_name pn_java_lang_String) hisR ?_
  intro p e s m args below meth c s₁ Bd hml0 hP hK
  obtain ⟨rfl, hZ, hh, hCH0⟩ := hP
  have hx := Bd.exec
  have hby := Bd.bytes
  have hlk := BodyLoose.notSynchronized Bd
  have hml : c.maxLocals = 2 := hml0
  have hown : s.vm.findClass "java/lang/String" = some m.cls := findClass_of_methodNamed Bd.named
  have hnm := (name_of_methodNamed Bd.named Bd.method).1
  have X0 : Stand p l e ({ frames := 2, cells := 4, slots := 8, locals := 64 } : Room) (s.setVm s.vm) m #[(.ref x), (.ref b)] below meth c s₁ [] 0 0 := Stand.of_body Bd
  have e0 : s₁.heap = h0 := by rw [← hh, Bd.state]; rfl
  have N0 := Fr.nil n0
  have Z0 : n0 ≤ h0.size := O0.1 ▸ O0.2.1
  have hEL : EW Z a0 consts_1 := own_EW hw
  have wS := own_wS hw
  have es : s.heap = h0 := hh
  have hS : s.Since s.vm h0.size := (State.WarmedH.refl s).since _
  have hk : h0.size ≤ h0.size := Nat.le_refl _
  have CR : CHr Z consts_1 s.vm h0 s.vm h0 := CHr.refl hCH0
  show OEndsW p e below s Z consts_1 ({ frames := 2, cells := 4, slots := 8, locals := 64 } : Room).cells ({ frames := 2, cells := 4, slots := 8, locals := 64 } : Room).slots (Q_rmE1 Z x b kC dC h0 n0) (s₁.setTop (entryFrame m #[(.ref x), (.ref b)] 2))
  refine OEndsW.via (fun _ k => castTop (show entryFrame m #[(.ref x), (.ref b)] 2 = (mkF m 0 #[.val (.ref x), .val (.ref b)] []) by first | (simp [entryFrame, mkF, argsToLocals, Value.category, maxLocals]; done) | rfl) k) ?_
  obtain ⟨cl, Ar, qA, Sa, MA, HA, GA⟩ := V_b
  show OEndsW p e below s _ _ _ _ _ (s₁.setTop (mkF m 0 #[.val (.ref x), .val (.ref b)] []))
  refine OEndsW.via (fun _ k => XS.aloadN X0.here hx rfl (hb hby d10_0) rfl rfl k) ?_
  show OEndsW p e below s _ _ _ _ _ (s₁.setTop (mkF m 1 #[.val (.ref x), .val (.ref b)] [(.ref x)]))
  refine OEndsW.via (fun _ k => XS.aloadN X0.here hx rfl (hb hby d10_1) rfl rfl k) ?_
  show OEndsW p e below s _ _ _ _ _ (s₁.setTop (mkF m 2 #[.val (.ref x), .val (.ref b)] [(.ref b), (.ref x)]))
  refine OEndsW.via (fun _ k => XS.iconst X0.here hx rfl (hb hby d10_2) k) ?_
  show OEndsW p e below s _ _ _ _ _ (s₁.setTop (mkF m 3 #[.val (.ref x), .val (.ref b)] [(.int (0 : Int32)), (.ref b), (.ref x)]))
  refine OEndsW.via (fun _ k => XS.aloadN X0.here hx rfl (hb hby d10_3) rfl rfl k) ?_
  show OEndsW p e below s _ _ _ _ _ (s₁.setTop (mkF m 4 #[.val (.ref x), .val (.ref b)] [(.ref b), (.int (0 : Int32)), (.ref b), (.ref x)]))
  refine OEndsW.via (fun _ k => X0.arraylength hx (by rw [e0]; exact Ar.1) (State.isArrayOf_alike hZ.alike Ar.2.1) (g := (mkF m 4 #[.val (.ref x), .val (.ref b)] [(.ref b), (.int (0 : Int32)), (.ref b), (.ref x)])) rfl rfl (hb hby d10_4) _ k) ?_
  rw [len_of Sa MA]
  show OEndsW p e below s _ _ _ _ _ (s₁.setTop (mkF m 5 #[.val (.ref x), .val (.ref b)] [(.int (0 : Int32)), (.int (0 : Int32)), (.ref b), (.ref x)]))
  refine OEndsW.via (fun _ k => XS.aconstNull X0.here hx rfl (hb hby d10_5) k) ?_
  show OEndsW p e below s _ _ _ _ _ (s₁.setTop (mkF m 6 #[.val (.ref x), .val (.ref b)] [.null, (.int (0 : Int32)), (.int (0 : Int32)), (.ref b), (.ref x)]))
  obtain ⟨_, _, ⟨T1, L1, k1, n1⟩, -, X1, S1, G1, ⟨Lc1, hQ1, l1, y1, z1, CH1⟩, st1⟩ := X0.specialBackS hx (y := (⟨"java/lang/String", "<init>", "([CIILjava/lang/Void;)V"⟩ : MethodName)) rfl hown (mvT hZ (hw _ (List.mem_of_getElem? (i := 56) rfl))) (mvT hZ (hw _ (List.mem_of_getElem? (i := 57) rfl))) (mvT hZ (hw _ (List.mem_of_getElem? (i := 59) rfl))) (by decide) (backOfSH (W := 0) (rmE4 l Z a0 hw [] x b h0 n0 O0 F_value_x F_coder_x E_x ge_x) hZ (hw _ (List.mem_of_getElem? (i := 59) rfl)) (hw _ (List.mem_of_getElem? (i := 2) rfl)) (by decide) (by decide) hEL CR.1) (g := (mkF m 6 #[.val (.ref x), .val (.ref b)] [.null, (.int (0 : Int32)), (.int (0 : Int32)), (.ref b), (.ref x)])) rfl (by rw [hml]; rfl) (Steps.refl _) (a := x) (argsL := [(.ref b), (.int (0 : Int32)), (.int (0 : Int32)), .null]) (rest := []) (lenOf pd_285bCIILjava2flang2fVoid3b29V rfl) rfl (by show 2 * 0 + _ ≤ _; exact Nat.le_of_eq rfl) (hb hby d10_6) (fun _ _ => ⟨rfl, e0, Nat.le_of_ble_eq_true rfl, Nat.le_of_ble_eq_true rfl⟩)
  dsimp only [Pt.U, Pt.locs, Pt.cells, Pt.slots] at X1 S1 G1 l1 y1 z1 st1 hQ1 CH1
  subst l1 y1 z1
  obtain ⟨X1, hS, hZ, hown⟩ := rebS hS (by rw [e0]; exact hk) X1 S1 G1 hZ hown
  replace CR := CR.trans CH1
  replace hk := Nat.le_refl T1.heap.size
  obtain ⟨rfl, N1q, K1, O1⟩ := hQ1
  have N1 := Fr.app N0 N1q
  refine OEndsW.via (fun _ k => st1.trans k) ?_
  show OEndsW p e below s _ _ _ _ _ (T1.setTop (mkF m 9 #[.val (.ref x), .val (.ref b)] []))
  refine OEndsW.retV X1 hx hlk hS hk hZ hEL rfl es CR Bd.returns (hb hby d10_9) ?_ (by decide) (by decide)
  exact ⟨rfl, N1, K1, O1⟩
theorem d19_0 : decode prog_9_method_1_code 0 = .ok (.getstatic 13, 3) := by decide +kernel
theorem d19_3 : decode prog_9_method_1_code 3 = .ok (.invokevirtual 17, 3) := by decide +kernel
theorem d19_6 : decode prog_9_method_1_code 6 = .ok (.checkcast 18, 3) := by decide +kernel
theorem d19_9 : decode prog_9_method_1_code 9 = .ok (.areturn, 1) := by decide +kernel
theorem pn_com_example_odds3_odds3_engine_ValueType : plainName "com/example/odds3/odds3/engine/ValueType" = true := by first | (simp [plainName, overriddenIn]; done) | decide +kernel
def Q_rmV (Z : State) (a_NUMBER : Addr) (a_BOOLEAN : Addr) (a_STRING : Addr) (va : Addr) (kA : ClassId) (h0 : Heap) (n0 : Nat) (v : Option Value) (h : Heap) (L : List Loc) : Prop := ∃ b, v = some (.ref b) ∧ Fr n0 L ∧ Keep h0 h [] ∧ Arv Z h b kA (.object "com/example/odds3/odds3/engine/ValueType") (3 : Int32) [(.ref a_NUMBER), (.ref a_BOOLEAN), (.ref a_STRING)] .null
theorem pd_2829Ljava2flang2fObject3b : parseMethodDescriptor "()Ljava/lang/Object;" = some ⟨[], some (.object "java/lang/Object")⟩ := by decide +kernel
set_option maxRecDepth 65536 in
set_option maxHeartbeats 40000000 in
theorem rmV (l : Launch) (Z : State) (a0 : Array Value) (hw : ∀ d ∈ tables_1, d.before a0 Z = true) (ws : List Jvm.Cond) (a_NUMBER : Addr) (a_BOOLEAN : Addr) (a_STRING : Addr) (va : Addr) (kA : ClassId) (h0 : Heap) (n0 : Nat) (O0 : Old Z n0 h0) (S_V : Sta Z Z.heap "com/example/odds3/odds3/engine/ValueType" "$VALUES" "[Lcom/example/odds3/odds3/engine/ValueType;" (.ref va)) (AV : Arv Z Z.heap va kA (.object "com/example/odds3/odds3/engine/ValueType") (3 : Int32) [(.ref a_NUMBER), (.ref a_BOOLEAN), (.ref a_STRING)] .null) (EV : Exa Z Z.heap va "[Lcom/example/odds3/odds3/engine/ValueType;") :
    MetFree l (⟨"com/example/odds3/odds3/engine/ValueType", "values", "()[Lcom/example/odds3/odds3/engine/ValueType;"⟩ : MethodName) (head1 (Jvm.Cond.code (⟨"com/example/odds3/odds3/engine/ValueType", "values", "()[Lcom/example/odds3/odds3/engine/ValueType;"⟩ : MethodName) prog_9_method_1_code 0 (some (.array (.object "com/example/odds3/odds3/engine/ValueType"))) :: ws) ({ frames := 1, cells := 1, slots := 3, locals := 14 } : Room)) (fun ar' U => ar' = #[] ∧ Z.Warmed39 U.vm ∧ U.heap = h0) (fun _ _ _ _ _ => True) (fun _ U o U' => ∃ v L, o = .returned v ∧ (Q_rmV Z a_NUMBER a_BOOLEAN a_STRING va kA h0 n0) v U'.heap L ∧ FrameEnd U o U' L ({ frames := 1, cells := 1, slots := 3, locals := 14 } : Room).cells ({ frames := 1, cells := 1, slots := 3, locals := 14 } : Room).slots) := by
  refine MetFree.of_bodySF (plainFor_of_name pn_com_example_odds3_odds3_engine_ValueType) hisR ?_
  intro p e s m args below meth c s₁ Bd hml0 hP hK
  obtain ⟨rfl, hZ, hh⟩ := hP
  have hx := Bd.exec
  have hby := Bd.bytes
  have hlk := BodyLoose.notSynchronized Bd
  have hml : c.maxLocals = 0 := hml0
  have hown : s.vm.findClass "com/example/odds3/odds3/engine/ValueType" = some m.cls := findClass_of_methodNamed Bd.named
  have hnm := (name_of_methodNamed Bd.named Bd.method).1
  have X0 : Stand p l e ({ frames := 1, cells := 1, slots := 3, locals := 14 } : Room) s m #[] below meth c s₁ [] 0 0 := Stand.of_body Bd
  have e0 : s₁.heap = h0 := by rw [← hh, Bd.state]; rfl
  have N0 := Fr.nil n0
  have Z0 : n0 ≤ h0.size := O0.1 ▸ O0.2.1
  show OEnds p e below s ({ frames := 1, cells := 1, slots := 3, locals := 14 } : Room).cells ({ frames := 1, cells := 1, slots := 3, locals := 14 } : Room).slots (Q_rmV Z a_NUMBER a_BOOLEAN a_STRING va kA h0 n0) (s₁.setTop (entryFrame m #[] 0))
  refine OEnds.via (fun _ k => castTop (show entryFrame m #[] 0 = (mkF m 0 #[] []) by first | (simp [entryFrame, mkF, argsToLocals, Value.category, maxLocals]; done) | rfl) k) ?_
  obtain ⟨T1, X1, e1, st1⟩ := getS2 X0 hx hZ hown (host := "") (Or.inl (hw _ (List.mem_of_getElem? (i := 91) rfl))) Via.refl e0 (Sta.ext O0.2 S_V) (g := (mkF m 0 #[] [])) rfl (hb hby d19_0)
  refine OEnds.via (fun _ k => st1 _ k) ?_
  show OEnds p e below s _ _ _ (T1.setTop (mkF m 3 #[] [(.ref va)]))
  obtain ⟨T2, h2, X2, e2, E2, A2, F2, st2⟩ := cloneH X1 hx hZ hown (hw _ (List.mem_of_getElem? (i := 93) rfl)) (hw _ (List.mem_of_getElem? (i := 94) rfl)) (hw _ (List.mem_of_getElem? (i := 98) rfl)) (hw _ (List.mem_of_getElem? (i := 96) rfl)) (hw _ (List.mem_of_getElem? (i := 97) rfl)) (hw _ (List.mem_of_getElem? (i := 99) rfl)) e1 (AV.arh.ext O0.2) (EV.ext O0.2) (g := (mkF m 3 #[] [(.ref va)])) rfl (by rw [hml]; rfl) rfl (hb hby d19_3) (by decide) (W := 0) (cap := 3) (Nat.le_refl 0) (by decide) (by decide) (by decide) (by decide)
  refine OEnds.via (fun _ k => st2 _ k) ?_
  show OEnds p e below s _ _ _ (T2.setTop (mkF m 6 #[] [(.ref h0.size)]))
  obtain ⟨T3, X3, e3, st3⟩ := castY X2 hx hZ hown (hw _ (List.mem_of_getElem? (i := 104) rfl)) e2 (Ins.self F2) (g := (mkF m 6 #[] [(.ref h0.size)])) rfl rfl (hb hby d19_6)
  refine OEnds.via (fun _ k => st3 _ k) ?_
  show OEnds p e below s _ _ _ (T3.setTop (mkF m 9 #[] [(.ref h0.size)]))
  refine OEnds.retR X3 hx hlk Bd.returns rfl rfl (hb hby d19_9) ?_ (by decide) (by decide)
  rw [e3]
  exact ⟨_, rfl, N0, (Keep.refl h0 []).ext E2, A2⟩
theorem d18_0 : decode prog_9_method_5_code 0 = .ok (.invokestatic 36, 3) := by decide +kernel
theorem d18_3 : decode prog_9_method_5_code 3 = .ok (.astore_n 1, 1) := by decide +kernel
theorem d18_4 : decode prog_9_method_5_code 4 = .ok (.aload_n 1, 1) := by decide +kernel
theorem d18_5 : decode prog_9_method_5_code 5 = .ok (.arraylength, 1) := by decide +kernel
theorem d18_6 : decode prog_9_method_5_code 6 = .ok (.istore_n 2, 1) := by decide +kernel
theorem d18_7 : decode prog_9_method_5_code 7 = .ok (.iconst 0, 1) := by decide +kernel
theorem d18_8 : decode prog_9_method_5_code 8 = .ok (.istore_n 3, 1) := by decide +kernel
theorem d18_9 : decode prog_9_method_5_code 9 = .ok (.iload_n 3, 1) := by decide +kernel
theorem d18_10 : decode prog_9_method_5_code 10 = .ok (.iload_n 2, 1) := by decide +kernel
theorem d18_11 : decode prog_9_method_5_code 11 = .ok (.if_icmp .ge 29, 3) := by decide +kernel
theorem d18_14 : decode prog_9_method_5_code 14 = .ok (.aload_n 1, 1) := by decide +kernel
theorem d18_15 : decode prog_9_method_5_code 15 = .ok (.iload_n 3, 1) := by decide +kernel
theorem d18_16 : decode prog_9_method_5_code 16 = .ok (.aaload, 1) := by decide +kernel
theorem d18_17 : decode prog_9_method_5_code 17 = .ok (.astore 4, 2) := by decide +kernel
theorem d18_19 : decode prog_9_method_5_code 19 = .ok (.aload 4, 2) := by decide +kernel
theorem d18_21 : decode prog_9_method_5_code 21 = .ok (.getfield 32, 3) := by decide +kernel
theorem d18_24 : decode prog_9_method_5_code 24 = .ok (.aload_n 0, 1) := by decide +kernel
theorem d18_25 : decode prog_9_method_5_code 25 = .ok (.invokevirtual 40, 3) := by decide +kernel
theorem d18_28 : decode prog_9_method_5_code 28 = .ok (.ifCond .eq 6, 3) := by decide +kernel
theorem d18_31 : decode prog_9_method_5_code 31 = .ok (.aload 4, 2) := by decide +kernel
theorem d18_33 : decode prog_9_method_5_code 33 = .ok (.areturn, 1) := by decide +kernel
theorem d18_34 : decode prog_9_method_5_code 34 = .ok (.iinc 3 1, 3) := by decide +kernel
theorem d18_37 : decode prog_9_method_5_code 37 = .ok (.goto (-28), 3) := by decide +kernel
theorem d18_40 : decode prog_9_method_5_code 40 = .ok (.aconst_null, 1) := by decide +kernel
theorem d18_41 : decode prog_9_method_5_code 41 = .ok (.areturn, 1) := by decide +kernel
def Q_rmN (Z : State) (x : Addr) (tx : Addr) (kx : ClassId) (cd : Int32) (nx : Int32) (vx : List Value) (cs : List Int32) (a_NUMBER : Addr) (a_BOOLEAN : Addr) (a_STRING : Addr) (t_NUMBER : Addr) (t_BOOLEAN : Addr) (t_STRING : Addr) (tv_NUMBER : Addr) (tv_BOOLEAN : Addr) (tv_STRING : Addr) (kt_NUMBER : ClassId) (kt_BOOLEAN : ClassId) (kt_STRING : ClassId) (va : Addr) (kA : ClassId) (G1 : Int32) (res : Value) (h0 : Heap) (n0 : Nat) (v : Option Value) (h : Heap) (L : List Loc) : Prop := v = some res ∧ Fr n0 L ∧ Keep h0 h []
theorem pd_28295bLcom2fexample2fodds32fodds32fengine2fValueType3b : parseMethodDescriptor "()[Lcom/example/odds3/odds3/engine/ValueType;" = some ⟨[], some (.array (.object "com/example/odds3/odds3/engine/ValueType"))⟩ := by decide +kernel
theorem pd_28Ljava2flang2fObject3b29Z : parseMethodDescriptor "(Ljava/lang/Object;)Z" = some ⟨[(.object "java/lang/Object")], some .boolean⟩ := by decide +kernel
set_option maxRecDepth 65536 in
set_option maxHeartbeats 40000000 in
theorem rmN (l : Launch) (Z : State) (a0 : Array Value) (hw : ∀ d ∈ tables_1, d.before a0 Z = true) (ws : List Jvm.Cond) (x : Addr) (tx : Addr) (kx : ClassId) (cd : Int32) (nx : Int32) (vx : List Value) (cs : List Int32) (a_NUMBER : Addr) (a_BOOLEAN : Addr) (a_STRING : Addr) (t_NUMBER : Addr) (t_BOOLEAN : Addr) (t_STRING : Addr) (tv_NUMBER : Addr) (tv_BOOLEAN : Addr) (tv_STRING : Addr) (kt_NUMBER : ClassId) (kt_BOOLEAN : ClassId) (kt_STRING : ClassId) (va : Addr) (kA : ClassId) (G1 : Int32) (res : Value) (h0 : Heap) (n0 : Nat) (O0 : Old Z n0 h0) (Ex : Exa Z h0 x "java/lang/String") (Vx : Fld Z h0 x "java/lang/String" "value" "[B" (.ref tx)) (Cx : Fld Z h0 x "java/lang/String" "coder" "B" (.int cd)) (Kx : Arv Z h0 tx kx .byte nx vx (.int (0 : Int32))) (hcx : StrChars.Road.CodA cs cd nx vx) (hbx : ∀ c ∈ cs, ¬ c < 0 ∧ ¬ (65535 : Int32) < c) (lex : cs.length ≤ 4000) (S_CS : Sta Z Z.heap "java/lang/String" "COMPACT_STRINGS" "Z" (.int G1)) (nz_CS : ¬ (G1 = (0 : Int32))) (S_V : Sta Z Z.heap "com/example/odds3/odds3/engine/ValueType" "$VALUES" "[Lcom/example/odds3/odds3/engine/ValueType;" (.ref va)) (AV : Arv Z Z.heap va kA (.object "com/example/odds3/odds3/engine/ValueType") (3 : Int32) [(.ref a_NUMBER), (.ref a_BOOLEAN), (.ref a_STRING)] .null) (EV : Exa Z Z.heap va "[Lcom/example/odds3/odds3/engine/ValueType;") (Et_NUMBER : Exa Z Z.heap t_NUMBER "java/lang/String") (Vt_NUMBER : Fld Z Z.heap t_NUMBER "java/lang/String" "value" "[B" (.ref tv_NUMBER)) (Ct_NUMBER : Fld Z Z.heap t_NUMBER "java/lang/String" "coder" "B" (.int (0 : Int32))) (Kt_NUMBER : Arv Z Z.heap tv_NUMBER kt_NUMBER .byte (6 : Int32) [(.int (110 : Int32)), (.int (117 : Int32)), (.int (109 : Int32)), (.int (98 : Int32)), (.int (101 : Int32)), (.int (114 : Int32))] (.int (0 : Int32))) (Ft_NUMBER : Fld Z Z.heap a_NUMBER "com/example/odds3/odds3/engine/ValueType" "policyName" "Ljava/lang/String;" (.ref t_NUMBER)) (Et_BOOLEAN : Exa Z Z.heap t_BOOLEAN "java/lang/String") (Vt_BOOLEAN : Fld Z Z.heap t_BOOLEAN "java/lang/String" "value" "[B" (.ref tv_BOOLEAN)) (Ct_BOOLEAN : Fld Z Z.heap t_BOOLEAN "java/lang/String" "coder" "B" (.int (0 : Int32))) (Kt_BOOLEAN : Arv Z Z.heap tv_BOOLEAN kt_BOOLEAN .byte (7 : Int32) [(.int (98 : Int32)), (.int (111 : Int32)), (.int (111 : Int32)), (.int (108 : Int32)), (.int (101 : Int32)), (.int (97 : Int32)), (.int (110 : Int32))] (.int (0 : Int32))) (Ft_BOOLEAN : Fld Z Z.heap a_BOOLEAN "com/example/odds3/odds3/engine/ValueType" "policyName" "Ljava/lang/String;" (.ref t_BOOLEAN)) (Et_STRING : Exa Z Z.heap t_STRING "java/lang/String") (Vt_STRING : Fld Z Z.heap t_STRING "java/lang/String" "value" "[B" (.ref tv_STRING)) (Ct_STRING : Fld Z Z.heap t_STRING "java/lang/String" "coder" "B" (.int (0 : Int32))) (Kt_STRING : Arv Z Z.heap tv_STRING kt_STRING .byte (6 : Int32) [(.int (115 : Int32)), (.int (116 : Int32)), (.int (114 : Int32)), (.int (105 : Int32)), (.int (110 : Int32)), (.int (103 : Int32))] (.int (0 : Int32))) (Ft_STRING : Fld Z Z.heap a_STRING "com/example/odds3/odds3/engine/ValueType" "policyName" "Ljava/lang/String;" (.ref t_STRING)) (hres : res = own_named a_NUMBER a_BOOLEAN a_STRING cs) :
    MetFree l (⟨"com/example/odds3/odds3/engine/ValueType", "named", "(Ljava/lang/String;)Lcom/example/odds3/odds3/engine/ValueType;"⟩ : MethodName) (head1 (Jvm.Cond.code (⟨"com/example/odds3/odds3/engine/ValueType", "named", "(Ljava/lang/String;)Lcom/example/odds3/odds3/engine/ValueType;"⟩ : MethodName) prog_9_method_5_code 5 (some (.object "com/example/odds3/odds3/engine/ValueType")) :: ws) ({ frames := 3, cells := 1, slots := 3, locals := 60 } : Room)) (fun ar' U => ar' = #[(.ref x)] ∧ Z.Warmed39 U.vm ∧ U.heap = h0) (fun _ _ _ _ _ => True) (fun _ U o U' => ∃ v L, o = .returned v ∧ (Q_rmN Z x tx kx cd nx vx cs a_NUMBER a_BOOLEAN a_STRING t_NUMBER t_BOOLEAN t_STRING tv_NUMBER tv_BOOLEAN tv_STRING kt_NUMBER kt_BOOLEAN kt_STRING va kA G1 res h0 n0) v U'.heap L ∧ FrameEnd U o U' L ({ frames := 3, cells := 1, slots := 3, locals := 60 } : Room).cells ({ frames := 3, cells := 1, slots := 3, locals := 60 } : Room).slots) := by
  refine MetFree.of_bodySF (plainFor_of_name pn_com_example_odds3_odds3_engine_ValueType) hisR ?_
  intro p e s m args below meth c s₁ Bd hml0 hP hK
  obtain ⟨rfl, hZ, hh⟩ := hP
  have hx := Bd.exec
  have hby := Bd.bytes
  have hlk := BodyLoose.notSynchronized Bd
  have hml : c.maxLocals = 5 := hml0
  have hown : s.vm.findClass "com/example/odds3/odds3/engine/ValueType" = some m.cls := findClass_of_methodNamed Bd.named
  have hnm := (name_of_methodNamed Bd.named Bd.method).1
  have X0 : Stand p l e ({ frames := 3, cells := 1, slots := 3, locals := 60 } : Room) s m #[(.ref x)] below meth c s₁ [] 0 0 := Stand.of_body Bd
  have e0 : s₁.heap = h0 := by rw [← hh, Bd.state]; rfl
  have N0 := Fr.nil n0
  have Z0 : n0 ≤ h0.size := O0.1 ▸ O0.2.1
  show OEnds p e below s ({ frames := 3, cells := 1, slots := 3, locals := 60 } : Room).cells ({ frames := 3, cells := 1, slots := 3, locals := 60 } : Room).slots (Q_rmN Z x tx kx cd nx vx cs a_NUMBER a_BOOLEAN a_STRING t_NUMBER t_BOOLEAN t_STRING tv_NUMBER tv_BOOLEAN tv_STRING kt_NUMBER kt_BOOLEAN kt_STRING va kA G1 res h0 n0) (s₁.setTop (entryFrame m #[(.ref x)] 5))
  refine OEnds.via (fun _ k => castTop (show entryFrame m #[(.ref x)] 5 = (mkF m 0 #[.val (.ref x), .unset, .unset, .unset, .unset] []) by first | (simp [entryFrame, mkF, argsToLocals, Value.category, maxLocals]; done) | rfl) k) ?_
  have heq : ∀ d ∈ StrChars.Road.wordsEq, d.before a0 Z = true := fun d hd => hw d ((by decide +kernel : ∀ d ∈ StrChars.Road.wordsEq, d ∈ tables_1) d hd)
  have Od := O0
  have Kp := Keep.refl h0 []
  have hp_t_NUMBER : ∀ c ∈ ([(110 : Int32), (117 : Int32), (109 : Int32), (98 : Int32), (101 : Int32), (114 : Int32)] : List Int32), ¬ c < 0 ∧ ¬ (255 : Int32) < c := by decide
  have hcd_t_NUMBER : StrChars.Road.CodA ([(110 : Int32), (117 : Int32), (109 : Int32), (98 : Int32), (101 : Int32), (114 : Int32)] : List Int32) 0 (6 : Int32) [(.int (110 : Int32)), (.int (117 : Int32)), (.int (109 : Int32)), (.int (98 : Int32)), (.int (101 : Int32)), (.int (114 : Int32))] := StrChars.Road.codOf (n := 6) rfl (fun c hc => (hp_t_NUMBER c hc).2)
  have hbd_t_NUMBER := own_up _ hp_t_NUMBER
  have hp_t_BOOLEAN : ∀ c ∈ ([(98 : Int32), (111 : Int32), (111 : Int32), (108 : Int32), (101 : Int32), (97 : Int32), (110 : Int32)] : List Int32), ¬ c < 0 ∧ ¬ (255 : Int32) < c := by decide
  have hcd_t_BOOLEAN : StrChars.Road.CodA ([(98 : Int32), (111 : Int32), (111 : Int32), (108 : Int32), (101 : Int32), (97 : Int32), (110 : Int32)] : List Int32) 0 (7 : Int32) [(.int (98 : Int32)), (.int (111 : Int32)), (.int (111 : Int32)), (.int (108 : Int32)), (.int (101 : Int32)), (.int (97 : Int32)), (.int (110 : Int32))] := StrChars.Road.codOf (n := 7) rfl (fun c hc => (hp_t_BOOLEAN c hc).2)
  have hbd_t_BOOLEAN := own_up _ hp_t_BOOLEAN
  have hp_t_STRING : ∀ c ∈ ([(115 : Int32), (116 : Int32), (114 : Int32), (105 : Int32), (110 : Int32), (103 : Int32)] : List Int32), ¬ c < 0 ∧ ¬ (255 : Int32) < c := by decide
  have hcd_t_STRING : StrChars.Road.CodA ([(115 : Int32), (116 : Int32), (114 : Int32), (105 : Int32), (110 : Int32), (103 : Int32)] : List Int32) 0 (6 : Int32) [(.int (115 : Int32)), (.int (116 : Int32)), (.int (114 : Int32)), (.int (105 : Int32)), (.int (110 : Int32)), (.int (103 : Int32))] := StrChars.Road.codOf (n := 6) rfl (fun c hc => (hp_t_STRING c hc).2)
  have hbd_t_STRING := own_up _ hp_t_STRING
  show OEnds p e below s _ _ _ (s₁.setTop (mkF m 0 #[.val (.ref x), .unset, .unset, .unset, .unset] []))
  obtain ⟨_, _, ⟨T1, L1, k1, n1⟩, -, X1, ⟨Lc1, hQ1, l1, y1, z1⟩, st1⟩ := Jvm.LawKit.callS X0 hx (y := (⟨"com/example/odds3/odds3/engine/ValueType", "values", "()[Lcom/example/odds3/odds3/engine/ValueType;"⟩ : MethodName)) hown (mvT hZ (hw _ (List.mem_of_getElem? (i := 88) rfl))) (mvT hZ (hw _ (List.mem_of_getElem? (i := 89) rfl))) (mvT hZ (hw _ (List.mem_of_getElem? (i := 86) rfl))) (mvT hZ (hw _ (List.mem_of_getElem? (i := 90) rfl))) (by decide) (backOf (W := 0) (rmV l Z a0 hw [] a_NUMBER a_BOOLEAN a_STRING va kA h0 n0 Od S_V AV EV) hZ (hw _ (List.mem_of_getElem? (i := 90) rfl)) (hw _ (List.mem_of_getElem? (i := 86) rfl)) (by decide) (by decide)) (g := (mkF m 0 #[.val (.ref x), .unset, .unset, .unset, .unset] [])) rfl (by rw [hml]; rfl) (argsL := []) (rest := []) (lenOf pd_28295bLcom2fexample2fodds32fodds32fengine2fValueType3b rfl) rfl (by show 2 * 0 + _ ≤ _; exact Nat.le_of_eq rfl) (hb hby d18_0) (fun _ _ => ⟨rfl, e0, Nat.le_of_ble_eq_true rfl, Nat.le_of_ble_eq_true rfl⟩)
  dsimp only [Pt.U, Pt.locs, Pt.cells, Pt.slots] at X1 l1 y1 z1 st1 hQ1
  subst l1 y1 z1
  obtain ⟨ar, rfl, N1q, K1, A1⟩ := hQ1
  have N1 := Fr.app N0 N1q
  replace Od := Od.keep K1 all0
  replace Kp := Kp.trans K1 all0
  replace Ex := Ex.keep K1
  replace Vx := Vx.keep K1 nin0
  replace Cx := Cx.keep K1 nin0
  replace Kx := Kx.keep K1 nin0
  obtain ⟨cl, Ar, qA, Sa, MA, HA, GA⟩ := A1
  refine OEnds.via (fun _ k => st1 _ k) ?_
  show OEnds p e below s _ _ _ (T1.setTop (mkF m 3 #[.val (.ref x), .unset, .unset, .unset, .unset] [(.ref ar)]))
  refine OEnds.via (fun _ k => XS.astoreN X1.here hx rfl (hb hby d18_3) rfl rfl (l' := #[.val (.ref x), .val (.ref ar), .unset, .unset, .unset]) rfl k) ?_
  show OEnds p e below s _ _ _ (T1.setTop (mkF m 4 #[.val (.ref x), .val (.ref ar), .unset, .unset, .unset] []))
  refine OEnds.via (fun _ k => XS.aloadN X1.here hx rfl (hb hby d18_4) rfl rfl k) ?_
  show OEnds p e below s _ _ _ (T1.setTop (mkF m 5 #[.val (.ref x), .val (.ref ar), .unset, .unset, .unset] [(.ref ar)]))
  refine OEnds.via (fun _ k => X1.arraylength hx Ar.1 (State.isArrayOf_alike hZ.alike Ar.2.1) (g := (mkF m 5 #[.val (.ref x), .val (.ref ar), .unset, .unset, .unset] [(.ref ar)])) rfl rfl (hb hby d18_5) _ k) ?_
  rw [len_of Sa MA]
  show OEnds p e below s _ _ _ (T1.setTop (mkF m 6 #[.val (.ref x), .val (.ref ar), .unset, .unset, .unset] [(.int (3 : Int32))]))
  refine OEnds.via (fun _ k => XS.istoreN X1.here hx rfl (hb hby d18_6) rfl (l' := #[.val (.ref x), .val (.ref ar), .val (.int (3 : Int32)), .unset, .unset]) rfl k) ?_
  show OEnds p e below s _ _ _ (T1.setTop (mkF m 7 #[.val (.ref x), .val (.ref ar), .val (.int (3 : Int32)), .unset, .unset] []))
  refine OEnds.via (fun _ k => XS.iconst X1.here hx rfl (hb hby d18_7) k) ?_
  show OEnds p e below s _ _ _ (T1.setTop (mkF m 8 #[.val (.ref x), .val (.ref ar), .val (.int (3 : Int32)), .unset, .unset] [(.int (0 : Int32))]))
  refine OEnds.via (fun _ k => XS.istoreN X1.here hx rfl (hb hby d18_8) rfl (l' := #[.val (.ref x), .val (.ref ar), .val (.int (3 : Int32)), .val (.int (0 : Int32)), .unset]) rfl k) ?_
  show OEnds p e below s _ _ _ (T1.setTop (mkF m 9 #[.val (.ref x), .val (.ref ar), .val (.int (3 : Int32)), .val (.int (0 : Int32)), .unset] []))
  refine OEnds.via (fun _ k => XS.iloadN X1.here hx rfl (hb hby d18_9) rfl k) ?_
  show OEnds p e below s _ _ _ (T1.setTop (mkF m 10 #[.val (.ref x), .val (.ref ar), .val (.int (3 : Int32)), .val (.int (0 : Int32)), .unset] [(.int (0 : Int32))]))
  refine OEnds.via (fun _ k => XS.iloadN X1.here hx rfl (hb hby d18_10) rfl k) ?_
  show OEnds p e below s _ _ _ (T1.setTop (mkF m 11 #[.val (.ref x), .val (.ref ar), .val (.int (3 : Int32)), .val (.int (0 : Int32)), .unset] [(.int (3 : Int32)), (.int (0 : Int32))]))
  refine OEnds.via (fun _ k => XS.icmpNo X1.here hx rfl (hb hby d18_11) rfl (tlt (by decide : (0 : Int32) < (3 : Int32))).2.1 k) ?_
  show OEnds p e below s _ _ _ (T1.setTop (mkF m 14 #[.val (.ref x), .val (.ref ar), .val (.int (3 : Int32)), .val (.int (0 : Int32)), .unset] []))
  refine OEnds.via (fun _ k => XS.aloadN X1.here hx rfl (hb hby d18_14) rfl rfl k) ?_
  show OEnds p e below s _ _ _ (T1.setTop (mkF m 15 #[.val (.ref x), .val (.ref ar), .val (.int (3 : Int32)), .val (.int (0 : Int32)), .unset] [(.ref ar)]))
  refine OEnds.via (fun _ k => XS.iloadN X1.here hx rfl (hb hby d18_15) rfl k) ?_
  show OEnds p e below s _ _ _ (T1.setTop (mkF m 16 #[.val (.ref x), .val (.ref ar), .val (.int (3 : Int32)), .val (.int (0 : Int32)), .unset] [(.int (0 : Int32)), (.ref ar)]))
  refine OEnds.via (fun _ k => X1.aaload hx (j := (0 : Int32)) (v := (.ref a_NUMBER)) Ar.1 (State.isArrayOf_alike hZ.alike Ar.2.1) rfl Ar.2.2 (inb_of Sa ⟨by decide, by decide⟩) (HA 0 (by rw [Sa]; decide)) (g := (mkF m 16 #[.val (.ref x), .val (.ref ar), .val (.int (3 : Int32)), .val (.int (0 : Int32)), .unset] [(.int (0 : Int32)), (.ref ar)])) rfl rfl (hb hby d18_16) _ k) ?_
  show OEnds p e below s _ _ _ (T1.setTop (mkF m 17 #[.val (.ref x), .val (.ref ar), .val (.int (3 : Int32)), .val (.int (0 : Int32)), .unset] [(.ref a_NUMBER)]))
  refine OEnds.via (fun _ k => XS.astore X1.here hx rfl (hb hby d18_17) rfl rfl (l' := #[.val (.ref x), .val (.ref ar), .val (.int (3 : Int32)), .val (.int (0 : Int32)), .val (.ref a_NUMBER)]) rfl k) ?_
  show OEnds p e below s _ _ _ (T1.setTop (mkF m 19 #[.val (.ref x), .val (.ref ar), .val (.int (3 : Int32)), .val (.int (0 : Int32)), .val (.ref a_NUMBER)] []))
  refine OEnds.via (fun _ k => XS.aload X1.here hx rfl (hb hby d18_19) rfl rfl k) ?_
  show OEnds p e below s _ _ _ (T1.setTop (mkF m 21 #[.val (.ref x), .val (.ref ar), .val (.int (3 : Int32)), .val (.int (0 : Int32)), .val (.ref a_NUMBER)] [(.ref a_NUMBER)]))
  obtain ⟨T2, X2, e2, st2⟩ := getF X1 hx hZ hown (host := "") (Or.inl (hw _ (List.mem_of_getElem? (i := 106) rfl))) Via.refl rfl (Fld.ext Od.2 Ft_NUMBER) (g := (mkF m 21 #[.val (.ref x), .val (.ref ar), .val (.int (3 : Int32)), .val (.int (0 : Int32)), .val (.ref a_NUMBER)] [(.ref a_NUMBER)])) rfl rfl (hb hby d18_21)
  refine OEnds.via (fun _ k => st2 _ k) ?_
  show OEnds p e below s _ _ _ (T2.setTop (mkF m 24 #[.val (.ref x), .val (.ref ar), .val (.int (3 : Int32)), .val (.int (0 : Int32)), .val (.ref a_NUMBER)] [(.ref t_NUMBER)]))
  refine OEnds.via (fun _ k => XS.aloadN X2.here hx rfl (hb hby d18_24) rfl rfl k) ?_
  show OEnds p e below s _ _ _ (T2.setTop (mkF m 25 #[.val (.ref x), .val (.ref ar), .val (.int (3 : Int32)), .val (.int (0 : Int32)), .val (.ref a_NUMBER)] [(.ref x), (.ref t_NUMBER)]))
  obtain ⟨cq3, kq3, q3a, q3b, q3c⟩ := isOf hZ e2 (Exa.ext Od.2 Et_NUMBER)
  obtain ⟨_, _, ⟨T3, L3, k3, n3⟩, -, X3, ⟨Lc3, hQ3, l3, y3, z3⟩, st3⟩ := X2.virtualBack hx (y := (⟨"java/lang/String", "equals", "(Ljava/lang/Object;)Z"⟩ : MethodName)) (z := (⟨"java/lang/String", "equals", "(Ljava/lang/Object;)Z"⟩ : MethodName)) hown (mvT hZ (hw _ (List.mem_of_getElem? (i := 108) rfl))) (mvT hZ (hw _ (List.mem_of_getElem? (i := 74) rfl))) (notFace_of_selects (args := #[]) (mvT hZ (hw _ (List.mem_of_getElem? (i := 76) rfl)))) (mvT hZ (hw _ (List.mem_of_getElem? (i := 76) rfl))) (mvT hZ (hw _ (List.mem_of_getElem? (i := 75) rfl))) (by decide) (StrChars.Road.eqW (W := 0) hZ heq (kI := 4) (hw _ (List.mem_of_getElem? (i := 3) rfl)) (Exa.ext Od.2 Et_NUMBER) (Fld.ext Od.2 Vt_NUMBER) (Fld.ext Od.2 Ct_NUMBER) (Kt_NUMBER.ext Od.2) hcd_t_NUMBER hbd_t_NUMBER (by decide) Ex Vx Cx Kx hcx hbx lex (Sta.ext Od.2 S_CS) nz_CS (by decide) (by decide)) q3a q3c (g := (mkF m 25 #[.val (.ref x), .val (.ref ar), .val (.int (3 : Int32)), .val (.int (0 : Int32)), .val (.ref a_NUMBER)] [(.ref x), (.ref t_NUMBER)])) rfl (by rw [hml]; rfl) (Steps.refl _) (argsL := [(.ref x)]) (rest := []) (lenOf pd_28Ljava2flang2fObject3b29Z rfl) rfl (by show 2 * 0 + _ ≤ _; exact Nat.le_of_eq rfl) (hb hby d18_25) (fun _ _ => ⟨rfl, e2, Nat.le_of_ble_eq_true rfl, Nat.le_of_ble_eq_true rfl⟩)
  dsimp only [Pt.U, Pt.locs, Pt.cells, Pt.slots] at X3 l3 y3 z3 st3 hQ3
  subst l3 y3 z3
  obtain ⟨hcase3, rfl, e3⟩ := hQ3
  have N3 := Fr.app N1 (Fr.nil n0)
  rcases hcase3 with ⟨rfl, hq3⟩ | ⟨rfl, hq3⟩
  · skip
    refine OEnds.via (fun _ k => st3.trans k) ?_
    show OEnds p e below s _ _ _ (T3.setTop (mkF m 28 #[.val (.ref x), .val (.ref ar), .val (.int (3 : Int32)), .val (.int (0 : Int32)), .val (.ref a_NUMBER)] [(.int (1 : Int32))]))
    refine OEnds.via (fun _ k => XS.ifNo X3.here hx rfl (hb hby d18_28) rfl ((if0 _ _).trans (feq (by decide : ¬ ((1 : Int32) = (0 : Int32)))).1) k) ?_
    show OEnds p e below s _ _ _ (T3.setTop (mkF m 31 #[.val (.ref x), .val (.ref ar), .val (.int (3 : Int32)), .val (.int (0 : Int32)), .val (.ref a_NUMBER)] []))
    refine OEnds.via (fun _ k => XS.aload X3.here hx rfl (hb hby d18_31) rfl rfl k) ?_
    show OEnds p e below s _ _ _ (T3.setTop (mkF m 33 #[.val (.ref x), .val (.ref ar), .val (.int (3 : Int32)), .val (.int (0 : Int32)), .val (.ref a_NUMBER)] [(.ref a_NUMBER)]))
    refine OEnds.retR X3 hx hlk Bd.returns rfl rfl (hb hby d18_33) ?_ (by decide) (by decide)
    refine ⟨?_, N3, by rw [e3]; exact Kp⟩
    rw [hres]; simp only [own_named, if_pos hq3]
  · skip
    refine OEnds.via (fun _ k => st3.trans k) ?_
    show OEnds p e below s _ _ _ (T3.setTop (mkF m 28 #[.val (.ref x), .val (.ref ar), .val (.int (3 : Int32)), .val (.int (0 : Int32)), .val (.ref a_NUMBER)] [(.int (0 : Int32))]))
    refine OEnds.via (fun _ k => XS.ifYes X3.here hx rfl (pc0 := 28) (pc' := 34) rfl (hb hby d18_28) rfl ((if0 _ _).trans (teq (by decide : (0 : Int32) = (0 : Int32))).1) (by decide) (by decide) k) ?_
    show OEnds p e below s _ _ _ (T3.setTop (mkF m 34 #[.val (.ref x), .val (.ref ar), .val (.int (3 : Int32)), .val (.int (0 : Int32)), .val (.ref a_NUMBER)] []))
    refine OEnds.via (fun _ k => XS.iinc X3.here hx rfl (hb hby d18_34) rfl (l' := #[.val (.ref x), .val (.ref ar), .val (.int (3 : Int32)), .val (.int (1 : Int32)), .val (.ref a_NUMBER)]) rfl k) ?_
    show OEnds p e below s _ _ _ (T3.setTop (mkF m 37 #[.val (.ref x), .val (.ref ar), .val (.int (3 : Int32)), .val (.int (1 : Int32)), .val (.ref a_NUMBER)] []))
    refine OEnds.via (fun _ k => XS.goto X3.here hx rfl (pc0 := 37) (pc' := 9) rfl (hb hby d18_37) (by decide) (by decide) k) ?_
    show OEnds p e below s _ _ _ (T3.setTop (mkF m 9 #[.val (.ref x), .val (.ref ar), .val (.int (3 : Int32)), .val (.int (1 : Int32)), .val (.ref a_NUMBER)] []))
    refine OEnds.via (fun _ k => XS.iloadN X3.here hx rfl (hb hby d18_9) rfl k) ?_
    show OEnds p e below s _ _ _ (T3.setTop (mkF m 10 #[.val (.ref x), .val (.ref ar), .val (.int (3 : Int32)), .val (.int (1 : Int32)), .val (.ref a_NUMBER)] [(.int (1 : Int32))]))
    refine OEnds.via (fun _ k => XS.iloadN X3.here hx rfl (hb hby d18_10) rfl k) ?_
    show OEnds p e below s _ _ _ (T3.setTop (mkF m 11 #[.val (.ref x), .val (.ref ar), .val (.int (3 : Int32)), .val (.int (1 : Int32)), .val (.ref a_NUMBER)] [(.int (3 : Int32)), (.int (1 : Int32))]))
    refine OEnds.via (fun _ k => XS.icmpNo X3.here hx rfl (hb hby d18_11) rfl (tlt (by decide : (1 : Int32) < (3 : Int32))).2.1 k) ?_
    show OEnds p e below s _ _ _ (T3.setTop (mkF m 14 #[.val (.ref x), .val (.ref ar), .val (.int (3 : Int32)), .val (.int (1 : Int32)), .val (.ref a_NUMBER)] []))
    refine OEnds.via (fun _ k => XS.aloadN X3.here hx rfl (hb hby d18_14) rfl rfl k) ?_
    show OEnds p e below s _ _ _ (T3.setTop (mkF m 15 #[.val (.ref x), .val (.ref ar), .val (.int (3 : Int32)), .val (.int (1 : Int32)), .val (.ref a_NUMBER)] [(.ref ar)]))
    refine OEnds.via (fun _ k => XS.iloadN X3.here hx rfl (hb hby d18_15) rfl k) ?_
    show OEnds p e below s _ _ _ (T3.setTop (mkF m 16 #[.val (.ref x), .val (.ref ar), .val (.int (3 : Int32)), .val (.int (1 : Int32)), .val (.ref a_NUMBER)] [(.int (1 : Int32)), (.ref ar)]))
    refine OEnds.via (fun _ k => X3.aaload hx (j := (1 : Int32)) (v := (.ref a_BOOLEAN)) (by rw [e3]; exact Ar.1) (State.isArrayOf_alike hZ.alike Ar.2.1) rfl Ar.2.2 (inb_of Sa ⟨by decide, by decide⟩) (HA 1 (by rw [Sa]; decide)) (g := (mkF m 16 #[.val (.ref x), .val (.ref ar), .val (.int (3 : Int32)), .val (.int (1 : Int32)), .val (.ref a_NUMBER)] [(.int (1 : Int32)), (.ref ar)])) rfl rfl (hb hby d18_16) _ k) ?_
    show OEnds p e below s _ _ _ (T3.setTop (mkF m 17 #[.val (.ref x), .val (.ref ar), .val (.int (3 : Int32)), .val (.int (1 : Int32)), .val (.ref a_NUMBER)] [(.ref a_BOOLEAN)]))
    refine OEnds.via (fun _ k => XS.astore X3.here hx rfl (hb hby d18_17) rfl rfl (l' := #[.val (.ref x), .val (.ref ar), .val (.int (3 : Int32)), .val (.int (1 : Int32)), .val (.ref a_BOOLEAN)]) rfl k) ?_
    show OEnds p e below s _ _ _ (T3.setTop (mkF m 19 #[.val (.ref x), .val (.ref ar), .val (.int (3 : Int32)), .val (.int (1 : Int32)), .val (.ref a_BOOLEAN)] []))
    refine OEnds.via (fun _ k => XS.aload X3.here hx rfl (hb hby d18_19) rfl rfl k) ?_
    show OEnds p e below s _ _ _ (T3.setTop (mkF m 21 #[.val (.ref x), .val (.ref ar), .val (.int (3 : Int32)), .val (.int (1 : Int32)), .val (.ref a_BOOLEAN)] [(.ref a_BOOLEAN)]))
    obtain ⟨T4, X4, e4, st4⟩ := getF X3 hx hZ hown (host := "") (Or.inl (hw _ (List.mem_of_getElem? (i := 106) rfl))) Via.refl e3 (Fld.ext Od.2 Ft_BOOLEAN) (g := (mkF m 21 #[.val (.ref x), .val (.ref ar), .val (.int (3 : Int32)), .val (.int (1 : Int32)), .val (.ref a_BOOLEAN)] [(.ref a_BOOLEAN)])) rfl rfl (hb hby d18_21)
    refine OEnds.via (fun _ k => st4 _ k) ?_
    show OEnds p e below s _ _ _ (T4.setTop (mkF m 24 #[.val (.ref x), .val (.ref ar), .val (.int (3 : Int32)), .val (.int (1 : Int32)), .val (.ref a_BOOLEAN)] [(.ref t_BOOLEAN)]))
    refine OEnds.via (fun _ k => XS.aloadN X4.here hx rfl (hb hby d18_24) rfl rfl k) ?_
    show OEnds p e below s _ _ _ (T4.setTop (mkF m 25 #[.val (.ref x), .val (.ref ar), .val (.int (3 : Int32)), .val (.int (1 : Int32)), .val (.ref a_BOOLEAN)] [(.ref x), (.ref t_BOOLEAN)]))
    obtain ⟨cq5, kq5, q5a, q5b, q5c⟩ := isOf hZ e4 (Exa.ext Od.2 Et_BOOLEAN)
    obtain ⟨_, _, ⟨T5, L5, k5, n5⟩, -, X5, ⟨Lc5, hQ5, l5, y5, z5⟩, st5⟩ := X4.virtualBack hx (y := (⟨"java/lang/String", "equals", "(Ljava/lang/Object;)Z"⟩ : MethodName)) (z := (⟨"java/lang/String", "equals", "(Ljava/lang/Object;)Z"⟩ : MethodName)) hown (mvT hZ (hw _ (List.mem_of_getElem? (i := 108) rfl))) (mvT hZ (hw _ (List.mem_of_getElem? (i := 74) rfl))) (notFace_of_selects (args := #[]) (mvT hZ (hw _ (List.mem_of_getElem? (i := 76) rfl)))) (mvT hZ (hw _ (List.mem_of_getElem? (i := 76) rfl))) (mvT hZ (hw _ (List.mem_of_getElem? (i := 75) rfl))) (by decide) (StrChars.Road.eqW (W := 0) hZ heq (kI := 4) (hw _ (List.mem_of_getElem? (i := 3) rfl)) (Exa.ext Od.2 Et_BOOLEAN) (Fld.ext Od.2 Vt_BOOLEAN) (Fld.ext Od.2 Ct_BOOLEAN) (Kt_BOOLEAN.ext Od.2) hcd_t_BOOLEAN hbd_t_BOOLEAN (by decide) Ex Vx Cx Kx hcx hbx lex (Sta.ext Od.2 S_CS) nz_CS (by decide) (by decide)) q5a q5c (g := (mkF m 25 #[.val (.ref x), .val (.ref ar), .val (.int (3 : Int32)), .val (.int (1 : Int32)), .val (.ref a_BOOLEAN)] [(.ref x), (.ref t_BOOLEAN)])) rfl (by rw [hml]; rfl) (Steps.refl _) (argsL := [(.ref x)]) (rest := []) (lenOf pd_28Ljava2flang2fObject3b29Z rfl) rfl (by show 2 * 0 + _ ≤ _; exact Nat.le_of_eq rfl) (hb hby d18_25) (fun _ _ => ⟨rfl, e4, Nat.le_of_ble_eq_true rfl, Nat.le_of_ble_eq_true rfl⟩)
    dsimp only [Pt.U, Pt.locs, Pt.cells, Pt.slots] at X5 l5 y5 z5 st5 hQ5
    subst l5 y5 z5
    obtain ⟨hcase5, rfl, e5⟩ := hQ5
    have N5 := Fr.app N3 (Fr.nil n0)
    rcases hcase5 with ⟨rfl, hq5⟩ | ⟨rfl, hq5⟩
    · skip
      refine OEnds.via (fun _ k => st5.trans k) ?_
      show OEnds p e below s _ _ _ (T5.setTop (mkF m 28 #[.val (.ref x), .val (.ref ar), .val (.int (3 : Int32)), .val (.int (1 : Int32)), .val (.ref a_BOOLEAN)] [(.int (1 : Int32))]))
      refine OEnds.via (fun _ k => XS.ifNo X5.here hx rfl (hb hby d18_28) rfl ((if0 _ _).trans (feq (by decide : ¬ ((1 : Int32) = (0 : Int32)))).1) k) ?_
      show OEnds p e below s _ _ _ (T5.setTop (mkF m 31 #[.val (.ref x), .val (.ref ar), .val (.int (3 : Int32)), .val (.int (1 : Int32)), .val (.ref a_BOOLEAN)] []))
      refine OEnds.via (fun _ k => XS.aload X5.here hx rfl (hb hby d18_31) rfl rfl k) ?_
      show OEnds p e below s _ _ _ (T5.setTop (mkF m 33 #[.val (.ref x), .val (.ref ar), .val (.int (3 : Int32)), .val (.int (1 : Int32)), .val (.ref a_BOOLEAN)] [(.ref a_BOOLEAN)]))
      refine OEnds.retR X5 hx hlk Bd.returns rfl rfl (hb hby d18_33) ?_ (by decide) (by decide)
      refine ⟨?_, N5, by rw [e5]; exact Kp⟩
      rw [hres]; simp only [own_named, if_neg hq3, if_pos hq5]
    · skip
      refine OEnds.via (fun _ k => st5.trans k) ?_
      show OEnds p e below s _ _ _ (T5.setTop (mkF m 28 #[.val (.ref x), .val (.ref ar), .val (.int (3 : Int32)), .val (.int (1 : Int32)), .val (.ref a_BOOLEAN)] [(.int (0 : Int32))]))
      refine OEnds.via (fun _ k => XS.ifYes X5.here hx rfl (pc0 := 28) (pc' := 34) rfl (hb hby d18_28) rfl ((if0 _ _).trans (teq (by decide : (0 : Int32) = (0 : Int32))).1) (by decide) (by decide) k) ?_
      show OEnds p e below s _ _ _ (T5.setTop (mkF m 34 #[.val (.ref x), .val (.ref ar), .val (.int (3 : Int32)), .val (.int (1 : Int32)), .val (.ref a_BOOLEAN)] []))
      refine OEnds.via (fun _ k => XS.iinc X5.here hx rfl (hb hby d18_34) rfl (l' := #[.val (.ref x), .val (.ref ar), .val (.int (3 : Int32)), .val (.int (2 : Int32)), .val (.ref a_BOOLEAN)]) rfl k) ?_
      show OEnds p e below s _ _ _ (T5.setTop (mkF m 37 #[.val (.ref x), .val (.ref ar), .val (.int (3 : Int32)), .val (.int (2 : Int32)), .val (.ref a_BOOLEAN)] []))
      refine OEnds.via (fun _ k => XS.goto X5.here hx rfl (pc0 := 37) (pc' := 9) rfl (hb hby d18_37) (by decide) (by decide) k) ?_
      show OEnds p e below s _ _ _ (T5.setTop (mkF m 9 #[.val (.ref x), .val (.ref ar), .val (.int (3 : Int32)), .val (.int (2 : Int32)), .val (.ref a_BOOLEAN)] []))
      refine OEnds.via (fun _ k => XS.iloadN X5.here hx rfl (hb hby d18_9) rfl k) ?_
      show OEnds p e below s _ _ _ (T5.setTop (mkF m 10 #[.val (.ref x), .val (.ref ar), .val (.int (3 : Int32)), .val (.int (2 : Int32)), .val (.ref a_BOOLEAN)] [(.int (2 : Int32))]))
      refine OEnds.via (fun _ k => XS.iloadN X5.here hx rfl (hb hby d18_10) rfl k) ?_
      show OEnds p e below s _ _ _ (T5.setTop (mkF m 11 #[.val (.ref x), .val (.ref ar), .val (.int (3 : Int32)), .val (.int (2 : Int32)), .val (.ref a_BOOLEAN)] [(.int (3 : Int32)), (.int (2 : Int32))]))
      refine OEnds.via (fun _ k => XS.icmpNo X5.here hx rfl (hb hby d18_11) rfl (tlt (by decide : (2 : Int32) < (3 : Int32))).2.1 k) ?_
      show OEnds p e below s _ _ _ (T5.setTop (mkF m 14 #[.val (.ref x), .val (.ref ar), .val (.int (3 : Int32)), .val (.int (2 : Int32)), .val (.ref a_BOOLEAN)] []))
      refine OEnds.via (fun _ k => XS.aloadN X5.here hx rfl (hb hby d18_14) rfl rfl k) ?_
      show OEnds p e below s _ _ _ (T5.setTop (mkF m 15 #[.val (.ref x), .val (.ref ar), .val (.int (3 : Int32)), .val (.int (2 : Int32)), .val (.ref a_BOOLEAN)] [(.ref ar)]))
      refine OEnds.via (fun _ k => XS.iloadN X5.here hx rfl (hb hby d18_15) rfl k) ?_
      show OEnds p e below s _ _ _ (T5.setTop (mkF m 16 #[.val (.ref x), .val (.ref ar), .val (.int (3 : Int32)), .val (.int (2 : Int32)), .val (.ref a_BOOLEAN)] [(.int (2 : Int32)), (.ref ar)]))
      refine OEnds.via (fun _ k => X5.aaload hx (j := (2 : Int32)) (v := (.ref a_STRING)) (by rw [e5]; exact Ar.1) (State.isArrayOf_alike hZ.alike Ar.2.1) rfl Ar.2.2 (inb_of Sa ⟨by decide, by decide⟩) (HA 2 (by rw [Sa]; decide)) (g := (mkF m 16 #[.val (.ref x), .val (.ref ar), .val (.int (3 : Int32)), .val (.int (2 : Int32)), .val (.ref a_BOOLEAN)] [(.int (2 : Int32)), (.ref ar)])) rfl rfl (hb hby d18_16) _ k) ?_
      show OEnds p e below s _ _ _ (T5.setTop (mkF m 17 #[.val (.ref x), .val (.ref ar), .val (.int (3 : Int32)), .val (.int (2 : Int32)), .val (.ref a_BOOLEAN)] [(.ref a_STRING)]))
      refine OEnds.via (fun _ k => XS.astore X5.here hx rfl (hb hby d18_17) rfl rfl (l' := #[.val (.ref x), .val (.ref ar), .val (.int (3 : Int32)), .val (.int (2 : Int32)), .val (.ref a_STRING)]) rfl k) ?_
      show OEnds p e below s _ _ _ (T5.setTop (mkF m 19 #[.val (.ref x), .val (.ref ar), .val (.int (3 : Int32)), .val (.int (2 : Int32)), .val (.ref a_STRING)] []))
      refine OEnds.via (fun _ k => XS.aload X5.here hx rfl (hb hby d18_19) rfl rfl k) ?_
      show OEnds p e below s _ _ _ (T5.setTop (mkF m 21 #[.val (.ref x), .val (.ref ar), .val (.int (3 : Int32)), .val (.int (2 : Int32)), .val (.ref a_STRING)] [(.ref a_STRING)]))
      obtain ⟨T6, X6, e6, st6⟩ := getF X5 hx hZ hown (host := "") (Or.inl (hw _ (List.mem_of_getElem? (i := 106) rfl))) Via.refl e5 (Fld.ext Od.2 Ft_STRING) (g := (mkF m 21 #[.val (.ref x), .val (.ref ar), .val (.int (3 : Int32)), .val (.int (2 : Int32)), .val (.ref a_STRING)] [(.ref a_STRING)])) rfl rfl (hb hby d18_21)
      refine OEnds.via (fun _ k => st6 _ k) ?_
      show OEnds p e below s _ _ _ (T6.setTop (mkF m 24 #[.val (.ref x), .val (.ref ar), .val (.int (3 : Int32)), .val (.int (2 : Int32)), .val (.ref a_STRING)] [(.ref t_STRING)]))
      refine OEnds.via (fun _ k => XS.aloadN X6.here hx rfl (hb hby d18_24) rfl rfl k) ?_
      show OEnds p e below s _ _ _ (T6.setTop (mkF m 25 #[.val (.ref x), .val (.ref ar), .val (.int (3 : Int32)), .val (.int (2 : Int32)), .val (.ref a_STRING)] [(.ref x), (.ref t_STRING)]))
      obtain ⟨cq7, kq7, q7a, q7b, q7c⟩ := isOf hZ e6 (Exa.ext Od.2 Et_STRING)
      obtain ⟨_, _, ⟨T7, L7, k7, n7⟩, -, X7, ⟨Lc7, hQ7, l7, y7, z7⟩, st7⟩ := X6.virtualBack hx (y := (⟨"java/lang/String", "equals", "(Ljava/lang/Object;)Z"⟩ : MethodName)) (z := (⟨"java/lang/String", "equals", "(Ljava/lang/Object;)Z"⟩ : MethodName)) hown (mvT hZ (hw _ (List.mem_of_getElem? (i := 108) rfl))) (mvT hZ (hw _ (List.mem_of_getElem? (i := 74) rfl))) (notFace_of_selects (args := #[]) (mvT hZ (hw _ (List.mem_of_getElem? (i := 76) rfl)))) (mvT hZ (hw _ (List.mem_of_getElem? (i := 76) rfl))) (mvT hZ (hw _ (List.mem_of_getElem? (i := 75) rfl))) (by decide) (StrChars.Road.eqW (W := 0) hZ heq (kI := 4) (hw _ (List.mem_of_getElem? (i := 3) rfl)) (Exa.ext Od.2 Et_STRING) (Fld.ext Od.2 Vt_STRING) (Fld.ext Od.2 Ct_STRING) (Kt_STRING.ext Od.2) hcd_t_STRING hbd_t_STRING (by decide) Ex Vx Cx Kx hcx hbx lex (Sta.ext Od.2 S_CS) nz_CS (by decide) (by decide)) q7a q7c (g := (mkF m 25 #[.val (.ref x), .val (.ref ar), .val (.int (3 : Int32)), .val (.int (2 : Int32)), .val (.ref a_STRING)] [(.ref x), (.ref t_STRING)])) rfl (by rw [hml]; rfl) (Steps.refl _) (argsL := [(.ref x)]) (rest := []) (lenOf pd_28Ljava2flang2fObject3b29Z rfl) rfl (by show 2 * 0 + _ ≤ _; exact Nat.le_of_eq rfl) (hb hby d18_25) (fun _ _ => ⟨rfl, e6, Nat.le_of_ble_eq_true rfl, Nat.le_of_ble_eq_true rfl⟩)
      dsimp only [Pt.U, Pt.locs, Pt.cells, Pt.slots] at X7 l7 y7 z7 st7 hQ7
      subst l7 y7 z7
      obtain ⟨hcase7, rfl, e7⟩ := hQ7
      have N7 := Fr.app N5 (Fr.nil n0)
      rcases hcase7 with ⟨rfl, hq7⟩ | ⟨rfl, hq7⟩
      · skip
        refine OEnds.via (fun _ k => st7.trans k) ?_
        show OEnds p e below s _ _ _ (T7.setTop (mkF m 28 #[.val (.ref x), .val (.ref ar), .val (.int (3 : Int32)), .val (.int (2 : Int32)), .val (.ref a_STRING)] [(.int (1 : Int32))]))
        refine OEnds.via (fun _ k => XS.ifNo X7.here hx rfl (hb hby d18_28) rfl ((if0 _ _).trans (feq (by decide : ¬ ((1 : Int32) = (0 : Int32)))).1) k) ?_
        show OEnds p e below s _ _ _ (T7.setTop (mkF m 31 #[.val (.ref x), .val (.ref ar), .val (.int (3 : Int32)), .val (.int (2 : Int32)), .val (.ref a_STRING)] []))
        refine OEnds.via (fun _ k => XS.aload X7.here hx rfl (hb hby d18_31) rfl rfl k) ?_
        show OEnds p e below s _ _ _ (T7.setTop (mkF m 33 #[.val (.ref x), .val (.ref ar), .val (.int (3 : Int32)), .val (.int (2 : Int32)), .val (.ref a_STRING)] [(.ref a_STRING)]))
        refine OEnds.retR X7 hx hlk Bd.returns rfl rfl (hb hby d18_33) ?_ (by decide) (by decide)
        refine ⟨?_, N7, by rw [e7]; exact Kp⟩
        rw [hres]; simp only [own_named, if_neg hq3, if_neg hq5, if_pos hq7]
      · skip
        refine OEnds.via (fun _ k => st7.trans k) ?_
        show OEnds p e below s _ _ _ (T7.setTop (mkF m 28 #[.val (.ref x), .val (.ref ar), .val (.int (3 : Int32)), .val (.int (2 : Int32)), .val (.ref a_STRING)] [(.int (0 : Int32))]))
        refine OEnds.via (fun _ k => XS.ifYes X7.here hx rfl (pc0 := 28) (pc' := 34) rfl (hb hby d18_28) rfl ((if0 _ _).trans (teq (by decide : (0 : Int32) = (0 : Int32))).1) (by decide) (by decide) k) ?_
        show OEnds p e below s _ _ _ (T7.setTop (mkF m 34 #[.val (.ref x), .val (.ref ar), .val (.int (3 : Int32)), .val (.int (2 : Int32)), .val (.ref a_STRING)] []))
        refine OEnds.via (fun _ k => XS.iinc X7.here hx rfl (hb hby d18_34) rfl (l' := #[.val (.ref x), .val (.ref ar), .val (.int (3 : Int32)), .val (.int (3 : Int32)), .val (.ref a_STRING)]) rfl k) ?_
        show OEnds p e below s _ _ _ (T7.setTop (mkF m 37 #[.val (.ref x), .val (.ref ar), .val (.int (3 : Int32)), .val (.int (3 : Int32)), .val (.ref a_STRING)] []))
        refine OEnds.via (fun _ k => XS.goto X7.here hx rfl (pc0 := 37) (pc' := 9) rfl (hb hby d18_37) (by decide) (by decide) k) ?_
        show OEnds p e below s _ _ _ (T7.setTop (mkF m 9 #[.val (.ref x), .val (.ref ar), .val (.int (3 : Int32)), .val (.int (3 : Int32)), .val (.ref a_STRING)] []))
        refine OEnds.via (fun _ k => XS.iloadN X7.here hx rfl (hb hby d18_9) rfl k) ?_
        show OEnds p e below s _ _ _ (T7.setTop (mkF m 10 #[.val (.ref x), .val (.ref ar), .val (.int (3 : Int32)), .val (.int (3 : Int32)), .val (.ref a_STRING)] [(.int (3 : Int32))]))
        refine OEnds.via (fun _ k => XS.iloadN X7.here hx rfl (hb hby d18_10) rfl k) ?_
        show OEnds p e below s _ _ _ (T7.setTop (mkF m 11 #[.val (.ref x), .val (.ref ar), .val (.int (3 : Int32)), .val (.int (3 : Int32)), .val (.ref a_STRING)] [(.int (3 : Int32)), (.int (3 : Int32))]))
        refine OEnds.via (fun _ k => XS.icmpYes X7.here hx rfl (pc0 := 11) (pc' := 40) rfl (hb hby d18_11) rfl (flt (by decide : ¬ ((3 : Int32) < (3 : Int32)))).2.1 (by decide) (by decide) k) ?_
        show OEnds p e below s _ _ _ (T7.setTop (mkF m 40 #[.val (.ref x), .val (.ref ar), .val (.int (3 : Int32)), .val (.int (3 : Int32)), .val (.ref a_STRING)] []))
        refine OEnds.via (fun _ k => XS.aconstNull X7.here hx rfl (hb hby d18_40) k) ?_
        show OEnds p e below s _ _ _ (T7.setTop (mkF m 41 #[.val (.ref x), .val (.ref ar), .val (.int (3 : Int32)), .val (.int (3 : Int32)), .val (.ref a_STRING)] [.null]))
        refine OEnds.retR X7 hx hlk Bd.returns rfl rfl (hb hby d18_41) ?_ (by decide) (by decide)
        refine ⟨?_, N7, by rw [e7]; exact Kp⟩
        rw [hres]; simp only [own_named, if_neg hq3, if_neg hq5, if_neg hq7]
theorem d4_0 : decode method_2_code 0 = .ok (.iload_n 3, 1) := by decide +kernel
theorem d4_1 : decode method_2_code 1 = .ok (.aload_n 0, 1) := by decide +kernel
theorem d4_2 : decode method_2_code 2 = .ok (.invokevirtual 7, 3) := by decide +kernel
theorem d4_5 : decode method_2_code 5 = .ok (.if_icmp .ge 9, 3) := by decide +kernel
theorem d4_8 : decode method_2_code 8 = .ok (.aload_n 0, 1) := by decide +kernel
theorem d4_9 : decode method_2_code 9 = .ok (.iload_n 3, 1) := by decide +kernel
theorem d4_10 : decode method_2_code 10 = .ok (.invokevirtual 13, 3) := by decide +kernel
theorem d4_13 : decode method_2_code 13 = .ok (.ireturn, 1) := by decide +kernel
theorem d4_14 : decode method_2_code 14 = .ok (.lload_n 1, 1) := by decide +kernel
theorem d4_15 : decode method_2_code 15 = .ok (.bipush 8, 2) := by decide +kernel
theorem d4_17 : decode method_2_code 17 = .ok (.iload_n 3, 1) := by decide +kernel
theorem d4_18 : decode method_2_code 18 = .ok (.imul, 1) := by decide +kernel
theorem d4_19 : decode method_2_code 19 = .ok (.lushr, 1) := by decide +kernel
theorem d4_20 : decode method_2_code 20 = .ok (.ldc2_w 17, 3) := by decide +kernel
theorem d4_23 : decode method_2_code 23 = .ok (.land, 1) := by decide +kernel
theorem d4_24 : decode method_2_code 24 = .ok (.l2i, 1) := by decide +kernel
theorem d4_25 : decode method_2_code 25 = .ok (.i2c, 1) := by decide +kernel
theorem d4_26 : decode method_2_code 26 = .ok (.ireturn, 1) := by decide +kernel
theorem pn_com_example_odds3_odds3_engine_ValueTypeNamedPinLaw : plainName "com/example/odds3/odds3/engine/ValueTypeNamedPinLaw" = true := by first | (simp [plainName, overriddenIn]; done) | decide +kernel
def Q_rmDr (Z : State) (x : Addr) (tx : Addr) (kx : ClassId) (nx : Int32) (vx : List Value) (cs : List Int32) (q : Int64) (i : Nat) (G1 : Int32) (fm : Value) (h0 : Heap) (n0 : Nat) (v : Option Value) (h : Heap) (L : List Loc) : Prop := ∃ r, v = some (.int r) ∧ (¬ r < 0 ∧ ¬ (255 : Int32) < r) ∧ Fr n0 L ∧ h = h0
theorem pd_2829I : parseMethodDescriptor "()I" = some ⟨[], some .int⟩ := by decide +kernel
theorem pd_28I29C : parseMethodDescriptor "(I)C" = some ⟨[.int], some .char⟩ := by decide +kernel
set_option maxRecDepth 65536 in
set_option maxHeartbeats 40000000 in
theorem rmDr (l : Launch) (Z : State) (a0 : Array Value) (hw : ∀ d ∈ tables_1, d.before a0 Z = true) (ws : List Jvm.Cond) (x : Addr) (tx : Addr) (kx : ClassId) (nx : Int32) (vx : List Value) (cs : List Int32) (q : Int64) (i : Nat) (G1 : Int32) (fm : Value) (h0 : Heap) (n0 : Nat) (O0 : Old Z n0 h0) (S_CS : Sta Z Z.heap "java/lang/String" "COMPACT_STRINGS" "Z" (.int G1)) (nz_CS : ¬ (G1 = (0 : Int32))) (S_FM : Sta Z Z.heap "jdk/internal/util/Preconditions" "SIOOBE_FORMATTER" "Ljava/util/function/BiFunction;" fm) (r_FM : fm.isRef = true) (Ex : Exa Z h0 x "java/lang/String") (Vx : Fld Z h0 x "java/lang/String" "value" "[B" (.ref tx)) (Cx : Fld Z h0 x "java/lang/String" "coder" "B" (.int (0 : Int32))) (Kx : Arv Z h0 tx kx .byte nx vx (.int (0 : Int32))) (hcx : StrChars.Road.CodA cs 0 nx vx) (hpx : ∀ c ∈ cs, ¬ c < 0 ∧ ¬ (255 : Int32) < c) (lex : cs.length ≤ 4000) (hi : i < 100) :
    MetFree l (⟨"com/example/odds3/odds3/engine/ValueTypeNamedPinLaw", "drawn", "(Ljava/lang/String;JI)C"⟩ : MethodName) (head1 (Jvm.Cond.code (⟨"com/example/odds3/odds3/engine/ValueTypeNamedPinLaw", "drawn", "(Ljava/lang/String;JI)C"⟩ : MethodName) method_2_code 4 (some .char) :: ws) ({ frames := 4, cells := 0, slots := 0, locals := 60 } : Room)) (fun ar' U => ar' = #[(.ref x), (.long q), (.int (Int32.ofNat i))] ∧ Z.Warmed39 U.vm ∧ U.heap = h0) (fun _ _ _ _ _ => True) (fun _ U o U' => ∃ v L, o = .returned v ∧ (Q_rmDr Z x tx kx nx vx cs q i G1 fm h0 n0) v U'.heap L ∧ FrameEnd U o U' L ({ frames := 4, cells := 0, slots := 0, locals := 60 } : Room).cells ({ frames := 4, cells := 0, slots := 0, locals := 60 } : Room).slots) := by
  refine MetFree.of_bodySF (plainFor_of_name pn_com_example_odds3_odds3_engine_ValueTypeNamedPinLaw) hisR ?_
  intro p e s m args below meth c s₁ Bd hml0 hP hK
  obtain ⟨rfl, hZ, hh⟩ := hP
  have hx := Bd.exec
  have hby := Bd.bytes
  have hlk := BodyLoose.notSynchronized Bd
  have hml : c.maxLocals = 4 := hml0
  have hown : s.vm.findClass "com/example/odds3/odds3/engine/ValueTypeNamedPinLaw" = some m.cls := findClass_of_methodNamed Bd.named
  have hnm := (name_of_methodNamed Bd.named Bd.method).1
  have X0 : Stand p l e ({ frames := 4, cells := 0, slots := 0, locals := 60 } : Room) s m #[(.ref x), (.long q), (.int (Int32.ofNat i))] below meth c s₁ [] 0 0 := Stand.of_body Bd
  have e0 : s₁.heap = h0 := by rw [← hh, Bd.state]; rfl
  have N0 := Fr.nil n0
  have Z0 : n0 ≤ h0.size := O0.1 ▸ O0.2.1
  show OEnds p e below s ({ frames := 4, cells := 0, slots := 0, locals := 60 } : Room).cells ({ frames := 4, cells := 0, slots := 0, locals := 60 } : Room).slots (Q_rmDr Z x tx kx nx vx cs q i G1 fm h0 n0) (s₁.setTop (entryFrame m #[(.ref x), (.long q), (.int (Int32.ofNat i))] 4))
  refine OEnds.via (fun _ k => castTop (show entryFrame m #[(.ref x), (.long q), (.int (Int32.ofNat i))] 4 = (mkF m 0 #[.val (.ref x), .val (.long q), .second, .val (.int (Int32.ofNat i))] []) by first | (simp [entryFrame, mkF, argsToLocals, Value.category, maxLocals]; done) | rfl) k) ?_
  have hln : ∀ d ∈ StrChars.Road.wordsLen, d.before a0 Z = true := fun d hd => hw d ((by decide +kernel : ∀ d ∈ StrChars.Road.wordsLen, d ∈ tables_1) d hd)
  have hch : ∀ d ∈ StrChars.Road.wordsChN, d.before a0 Z = true := fun d hd => hw d ((by decide +kernel : ∀ d ∈ StrChars.Road.wordsChN, d ∈ tables_1) d hd)
  have Od := O0
  have hbx := own_up _ hpx
  show OEnds p e below s _ _ _ (s₁.setTop (mkF m 0 #[.val (.ref x), .val (.long q), .second, .val (.int (Int32.ofNat i))] []))
  refine OEnds.via (fun _ k => XS.iloadN X0.here hx rfl (hb hby d4_0) rfl k) ?_
  show OEnds p e below s _ _ _ (s₁.setTop (mkF m 1 #[.val (.ref x), .val (.long q), .second, .val (.int (Int32.ofNat i))] [(.int (Int32.ofNat i))]))
  refine OEnds.via (fun _ k => XS.aloadN X0.here hx rfl (hb hby d4_1) rfl rfl k) ?_
  show OEnds p e below s _ _ _ (s₁.setTop (mkF m 2 #[.val (.ref x), .val (.long q), .second, .val (.int (Int32.ofNat i))] [(.ref x), (.int (Int32.ofNat i))]))
  obtain ⟨cq1, kq1, q1a, q1b, q1c⟩ := isOf hZ e0 Ex
  obtain ⟨_, _, ⟨T1, L1, k1, n1⟩, -, X1, ⟨Lc1, hQ1, l1, y1, z1⟩, st1⟩ := X0.virtualBack hx (y := (⟨"java/lang/String", "length", "()I"⟩ : MethodName)) (z := (⟨"java/lang/String", "length", "()I"⟩ : MethodName)) hown (mvT hZ (hw _ (List.mem_of_getElem? (i := 9) rfl))) (mvT hZ (hw _ (List.mem_of_getElem? (i := 10) rfl))) (notFace_of_selects (args := #[]) (mvT hZ (hw _ (List.mem_of_getElem? (i := 12) rfl)))) (mvT hZ (hw _ (List.mem_of_getElem? (i := 12) rfl))) (mvT hZ (hw _ (List.mem_of_getElem? (i := 11) rfl))) (by decide) (StrChars.Road.lenW (W := 1) hZ hln (kI := 4) (hw _ (List.mem_of_getElem? (i := 3) rfl)) Ex Vx Cx Kx hcx hbx (Sta.ext Od.2 S_CS) nz_CS lex (by decide) (by decide)) q1a q1c (g := (mkF m 2 #[.val (.ref x), .val (.long q), .second, .val (.int (Int32.ofNat i))] [(.ref x), (.int (Int32.ofNat i))])) rfl (by rw [hml]; rfl) (Steps.refl _) (argsL := []) (rest := [(.int (Int32.ofNat i))]) (lenOf pd_2829I rfl) rfl (by show 2 * 0 + _ ≤ _; exact Nat.le_of_eq rfl) (hb hby d4_2) (fun _ _ => ⟨rfl, e0, Nat.le_of_ble_eq_true rfl, Nat.le_of_ble_eq_true rfl⟩)
  dsimp only [Pt.U, Pt.locs, Pt.cells, Pt.slots] at X1 l1 y1 z1 st1 hQ1
  subst l1 y1 z1
  obtain ⟨rfl, rfl, e1⟩ := hQ1
  have N1 := Fr.app N0 (Fr.nil n0)
  refine OEnds.via (fun _ k => st1.trans k) ?_
  show OEnds p e below s _ _ _ (T1.setTop (mkF m 5 #[.val (.ref x), .val (.long q), .second, .val (.int (Int32.ofNat i))] [(.int (Int32.ofNat cs.length)), (.int (Int32.ofNat i))]))
  by_cases hc5_1 : (Int32.ofNat i) < (Int32.ofNat cs.length)
  · skip
    refine OEnds.via (fun _ k => XS.icmpNo X1.here hx rfl (hb hby d4_5) rfl (tlt hc5_1).2.1 k) ?_
    show OEnds p e below s _ _ _ (T1.setTop (mkF m 8 #[.val (.ref x), .val (.long q), .second, .val (.int (Int32.ofNat i))] []))
    refine OEnds.via (fun _ k => XS.aloadN X1.here hx rfl (hb hby d4_8) rfl rfl k) ?_
    show OEnds p e below s _ _ _ (T1.setTop (mkF m 9 #[.val (.ref x), .val (.long q), .second, .val (.int (Int32.ofNat i))] [(.ref x)]))
    refine OEnds.via (fun _ k => XS.iloadN X1.here hx rfl (hb hby d4_9) rfl k) ?_
    show OEnds p e below s _ _ _ (T1.setTop (mkF m 10 #[.val (.ref x), .val (.long q), .second, .val (.int (Int32.ofNat i))] [(.int (Int32.ofNat i)), (.ref x)]))
    obtain ⟨cq3, kq3, q3a, q3b, q3c⟩ := isOf hZ e1 Ex
    obtain ⟨_, _, ⟨T3, L3, k3, n3⟩, -, X3, ⟨Lc3, hQ3, l3, y3, z3⟩, st3⟩ := X1.virtualBack hx (y := (⟨"java/lang/String", "charAt", "(I)C"⟩ : MethodName)) (z := (⟨"java/lang/String", "charAt", "(I)C"⟩ : MethodName)) hown (mvT hZ (hw _ (List.mem_of_getElem? (i := 30) rfl))) (mvT hZ (hw _ (List.mem_of_getElem? (i := 31) rfl))) (notFace_of_selects (args := #[]) (mvT hZ (hw _ (List.mem_of_getElem? (i := 33) rfl)))) (mvT hZ (hw _ (List.mem_of_getElem? (i := 33) rfl))) (mvT hZ (hw _ (List.mem_of_getElem? (i := 32) rfl))) (by decide) (StrChars.Road.chN (W := 0) hZ hch (kI := 4) (hw _ (List.mem_of_getElem? (i := 3) rfl)) Ex Vx Cx Kx hcx hbx (Sta.ext Od.2 S_CS) nz_CS (Sta.ext Od.2 S_FM) r_FM lex (i := i) (own_ltlen hi lex hc5_1) rfl (by decide) (by decide)) q3a q3c (g := (mkF m 10 #[.val (.ref x), .val (.long q), .second, .val (.int (Int32.ofNat i))] [(.int (Int32.ofNat i)), (.ref x)])) rfl (by rw [hml]; rfl) (Steps.refl _) (argsL := [(.int (Int32.ofNat i))]) (rest := []) (lenOf pd_28I29C rfl) rfl (by show 2 * 0 + _ ≤ _; exact Nat.le_of_eq rfl) (hb hby d4_10) (fun _ _ => ⟨rfl, e1, Nat.le_of_ble_eq_true rfl, Nat.le_of_ble_eq_true rfl⟩)
    dsimp only [Pt.U, Pt.locs, Pt.cells, Pt.slots] at X3 l3 y3 z3 st3 hQ3
    subst l3 y3 z3
    obtain ⟨rfl, rfl, e3⟩ := hQ3
    have N3 := Fr.app N1 (Fr.nil n0)
    refine OEnds.via (fun _ k => st3.trans k) ?_
    show OEnds p e below s _ _ _ (T3.setTop (mkF m 13 #[.val (.ref x), .val (.long q), .second, .val (.int (Int32.ofNat i))] [(.int (cs.getD i 0))]))
    refine OEnds.retN X3 hx hlk (t := .char) Bd.returns (by simp) (hb hby d4_13) ?_ (by decide) (by decide)
    exact ⟨_, rfl, by rw [own_narc (own_getp hpx (own_ltlen hi lex hc5_1))]; exact (own_getp hpx (own_ltlen hi lex hc5_1)), N3, e3⟩
  · skip
    refine OEnds.via (fun _ k => XS.icmpYes X1.here hx rfl (pc0 := 5) (pc' := 14) rfl (hb hby d4_5) rfl (flt hc5_1).2.1 (by decide) (by decide) k) ?_
    show OEnds p e below s _ _ _ (T1.setTop (mkF m 14 #[.val (.ref x), .val (.long q), .second, .val (.int (Int32.ofNat i))] []))
    refine OEnds.via (fun _ k => XS.lloadN X1.here hx rfl (hb hby d4_14) rfl k) ?_
    show OEnds p e below s _ _ _ (T1.setTop (mkF m 15 #[.val (.ref x), .val (.long q), .second, .val (.int (Int32.ofNat i))] [(.long q)]))
    refine OEnds.via (fun _ k => XS.bipush X1.here hx rfl (hb hby d4_15) k) ?_
    show OEnds p e below s _ _ _ (T1.setTop (mkF m 17 #[.val (.ref x), .val (.long q), .second, .val (.int (Int32.ofNat i))] [(.int (8 : Int32)), (.long q)]))
    refine OEnds.via (fun _ k => XS.iloadN X1.here hx rfl (hb hby d4_17) rfl k) ?_
    show OEnds p e below s _ _ _ (T1.setTop (mkF m 18 #[.val (.ref x), .val (.long q), .second, .val (.int (Int32.ofNat i))] [(.int (Int32.ofNat i)), (.int (8 : Int32)), (.long q)]))
    refine OEnds.via (fun _ k => XS.imul X1.here hx rfl (hb hby d4_18) rfl k) ?_
    show OEnds p e below s _ _ _ (T1.setTop (mkF m 19 #[.val (.ref x), .val (.long q), .second, .val (.int (Int32.ofNat i))] [(.int ((8 : Int32) * (Int32.ofNat i))), (.long q)]))
    refine OEnds.via (fun _ k => XS.lushr X1.here hx rfl (hb hby d4_19) rfl k) ?_
    show OEnds p e below s _ _ _ (T1.setTop (mkF m 20 #[.val (.ref x), .val (.long q), .second, .val (.int (Int32.ofNat i))] [(.long ((q.toUInt64 >>> (((8 : Int32) * (Int32.ofNat i)) &&& 0x3f).toInt64.toUInt64).toInt64))]))
    refine OEnds.via (fun _ k => X1.ldc2Long hx hown (mvT hZ (hw _ (List.mem_of_getElem? (i := 110) rfl))) (g := (mkF m 20 #[.val (.ref x), .val (.long q), .second, .val (.int (Int32.ofNat i))] [(.long ((q.toUInt64 >>> (((8 : Int32) * (Int32.ofNat i)) &&& 0x3f).toInt64.toUInt64).toInt64))])) rfl (hb hby d4_20) _ k) ?_
    show OEnds p e below s _ _ _ (T1.setTop (mkF m 23 #[.val (.ref x), .val (.long q), .second, .val (.int (Int32.ofNat i))] [(.long (255 : Int64)), (.long ((q.toUInt64 >>> (((8 : Int32) * (Int32.ofNat i)) &&& 0x3f).toInt64.toUInt64).toInt64))]))
    refine OEnds.via (fun _ k => XS.land X1.here hx rfl (hb hby d4_23) rfl k) ?_
    show OEnds p e below s _ _ _ (T1.setTop (mkF m 24 #[.val (.ref x), .val (.long q), .second, .val (.int (Int32.ofNat i))] [(.long (((q.toUInt64 >>> (((8 : Int32) * (Int32.ofNat i)) &&& 0x3f).toInt64.toUInt64).toInt64) &&& (255 : Int64)))]))
    refine OEnds.via (fun _ k => XS.l2i X1.here hx rfl (hb hby d4_24) rfl k) ?_
    show OEnds p e below s _ _ _ (T1.setTop (mkF m 25 #[.val (.ref x), .val (.long q), .second, .val (.int (Int32.ofNat i))] [(.int ((((q.toUInt64 >>> (((8 : Int32) * (Int32.ofNat i)) &&& 0x3f).toInt64.toUInt64).toInt64) &&& (255 : Int64)).toInt32))]))
    refine OEnds.via (fun _ k => XS.i2c X1.here hx rfl (hb hby d4_25) rfl k) ?_
    show OEnds p e below s _ _ _ (T1.setTop (mkF m 26 #[.val (.ref x), .val (.long q), .second, .val (.int (Int32.ofNat i))] [(.int (((((q.toUInt64 >>> (((8 : Int32) * (Int32.ofNat i)) &&& 0x3f).toInt64.toUInt64).toInt64) &&& (255 : Int64)).toInt32).toUInt32.toUInt16.toUInt32.toInt32))]))
    refine OEnds.retN X1 hx hlk (t := .char) Bd.returns (by simp) (hb hby d4_26) ?_ (by decide) (by decide)
    exact ⟨_, rfl, by rw [own_narc (own_long255 _)]; exact (own_long255 _), N1, e1⟩
theorem d3_0 : decode method_3_code 0 = .ok (.iload_n 3, 1) := by decide +kernel
theorem d3_1 : decode method_3_code 1 = .ok (.iconst 1, 1) := by decide +kernel
theorem d3_2 : decode method_3_code 2 = .ok (.iand, 1) := by decide +kernel
theorem d3_3 : decode method_3_code 3 = .ok (.ifCond .eq 23, 3) := by decide +kernel
theorem d3_6 : decode method_3_code 6 = .ok (.iload_n 3, 1) := by decide +kernel
theorem d3_7 : decode method_3_code 7 = .ok (.iconst 1, 1) := by decide +kernel
theorem d3_8 : decode method_3_code 8 = .ok (.iushr, 1) := by decide +kernel
theorem d3_9 : decode method_3_code 9 = .ok (.bipush 7, 2) := by decide +kernel
theorem d3_11 : decode method_3_code 11 = .ok (.iand, 1) := by decide +kernel
theorem d3_12 : decode method_3_code 12 = .ok (.iload 4, 2) := by decide +kernel
theorem d3_14 : decode method_3_code 14 = .ok (.if_icmp .ne 12, 3) := by decide +kernel
theorem d3_17 : decode method_3_code 17 = .ok (.iload_n 3, 1) := by decide +kernel
theorem d3_18 : decode method_3_code 18 = .ok (.iconst 4, 1) := by decide +kernel
theorem d3_19 : decode method_3_code 19 = .ok (.iushr, 1) := by decide +kernel
theorem d3_20 : decode method_3_code 20 = .ok (.sipush 255, 3) := by decide +kernel
theorem d3_23 : decode method_3_code 23 = .ok (.iand, 1) := by decide +kernel
theorem d3_24 : decode method_3_code 24 = .ok (.i2c, 1) := by decide +kernel
theorem d3_25 : decode method_3_code 25 = .ok (.ireturn, 1) := by decide +kernel
theorem d3_26 : decode method_3_code 26 = .ok (.aload_n 0, 1) := by decide +kernel
theorem d3_27 : decode method_3_code 27 = .ok (.lload_n 1, 1) := by decide +kernel
theorem d3_28 : decode method_3_code 28 = .ok (.iload 4, 2) := by decide +kernel
theorem d3_30 : decode method_3_code 30 = .ok (.invokestatic 19, 3) := by decide +kernel
theorem d3_33 : decode method_3_code 33 = .ok (.ireturn, 1) := by decide +kernel
def Q_rmAt (Z : State) (x : Addr) (tx : Addr) (kx : ClassId) (nx : Int32) (vx : List Value) (cs : List Int32) (q : Int64) (mm : Int32) (i : Nat) (G1 : Int32) (fm : Value) (h0 : Heap) (n0 : Nat) (v : Option Value) (h : Heap) (L : List Loc) : Prop := ∃ r, v = some (.int r) ∧ (¬ r < 0 ∧ ¬ (255 : Int32) < r) ∧ Fr n0 L ∧ h = h0
theorem pd_28Ljava2flang2fString3bJI29C : parseMethodDescriptor "(Ljava/lang/String;JI)C" = some ⟨[(.object "java/lang/String"), .long, .int], some .char⟩ := by decide +kernel
set_option maxRecDepth 65536 in
set_option maxHeartbeats 40000000 in
theorem rmAt (l : Launch) (Z : State) (a0 : Array Value) (hw : ∀ d ∈ tables_1, d.before a0 Z = true) (ws : List Jvm.Cond) (x : Addr) (tx : Addr) (kx : ClassId) (nx : Int32) (vx : List Value) (cs : List Int32) (q : Int64) (mm : Int32) (i : Nat) (G1 : Int32) (fm : Value) (h0 : Heap) (n0 : Nat) (O0 : Old Z n0 h0) (S_CS : Sta Z Z.heap "java/lang/String" "COMPACT_STRINGS" "Z" (.int G1)) (nz_CS : ¬ (G1 = (0 : Int32))) (S_FM : Sta Z Z.heap "jdk/internal/util/Preconditions" "SIOOBE_FORMATTER" "Ljava/util/function/BiFunction;" fm) (r_FM : fm.isRef = true) (Ex : Exa Z h0 x "java/lang/String") (Vx : Fld Z h0 x "java/lang/String" "value" "[B" (.ref tx)) (Cx : Fld Z h0 x "java/lang/String" "coder" "B" (.int (0 : Int32))) (Kx : Arv Z h0 tx kx .byte nx vx (.int (0 : Int32))) (hcx : StrChars.Road.CodA cs 0 nx vx) (hpx : ∀ c ∈ cs, ¬ c < 0 ∧ ¬ (255 : Int32) < c) (lex : cs.length ≤ 4000) (hi : i < 100) :
    MetFree l (⟨"com/example/odds3/odds3/engine/ValueTypeNamedPinLaw", "at", "(Ljava/lang/String;JII)C"⟩ : MethodName) (head1 (Jvm.Cond.code (⟨"com/example/odds3/odds3/engine/ValueTypeNamedPinLaw", "at", "(Ljava/lang/String;JII)C"⟩ : MethodName) method_3_code 5 (some .char) :: ws) ({ frames := 5, cells := 0, slots := 0, locals := 80 } : Room)) (fun ar' U => ar' = #[(.ref x), (.long q), (.int mm), (.int (Int32.ofNat i))] ∧ Z.Warmed39 U.vm ∧ U.heap = h0) (fun _ _ _ _ _ => True) (fun _ U o U' => ∃ v L, o = .returned v ∧ (Q_rmAt Z x tx kx nx vx cs q mm i G1 fm h0 n0) v U'.heap L ∧ FrameEnd U o U' L ({ frames := 5, cells := 0, slots := 0, locals := 80 } : Room).cells ({ frames := 5, cells := 0, slots := 0, locals := 80 } : Room).slots) := by
  refine MetFree.of_bodySF (plainFor_of_name pn_com_example_odds3_odds3_engine_ValueTypeNamedPinLaw) hisR ?_
  intro p e s m args below meth c s₁ Bd hml0 hP hK
  obtain ⟨rfl, hZ, hh⟩ := hP
  have hx := Bd.exec
  have hby := Bd.bytes
  have hlk := BodyLoose.notSynchronized Bd
  have hml : c.maxLocals = 5 := hml0
  have hown : s.vm.findClass "com/example/odds3/odds3/engine/ValueTypeNamedPinLaw" = some m.cls := findClass_of_methodNamed Bd.named
  have hnm := (name_of_methodNamed Bd.named Bd.method).1
  have X0 : Stand p l e ({ frames := 5, cells := 0, slots := 0, locals := 80 } : Room) s m #[(.ref x), (.long q), (.int mm), (.int (Int32.ofNat i))] below meth c s₁ [] 0 0 := Stand.of_body Bd
  have e0 : s₁.heap = h0 := by rw [← hh, Bd.state]; rfl
  have N0 := Fr.nil n0
  have Z0 : n0 ≤ h0.size := O0.1 ▸ O0.2.1
  show OEnds p e below s ({ frames := 5, cells := 0, slots := 0, locals := 80 } : Room).cells ({ frames := 5, cells := 0, slots := 0, locals := 80 } : Room).slots (Q_rmAt Z x tx kx nx vx cs q mm i G1 fm h0 n0) (s₁.setTop (entryFrame m #[(.ref x), (.long q), (.int mm), (.int (Int32.ofNat i))] 5))
  refine OEnds.via (fun _ k => castTop (show entryFrame m #[(.ref x), (.long q), (.int mm), (.int (Int32.ofNat i))] 5 = (mkF m 0 #[.val (.ref x), .val (.long q), .second, .val (.int mm), .val (.int (Int32.ofNat i))] []) by first | (simp [entryFrame, mkF, argsToLocals, Value.category, maxLocals]; done) | rfl) k) ?_
  show OEnds p e below s _ _ _ (s₁.setTop (mkF m 0 #[.val (.ref x), .val (.long q), .second, .val (.int mm), .val (.int (Int32.ofNat i))] []))
  refine OEnds.via (fun _ k => XS.iloadN X0.here hx rfl (hb hby d3_0) rfl k) ?_
  show OEnds p e below s _ _ _ (s₁.setTop (mkF m 1 #[.val (.ref x), .val (.long q), .second, .val (.int mm), .val (.int (Int32.ofNat i))] [(.int mm)]))
  refine OEnds.via (fun _ k => XS.iconst X0.here hx rfl (hb hby d3_1) k) ?_
  show OEnds p e below s _ _ _ (s₁.setTop (mkF m 2 #[.val (.ref x), .val (.long q), .second, .val (.int mm), .val (.int (Int32.ofNat i))] [(.int (1 : Int32)), (.int mm)]))
  refine OEnds.via (fun _ k => XS.iand X0.here hx rfl (hb hby d3_2) rfl k) ?_
  show OEnds p e below s _ _ _ (s₁.setTop (mkF m 3 #[.val (.ref x), .val (.long q), .second, .val (.int mm), .val (.int (Int32.ofNat i))] [(.int (mm &&& (1 : Int32)))]))
  by_cases hc3_0 : (mm &&& (1 : Int32)) = (0 : Int32)
  · skip
    refine OEnds.via (fun _ k => XS.ifYes X0.here hx rfl (pc0 := 3) (pc' := 26) rfl (hb hby d3_3) rfl ((if0 _ _).trans (teq hc3_0).1) (by decide) (by decide) k) ?_
    show OEnds p e below s _ _ _ (s₁.setTop (mkF m 26 #[.val (.ref x), .val (.long q), .second, .val (.int mm), .val (.int (Int32.ofNat i))] []))
    refine OEnds.via (fun _ k => XS.aloadN X0.here hx rfl (hb hby d3_26) rfl rfl k) ?_
    show OEnds p e below s _ _ _ (s₁.setTop (mkF m 27 #[.val (.ref x), .val (.long q), .second, .val (.int mm), .val (.int (Int32.ofNat i))] [(.ref x)]))
    refine OEnds.via (fun _ k => XS.lloadN X0.here hx rfl (hb hby d3_27) rfl k) ?_
    show OEnds p e below s _ _ _ (s₁.setTop (mkF m 28 #[.val (.ref x), .val (.long q), .second, .val (.int mm), .val (.int (Int32.ofNat i))] [(.long q), (.ref x)]))
    refine OEnds.via (fun _ k => XS.iload X0.here hx rfl (hb hby d3_28) rfl k) ?_
    show OEnds p e below s _ _ _ (s₁.setTop (mkF m 30 #[.val (.ref x), .val (.long q), .second, .val (.int mm), .val (.int (Int32.ofNat i))] [(.int (Int32.ofNat i)), (.long q), (.ref x)]))
    obtain ⟨_, _, ⟨T2, L2, k2, n2⟩, -, X2, ⟨Lc2, hQ2, l2, y2, z2⟩, st2⟩ := Jvm.LawKit.callS X0 hx (y := (⟨"com/example/odds3/odds3/engine/ValueTypeNamedPinLaw", "drawn", "(Ljava/lang/String;JI)C"⟩ : MethodName)) hown (mvT hZ (hw _ (List.mem_of_getElem? (i := 27) rfl))) (mvT hZ (hw _ (List.mem_of_getElem? (i := 28) rfl))) (mvT hZ (hw _ (List.mem_of_getElem? (i := 25) rfl))) (mvT hZ (hw _ (List.mem_of_getElem? (i := 29) rfl))) (by decide) (backOf (W := 0) (rmDr l Z a0 hw [] x tx kx nx vx cs q i G1 fm h0 n0 O0 S_CS nz_CS S_FM r_FM Ex Vx Cx Kx hcx hpx lex hi) hZ (hw _ (List.mem_of_getElem? (i := 29) rfl)) (hw _ (List.mem_of_getElem? (i := 25) rfl)) (by decide) (by decide)) (g := (mkF m 30 #[.val (.ref x), .val (.long q), .second, .val (.int mm), .val (.int (Int32.ofNat i))] [(.int (Int32.ofNat i)), (.long q), (.ref x)])) rfl (by rw [hml]; rfl) (argsL := [(.ref x), (.long q), (.int (Int32.ofNat i))]) (rest := []) (lenOf pd_28Ljava2flang2fString3bJI29C rfl) rfl (by show 2 * 0 + _ ≤ _; exact Nat.le_of_eq rfl) (hb hby d3_30) (fun _ _ => ⟨rfl, e0, Nat.le_of_ble_eq_true rfl, Nat.le_of_ble_eq_true rfl⟩)
    dsimp only [Pt.U, Pt.locs, Pt.cells, Pt.slots] at X2 l2 y2 z2 st2 hQ2
    subst l2 y2 z2
    obtain ⟨r2, rfl, hr2, N2q, e2⟩ := hQ2
    have N2 := Fr.app N0 N2q
    refine OEnds.via (fun _ k => st2 _ k) ?_
    show OEnds p e below s _ _ _ (T2.setTop (mkF m 33 #[.val (.ref x), .val (.long q), .second, .val (.int mm), .val (.int (Int32.ofNat i))] [(.int r2)]))
    refine OEnds.retN X2 hx hlk (t := .char) Bd.returns (by simp) (hb hby d3_33) ?_ (by decide) (by decide)
    exact ⟨_, rfl, by rw [own_narc hr2]; exact hr2, N2, e2⟩
  · skip
    refine OEnds.via (fun _ k => XS.ifNo X0.here hx rfl (hb hby d3_3) rfl ((if0 _ _).trans (feq hc3_0).1) k) ?_
    show OEnds p e below s _ _ _ (s₁.setTop (mkF m 6 #[.val (.ref x), .val (.long q), .second, .val (.int mm), .val (.int (Int32.ofNat i))] []))
    refine OEnds.via (fun _ k => XS.iloadN X0.here hx rfl (hb hby d3_6) rfl k) ?_
    show OEnds p e below s _ _ _ (s₁.setTop (mkF m 7 #[.val (.ref x), .val (.long q), .second, .val (.int mm), .val (.int (Int32.ofNat i))] [(.int mm)]))
    refine OEnds.via (fun _ k => XS.iconst X0.here hx rfl (hb hby d3_7) k) ?_
    show OEnds p e below s _ _ _ (s₁.setTop (mkF m 8 #[.val (.ref x), .val (.long q), .second, .val (.int mm), .val (.int (Int32.ofNat i))] [(.int (1 : Int32)), (.int mm)]))
    refine OEnds.via (fun _ k => XS.iushr X0.here hx rfl (hb hby d3_8) rfl k) ?_
    show OEnds p e below s _ _ _ (s₁.setTop (mkF m 9 #[.val (.ref x), .val (.long q), .second, .val (.int mm), .val (.int (Int32.ofNat i))] [(.int ((mm.toUInt32 >>> ((1 : Int32) &&& 31).toUInt32).toInt32))]))
    refine OEnds.via (fun _ k => XS.bipush X0.here hx rfl (hb hby d3_9) k) ?_
    show OEnds p e below s _ _ _ (s₁.setTop (mkF m 11 #[.val (.ref x), .val (.long q), .second, .val (.int mm), .val (.int (Int32.ofNat i))] [(.int (7 : Int32)), (.int ((mm.toUInt32 >>> ((1 : Int32) &&& 31).toUInt32).toInt32))]))
    refine OEnds.via (fun _ k => XS.iand X0.here hx rfl (hb hby d3_11) rfl k) ?_
    show OEnds p e below s _ _ _ (s₁.setTop (mkF m 12 #[.val (.ref x), .val (.long q), .second, .val (.int mm), .val (.int (Int32.ofNat i))] [(.int (((mm.toUInt32 >>> ((1 : Int32) &&& 31).toUInt32).toInt32) &&& (7 : Int32)))]))
    refine OEnds.via (fun _ k => XS.iload X0.here hx rfl (hb hby d3_12) rfl k) ?_
    show OEnds p e below s _ _ _ (s₁.setTop (mkF m 14 #[.val (.ref x), .val (.long q), .second, .val (.int mm), .val (.int (Int32.ofNat i))] [(.int (Int32.ofNat i)), (.int (((mm.toUInt32 >>> ((1 : Int32) &&& 31).toUInt32).toInt32) &&& (7 : Int32)))]))
    by_cases hc14_2 : (((mm.toUInt32 >>> ((1 : Int32) &&& 31).toUInt32).toInt32) &&& (7 : Int32)) = (Int32.ofNat i)
    · skip
      refine OEnds.via (fun _ k => XS.icmpNo X0.here hx rfl (hb hby d3_14) rfl (teq hc14_2).2 k) ?_
      show OEnds p e below s _ _ _ (s₁.setTop (mkF m 17 #[.val (.ref x), .val (.long q), .second, .val (.int mm), .val (.int (Int32.ofNat i))] []))
      refine OEnds.via (fun _ k => XS.iloadN X0.here hx rfl (hb hby d3_17) rfl k) ?_
      show OEnds p e below s _ _ _ (s₁.setTop (mkF m 18 #[.val (.ref x), .val (.long q), .second, .val (.int mm), .val (.int (Int32.ofNat i))] [(.int mm)]))
      refine OEnds.via (fun _ k => XS.iconst X0.here hx rfl (hb hby d3_18) k) ?_
      show OEnds p e below s _ _ _ (s₁.setTop (mkF m 19 #[.val (.ref x), .val (.long q), .second, .val (.int mm), .val (.int (Int32.ofNat i))] [(.int (4 : Int32)), (.int mm)]))
      refine OEnds.via (fun _ k => XS.iushr X0.here hx rfl (hb hby d3_19) rfl k) ?_
      show OEnds p e below s _ _ _ (s₁.setTop (mkF m 20 #[.val (.ref x), .val (.long q), .second, .val (.int mm), .val (.int (Int32.ofNat i))] [(.int ((mm.toUInt32 >>> ((4 : Int32) &&& 31).toUInt32).toInt32))]))
      refine OEnds.via (fun _ k => XS.sipush X0.here hx rfl (hb hby d3_20) k) ?_
      show OEnds p e below s _ _ _ (s₁.setTop (mkF m 23 #[.val (.ref x), .val (.long q), .second, .val (.int mm), .val (.int (Int32.ofNat i))] [(.int (255 : Int32)), (.int ((mm.toUInt32 >>> ((4 : Int32) &&& 31).toUInt32).toInt32))]))
      refine OEnds.via (fun _ k => XS.iand X0.here hx rfl (hb hby d3_23) rfl k) ?_
      show OEnds p e below s _ _ _ (s₁.setTop (mkF m 24 #[.val (.ref x), .val (.long q), .second, .val (.int mm), .val (.int (Int32.ofNat i))] [(.int (((mm.toUInt32 >>> ((4 : Int32) &&& 31).toUInt32).toInt32) &&& (255 : Int32)))]))
      refine OEnds.via (fun _ k => XS.i2c X0.here hx rfl (hb hby d3_24) rfl k) ?_
      show OEnds p e below s _ _ _ (s₁.setTop (mkF m 25 #[.val (.ref x), .val (.long q), .second, .val (.int mm), .val (.int (Int32.ofNat i))] [(.int ((((mm.toUInt32 >>> ((4 : Int32) &&& 31).toUInt32).toInt32) &&& (255 : Int32)).toUInt32.toUInt16.toUInt32.toInt32))]))
      refine OEnds.retN X0 hx hlk (t := .char) Bd.returns (by simp) (hb hby d3_25) ?_ (by decide) (by decide)
      exact ⟨_, rfl, by rw [own_narc (own_and255 _)]; exact (own_and255 _), N0, e0⟩
    · skip
      refine OEnds.via (fun _ k => XS.icmpYes X0.here hx rfl (pc0 := 14) (pc' := 26) rfl (hb hby d3_14) rfl (feq hc14_2).2 (by decide) (by decide) k) ?_
      show OEnds p e below s _ _ _ (s₁.setTop (mkF m 26 #[.val (.ref x), .val (.long q), .second, .val (.int mm), .val (.int (Int32.ofNat i))] []))
      refine OEnds.via (fun _ k => XS.aloadN X0.here hx rfl (hb hby d3_26) rfl rfl k) ?_
      show OEnds p e below s _ _ _ (s₁.setTop (mkF m 27 #[.val (.ref x), .val (.long q), .second, .val (.int mm), .val (.int (Int32.ofNat i))] [(.ref x)]))
      refine OEnds.via (fun _ k => XS.lloadN X0.here hx rfl (hb hby d3_27) rfl k) ?_
      show OEnds p e below s _ _ _ (s₁.setTop (mkF m 28 #[.val (.ref x), .val (.long q), .second, .val (.int mm), .val (.int (Int32.ofNat i))] [(.long q), (.ref x)]))
      refine OEnds.via (fun _ k => XS.iload X0.here hx rfl (hb hby d3_28) rfl k) ?_
      show OEnds p e below s _ _ _ (s₁.setTop (mkF m 30 #[.val (.ref x), .val (.long q), .second, .val (.int mm), .val (.int (Int32.ofNat i))] [(.int (Int32.ofNat i)), (.long q), (.ref x)]))
      obtain ⟨_, _, ⟨T4, L4, k4, n4⟩, -, X4, ⟨Lc4, hQ4, l4, y4, z4⟩, st4⟩ := Jvm.LawKit.callS X0 hx (y := (⟨"com/example/odds3/odds3/engine/ValueTypeNamedPinLaw", "drawn", "(Ljava/lang/String;JI)C"⟩ : MethodName)) hown (mvT hZ (hw _ (List.mem_of_getElem? (i := 27) rfl))) (mvT hZ (hw _ (List.mem_of_getElem? (i := 28) rfl))) (mvT hZ (hw _ (List.mem_of_getElem? (i := 25) rfl))) (mvT hZ (hw _ (List.mem_of_getElem? (i := 29) rfl))) (by decide) (backOf (W := 0) (rmDr l Z a0 hw [] x tx kx nx vx cs q i G1 fm h0 n0 O0 S_CS nz_CS S_FM r_FM Ex Vx Cx Kx hcx hpx lex hi) hZ (hw _ (List.mem_of_getElem? (i := 29) rfl)) (hw _ (List.mem_of_getElem? (i := 25) rfl)) (by decide) (by decide)) (g := (mkF m 30 #[.val (.ref x), .val (.long q), .second, .val (.int mm), .val (.int (Int32.ofNat i))] [(.int (Int32.ofNat i)), (.long q), (.ref x)])) rfl (by rw [hml]; rfl) (argsL := [(.ref x), (.long q), (.int (Int32.ofNat i))]) (rest := []) (lenOf pd_28Ljava2flang2fString3bJI29C rfl) rfl (by show 2 * 0 + _ ≤ _; exact Nat.le_of_eq rfl) (hb hby d3_30) (fun _ _ => ⟨rfl, e0, Nat.le_of_ble_eq_true rfl, Nat.le_of_ble_eq_true rfl⟩)
      dsimp only [Pt.U, Pt.locs, Pt.cells, Pt.slots] at X4 l4 y4 z4 st4 hQ4
      subst l4 y4 z4
      obtain ⟨r4, rfl, hr4, N4q, e4⟩ := hQ4
      have N4 := Fr.app N0 N4q
      refine OEnds.via (fun _ k => st4 _ k) ?_
      show OEnds p e below s _ _ _ (T4.setTop (mkF m 33 #[.val (.ref x), .val (.long q), .second, .val (.int mm), .val (.int (Int32.ofNat i))] [(.int r4)]))
      refine OEnds.retN X4 hx hlk (t := .char) Bd.returns (by simp) (hb hby d3_33) ?_ (by decide) (by decide)
      exact ⟨_, rfl, by rw [own_narc hr4]; exact hr4, N4, e4⟩
theorem pd_28Ljava2flang2fString3b29Lcom2fexample2fodds32fodds32fengine2fValueType3b : parseMethodDescriptor "(Ljava/lang/String;)Lcom/example/odds3/odds3/engine/ValueType;" = some ⟨[(.object "java/lang/String")], some (.object "com/example/odds3/odds3/engine/ValueType")⟩ := by decide +kernel
theorem pd_28Ljava2flang2fString3bJII29C : parseMethodDescriptor "(Ljava/lang/String;JII)C" = some ⟨[(.object "java/lang/String"), .long, .int, .int], some .char⟩ := by decide +kernel
theorem pd_285bC29V : parseMethodDescriptor "([C)V" = some ⟨[(.array .char)], none⟩ := by decide +kernel
set_option maxRecDepth 65536 in
set_option maxHeartbeats 40000000 in
theorem rm0 (l : Launch) (Z : State) (a0 : Array Value) (hw : ∀ d ∈ tables_1, d.before a0 Z = true) (ws : List Jvm.Cond) (p0 : Int32) (p1 : Int64) (p2 : Int32) (p3 : Int32) (fm : Value) (a_NUMBER : Addr) (a_BOOLEAN : Addr) (a_STRING : Addr) (t_NUMBER : Addr) (t_BOOLEAN : Addr) (t_STRING : Addr) (tv_NUMBER : Addr) (tv_BOOLEAN : Addr) (tv_STRING : Addr) (kt_NUMBER : ClassId) (kt_BOOLEAN : ClassId) (kt_STRING : ClassId) (va : Addr) (kA : ClassId) (G1 : Int32) (h0 : Heap) (n0 : Nat) (O0 : Old Z n0 h0) (S_FM : Sta Z Z.heap "jdk/internal/util/Preconditions" "SIOOBE_FORMATTER" "Ljava/util/function/BiFunction;" fm) (r_FM : fm.isRef = true) (S_CS : Sta Z Z.heap "java/lang/String" "COMPACT_STRINGS" "Z" (.int G1)) (nz_CS : ¬ (G1 = (0 : Int32))) (S_V : Sta Z Z.heap "com/example/odds3/odds3/engine/ValueType" "$VALUES" "[Lcom/example/odds3/odds3/engine/ValueType;" (.ref va)) (AV : Arv Z Z.heap va kA (.object "com/example/odds3/odds3/engine/ValueType") (3 : Int32) [(.ref a_NUMBER), (.ref a_BOOLEAN), (.ref a_STRING)] .null) (EV : Exa Z Z.heap va "[Lcom/example/odds3/odds3/engine/ValueType;") (Et_NUMBER : Exa Z Z.heap t_NUMBER "java/lang/String") (Vt_NUMBER : Fld Z Z.heap t_NUMBER "java/lang/String" "value" "[B" (.ref tv_NUMBER)) (Ct_NUMBER : Fld Z Z.heap t_NUMBER "java/lang/String" "coder" "B" (.int (0 : Int32))) (Kt_NUMBER : Arv Z Z.heap tv_NUMBER kt_NUMBER .byte (6 : Int32) [(.int (110 : Int32)), (.int (117 : Int32)), (.int (109 : Int32)), (.int (98 : Int32)), (.int (101 : Int32)), (.int (114 : Int32))] (.int (0 : Int32))) (Ft_NUMBER : Fld Z Z.heap a_NUMBER "com/example/odds3/odds3/engine/ValueType" "policyName" "Ljava/lang/String;" (.ref t_NUMBER)) (Et_BOOLEAN : Exa Z Z.heap t_BOOLEAN "java/lang/String") (Vt_BOOLEAN : Fld Z Z.heap t_BOOLEAN "java/lang/String" "value" "[B" (.ref tv_BOOLEAN)) (Ct_BOOLEAN : Fld Z Z.heap t_BOOLEAN "java/lang/String" "coder" "B" (.int (0 : Int32))) (Kt_BOOLEAN : Arv Z Z.heap tv_BOOLEAN kt_BOOLEAN .byte (7 : Int32) [(.int (98 : Int32)), (.int (111 : Int32)), (.int (111 : Int32)), (.int (108 : Int32)), (.int (101 : Int32)), (.int (97 : Int32)), (.int (110 : Int32))] (.int (0 : Int32))) (Ft_BOOLEAN : Fld Z Z.heap a_BOOLEAN "com/example/odds3/odds3/engine/ValueType" "policyName" "Ljava/lang/String;" (.ref t_BOOLEAN)) (Et_STRING : Exa Z Z.heap t_STRING "java/lang/String") (Vt_STRING : Fld Z Z.heap t_STRING "java/lang/String" "value" "[B" (.ref tv_STRING)) (Ct_STRING : Fld Z Z.heap t_STRING "java/lang/String" "coder" "B" (.int (0 : Int32))) (Kt_STRING : Arv Z Z.heap tv_STRING kt_STRING .byte (6 : Int32) [(.int (115 : Int32)), (.int (116 : Int32)), (.int (114 : Int32)), (.int (105 : Int32)), (.int (110 : Int32)), (.int (103 : Int32))] (.int (0 : Int32))) (Ft_STRING : Fld Z Z.heap a_STRING "com/example/odds3/odds3/engine/ValueType" "policyName" "Ljava/lang/String;" (.ref t_STRING)) (S_NUMBER : Sta Z Z.heap "com/example/odds3/odds3/engine/ValueType" "NUMBER" "Lcom/example/odds3/odds3/engine/ValueType;" (.ref a_NUMBER)) (S_BOOLEAN : Sta Z Z.heap "com/example/odds3/odds3/engine/ValueType" "BOOLEAN" "Lcom/example/odds3/odds3/engine/ValueType;" (.ref a_BOOLEAN)) (S_STRING : Sta Z Z.heap "com/example/odds3/odds3/engine/ValueType" "STRING" "Lcom/example/odds3/odds3/engine/ValueType;" (.ref a_STRING)) :
    MetFree l x (head1 (Jvm.Cond.code x code maxLocals ret :: ws) room_1) (fun ar' U => ar' = #[(.int p0), (.long p1), (.int p2), (.int p3)] ∧ Z.Warmed39 U.vm ∧ U.heap = h0 ∧ CHv Z consts_1 U.vm h0) (fun _ _ _ _ _ => True) (fun _ U o U' => ∃ v L, o = .returned v ∧ (QL n0) v U'.heap L ∧ CHr Z consts_1 U.vm U.heap U'.vm U'.heap ∧ ReturnedEndW U o U' L 32 5248) := by
  refine MetFree.of_bodySF (plainFor_of_name pn_com_example_odds3_odds3_engine_ValueTypeNamedPinLaw) hisR ?_
  intro p e s m args below meth c s₁ Bd hml0 hP hK
  obtain ⟨rfl, hZ, hh, hCH0⟩ := hP
  have hx := Bd.exec
  have hby := Bd.bytes
  have hlk := BodyLoose.notSynchronized Bd
  have hml : c.maxLocals = 11 := hml0
  have hown : s.vm.findClass "com/example/odds3/odds3/engine/ValueTypeNamedPinLaw" = some m.cls := findClass_of_methodNamed Bd.named
  have hnm := (name_of_methodNamed Bd.named Bd.method).1
  have X0 : Stand p l e room_1 (s.setVm s.vm) m #[(.int p0), (.long p1), (.int p2), (.int p3)] below meth c s₁ [] 0 0 := Stand.of_body Bd
  have e0 : s₁.heap = h0 := by rw [← hh, Bd.state]; rfl
  have N0 := Fr.nil n0
  have Z0 : n0 ≤ h0.size := O0.1 ▸ O0.2.1
  have hEL : EW Z a0 consts_1 := own_EW hw
  have wS := own_wS hw
  have es : s.heap = h0 := hh
  have hS : s.Since s.vm h0.size := (State.WarmedH.refl s).since _
  have hk : h0.size ≤ h0.size := Nat.le_refl _
  have CR : CHr Z consts_1 s.vm h0 s.vm h0 := CHr.refl hCH0
  show OEndsW p e below s Z consts_1 32 5248 (QL n0) (s₁.setTop (entryFrame m #[(.int p0), (.long p1), (.int p2), (.int p3)] maxLocals))
  refine OEndsW.via (fun _ k => castTop (show entryFrame m #[(.int p0), (.long p1), (.int p2), (.int p3)] maxLocals = (mkF m 0 #[.val (.int p0), .val (.long p1), .second, .val (.int p2), .val (.int p3), .unset, .unset, .unset, .unset, .unset, .unset] []) by first | (simp [entryFrame, mkF, argsToLocals, Value.category, maxLocals]; done) | rfl) k) ?_
  have hws : ∀ d ∈ StrChars.Road.words, d.before a0 Z = true := fun d hd => hw d ((by decide +kernel : ∀ d ∈ StrChars.Road.words, d ∈ tables_1) d hd)
  have hln : ∀ d ∈ StrChars.Road.wordsLen, d.before a0 Z = true := fun d hd => hw d ((by decide +kernel : ∀ d ∈ StrChars.Road.wordsLen, d ∈ tables_1) d hd)
  have hch : ∀ d ∈ StrChars.Road.wordsChN, d.before a0 Z = true := fun d hd => hw d ((by decide +kernel : ∀ d ∈ StrChars.Road.wordsChN, d ∈ tables_1) d hd)
  have heq : ∀ d ∈ StrChars.Road.wordsEq, d.before a0 Z = true := fun d hd => hw d ((by decide +kernel : ∀ d ∈ StrChars.Road.wordsEq, d ∈ tables_1) d hd)
  have Od := O0
  show OEndsW p e below s _ _ _ _ _ (s₁.setTop (mkF m 0 #[.val (.int p0), .val (.long p1), .second, .val (.int p2), .val (.int p3), .unset, .unset, .unset, .unset, .unset, .unset] []))
  refine OEndsW.via (fun _ k => XS.iloadN X0.here hx rfl (hb hby at_0) rfl k) ?_
  show OEndsW p e below s _ _ _ _ _ (s₁.setTop (mkF m 1 #[.val (.int p0), .val (.long p1), .second, .val (.int p2), .val (.int p3), .unset, .unset, .unset, .unset, .unset, .unset] [(.int p0)]))
  refine OEndsW.via (fun _ k => X0.ldcInt hx hown (mvT hZ (hw _ (List.mem_of_getElem? (i := 0) rfl))) (g := (mkF m 1 #[.val (.int p0), .val (.long p1), .second, .val (.int p2), .val (.int p3), .unset, .unset, .unset, .unset, .unset, .unset] [(.int p0)])) rfl (hb hby at_1) _ k) ?_
  show OEndsW p e below s _ _ _ _ _ (s₁.setTop (mkF m 3 #[.val (.int p0), .val (.long p1), .second, .val (.int p2), .val (.int p3), .unset, .unset, .unset, .unset, .unset, .unset] [(.int (2147483647 : Int32)), (.int p0)]))
  refine OEndsW.via (fun _ k => XS.iand X0.here hx rfl (hb hby at_3) rfl k) ?_
  show OEndsW p e below s _ _ _ _ _ (s₁.setTop (mkF m 4 #[.val (.int p0), .val (.long p1), .second, .val (.int p2), .val (.int p3), .unset, .unset, .unset, .unset, .unset, .unset] [(.int (p0 &&& (2147483647 : Int32)))]))
  refine OEndsW.via (fun _ k => XS.iconst X0.here hx rfl (hb hby at_4) k) ?_
  show OEndsW p e below s _ _ _ _ _ (s₁.setTop (mkF m 5 #[.val (.int p0), .val (.long p1), .second, .val (.int p2), .val (.int p3), .unset, .unset, .unset, .unset, .unset, .unset] [(.int (4 : Int32)), (.int (p0 &&& (2147483647 : Int32)))]))
  refine OEndsW.via (fun _ k => iremM X0 hx rfl (hb hby at_5) rfl (by decide) k) ?_
  show OEndsW p e below s _ _ _ _ _ (s₁.setTop (mkF m 6 #[.val (.int p0), .val (.long p1), .second, .val (.int p2), .val (.int p3), .unset, .unset, .unset, .unset, .unset, .unset] [(.int ((p0 &&& (2147483647 : Int32)) % (4 : Int32)))]))
  refine OEndsW.via (fun _ k => XS.istore X0.here hx rfl (hb hby at_6) rfl (l' := #[.val (.int p0), .val (.long p1), .second, .val (.int p2), .val (.int p3), .val (.int ((p0 &&& (2147483647 : Int32)) % (4 : Int32))), .unset, .unset, .unset, .unset, .unset]) rfl k) ?_
  show OEndsW p e below s _ _ _ _ _ (s₁.setTop (mkF m 8 #[.val (.int p0), .val (.long p1), .second, .val (.int p2), .val (.int p3), .val (.int ((p0 &&& (2147483647 : Int32)) % (4 : Int32))), .unset, .unset, .unset, .unset, .unset] []))
  refine OEndsW.via (fun _ k => XS.iload X0.here hx rfl (hb hby at_8) rfl k) ?_
  show OEndsW p e below s _ _ _ _ _ (s₁.setTop (mkF m 10 #[.val (.int p0), .val (.long p1), .second, .val (.int p2), .val (.int p3), .val (.int ((p0 &&& (2147483647 : Int32)) % (4 : Int32))), .unset, .unset, .unset, .unset, .unset] [(.int ((p0 &&& (2147483647 : Int32)) % (4 : Int32)))]))
  have J1 : ∀ (U1 : State) (hU1 : Heap) (LU1 : List Loc) (vmU1 : Vm) (kU1 : Nat) (XU1 : Stand p l e room_1 (s.setVm vmU1) m #[(.int p0), (.long p1), (.int p2), (.int p3)] below meth c U1 LU1 2 32) (eU1 : U1.heap = hU1) (NU1 : Fr n0 LU1) (hS : s.Since vmU1 kU1) (hk : kU1 ≤ hU1.size) (hZ : Z.Warmed39 (s.setVm vmU1).vm) (hown : (s.setVm vmU1).vm.findClass "com/example/odds3/odds3/engine/ValueTypeNamedPinLaw" = some m.cls) (CR : CHr Z consts_1 s.vm h0 vmU1 hU1) (Od : Old Z n0 hU1) (x : Addr) (tx : Addr) (kx : ClassId) (nx : Int32) (vx : List Value) (cs : List Int32) (Ex : Exa Z hU1 x "java/lang/String") (Vx : Fld Z hU1 x "java/lang/String" "value" "[B" (.ref tx)) (Cx : Fld Z hU1 x "java/lang/String" "coder" "B" (.int (0 : Int32))) (Kx : Arv Z hU1 tx kx .byte nx vx (.int (0 : Int32))) (hcx : StrChars.Road.CodA cs 0 nx vx) (hpx : ∀ c ∈ cs, ¬ c < 0 ∧ ¬ (255 : Int32) < c) (lex : cs.length ≤ 4000) (hl7 : cs.length ≤ 7), OEndsW p e below s Z consts_1 32 5248 (QL n0) (U1.setTop (mkF m 42 #[.val (.int p0), .val (.long p1), .second, .val (.int p2), .val (.int p3), .val (.int ((p0 &&& (2147483647 : Int32)) % (4 : Int32))), .unset, .unset, .unset, .unset, .unset] [(.ref x)])) := by
    intro U1 hU1 LU1 vmU1 kU1 XU1 eU1 NU1 hS hk hZ hown CR Od x tx kx nx vx cs Ex Vx Cx Kx hcx hpx lex hl7
    have hbx := own_up _ hpx
    show OEndsW p e below s _ _ _ _ _ (U1.setTop (mkF m 42 #[.val (.int p0), .val (.long p1), .second, .val (.int p2), .val (.int p3), .val (.int ((p0 &&& (2147483647 : Int32)) % (4 : Int32))), .unset, .unset, .unset, .unset, .unset] [(.ref x)]))
    refine OEndsW.via (fun _ k => XS.astore XU1.here hx rfl (hb hby at_42) rfl rfl (l' := #[.val (.int p0), .val (.long p1), .second, .val (.int p2), .val (.int p3), .val (.int ((p0 &&& (2147483647 : Int32)) % (4 : Int32))), .val (.ref x), .unset, .unset, .unset, .unset]) rfl k) ?_
    show OEndsW p e below s _ _ _ _ _ (U1.setTop (mkF m 44 #[.val (.int p0), .val (.long p1), .second, .val (.int p2), .val (.int p3), .val (.int ((p0 &&& (2147483647 : Int32)) % (4 : Int32))), .val (.ref x), .unset, .unset, .unset, .unset] []))
    refine OEndsW.via (fun _ k => XS.iload XU1.here hx rfl (hb hby at_44) rfl k) ?_
    show OEndsW p e below s _ _ _ _ _ (U1.setTop (mkF m 46 #[.val (.int p0), .val (.long p1), .second, .val (.int p2), .val (.int p3), .val (.int ((p0 &&& (2147483647 : Int32)) % (4 : Int32))), .val (.ref x), .unset, .unset, .unset, .unset] [(.int p3)]))
    refine OEndsW.via (fun _ k => XS.iconst XU1.here hx rfl (hb hby at_46) k) ?_
    show OEndsW p e below s _ _ _ _ _ (U1.setTop (mkF m 47 #[.val (.int p0), .val (.long p1), .second, .val (.int p2), .val (.int p3), .val (.int ((p0 &&& (2147483647 : Int32)) % (4 : Int32))), .val (.ref x), .unset, .unset, .unset, .unset] [(.int (1 : Int32)), (.int p3)]))
    refine OEndsW.via (fun _ k => XS.iand XU1.here hx rfl (hb hby at_47) rfl k) ?_
    show OEndsW p e below s _ _ _ _ _ (U1.setTop (mkF m 48 #[.val (.int p0), .val (.long p1), .second, .val (.int p2), .val (.int p3), .val (.int ((p0 &&& (2147483647 : Int32)) % (4 : Int32))), .val (.ref x), .unset, .unset, .unset, .unset] [(.int (p3 &&& (1 : Int32)))]))
    have J2 : ∀ (U2 : State) (hU2 : Heap) (LU2 : List Loc) (vmU2 : Vm) (kU2 : Nat) (XU2 : Stand p l e room_1 (s.setVm vmU2) m #[(.int p0), (.long p1), (.int p2), (.int p3)] below meth c U2 LU2 2 32) (eU2 : U2.heap = hU2) (NU2 : Fr n0 LU2) (hS : s.Since vmU2 kU2) (hk : kU2 ≤ hU2.size) (hZ : Z.Warmed39 (s.setVm vmU2).vm) (hown : (s.setVm vmU2).vm.findClass "com/example/odds3/odds3/engine/ValueTypeNamedPinLaw" = some m.cls) (CR : CHr Z consts_1 s.vm h0 vmU2 hU2) (Od : Old Z n0 hU2) (Ex : Exa Z hU2 x "java/lang/String") (Vx : Fld Z hU2 x "java/lang/String" "value" "[B" (.ref tx)) (Cx : Fld Z hU2 x "java/lang/String" "coder" "B" (.int (0 : Int32))) (Kx : Arv Z hU2 tx kx .byte nx vx (.int (0 : Int32))) (kn : Nat) (hkn : kn ≤ 7), OEndsW p e below s Z consts_1 32 5248 (QL n0) (U2.setTop (mkF m 66 #[.val (.int p0), .val (.long p1), .second, .val (.int p2), .val (.int p3), .val (.int ((p0 &&& (2147483647 : Int32)) % (4 : Int32))), .val (.ref x), .unset, .unset, .unset, .unset] [(.int (Int32.ofNat kn))])) := by
      intro U2 hU2 LU2 vmU2 kU2 XU2 eU2 NU2 hS hk hZ hown CR Od Ex Vx Cx Kx kn hkn
      show OEndsW p e below s _ _ _ _ _ (U2.setTop (mkF m 66 #[.val (.int p0), .val (.long p1), .second, .val (.int p2), .val (.int p3), .val (.int ((p0 &&& (2147483647 : Int32)) % (4 : Int32))), .val (.ref x), .unset, .unset, .unset, .unset] [(.int (Int32.ofNat kn))]))
      refine OEndsW.via (fun _ k => XS.istore XU2.here hx rfl (hb hby at_66) rfl (l' := #[.val (.int p0), .val (.long p1), .second, .val (.int p2), .val (.int p3), .val (.int ((p0 &&& (2147483647 : Int32)) % (4 : Int32))), .val (.ref x), .val (.int (Int32.ofNat kn)), .unset, .unset, .unset]) rfl k) ?_
      show OEndsW p e below s _ _ _ _ _ (U2.setTop (mkF m 68 #[.val (.int p0), .val (.long p1), .second, .val (.int p2), .val (.int p3), .val (.int ((p0 &&& (2147483647 : Int32)) % (4 : Int32))), .val (.ref x), .val (.int (Int32.ofNat kn)), .unset, .unset, .unset] []))
      refine OEndsW.via (fun _ k => XS.iload XU2.here hx rfl (hb hby at_68) rfl k) ?_
      show OEndsW p e below s _ _ _ _ _ (U2.setTop (mkF m 70 #[.val (.int p0), .val (.long p1), .second, .val (.int p2), .val (.int p3), .val (.int ((p0 &&& (2147483647 : Int32)) % (4 : Int32))), .val (.ref x), .val (.int (Int32.ofNat kn)), .unset, .unset, .unset] [(.int (Int32.ofNat kn))]))
      have J3 : ∀ (U3 : State) (hU3 : Heap) (LU3 : List Loc) (vmU3 : Vm) (kU3 : Nat) (XU3 : Stand p l e room_1 (s.setVm vmU3) m #[(.int p0), (.long p1), (.int p2), (.int p3)] below meth c U3 LU3 3 39) (eU3 : U3.heap = hU3) (NU3 : Fr n0 LU3) (hS : s.Since vmU3 kU3) (hk : kU3 ≤ hU3.size) (hZ : Z.Warmed39 (s.setVm vmU3).vm) (hown : (s.setVm vmU3).vm.findClass "com/example/odds3/odds3/engine/ValueTypeNamedPinLaw" = some m.cls) (CR : CHr Z consts_1 s.vm h0 vmU3 hU3) (Od : Old Z n0 hU3) (Ex : Exa Z hU3 x "java/lang/String") (Vx : Fld Z hU3 x "java/lang/String" "value" "[B" (.ref tx)) (Cx : Fld Z hU3 x "java/lang/String" "coder" "B" (.int (0 : Int32))) (Kx : Arv Z hU3 tx kx .byte nx vx (.int (0 : Int32))) (ba : Addr) (kC : ClassId) (ys : List Int32) (hyl : ys.length = kn) (hyp : ∀ c ∈ ys, ¬ c < 0 ∧ ¬ (255 : Int32) < c) (V_ba : Arv Z hU3 ba kC .char (Int32.ofNat kn) (ys.map Value.int) (.int (0 : Int32))) (ge_ba : n0 ≤ ba) (ne_x : x ≠ ba) (ne_tx : tx ≠ ba), OEndsW p e below s Z consts_1 32 5248 (QL n0) (U3.setTop (mkF m 157 #[.val (.int p0), .val (.long p1), .second, .val (.int p2), .val (.int p3), .val (.int ((p0 &&& (2147483647 : Int32)) % (4 : Int32))), .val (.ref x), .val (.int (Int32.ofNat kn)), .unset, .unset, .unset] [(.ref ba)])) := by
        intro U3 hU3 LU3 vmU3 kU3 XU3 eU3 NU3 hS hk hZ hown CR Od Ex Vx Cx Kx ba kC ys hyl hyp V_ba ge_ba ne_x ne_tx
        show OEndsW p e below s _ _ _ _ _ (U3.setTop (mkF m 157 #[.val (.int p0), .val (.long p1), .second, .val (.int p2), .val (.int p3), .val (.int ((p0 &&& (2147483647 : Int32)) % (4 : Int32))), .val (.ref x), .val (.int (Int32.ofNat kn)), .unset, .unset, .unset] [(.ref ba)]))
        refine OEndsW.via (fun _ k => XS.astore XU3.here hx rfl (hb hby at_157) rfl rfl (l' := #[.val (.int p0), .val (.long p1), .second, .val (.int p2), .val (.int p3), .val (.int ((p0 &&& (2147483647 : Int32)) % (4 : Int32))), .val (.ref x), .val (.int (Int32.ofNat kn)), .val (.ref ba), .unset, .unset]) rfl k) ?_
        show OEndsW p e below s _ _ _ _ _ (U3.setTop (mkF m 159 #[.val (.int p0), .val (.long p1), .second, .val (.int p2), .val (.int p3), .val (.int ((p0 &&& (2147483647 : Int32)) % (4 : Int32))), .val (.ref x), .val (.int (Int32.ofNat kn)), .val (.ref ba), .unset, .unset] []))
        refine OEndsW.via (fun _ k => XS.iload XU3.here hx rfl (hb hby at_159) rfl k) ?_
        show OEndsW p e below s _ _ _ _ _ (U3.setTop (mkF m 161 #[.val (.int p0), .val (.long p1), .second, .val (.int p2), .val (.int p3), .val (.int ((p0 &&& (2147483647 : Int32)) % (4 : Int32))), .val (.ref x), .val (.int (Int32.ofNat kn)), .val (.ref ba), .unset, .unset] [(.int (Int32.ofNat kn))]))
        have J4 : ∀ (U4 : State) (hU4 : Heap) (LU4 : List Loc) (vmU4 : Vm) (kU4 : Nat) (XU4 : Stand p l e room_1 (s.setVm vmU4) m #[(.int p0), (.long p1), (.int p2), (.int p3)] below meth c U4 LU4 3 39) (eU4 : U4.heap = hU4) (NU4 : Fr n0 LU4) (hS : s.Since vmU4 kU4) (hk : kU4 ≤ hU4.size) (hZ : Z.Warmed39 (s.setVm vmU4).vm) (hown : (s.setVm vmU4).vm.findClass "com/example/odds3/odds3/engine/ValueTypeNamedPinLaw" = some m.cls) (CR : CHr Z consts_1 s.vm h0 vmU4 hU4) (Od : Old Z n0 hU4) (Ex : Exa Z hU4 x "java/lang/String") (Vx : Fld Z hU4 x "java/lang/String" "value" "[B" (.ref tx)) (Cx : Fld Z hU4 x "java/lang/String" "coder" "B" (.int (0 : Int32))) (Kx : Arv Z hU4 tx kx .byte nx vx (.int (0 : Int32))) (ys : List Int32) (hyl : ys.length = kn) (hyp : ∀ c ∈ ys, ¬ c < 0 ∧ ¬ (255 : Int32) < c) (V_ba : Arv Z hU4 ba kC .char (Int32.ofNat kn) (ys.map Value.int) (.int (0 : Int32))), OEndsW p e below s Z consts_1 32 5248 (QL n0) (U4.setTop (mkF m 176 #[.val (.int p0), .val (.long p1), .second, .val (.int p2), .val (.int p3), .val (.int ((p0 &&& (2147483647 : Int32)) % (4 : Int32))), .val (.ref x), .val (.int (Int32.ofNat kn)), .val (.ref ba), .unset, .unset] [])) := by
          intro U4 hU4 LU4 vmU4 kU4 XU4 eU4 NU4 hS hk hZ hown CR Od Ex Vx Cx Kx ys hyl hyp V_ba
          show OEndsW p e below s _ _ _ _ _ (U4.setTop (mkF m 176 #[.val (.int p0), .val (.long p1), .second, .val (.int p2), .val (.int p3), .val (.int ((p0 &&& (2147483647 : Int32)) % (4 : Int32))), .val (.ref x), .val (.int (Int32.ofNat kn)), .val (.ref ba), .unset, .unset] []))
          refine OEndsW.via (fun _ k => XS.iload XU4.here hx rfl (hb hby at_176) rfl k) ?_
          show OEndsW p e below s _ _ _ _ _ (U4.setTop (mkF m 178 #[.val (.int p0), .val (.long p1), .second, .val (.int p2), .val (.int p3), .val (.int ((p0 &&& (2147483647 : Int32)) % (4 : Int32))), .val (.ref x), .val (.int (Int32.ofNat kn)), .val (.ref ba), .unset, .unset] [(.int (Int32.ofNat kn))]))
          refine OEndsW.via (fun _ k => XS.iconst XU4.here hx rfl (hb hby at_178) k) ?_
          show OEndsW p e below s _ _ _ _ _ (U4.setTop (mkF m 179 #[.val (.int p0), .val (.long p1), .second, .val (.int p2), .val (.int p3), .val (.int ((p0 &&& (2147483647 : Int32)) % (4 : Int32))), .val (.ref x), .val (.int (Int32.ofNat kn)), .val (.ref ba), .unset, .unset] [(.int (1 : Int32)), (.int (Int32.ofNat kn))]))
          have J5 : ∀ (U5 : State) (hU5 : Heap) (LU5 : List Loc) (vmU5 : Vm) (kU5 : Nat) (XU5 : Stand p l e room_1 (s.setVm vmU5) m #[(.int p0), (.long p1), (.int p2), (.int p3)] below meth c U5 LU5 3 39) (eU5 : U5.heap = hU5) (NU5 : Fr n0 LU5) (hS : s.Since vmU5 kU5) (hk : kU5 ≤ hU5.size) (hZ : Z.Warmed39 (s.setVm vmU5).vm) (hown : (s.setVm vmU5).vm.findClass "com/example/odds3/odds3/engine/ValueTypeNamedPinLaw" = some m.cls) (CR : CHr Z consts_1 s.vm h0 vmU5 hU5) (Od : Old Z n0 hU5) (Ex : Exa Z hU5 x "java/lang/String") (Vx : Fld Z hU5 x "java/lang/String" "value" "[B" (.ref tx)) (Cx : Fld Z hU5 x "java/lang/String" "coder" "B" (.int (0 : Int32))) (Kx : Arv Z hU5 tx kx .byte nx vx (.int (0 : Int32))) (ys : List Int32) (hyl : ys.length = kn) (hyp : ∀ c ∈ ys, ¬ c < 0 ∧ ¬ (255 : Int32) < c) (V_ba : Arv Z hU5 ba kC .char (Int32.ofNat kn) (ys.map Value.int) (.int (0 : Int32))), OEndsW p e below s Z consts_1 32 5248 (QL n0) (U5.setTop (mkF m 194 #[.val (.int p0), .val (.long p1), .second, .val (.int p2), .val (.int p3), .val (.int ((p0 &&& (2147483647 : Int32)) % (4 : Int32))), .val (.ref x), .val (.int (Int32.ofNat kn)), .val (.ref ba), .unset, .unset] [])) := by
            intro U5 hU5 LU5 vmU5 kU5 XU5 eU5 NU5 hS hk hZ hown CR Od Ex Vx Cx Kx ys hyl hyp V_ba
            show OEndsW p e below s _ _ _ _ _ (U5.setTop (mkF m 194 #[.val (.int p0), .val (.long p1), .second, .val (.int p2), .val (.int p3), .val (.int ((p0 &&& (2147483647 : Int32)) % (4 : Int32))), .val (.ref x), .val (.int (Int32.ofNat kn)), .val (.ref ba), .unset, .unset] []))
            refine OEndsW.via (fun _ k => XS.iload XU5.here hx rfl (hb hby at_194) rfl k) ?_
            show OEndsW p e below s _ _ _ _ _ (U5.setTop (mkF m 196 #[.val (.int p0), .val (.long p1), .second, .val (.int p2), .val (.int p3), .val (.int ((p0 &&& (2147483647 : Int32)) % (4 : Int32))), .val (.ref x), .val (.int (Int32.ofNat kn)), .val (.ref ba), .unset, .unset] [(.int (Int32.ofNat kn))]))
            refine OEndsW.via (fun _ k => XS.iconst XU5.here hx rfl (hb hby at_196) k) ?_
            show OEndsW p e below s _ _ _ _ _ (U5.setTop (mkF m 197 #[.val (.int p0), .val (.long p1), .second, .val (.int p2), .val (.int p3), .val (.int ((p0 &&& (2147483647 : Int32)) % (4 : Int32))), .val (.ref x), .val (.int (Int32.ofNat kn)), .val (.ref ba), .unset, .unset] [(.int (2 : Int32)), (.int (Int32.ofNat kn))]))
            have J6 : ∀ (U6 : State) (hU6 : Heap) (LU6 : List Loc) (vmU6 : Vm) (kU6 : Nat) (XU6 : Stand p l e room_1 (s.setVm vmU6) m #[(.int p0), (.long p1), (.int p2), (.int p3)] below meth c U6 LU6 3 39) (eU6 : U6.heap = hU6) (NU6 : Fr n0 LU6) (hS : s.Since vmU6 kU6) (hk : kU6 ≤ hU6.size) (hZ : Z.Warmed39 (s.setVm vmU6).vm) (hown : (s.setVm vmU6).vm.findClass "com/example/odds3/odds3/engine/ValueTypeNamedPinLaw" = some m.cls) (CR : CHr Z consts_1 s.vm h0 vmU6 hU6) (Od : Old Z n0 hU6) (Ex : Exa Z hU6 x "java/lang/String") (Vx : Fld Z hU6 x "java/lang/String" "value" "[B" (.ref tx)) (Cx : Fld Z hU6 x "java/lang/String" "coder" "B" (.int (0 : Int32))) (Kx : Arv Z hU6 tx kx .byte nx vx (.int (0 : Int32))) (ys : List Int32) (hyl : ys.length = kn) (hyp : ∀ c ∈ ys, ¬ c < 0 ∧ ¬ (255 : Int32) < c) (V_ba : Arv Z hU6 ba kC .char (Int32.ofNat kn) (ys.map Value.int) (.int (0 : Int32))), OEndsW p e below s Z consts_1 32 5248 (QL n0) (U6.setTop (mkF m 212 #[.val (.int p0), .val (.long p1), .second, .val (.int p2), .val (.int p3), .val (.int ((p0 &&& (2147483647 : Int32)) % (4 : Int32))), .val (.ref x), .val (.int (Int32.ofNat kn)), .val (.ref ba), .unset, .unset] [])) := by
              intro U6 hU6 LU6 vmU6 kU6 XU6 eU6 NU6 hS hk hZ hown CR Od Ex Vx Cx Kx ys hyl hyp V_ba
              show OEndsW p e below s _ _ _ _ _ (U6.setTop (mkF m 212 #[.val (.int p0), .val (.long p1), .second, .val (.int p2), .val (.int p3), .val (.int ((p0 &&& (2147483647 : Int32)) % (4 : Int32))), .val (.ref x), .val (.int (Int32.ofNat kn)), .val (.ref ba), .unset, .unset] []))
              refine OEndsW.via (fun _ k => XS.iload XU6.here hx rfl (hb hby at_212) rfl k) ?_
              show OEndsW p e below s _ _ _ _ _ (U6.setTop (mkF m 214 #[.val (.int p0), .val (.long p1), .second, .val (.int p2), .val (.int p3), .val (.int ((p0 &&& (2147483647 : Int32)) % (4 : Int32))), .val (.ref x), .val (.int (Int32.ofNat kn)), .val (.ref ba), .unset, .unset] [(.int (Int32.ofNat kn))]))
              refine OEndsW.via (fun _ k => XS.iconst XU6.here hx rfl (hb hby at_214) k) ?_
              show OEndsW p e below s _ _ _ _ _ (U6.setTop (mkF m 215 #[.val (.int p0), .val (.long p1), .second, .val (.int p2), .val (.int p3), .val (.int ((p0 &&& (2147483647 : Int32)) % (4 : Int32))), .val (.ref x), .val (.int (Int32.ofNat kn)), .val (.ref ba), .unset, .unset] [(.int (3 : Int32)), (.int (Int32.ofNat kn))]))
              have J7 : ∀ (U7 : State) (hU7 : Heap) (LU7 : List Loc) (vmU7 : Vm) (kU7 : Nat) (XU7 : Stand p l e room_1 (s.setVm vmU7) m #[(.int p0), (.long p1), (.int p2), (.int p3)] below meth c U7 LU7 3 39) (eU7 : U7.heap = hU7) (NU7 : Fr n0 LU7) (hS : s.Since vmU7 kU7) (hk : kU7 ≤ hU7.size) (hZ : Z.Warmed39 (s.setVm vmU7).vm) (hown : (s.setVm vmU7).vm.findClass "com/example/odds3/odds3/engine/ValueTypeNamedPinLaw" = some m.cls) (CR : CHr Z consts_1 s.vm h0 vmU7 hU7) (Od : Old Z n0 hU7) (Ex : Exa Z hU7 x "java/lang/String") (Vx : Fld Z hU7 x "java/lang/String" "value" "[B" (.ref tx)) (Cx : Fld Z hU7 x "java/lang/String" "coder" "B" (.int (0 : Int32))) (Kx : Arv Z hU7 tx kx .byte nx vx (.int (0 : Int32))) (ys : List Int32) (hyl : ys.length = kn) (hyp : ∀ c ∈ ys, ¬ c < 0 ∧ ¬ (255 : Int32) < c) (V_ba : Arv Z hU7 ba kC .char (Int32.ofNat kn) (ys.map Value.int) (.int (0 : Int32))), OEndsW p e below s Z consts_1 32 5248 (QL n0) (U7.setTop (mkF m 230 #[.val (.int p0), .val (.long p1), .second, .val (.int p2), .val (.int p3), .val (.int ((p0 &&& (2147483647 : Int32)) % (4 : Int32))), .val (.ref x), .val (.int (Int32.ofNat kn)), .val (.ref ba), .unset, .unset] [])) := by
                intro U7 hU7 LU7 vmU7 kU7 XU7 eU7 NU7 hS hk hZ hown CR Od Ex Vx Cx Kx ys hyl hyp V_ba
                show OEndsW p e below s _ _ _ _ _ (U7.setTop (mkF m 230 #[.val (.int p0), .val (.long p1), .second, .val (.int p2), .val (.int p3), .val (.int ((p0 &&& (2147483647 : Int32)) % (4 : Int32))), .val (.ref x), .val (.int (Int32.ofNat kn)), .val (.ref ba), .unset, .unset] []))
                refine OEndsW.via (fun _ k => XS.iload XU7.here hx rfl (hb hby at_230) rfl k) ?_
                show OEndsW p e below s _ _ _ _ _ (U7.setTop (mkF m 232 #[.val (.int p0), .val (.long p1), .second, .val (.int p2), .val (.int p3), .val (.int ((p0 &&& (2147483647 : Int32)) % (4 : Int32))), .val (.ref x), .val (.int (Int32.ofNat kn)), .val (.ref ba), .unset, .unset] [(.int (Int32.ofNat kn))]))
                refine OEndsW.via (fun _ k => XS.iconst XU7.here hx rfl (hb hby at_232) k) ?_
                show OEndsW p e below s _ _ _ _ _ (U7.setTop (mkF m 233 #[.val (.int p0), .val (.long p1), .second, .val (.int p2), .val (.int p3), .val (.int ((p0 &&& (2147483647 : Int32)) % (4 : Int32))), .val (.ref x), .val (.int (Int32.ofNat kn)), .val (.ref ba), .unset, .unset] [(.int (4 : Int32)), (.int (Int32.ofNat kn))]))
                have J8 : ∀ (U8 : State) (hU8 : Heap) (LU8 : List Loc) (vmU8 : Vm) (kU8 : Nat) (XU8 : Stand p l e room_1 (s.setVm vmU8) m #[(.int p0), (.long p1), (.int p2), (.int p3)] below meth c U8 LU8 3 39) (eU8 : U8.heap = hU8) (NU8 : Fr n0 LU8) (hS : s.Since vmU8 kU8) (hk : kU8 ≤ hU8.size) (hZ : Z.Warmed39 (s.setVm vmU8).vm) (hown : (s.setVm vmU8).vm.findClass "com/example/odds3/odds3/engine/ValueTypeNamedPinLaw" = some m.cls) (CR : CHr Z consts_1 s.vm h0 vmU8 hU8) (Od : Old Z n0 hU8) (Ex : Exa Z hU8 x "java/lang/String") (Vx : Fld Z hU8 x "java/lang/String" "value" "[B" (.ref tx)) (Cx : Fld Z hU8 x "java/lang/String" "coder" "B" (.int (0 : Int32))) (Kx : Arv Z hU8 tx kx .byte nx vx (.int (0 : Int32))) (ys : List Int32) (hyl : ys.length = kn) (hyp : ∀ c ∈ ys, ¬ c < 0 ∧ ¬ (255 : Int32) < c) (V_ba : Arv Z hU8 ba kC .char (Int32.ofNat kn) (ys.map Value.int) (.int (0 : Int32))), OEndsW p e below s Z consts_1 32 5248 (QL n0) (U8.setTop (mkF m 248 #[.val (.int p0), .val (.long p1), .second, .val (.int p2), .val (.int p3), .val (.int ((p0 &&& (2147483647 : Int32)) % (4 : Int32))), .val (.ref x), .val (.int (Int32.ofNat kn)), .val (.ref ba), .unset, .unset] [])) := by
                  intro U8 hU8 LU8 vmU8 kU8 XU8 eU8 NU8 hS hk hZ hown CR Od Ex Vx Cx Kx ys hyl hyp V_ba
                  show OEndsW p e below s _ _ _ _ _ (U8.setTop (mkF m 248 #[.val (.int p0), .val (.long p1), .second, .val (.int p2), .val (.int p3), .val (.int ((p0 &&& (2147483647 : Int32)) % (4 : Int32))), .val (.ref x), .val (.int (Int32.ofNat kn)), .val (.ref ba), .unset, .unset] []))
                  refine OEndsW.via (fun _ k => XS.iload XU8.here hx rfl (hb hby at_248) rfl k) ?_
                  show OEndsW p e below s _ _ _ _ _ (U8.setTop (mkF m 250 #[.val (.int p0), .val (.long p1), .second, .val (.int p2), .val (.int p3), .val (.int ((p0 &&& (2147483647 : Int32)) % (4 : Int32))), .val (.ref x), .val (.int (Int32.ofNat kn)), .val (.ref ba), .unset, .unset] [(.int (Int32.ofNat kn))]))
                  refine OEndsW.via (fun _ k => XS.iconst XU8.here hx rfl (hb hby at_250) k) ?_
                  show OEndsW p e below s _ _ _ _ _ (U8.setTop (mkF m 251 #[.val (.int p0), .val (.long p1), .second, .val (.int p2), .val (.int p3), .val (.int ((p0 &&& (2147483647 : Int32)) % (4 : Int32))), .val (.ref x), .val (.int (Int32.ofNat kn)), .val (.ref ba), .unset, .unset] [(.int (5 : Int32)), (.int (Int32.ofNat kn))]))
                  have J9 : ∀ (U9 : State) (hU9 : Heap) (LU9 : List Loc) (vmU9 : Vm) (kU9 : Nat) (XU9 : Stand p l e room_1 (s.setVm vmU9) m #[(.int p0), (.long p1), (.int p2), (.int p3)] below meth c U9 LU9 3 39) (eU9 : U9.heap = hU9) (NU9 : Fr n0 LU9) (hS : s.Since vmU9 kU9) (hk : kU9 ≤ hU9.size) (hZ : Z.Warmed39 (s.setVm vmU9).vm) (hown : (s.setVm vmU9).vm.findClass "com/example/odds3/odds3/engine/ValueTypeNamedPinLaw" = some m.cls) (CR : CHr Z consts_1 s.vm h0 vmU9 hU9) (Od : Old Z n0 hU9) (Ex : Exa Z hU9 x "java/lang/String") (Vx : Fld Z hU9 x "java/lang/String" "value" "[B" (.ref tx)) (Cx : Fld Z hU9 x "java/lang/String" "coder" "B" (.int (0 : Int32))) (Kx : Arv Z hU9 tx kx .byte nx vx (.int (0 : Int32))) (ys : List Int32) (hyl : ys.length = kn) (hyp : ∀ c ∈ ys, ¬ c < 0 ∧ ¬ (255 : Int32) < c) (V_ba : Arv Z hU9 ba kC .char (Int32.ofNat kn) (ys.map Value.int) (.int (0 : Int32))), OEndsW p e below s Z consts_1 32 5248 (QL n0) (U9.setTop (mkF m 266 #[.val (.int p0), .val (.long p1), .second, .val (.int p2), .val (.int p3), .val (.int ((p0 &&& (2147483647 : Int32)) % (4 : Int32))), .val (.ref x), .val (.int (Int32.ofNat kn)), .val (.ref ba), .unset, .unset] [])) := by
                    intro U9 hU9 LU9 vmU9 kU9 XU9 eU9 NU9 hS hk hZ hown CR Od Ex Vx Cx Kx ys hyl hyp V_ba
                    show OEndsW p e below s _ _ _ _ _ (U9.setTop (mkF m 266 #[.val (.int p0), .val (.long p1), .second, .val (.int p2), .val (.int p3), .val (.int ((p0 &&& (2147483647 : Int32)) % (4 : Int32))), .val (.ref x), .val (.int (Int32.ofNat kn)), .val (.ref ba), .unset, .unset] []))
                    refine OEndsW.via (fun _ k => XS.iload XU9.here hx rfl (hb hby at_266) rfl k) ?_
                    show OEndsW p e below s _ _ _ _ _ (U9.setTop (mkF m 268 #[.val (.int p0), .val (.long p1), .second, .val (.int p2), .val (.int p3), .val (.int ((p0 &&& (2147483647 : Int32)) % (4 : Int32))), .val (.ref x), .val (.int (Int32.ofNat kn)), .val (.ref ba), .unset, .unset] [(.int (Int32.ofNat kn))]))
                    refine OEndsW.via (fun _ k => XS.bipush XU9.here hx rfl (hb hby at_268) k) ?_
                    show OEndsW p e below s _ _ _ _ _ (U9.setTop (mkF m 270 #[.val (.int p0), .val (.long p1), .second, .val (.int p2), .val (.int p3), .val (.int ((p0 &&& (2147483647 : Int32)) % (4 : Int32))), .val (.ref x), .val (.int (Int32.ofNat kn)), .val (.ref ba), .unset, .unset] [(.int (6 : Int32)), (.int (Int32.ofNat kn))]))
                    have J10 : ∀ (U10 : State) (hU10 : Heap) (LU10 : List Loc) (vmU10 : Vm) (kU10 : Nat) (XU10 : Stand p l e room_1 (s.setVm vmU10) m #[(.int p0), (.long p1), (.int p2), (.int p3)] below meth c U10 LU10 3 39) (eU10 : U10.heap = hU10) (NU10 : Fr n0 LU10) (hS : s.Since vmU10 kU10) (hk : kU10 ≤ hU10.size) (hZ : Z.Warmed39 (s.setVm vmU10).vm) (hown : (s.setVm vmU10).vm.findClass "com/example/odds3/odds3/engine/ValueTypeNamedPinLaw" = some m.cls) (CR : CHr Z consts_1 s.vm h0 vmU10 hU10) (Od : Old Z n0 hU10) (Ex : Exa Z hU10 x "java/lang/String") (Vx : Fld Z hU10 x "java/lang/String" "value" "[B" (.ref tx)) (Cx : Fld Z hU10 x "java/lang/String" "coder" "B" (.int (0 : Int32))) (Kx : Arv Z hU10 tx kx .byte nx vx (.int (0 : Int32))) (ys : List Int32) (hyl : ys.length = kn) (hyp : ∀ c ∈ ys, ¬ c < 0 ∧ ¬ (255 : Int32) < c) (V_ba : Arv Z hU10 ba kC .char (Int32.ofNat kn) (ys.map Value.int) (.int (0 : Int32))), OEndsW p e below s Z consts_1 32 5248 (QL n0) (U10.setTop (mkF m 287 #[.val (.int p0), .val (.long p1), .second, .val (.int p2), .val (.int p3), .val (.int ((p0 &&& (2147483647 : Int32)) % (4 : Int32))), .val (.ref x), .val (.int (Int32.ofNat kn)), .val (.ref ba), .unset, .unset] [])) := by
                      intro U10 hU10 LU10 vmU10 kU10 XU10 eU10 NU10 hS hk hZ hown CR Od Ex Vx Cx Kx ys hyl hyp V_ba
                      show OEndsW p e below s _ _ _ _ _ (U10.setTop (mkF m 287 #[.val (.int p0), .val (.long p1), .second, .val (.int p2), .val (.int p3), .val (.int ((p0 &&& (2147483647 : Int32)) % (4 : Int32))), .val (.ref x), .val (.int (Int32.ofNat kn)), .val (.ref ba), .unset, .unset] []))
                      obtain ⟨T11, h11, X11, e11, E11, A11, D11, -, st11⟩ := newO XU10 hx hZ hown (hw _ (List.mem_of_getElem? (i := 52) rfl)) (hw _ (List.mem_of_getElem? (i := 3) rfl)) (hw _ (List.mem_of_getElem? (i := 2) rfl)) eU10 (g := (mkF m 287 #[.val (.int p0), .val (.long p1), .second, .val (.int p2), .val (.int p3), .val (.int ((p0 &&& (2147483647 : Int32)) % (4 : Int32))), .val (.ref x), .val (.int (Int32.ofNat kn)), .val (.ref ba), .unset, .unset] [])) rfl (hb hby at_287) (by decide) (by decide)
                      obtain ⟨b11, g11⟩ : ∃ z, z = hU10.size := ⟨_, rfl⟩
                      have ne_x_b11 : x ≠ b11 := Nat.ne_of_lt (Nat.lt_of_lt_of_le Ex.lt (Nat.le_of_eq g11.symm))
                      have ne_tx_b11 : tx ≠ b11 := Nat.ne_of_lt (Nat.lt_of_lt_of_le Kx.lt (Nat.le_of_eq g11.symm))
                      have ne_ba_b11 : ba ≠ b11 := Nat.ne_of_lt (Nat.lt_of_lt_of_le V_ba.lt (Nat.le_of_eq g11.symm))
                      have ge_b11 : n0 ≤ b11 := Nat.le_trans (Od.1 ▸ Od.2.1) (Nat.le_of_eq g11.symm)
                      have sf_b11 : Safe Z consts_1 _ hU10 b11 := Safe.new (EL := consts_1) (vm := vmU10) (Nat.le_of_eq g11.symm)
                      rw [← g11] at A11 D11 st11
                      replace hk := Nat.le_trans hk E11.1
                      replace Od := Od.ext E11
                      replace Ex := Exa.ext E11 Ex
                      replace Vx := Fld.ext E11 Vx
                      replace Cx := Fld.ext E11 Cx
                      replace Kx := Kx.ext E11
                      replace V_ba := V_ba.ext E11
                      replace sf_b11 := Safe.ext E11 CR.1 sf_b11
                      replace CR := CR.trans (CHr.ext E11 CR.1)
                      have E_b11 : Exa Z h11 b11 "java/lang/String" := A11
                      have F_value_b11 : Fld Z h11 b11 "java/lang/String" "value" "[B" .null := D11 (Or.inr (hw _ (List.mem_of_getElem? (i := 5) rfl))) (ty := (.array .byte)) (by decide)
                      have F_coder_b11 : Fld Z h11 b11 "java/lang/String" "coder" "B" (.int (0 : Int32)) := D11 (Or.inr (hw _ (List.mem_of_getElem? (i := 6) rfl))) (ty := .byte) (by decide)
                      refine OEndsW.via (fun _ k => st11 _ k) ?_
                      show OEndsW p e below s _ _ _ _ _ (T11.setTop (mkF m 290 #[.val (.int p0), .val (.long p1), .second, .val (.int p2), .val (.int p3), .val (.int ((p0 &&& (2147483647 : Int32)) % (4 : Int32))), .val (.ref x), .val (.int (Int32.ofNat kn)), .val (.ref ba), .unset, .unset] [(.ref b11)]))
                      refine OEndsW.via (fun _ k => XS.dup X11.here hx rfl (hb hby at_290) rfl rfl k) ?_
                      show OEndsW p e below s _ _ _ _ _ (T11.setTop (mkF m 291 #[.val (.int p0), .val (.long p1), .second, .val (.int p2), .val (.int p3), .val (.int ((p0 &&& (2147483647 : Int32)) % (4 : Int32))), .val (.ref x), .val (.int (Int32.ofNat kn)), .val (.ref ba), .unset, .unset] [(.ref b11), (.ref b11)]))
                      refine OEndsW.via (fun _ k => XS.aload X11.here hx rfl (hb hby at_291) rfl rfl k) ?_
                      show OEndsW p e below s _ _ _ _ _ (T11.setTop (mkF m 293 #[.val (.int p0), .val (.long p1), .second, .val (.int p2), .val (.int p3), .val (.int ((p0 &&& (2147483647 : Int32)) % (4 : Int32))), .val (.ref x), .val (.int (Int32.ofNat kn)), .val (.ref ba), .unset, .unset] [(.ref ba), (.ref b11), (.ref b11)]))
                      by_cases hk0 : kn = 0
                      · skip
                        subst hk0
                        have hys : ys = [] := List.length_eq_zero_iff.mp hyl
                        subst hys
                        obtain ⟨_, _, ⟨T12, L12, k12, n12⟩, -, X12, S12, G12, ⟨Lc12, hQ12, l12, y12, z12, CH12⟩, st12⟩ := X11.specialBackS hx (y := (⟨"java/lang/String", "<init>", "([C)V"⟩ : MethodName)) rfl hown (mvT hZ (hw _ (List.mem_of_getElem? (i := 53) rfl))) (mvT hZ (hw _ (List.mem_of_getElem? (i := 54) rfl))) (mvT hZ (hw _ (List.mem_of_getElem? (i := 55) rfl))) (by decide) (backOfSH (W := 1) (rmE1 l Z a0 hw [] b11 ba kC (.int (0 : Int32)) h11 n0 Od F_value_b11 F_coder_b11 E_b11 ge_b11 V_ba) hZ (hw _ (List.mem_of_getElem? (i := 55) rfl)) (hw _ (List.mem_of_getElem? (i := 2) rfl)) (by decide) (by decide) hEL CR.1) (g := (mkF m 293 #[.val (.int p0), .val (.long p1), .second, .val (.int p2), .val (.int p3), .val (.int ((p0 &&& (2147483647 : Int32)) % (4 : Int32))), .val (.ref x), .val (.int (Int32.ofNat 0)), .val (.ref ba), .unset, .unset] [(.ref ba), (.ref b11), (.ref b11)])) rfl (by rw [hml]; rfl) (Steps.refl _) (a := b11) (argsL := [(.ref ba)]) (rest := [(.ref b11)]) (lenOf pd_285bC29V rfl) rfl (by show 2 * 0 + _ ≤ _; exact Nat.le_of_eq rfl) (hb hby at_293) (fun _ _ => ⟨rfl, e11, Nat.le_of_ble_eq_true rfl, Nat.le_of_ble_eq_true rfl⟩)
                        dsimp only [Pt.U, Pt.locs, Pt.cells, Pt.slots] at X12 S12 G12 l12 y12 z12 st12 hQ12 CH12
                        subst l12 y12 z12
                        replace sf_b11 := CH12.safe E_b11.lt sf_b11
                        obtain ⟨X12, hS, hZ, hown⟩ := rebS hS (by rw [e11]; exact hk) X12 S12 G12 hZ hown
                        replace CR := CR.trans CH12
                        replace hk := Nat.le_refl T12.heap.size
                        obtain ⟨rfl, N12q, K12, O12⟩ := hQ12
                        have N12 := Fr.app NU10 N12q
                        replace Od := Od.keep K12 (allS ge_b11 all0)
                        replace Ex := Ex.keep K12
                        replace Vx := Vx.keep K12 (ninS ne_x_b11 nin0)
                        replace Cx := Cx.keep K12 (ninS ne_x_b11 nin0)
                        replace Kx := Kx.keep K12 (ninS ne_tx_b11 nin0)
                        replace V_ba := V_ba.keep K12 (ninS ne_ba_b11 nin0)
                        replace E_b11 := E_b11.keep K12
                        obtain ⟨t_b11, kb_b11, cd_b11, nn_b11, vs_b11, E_b11, V_b11, C_b11, K_b11, hcd_b11⟩ := O12
                        refine OEndsW.via (fun _ k => st12.trans k) ?_
                        show OEndsW p e below s _ _ _ _ _ (T12.setTop (mkF m 296 #[.val (.int p0), .val (.long p1), .second, .val (.int p2), .val (.int p3), .val (.int ((p0 &&& (2147483647 : Int32)) % (4 : Int32))), .val (.ref x), .val (.int (Int32.ofNat 0)), .val (.ref ba), .unset, .unset] [(.ref b11)]))
                        refine OEndsW.via (fun _ k => XS.astore X12.here hx rfl (hb hby at_296) rfl rfl (l' := #[.val (.int p0), .val (.long p1), .second, .val (.int p2), .val (.int p3), .val (.int ((p0 &&& (2147483647 : Int32)) % (4 : Int32))), .val (.ref x), .val (.int (Int32.ofNat 0)), .val (.ref ba), .val (.ref b11), .unset]) rfl k) ?_
                        show OEndsW p e below s _ _ _ _ _ (T12.setTop (mkF m 298 #[.val (.int p0), .val (.long p1), .second, .val (.int p2), .val (.int p3), .val (.int ((p0 &&& (2147483647 : Int32)) % (4 : Int32))), .val (.ref x), .val (.int (Int32.ofNat 0)), .val (.ref ba), .val (.ref b11), .unset] []))
                        refine OEndsW.via (fun _ k => XS.aload X12.here hx rfl (hb hby at_298) rfl rfl k) ?_
                        show OEndsW p e below s _ _ _ _ _ (T12.setTop (mkF m 300 #[.val (.int p0), .val (.long p1), .second, .val (.int p2), .val (.int p3), .val (.int ((p0 &&& (2147483647 : Int32)) % (4 : Int32))), .val (.ref x), .val (.int (Int32.ofNat 0)), .val (.ref ba), .val (.ref b11), .unset] [(.ref b11)]))
                        obtain ⟨q13, T13, h13, k113, qv13, kq13, X13, e13, E13, hS13, hk13, hZ13, hown13, E_q13, C_q13, V_q13, K_q13, la13, lb13, CH13, Lt13, hsafe13, st13⟩ := ldcCH X12 hx hZ hown (hw _ (List.mem_of_getElem? (i := 1) rfl)) wS rfl hS hk hEL (by decide : ("com/example/odds3/odds3/engine/ValueTypeNamedPinLaw", 26) ∈ consts_1) CR.1 (vs := [(.int (110 : Int32)), (.int (117 : Int32)), (.int (109 : Int32)), (.int (98 : Int32)), (.int (101 : Int32)), (.int (114 : Int32))]) (z := (6 : Int32)) (by decide) (by decide) (by decide) (g := (mkF m 300 #[.val (.int p0), .val (.long p1), .second, .val (.int p2), .val (.int p3), .val (.int ((p0 &&& (2147483647 : Int32)) % (4 : Int32))), .val (.ref x), .val (.int (Int32.ofNat 0)), .val (.ref ba), .val (.ref b11), .unset] [(.ref b11)])) rfl (hb hby at_300) (n := 24) (by decide) (by decide) (by decide) (by decide)
                        replace sf_b11 := CH13.safe E_b11.lt sf_b11
                        have ne_b11_q13 := (hsafe13 _ sf_b11).1
                        have ne_b11_qv13 := (hsafe13 _ sf_b11).2
                        replace Od := Od.ext E13
                        replace Ex := Exa.ext E13 Ex
                        replace Vx := Fld.ext E13 Vx
                        replace Cx := Fld.ext E13 Cx
                        replace Kx := Kx.ext E13
                        replace V_ba := V_ba.ext E13
                        replace E_b11 := Exa.ext E13 E_b11
                        replace V_b11 := Fld.ext E13 V_b11
                        replace C_b11 := Fld.ext E13 C_b11
                        replace K_b11 := K_b11.ext E13
                        replace CR := CR.trans CH13
                        replace hS := hS13
                        replace hk := hk13
                        replace hZ := hZ13
                        replace hown := hown13
                        have hp_q13 : ∀ c ∈ ([(110 : Int32), (117 : Int32), (109 : Int32), (98 : Int32), (101 : Int32), (114 : Int32)] : List Int32), ¬ c < 0 ∧ ¬ (255 : Int32) < c := by decide
                        have hcd_q13 : StrChars.Road.CodA ([(110 : Int32), (117 : Int32), (109 : Int32), (98 : Int32), (101 : Int32), (114 : Int32)] : List Int32) 0 (6 : Int32) [(.int (110 : Int32)), (.int (117 : Int32)), (.int (109 : Int32)), (.int (98 : Int32)), (.int (101 : Int32)), (.int (114 : Int32))] := StrChars.Road.codOf (n := 6) rfl (fun c hc => (hp_q13 c hc).2)
                        have hbd_q13 := own_up _ hp_q13
                        refine OEndsW.via (fun _ k => st13 _ k) ?_
                        show OEndsW p e below s _ _ _ _ _ (T13.setTop (mkF m 302 #[.val (.int p0), .val (.long p1), .second, .val (.int p2), .val (.int p3), .val (.int ((p0 &&& (2147483647 : Int32)) % (4 : Int32))), .val (.ref x), .val (.int (Int32.ofNat 0)), .val (.ref ba), .val (.ref b11), .unset] [(.ref q13), (.ref b11)]))
                        obtain ⟨cq14, kq14, q14a, q14b, q14c⟩ := isOf hZ e13 E_b11
                        obtain ⟨_, _, ⟨T14, L14, k14, n14⟩, -, X14, ⟨Lc14, hQ14, l14, y14, z14⟩, st14⟩ := X13.virtualBack hx (y := (⟨"java/lang/String", "equals", "(Ljava/lang/Object;)Z"⟩ : MethodName)) (z := (⟨"java/lang/String", "equals", "(Ljava/lang/Object;)Z"⟩ : MethodName)) hown (mvT hZ (hw _ (List.mem_of_getElem? (i := 73) rfl))) (mvT hZ (hw _ (List.mem_of_getElem? (i := 74) rfl))) (notFace_of_selects (args := #[]) (mvT hZ (hw _ (List.mem_of_getElem? (i := 76) rfl)))) (mvT hZ (hw _ (List.mem_of_getElem? (i := 76) rfl))) (mvT hZ (hw _ (List.mem_of_getElem? (i := 75) rfl))) (by decide) (StrChars.Road.eqW (W := 0) hZ heq (kI := 4) (hw _ (List.mem_of_getElem? (i := 3) rfl)) E_b11 V_b11 C_b11 K_b11 hcd_b11 own_all0 (by decide) E_q13 V_q13 C_q13 K_q13 hcd_q13 hbd_q13 (by decide) (Sta.ext Od.2 S_CS) nz_CS (by decide) (by decide)) q14a q14c (g := (mkF m 302 #[.val (.int p0), .val (.long p1), .second, .val (.int p2), .val (.int p3), .val (.int ((p0 &&& (2147483647 : Int32)) % (4 : Int32))), .val (.ref x), .val (.int (Int32.ofNat 0)), .val (.ref ba), .val (.ref b11), .unset] [(.ref q13), (.ref b11)])) rfl (by rw [hml]; rfl) (Steps.refl _) (argsL := [(.ref q13)]) (rest := []) (lenOf pd_28Ljava2flang2fObject3b29Z rfl) rfl (by show 2 * 0 + _ ≤ _; exact Nat.le_of_eq rfl) (hb hby at_302) (fun _ _ => ⟨rfl, e13, Nat.le_of_ble_eq_true rfl, Nat.le_of_ble_eq_true rfl⟩)
                        dsimp only [Pt.U, Pt.locs, Pt.cells, Pt.slots] at X14 l14 y14 z14 st14 hQ14
                        subst l14 y14 z14
                        obtain ⟨hcase14, rfl, e14⟩ := hQ14
                        have N14 := Fr.app N12 (Fr.nil n0)
                        rcases hcase14 with ⟨rfl, hq14⟩ | ⟨rfl, hq14⟩
                        · skip
                          refine OEndsW.via (fun _ k => st14.trans k) ?_
                          show OEndsW p e below s _ _ _ _ _ (T14.setTop (mkF m 305 #[.val (.int p0), .val (.long p1), .second, .val (.int p2), .val (.int p3), .val (.int ((p0 &&& (2147483647 : Int32)) % (4 : Int32))), .val (.ref x), .val (.int (Int32.ofNat 0)), .val (.ref ba), .val (.ref b11), .unset] [(.int (1 : Int32))]))
                          refine OEndsW.via (fun _ k => XS.ifNo X14.here hx rfl (hb hby at_305) rfl ((if0 _ _).trans (feq (by decide : ¬ ((1 : Int32) = (0 : Int32)))).1) k) ?_
                          show OEndsW p e below s _ _ _ _ _ (T14.setTop (mkF m 308 #[.val (.int p0), .val (.long p1), .second, .val (.int p2), .val (.int p3), .val (.int ((p0 &&& (2147483647 : Int32)) % (4 : Int32))), .val (.ref x), .val (.int (Int32.ofNat 0)), .val (.ref ba), .val (.ref b11), .unset] []))
                          obtain ⟨T15, X15, e15, st15⟩ := getS2 X14 hx hZ hown (host := "") (Or.inl (hw _ (List.mem_of_getElem? (i := 112) rfl))) Via.refl e14 (Sta.ext Od.2 S_NUMBER) (g := (mkF m 308 #[.val (.int p0), .val (.long p1), .second, .val (.int p2), .val (.int p3), .val (.int ((p0 &&& (2147483647 : Int32)) % (4 : Int32))), .val (.ref x), .val (.int (Int32.ofNat 0)), .val (.ref ba), .val (.ref b11), .unset] [])) rfl (hb hby at_308)
                          refine OEndsW.via (fun _ k => st15 _ k) ?_
                          show OEndsW p e below s _ _ _ _ _ (T15.setTop (mkF m 311 #[.val (.int p0), .val (.long p1), .second, .val (.int p2), .val (.int p3), .val (.int ((p0 &&& (2147483647 : Int32)) % (4 : Int32))), .val (.ref x), .val (.int (Int32.ofNat 0)), .val (.ref ba), .val (.ref b11), .unset] [(.ref a_NUMBER)]))
                          refine OEndsW.via (fun _ k => XS.astore X15.here hx rfl (hb hby at_311) rfl rfl (l' := #[.val (.int p0), .val (.long p1), .second, .val (.int p2), .val (.int p3), .val (.int ((p0 &&& (2147483647 : Int32)) % (4 : Int32))), .val (.ref x), .val (.int (Int32.ofNat 0)), .val (.ref ba), .val (.ref b11), .val (.ref a_NUMBER)]) rfl k) ?_
                          show OEndsW p e below s _ _ _ _ _ (T15.setTop (mkF m 313 #[.val (.int p0), .val (.long p1), .second, .val (.int p2), .val (.int p3), .val (.int ((p0 &&& (2147483647 : Int32)) % (4 : Int32))), .val (.ref x), .val (.int (Int32.ofNat 0)), .val (.ref ba), .val (.ref b11), .val (.ref a_NUMBER)] []))
                          refine OEndsW.via (fun _ k => XS.goto X15.here hx rfl (pc0 := 313) (pc' := 355) rfl (hb hby at_313) (by decide) (by decide) k) ?_
                          show OEndsW p e below s _ _ _ _ _ (T15.setTop (mkF m 355 #[.val (.int p0), .val (.long p1), .second, .val (.int p2), .val (.int p3), .val (.int ((p0 &&& (2147483647 : Int32)) % (4 : Int32))), .val (.ref x), .val (.int (Int32.ofNat 0)), .val (.ref ba), .val (.ref b11), .val (.ref a_NUMBER)] []))
                          refine OEndsW.via (fun _ k => XS.aload X15.here hx rfl (hb hby at_355) rfl rfl k) ?_
                          show OEndsW p e below s _ _ _ _ _ (T15.setTop (mkF m 357 #[.val (.int p0), .val (.long p1), .second, .val (.int p2), .val (.int p3), .val (.int ((p0 &&& (2147483647 : Int32)) % (4 : Int32))), .val (.ref x), .val (.int (Int32.ofNat 0)), .val (.ref ba), .val (.ref b11), .val (.ref a_NUMBER)] [(.ref b11)]))
                          obtain ⟨_, _, ⟨T16, L16, k16, n16⟩, -, X16, ⟨Lc16, hQ16, l16, y16, z16⟩, st16⟩ := Jvm.LawKit.callS X15 hx (y := (⟨"com/example/odds3/odds3/engine/ValueType", "named", "(Ljava/lang/String;)Lcom/example/odds3/odds3/engine/ValueType;"⟩ : MethodName)) hown (mvT hZ (hw _ (List.mem_of_getElem? (i := 84) rfl))) (mvT hZ (hw _ (List.mem_of_getElem? (i := 85) rfl))) (mvT hZ (hw _ (List.mem_of_getElem? (i := 86) rfl))) (mvT hZ (hw _ (List.mem_of_getElem? (i := 87) rfl))) (by decide) (backOf (W := 0) (rmN l Z a0 hw [] b11 t_b11 _ _ _ _ ([] : List Int32) a_NUMBER a_BOOLEAN a_STRING t_NUMBER t_BOOLEAN t_STRING tv_NUMBER tv_BOOLEAN tv_STRING kt_NUMBER kt_BOOLEAN kt_STRING va kA G1 (.ref a_NUMBER) h13 n0 Od E_b11 V_b11 C_b11 K_b11 hcd_b11 own_all0 (by decide) S_CS nz_CS S_V AV EV Et_NUMBER Vt_NUMBER Ct_NUMBER Kt_NUMBER Ft_NUMBER Et_BOOLEAN Vt_BOOLEAN Ct_BOOLEAN Kt_BOOLEAN Ft_BOOLEAN Et_STRING Vt_STRING Ct_STRING Kt_STRING Ft_STRING (by simp only [own_named, if_pos hq14.symm])) hZ (hw _ (List.mem_of_getElem? (i := 87) rfl)) (hw _ (List.mem_of_getElem? (i := 86) rfl)) (by decide) (by decide)) (g := (mkF m 357 #[.val (.int p0), .val (.long p1), .second, .val (.int p2), .val (.int p3), .val (.int ((p0 &&& (2147483647 : Int32)) % (4 : Int32))), .val (.ref x), .val (.int (Int32.ofNat 0)), .val (.ref ba), .val (.ref b11), .val (.ref a_NUMBER)] [(.ref b11)])) rfl (by rw [hml]; rfl) (argsL := [(.ref b11)]) (rest := []) (lenOf pd_28Ljava2flang2fString3b29Lcom2fexample2fodds32fodds32fengine2fValueType3b rfl) rfl (by show 2 * 0 + _ ≤ _; exact Nat.le_of_eq rfl) (hb hby at_357) (fun _ _ => ⟨rfl, e15, Nat.le_of_ble_eq_true rfl, Nat.le_of_ble_eq_true rfl⟩)
                          dsimp only [Pt.U, Pt.locs, Pt.cells, Pt.slots] at X16 l16 y16 z16 st16 hQ16
                          subst l16 y16 z16
                          obtain ⟨rfl, N16q, K16⟩ := hQ16
                          have N16 := Fr.app N14 N16q
                          have sfk16 : ∀ x ∈ ([] : List Addr), Safe Z consts_1 T13.vm h13 x := all0
                          replace hk := Nat.le_trans hk K16.1
                          replace Od := Od.keep K16 all0
                          replace Ex := Ex.keep K16
                          replace Vx := Vx.keep K16 nin0
                          replace Cx := Cx.keep K16 nin0
                          replace Kx := Kx.keep K16 nin0
                          replace V_ba := V_ba.keep K16 nin0
                          replace sf_b11 := Safe.keep K16 sfk16 CR.1 sf_b11
                          replace E_b11 := E_b11.keep K16
                          replace V_b11 := V_b11.keep K16 nin0
                          replace C_b11 := C_b11.keep K16 nin0
                          replace K_b11 := K_b11.keep K16 nin0
                          replace E_q13 := E_q13.keep K16
                          replace C_q13 := C_q13.keep K16 nin0
                          replace V_q13 := V_q13.keep K16 nin0
                          replace K_q13 := K_q13.keep K16 nin0
                          replace CR := CR.trans (CHr.keep K16 sfk16 CR.1)
                          refine OEndsW.via (fun _ k => st16 _ k) ?_
                          show OEndsW p e below s _ _ _ _ _ (T16.setTop (mkF m 360 #[.val (.int p0), .val (.long p1), .second, .val (.int p2), .val (.int p3), .val (.int ((p0 &&& (2147483647 : Int32)) % (4 : Int32))), .val (.ref x), .val (.int (Int32.ofNat 0)), .val (.ref ba), .val (.ref b11), .val (.ref a_NUMBER)] [(.ref a_NUMBER)]))
                          refine OEndsW.via (fun _ k => XS.aload X16.here hx rfl (hb hby at_360) rfl rfl k) ?_
                          show OEndsW p e below s _ _ _ _ _ (T16.setTop (mkF m 362 #[.val (.int p0), .val (.long p1), .second, .val (.int p2), .val (.int p3), .val (.int ((p0 &&& (2147483647 : Int32)) % (4 : Int32))), .val (.ref x), .val (.int (Int32.ofNat 0)), .val (.ref ba), .val (.ref b11), .val (.ref a_NUMBER)] [(.ref a_NUMBER), (.ref a_NUMBER)]))
                          refine OEndsW.via (fun _ k => Jvm.RoadKit.acmp (g := (mkF m 362 #[.val (.int p0), .val (.long p1), .second, .val (.int p2), .val (.int p3), .val (.int ((p0 &&& (2147483647 : Int32)) % (4 : Int32))), .val (.ref x), .val (.int (Int32.ofNat 0)), .val (.ref ba), .val (.ref b11), .val (.ref a_NUMBER)] [(.ref a_NUMBER), (.ref a_NUMBER)])) X16 hx rfl rfl rfl (pc0 := 362) (pc' := 365) (same := true) rfl (hb hby at_362) rfl (decide_eq_true rfl) (by decide) (by decide) k) ?_
                          show OEndsW p e below s _ _ _ _ _ (T16.setTop (mkF m 365 #[.val (.int p0), .val (.long p1), .second, .val (.int p2), .val (.int p3), .val (.int ((p0 &&& (2147483647 : Int32)) % (4 : Int32))), .val (.ref x), .val (.int (Int32.ofNat 0)), .val (.ref ba), .val (.ref b11), .val (.ref a_NUMBER)] []))
                          refine OEndsW.via (fun _ k => XS.iconst X16.here hx rfl (hb hby at_365) k) ?_
                          show OEndsW p e below s _ _ _ _ _ (T16.setTop (mkF m 366 #[.val (.int p0), .val (.long p1), .second, .val (.int p2), .val (.int p3), .val (.int ((p0 &&& (2147483647 : Int32)) % (4 : Int32))), .val (.ref x), .val (.int (Int32.ofNat 0)), .val (.ref ba), .val (.ref b11), .val (.ref a_NUMBER)] [(.int (1 : Int32))]))
                          refine OEndsW.via (fun _ k => XS.goto X16.here hx rfl (pc0 := 366) (pc' := 370) rfl (hb hby at_366) (by decide) (by decide) k) ?_
                          show OEndsW p e below s _ _ _ _ _ (T16.setTop (mkF m 370 #[.val (.int p0), .val (.long p1), .second, .val (.int p2), .val (.int p3), .val (.int ((p0 &&& (2147483647 : Int32)) % (4 : Int32))), .val (.ref x), .val (.int (Int32.ofNat 0)), .val (.ref ba), .val (.ref b11), .val (.ref a_NUMBER)] [(.int (1 : Int32))]))
                          refine OEndsW.retN X16 hx hlk hS hk hZ hEL rfl es CR (t := .boolean) Bd.returns (by simp) (hb hby at_370) ?_ (by decide) (by decide)
                          exact ⟨rfl, N16⟩
                        · skip
                          refine OEndsW.via (fun _ k => st14.trans k) ?_
                          show OEndsW p e below s _ _ _ _ _ (T14.setTop (mkF m 305 #[.val (.int p0), .val (.long p1), .second, .val (.int p2), .val (.int p3), .val (.int ((p0 &&& (2147483647 : Int32)) % (4 : Int32))), .val (.ref x), .val (.int (Int32.ofNat 0)), .val (.ref ba), .val (.ref b11), .unset] [(.int (0 : Int32))]))
                          refine OEndsW.via (fun _ k => XS.ifYes X14.here hx rfl (pc0 := 305) (pc' := 316) rfl (hb hby at_305) rfl ((if0 _ _).trans (teq (by decide : (0 : Int32) = (0 : Int32))).1) (by decide) (by decide) k) ?_
                          show OEndsW p e below s _ _ _ _ _ (T14.setTop (mkF m 316 #[.val (.int p0), .val (.long p1), .second, .val (.int p2), .val (.int p3), .val (.int ((p0 &&& (2147483647 : Int32)) % (4 : Int32))), .val (.ref x), .val (.int (Int32.ofNat 0)), .val (.ref ba), .val (.ref b11), .unset] []))
                          refine OEndsW.via (fun _ k => XS.aload X14.here hx rfl (hb hby at_316) rfl rfl k) ?_
                          show OEndsW p e below s _ _ _ _ _ (T14.setTop (mkF m 318 #[.val (.int p0), .val (.long p1), .second, .val (.int p2), .val (.int p3), .val (.int ((p0 &&& (2147483647 : Int32)) % (4 : Int32))), .val (.ref x), .val (.int (Int32.ofNat 0)), .val (.ref ba), .val (.ref b11), .unset] [(.ref b11)]))
                          obtain ⟨q17, T17, h17, k117, qv17, kq17, X17, e17, E17, hS17, hk17, hZ17, hown17, E_q17, C_q17, V_q17, K_q17, la17, lb17, CH17, Lt17, hsafe17, st17⟩ := ldcCH X14 hx hZ hown (hw _ (List.mem_of_getElem? (i := 82) rfl)) wS e14 hS hk hEL (by decide : ("com/example/odds3/odds3/engine/ValueTypeNamedPinLaw", 28) ∈ consts_1) CR.1 (vs := [(.int (98 : Int32)), (.int (111 : Int32)), (.int (111 : Int32)), (.int (108 : Int32)), (.int (101 : Int32)), (.int (97 : Int32)), (.int (110 : Int32))]) (z := (7 : Int32)) (by decide) (by decide) (by decide) (g := (mkF m 318 #[.val (.int p0), .val (.long p1), .second, .val (.int p2), .val (.int p3), .val (.int ((p0 &&& (2147483647 : Int32)) % (4 : Int32))), .val (.ref x), .val (.int (Int32.ofNat 0)), .val (.ref ba), .val (.ref b11), .unset] [(.ref b11)])) rfl (hb hby at_318) (n := 28) (by decide) (by decide) (by decide) (by decide)
                          replace sf_b11 := CH17.safe E_b11.lt sf_b11
                          have ne_b11_q17 := (hsafe17 _ sf_b11).1
                          have ne_b11_qv17 := (hsafe17 _ sf_b11).2
                          replace Od := Od.ext E17
                          replace Ex := Exa.ext E17 Ex
                          replace Vx := Fld.ext E17 Vx
                          replace Cx := Fld.ext E17 Cx
                          replace Kx := Kx.ext E17
                          replace V_ba := V_ba.ext E17
                          replace E_b11 := Exa.ext E17 E_b11
                          replace V_b11 := Fld.ext E17 V_b11
                          replace C_b11 := Fld.ext E17 C_b11
                          replace K_b11 := K_b11.ext E17
                          replace E_q13 := Exa.ext E17 E_q13
                          replace C_q13 := Fld.ext E17 C_q13
                          replace V_q13 := Fld.ext E17 V_q13
                          replace K_q13 := K_q13.ext E17
                          replace CR := CR.trans CH17
                          replace hS := hS17
                          replace hk := hk17
                          replace hZ := hZ17
                          replace hown := hown17
                          have hp_q17 : ∀ c ∈ ([(98 : Int32), (111 : Int32), (111 : Int32), (108 : Int32), (101 : Int32), (97 : Int32), (110 : Int32)] : List Int32), ¬ c < 0 ∧ ¬ (255 : Int32) < c := by decide
                          have hcd_q17 : StrChars.Road.CodA ([(98 : Int32), (111 : Int32), (111 : Int32), (108 : Int32), (101 : Int32), (97 : Int32), (110 : Int32)] : List Int32) 0 (7 : Int32) [(.int (98 : Int32)), (.int (111 : Int32)), (.int (111 : Int32)), (.int (108 : Int32)), (.int (101 : Int32)), (.int (97 : Int32)), (.int (110 : Int32))] := StrChars.Road.codOf (n := 7) rfl (fun c hc => (hp_q17 c hc).2)
                          have hbd_q17 := own_up _ hp_q17
                          refine OEndsW.via (fun _ k => st17 _ k) ?_
                          show OEndsW p e below s _ _ _ _ _ (T17.setTop (mkF m 320 #[.val (.int p0), .val (.long p1), .second, .val (.int p2), .val (.int p3), .val (.int ((p0 &&& (2147483647 : Int32)) % (4 : Int32))), .val (.ref x), .val (.int (Int32.ofNat 0)), .val (.ref ba), .val (.ref b11), .unset] [(.ref q17), (.ref b11)]))
                          obtain ⟨cq18, kq18, q18a, q18b, q18c⟩ := isOf hZ e17 E_b11
                          obtain ⟨_, _, ⟨T18, L18, k18, n18⟩, -, X18, ⟨Lc18, hQ18, l18, y18, z18⟩, st18⟩ := X17.virtualBack hx (y := (⟨"java/lang/String", "equals", "(Ljava/lang/Object;)Z"⟩ : MethodName)) (z := (⟨"java/lang/String", "equals", "(Ljava/lang/Object;)Z"⟩ : MethodName)) hown (mvT hZ (hw _ (List.mem_of_getElem? (i := 73) rfl))) (mvT hZ (hw _ (List.mem_of_getElem? (i := 74) rfl))) (notFace_of_selects (args := #[]) (mvT hZ (hw _ (List.mem_of_getElem? (i := 76) rfl)))) (mvT hZ (hw _ (List.mem_of_getElem? (i := 76) rfl))) (mvT hZ (hw _ (List.mem_of_getElem? (i := 75) rfl))) (by decide) (StrChars.Road.eqW (W := 0) hZ heq (kI := 4) (hw _ (List.mem_of_getElem? (i := 3) rfl)) E_b11 V_b11 C_b11 K_b11 hcd_b11 own_all0 (by decide) E_q17 V_q17 C_q17 K_q17 hcd_q17 hbd_q17 (by decide) (Sta.ext Od.2 S_CS) nz_CS (by decide) (by decide)) q18a q18c (g := (mkF m 320 #[.val (.int p0), .val (.long p1), .second, .val (.int p2), .val (.int p3), .val (.int ((p0 &&& (2147483647 : Int32)) % (4 : Int32))), .val (.ref x), .val (.int (Int32.ofNat 0)), .val (.ref ba), .val (.ref b11), .unset] [(.ref q17), (.ref b11)])) rfl (by rw [hml]; rfl) (Steps.refl _) (argsL := [(.ref q17)]) (rest := []) (lenOf pd_28Ljava2flang2fObject3b29Z rfl) rfl (by show 2 * 0 + _ ≤ _; exact Nat.le_of_eq rfl) (hb hby at_320) (fun _ _ => ⟨rfl, e17, Nat.le_of_ble_eq_true rfl, Nat.le_of_ble_eq_true rfl⟩)
                          dsimp only [Pt.U, Pt.locs, Pt.cells, Pt.slots] at X18 l18 y18 z18 st18 hQ18
                          subst l18 y18 z18
                          obtain ⟨hcase18, rfl, e18⟩ := hQ18
                          have N18 := Fr.app N14 (Fr.nil n0)
                          rcases hcase18 with ⟨rfl, hq18⟩ | ⟨rfl, hq18⟩
                          · skip
                            refine OEndsW.via (fun _ k => st18.trans k) ?_
                            show OEndsW p e below s _ _ _ _ _ (T18.setTop (mkF m 323 #[.val (.int p0), .val (.long p1), .second, .val (.int p2), .val (.int p3), .val (.int ((p0 &&& (2147483647 : Int32)) % (4 : Int32))), .val (.ref x), .val (.int (Int32.ofNat 0)), .val (.ref ba), .val (.ref b11), .unset] [(.int (1 : Int32))]))
                            refine OEndsW.via (fun _ k => XS.ifNo X18.here hx rfl (hb hby at_323) rfl ((if0 _ _).trans (feq (by decide : ¬ ((1 : Int32) = (0 : Int32)))).1) k) ?_
                            show OEndsW p e below s _ _ _ _ _ (T18.setTop (mkF m 326 #[.val (.int p0), .val (.long p1), .second, .val (.int p2), .val (.int p3), .val (.int ((p0 &&& (2147483647 : Int32)) % (4 : Int32))), .val (.ref x), .val (.int (Int32.ofNat 0)), .val (.ref ba), .val (.ref b11), .unset] []))
                            obtain ⟨T19, X19, e19, st19⟩ := getS2 X18 hx hZ hown (host := "") (Or.inl (hw _ (List.mem_of_getElem? (i := 114) rfl))) Via.refl e18 (Sta.ext Od.2 S_BOOLEAN) (g := (mkF m 326 #[.val (.int p0), .val (.long p1), .second, .val (.int p2), .val (.int p3), .val (.int ((p0 &&& (2147483647 : Int32)) % (4 : Int32))), .val (.ref x), .val (.int (Int32.ofNat 0)), .val (.ref ba), .val (.ref b11), .unset] [])) rfl (hb hby at_326)
                            refine OEndsW.via (fun _ k => st19 _ k) ?_
                            show OEndsW p e below s _ _ _ _ _ (T19.setTop (mkF m 329 #[.val (.int p0), .val (.long p1), .second, .val (.int p2), .val (.int p3), .val (.int ((p0 &&& (2147483647 : Int32)) % (4 : Int32))), .val (.ref x), .val (.int (Int32.ofNat 0)), .val (.ref ba), .val (.ref b11), .unset] [(.ref a_BOOLEAN)]))
                            refine OEndsW.via (fun _ k => XS.astore X19.here hx rfl (hb hby at_329) rfl rfl (l' := #[.val (.int p0), .val (.long p1), .second, .val (.int p2), .val (.int p3), .val (.int ((p0 &&& (2147483647 : Int32)) % (4 : Int32))), .val (.ref x), .val (.int (Int32.ofNat 0)), .val (.ref ba), .val (.ref b11), .val (.ref a_BOOLEAN)]) rfl k) ?_
                            show OEndsW p e below s _ _ _ _ _ (T19.setTop (mkF m 331 #[.val (.int p0), .val (.long p1), .second, .val (.int p2), .val (.int p3), .val (.int ((p0 &&& (2147483647 : Int32)) % (4 : Int32))), .val (.ref x), .val (.int (Int32.ofNat 0)), .val (.ref ba), .val (.ref b11), .val (.ref a_BOOLEAN)] []))
                            refine OEndsW.via (fun _ k => XS.goto X19.here hx rfl (pc0 := 331) (pc' := 355) rfl (hb hby at_331) (by decide) (by decide) k) ?_
                            show OEndsW p e below s _ _ _ _ _ (T19.setTop (mkF m 355 #[.val (.int p0), .val (.long p1), .second, .val (.int p2), .val (.int p3), .val (.int ((p0 &&& (2147483647 : Int32)) % (4 : Int32))), .val (.ref x), .val (.int (Int32.ofNat 0)), .val (.ref ba), .val (.ref b11), .val (.ref a_BOOLEAN)] []))
                            refine OEndsW.via (fun _ k => XS.aload X19.here hx rfl (hb hby at_355) rfl rfl k) ?_
                            show OEndsW p e below s _ _ _ _ _ (T19.setTop (mkF m 357 #[.val (.int p0), .val (.long p1), .second, .val (.int p2), .val (.int p3), .val (.int ((p0 &&& (2147483647 : Int32)) % (4 : Int32))), .val (.ref x), .val (.int (Int32.ofNat 0)), .val (.ref ba), .val (.ref b11), .val (.ref a_BOOLEAN)] [(.ref b11)]))
                            obtain ⟨_, _, ⟨T20, L20, k20, n20⟩, -, X20, ⟨Lc20, hQ20, l20, y20, z20⟩, st20⟩ := Jvm.LawKit.callS X19 hx (y := (⟨"com/example/odds3/odds3/engine/ValueType", "named", "(Ljava/lang/String;)Lcom/example/odds3/odds3/engine/ValueType;"⟩ : MethodName)) hown (mvT hZ (hw _ (List.mem_of_getElem? (i := 84) rfl))) (mvT hZ (hw _ (List.mem_of_getElem? (i := 85) rfl))) (mvT hZ (hw _ (List.mem_of_getElem? (i := 86) rfl))) (mvT hZ (hw _ (List.mem_of_getElem? (i := 87) rfl))) (by decide) (backOf (W := 0) (rmN l Z a0 hw [] b11 t_b11 _ _ _ _ ([] : List Int32) a_NUMBER a_BOOLEAN a_STRING t_NUMBER t_BOOLEAN t_STRING tv_NUMBER tv_BOOLEAN tv_STRING kt_NUMBER kt_BOOLEAN kt_STRING va kA G1 (.ref a_BOOLEAN) h17 n0 Od E_b11 V_b11 C_b11 K_b11 hcd_b11 own_all0 (by decide) S_CS nz_CS S_V AV EV Et_NUMBER Vt_NUMBER Ct_NUMBER Kt_NUMBER Ft_NUMBER Et_BOOLEAN Vt_BOOLEAN Ct_BOOLEAN Kt_BOOLEAN Ft_BOOLEAN Et_STRING Vt_STRING Ct_STRING Kt_STRING Ft_STRING (by simp only [own_named, if_neg (Ne.symm hq14), if_pos hq18.symm])) hZ (hw _ (List.mem_of_getElem? (i := 87) rfl)) (hw _ (List.mem_of_getElem? (i := 86) rfl)) (by decide) (by decide)) (g := (mkF m 357 #[.val (.int p0), .val (.long p1), .second, .val (.int p2), .val (.int p3), .val (.int ((p0 &&& (2147483647 : Int32)) % (4 : Int32))), .val (.ref x), .val (.int (Int32.ofNat 0)), .val (.ref ba), .val (.ref b11), .val (.ref a_BOOLEAN)] [(.ref b11)])) rfl (by rw [hml]; rfl) (argsL := [(.ref b11)]) (rest := []) (lenOf pd_28Ljava2flang2fString3b29Lcom2fexample2fodds32fodds32fengine2fValueType3b rfl) rfl (by show 2 * 0 + _ ≤ _; exact Nat.le_of_eq rfl) (hb hby at_357) (fun _ _ => ⟨rfl, e19, Nat.le_of_ble_eq_true rfl, Nat.le_of_ble_eq_true rfl⟩)
                            dsimp only [Pt.U, Pt.locs, Pt.cells, Pt.slots] at X20 l20 y20 z20 st20 hQ20
                            subst l20 y20 z20
                            obtain ⟨rfl, N20q, K20⟩ := hQ20
                            have N20 := Fr.app N18 N20q
                            have sfk20 : ∀ x ∈ ([] : List Addr), Safe Z consts_1 T17.vm h17 x := all0
                            replace hk := Nat.le_trans hk K20.1
                            replace Od := Od.keep K20 all0
                            replace Ex := Ex.keep K20
                            replace Vx := Vx.keep K20 nin0
                            replace Cx := Cx.keep K20 nin0
                            replace Kx := Kx.keep K20 nin0
                            replace V_ba := V_ba.keep K20 nin0
                            replace sf_b11 := Safe.keep K20 sfk20 CR.1 sf_b11
                            replace E_b11 := E_b11.keep K20
                            replace V_b11 := V_b11.keep K20 nin0
                            replace C_b11 := C_b11.keep K20 nin0
                            replace K_b11 := K_b11.keep K20 nin0
                            replace E_q13 := E_q13.keep K20
                            replace C_q13 := C_q13.keep K20 nin0
                            replace V_q13 := V_q13.keep K20 nin0
                            replace K_q13 := K_q13.keep K20 nin0
                            replace E_q17 := E_q17.keep K20
                            replace C_q17 := C_q17.keep K20 nin0
                            replace V_q17 := V_q17.keep K20 nin0
                            replace K_q17 := K_q17.keep K20 nin0
                            replace CR := CR.trans (CHr.keep K20 sfk20 CR.1)
                            refine OEndsW.via (fun _ k => st20 _ k) ?_
                            show OEndsW p e below s _ _ _ _ _ (T20.setTop (mkF m 360 #[.val (.int p0), .val (.long p1), .second, .val (.int p2), .val (.int p3), .val (.int ((p0 &&& (2147483647 : Int32)) % (4 : Int32))), .val (.ref x), .val (.int (Int32.ofNat 0)), .val (.ref ba), .val (.ref b11), .val (.ref a_BOOLEAN)] [(.ref a_BOOLEAN)]))
                            refine OEndsW.via (fun _ k => XS.aload X20.here hx rfl (hb hby at_360) rfl rfl k) ?_
                            show OEndsW p e below s _ _ _ _ _ (T20.setTop (mkF m 362 #[.val (.int p0), .val (.long p1), .second, .val (.int p2), .val (.int p3), .val (.int ((p0 &&& (2147483647 : Int32)) % (4 : Int32))), .val (.ref x), .val (.int (Int32.ofNat 0)), .val (.ref ba), .val (.ref b11), .val (.ref a_BOOLEAN)] [(.ref a_BOOLEAN), (.ref a_BOOLEAN)]))
                            refine OEndsW.via (fun _ k => Jvm.RoadKit.acmp (g := (mkF m 362 #[.val (.int p0), .val (.long p1), .second, .val (.int p2), .val (.int p3), .val (.int ((p0 &&& (2147483647 : Int32)) % (4 : Int32))), .val (.ref x), .val (.int (Int32.ofNat 0)), .val (.ref ba), .val (.ref b11), .val (.ref a_BOOLEAN)] [(.ref a_BOOLEAN), (.ref a_BOOLEAN)])) X20 hx rfl rfl rfl (pc0 := 362) (pc' := 365) (same := true) rfl (hb hby at_362) rfl (decide_eq_true rfl) (by decide) (by decide) k) ?_
                            show OEndsW p e below s _ _ _ _ _ (T20.setTop (mkF m 365 #[.val (.int p0), .val (.long p1), .second, .val (.int p2), .val (.int p3), .val (.int ((p0 &&& (2147483647 : Int32)) % (4 : Int32))), .val (.ref x), .val (.int (Int32.ofNat 0)), .val (.ref ba), .val (.ref b11), .val (.ref a_BOOLEAN)] []))
                            refine OEndsW.via (fun _ k => XS.iconst X20.here hx rfl (hb hby at_365) k) ?_
                            show OEndsW p e below s _ _ _ _ _ (T20.setTop (mkF m 366 #[.val (.int p0), .val (.long p1), .second, .val (.int p2), .val (.int p3), .val (.int ((p0 &&& (2147483647 : Int32)) % (4 : Int32))), .val (.ref x), .val (.int (Int32.ofNat 0)), .val (.ref ba), .val (.ref b11), .val (.ref a_BOOLEAN)] [(.int (1 : Int32))]))
                            refine OEndsW.via (fun _ k => XS.goto X20.here hx rfl (pc0 := 366) (pc' := 370) rfl (hb hby at_366) (by decide) (by decide) k) ?_
                            show OEndsW p e below s _ _ _ _ _ (T20.setTop (mkF m 370 #[.val (.int p0), .val (.long p1), .second, .val (.int p2), .val (.int p3), .val (.int ((p0 &&& (2147483647 : Int32)) % (4 : Int32))), .val (.ref x), .val (.int (Int32.ofNat 0)), .val (.ref ba), .val (.ref b11), .val (.ref a_BOOLEAN)] [(.int (1 : Int32))]))
                            refine OEndsW.retN X20 hx hlk hS hk hZ hEL rfl es CR (t := .boolean) Bd.returns (by simp) (hb hby at_370) ?_ (by decide) (by decide)
                            exact ⟨rfl, N20⟩
                          · skip
                            refine OEndsW.via (fun _ k => st18.trans k) ?_
                            show OEndsW p e below s _ _ _ _ _ (T18.setTop (mkF m 323 #[.val (.int p0), .val (.long p1), .second, .val (.int p2), .val (.int p3), .val (.int ((p0 &&& (2147483647 : Int32)) % (4 : Int32))), .val (.ref x), .val (.int (Int32.ofNat 0)), .val (.ref ba), .val (.ref b11), .unset] [(.int (0 : Int32))]))
                            refine OEndsW.via (fun _ k => XS.ifYes X18.here hx rfl (pc0 := 323) (pc' := 334) rfl (hb hby at_323) rfl ((if0 _ _).trans (teq (by decide : (0 : Int32) = (0 : Int32))).1) (by decide) (by decide) k) ?_
                            show OEndsW p e below s _ _ _ _ _ (T18.setTop (mkF m 334 #[.val (.int p0), .val (.long p1), .second, .val (.int p2), .val (.int p3), .val (.int ((p0 &&& (2147483647 : Int32)) % (4 : Int32))), .val (.ref x), .val (.int (Int32.ofNat 0)), .val (.ref ba), .val (.ref b11), .unset] []))
                            refine OEndsW.via (fun _ k => XS.aload X18.here hx rfl (hb hby at_334) rfl rfl k) ?_
                            show OEndsW p e below s _ _ _ _ _ (T18.setTop (mkF m 336 #[.val (.int p0), .val (.long p1), .second, .val (.int p2), .val (.int p3), .val (.int ((p0 &&& (2147483647 : Int32)) % (4 : Int32))), .val (.ref x), .val (.int (Int32.ofNat 0)), .val (.ref ba), .val (.ref b11), .unset] [(.ref b11)]))
                            obtain ⟨q21, T21, h21, k121, qv21, kq21, X21, e21, E21, hS21, hk21, hZ21, hown21, E_q21, C_q21, V_q21, K_q21, la21, lb21, CH21, Lt21, hsafe21, st21⟩ := ldcCH X18 hx hZ hown (hw _ (List.mem_of_getElem? (i := 83) rfl)) wS e18 hS hk hEL (by decide : ("com/example/odds3/odds3/engine/ValueTypeNamedPinLaw", 30) ∈ consts_1) CR.1 (vs := [(.int (115 : Int32)), (.int (116 : Int32)), (.int (114 : Int32)), (.int (105 : Int32)), (.int (110 : Int32)), (.int (103 : Int32))]) (z := (6 : Int32)) (by decide) (by decide) (by decide) (g := (mkF m 336 #[.val (.int p0), .val (.long p1), .second, .val (.int p2), .val (.int p3), .val (.int ((p0 &&& (2147483647 : Int32)) % (4 : Int32))), .val (.ref x), .val (.int (Int32.ofNat 0)), .val (.ref ba), .val (.ref b11), .unset] [(.ref b11)])) rfl (hb hby at_336) (n := 24) (by decide) (by decide) (by decide) (by decide)
                            replace sf_b11 := CH21.safe E_b11.lt sf_b11
                            have ne_b11_q21 := (hsafe21 _ sf_b11).1
                            have ne_b11_qv21 := (hsafe21 _ sf_b11).2
                            replace Od := Od.ext E21
                            replace Ex := Exa.ext E21 Ex
                            replace Vx := Fld.ext E21 Vx
                            replace Cx := Fld.ext E21 Cx
                            replace Kx := Kx.ext E21
                            replace V_ba := V_ba.ext E21
                            replace E_b11 := Exa.ext E21 E_b11
                            replace V_b11 := Fld.ext E21 V_b11
                            replace C_b11 := Fld.ext E21 C_b11
                            replace K_b11 := K_b11.ext E21
                            replace E_q13 := Exa.ext E21 E_q13
                            replace C_q13 := Fld.ext E21 C_q13
                            replace V_q13 := Fld.ext E21 V_q13
                            replace K_q13 := K_q13.ext E21
                            replace E_q17 := Exa.ext E21 E_q17
                            replace C_q17 := Fld.ext E21 C_q17
                            replace V_q17 := Fld.ext E21 V_q17
                            replace K_q17 := K_q17.ext E21
                            replace CR := CR.trans CH21
                            replace hS := hS21
                            replace hk := hk21
                            replace hZ := hZ21
                            replace hown := hown21
                            have hp_q21 : ∀ c ∈ ([(115 : Int32), (116 : Int32), (114 : Int32), (105 : Int32), (110 : Int32), (103 : Int32)] : List Int32), ¬ c < 0 ∧ ¬ (255 : Int32) < c := by decide
                            have hcd_q21 : StrChars.Road.CodA ([(115 : Int32), (116 : Int32), (114 : Int32), (105 : Int32), (110 : Int32), (103 : Int32)] : List Int32) 0 (6 : Int32) [(.int (115 : Int32)), (.int (116 : Int32)), (.int (114 : Int32)), (.int (105 : Int32)), (.int (110 : Int32)), (.int (103 : Int32))] := StrChars.Road.codOf (n := 6) rfl (fun c hc => (hp_q21 c hc).2)
                            have hbd_q21 := own_up _ hp_q21
                            refine OEndsW.via (fun _ k => st21 _ k) ?_
                            show OEndsW p e below s _ _ _ _ _ (T21.setTop (mkF m 338 #[.val (.int p0), .val (.long p1), .second, .val (.int p2), .val (.int p3), .val (.int ((p0 &&& (2147483647 : Int32)) % (4 : Int32))), .val (.ref x), .val (.int (Int32.ofNat 0)), .val (.ref ba), .val (.ref b11), .unset] [(.ref q21), (.ref b11)]))
                            obtain ⟨cq22, kq22, q22a, q22b, q22c⟩ := isOf hZ e21 E_b11
                            obtain ⟨_, _, ⟨T22, L22, k22, n22⟩, -, X22, ⟨Lc22, hQ22, l22, y22, z22⟩, st22⟩ := X21.virtualBack hx (y := (⟨"java/lang/String", "equals", "(Ljava/lang/Object;)Z"⟩ : MethodName)) (z := (⟨"java/lang/String", "equals", "(Ljava/lang/Object;)Z"⟩ : MethodName)) hown (mvT hZ (hw _ (List.mem_of_getElem? (i := 73) rfl))) (mvT hZ (hw _ (List.mem_of_getElem? (i := 74) rfl))) (notFace_of_selects (args := #[]) (mvT hZ (hw _ (List.mem_of_getElem? (i := 76) rfl)))) (mvT hZ (hw _ (List.mem_of_getElem? (i := 76) rfl))) (mvT hZ (hw _ (List.mem_of_getElem? (i := 75) rfl))) (by decide) (StrChars.Road.eqW (W := 0) hZ heq (kI := 4) (hw _ (List.mem_of_getElem? (i := 3) rfl)) E_b11 V_b11 C_b11 K_b11 hcd_b11 own_all0 (by decide) E_q21 V_q21 C_q21 K_q21 hcd_q21 hbd_q21 (by decide) (Sta.ext Od.2 S_CS) nz_CS (by decide) (by decide)) q22a q22c (g := (mkF m 338 #[.val (.int p0), .val (.long p1), .second, .val (.int p2), .val (.int p3), .val (.int ((p0 &&& (2147483647 : Int32)) % (4 : Int32))), .val (.ref x), .val (.int (Int32.ofNat 0)), .val (.ref ba), .val (.ref b11), .unset] [(.ref q21), (.ref b11)])) rfl (by rw [hml]; rfl) (Steps.refl _) (argsL := [(.ref q21)]) (rest := []) (lenOf pd_28Ljava2flang2fObject3b29Z rfl) rfl (by show 2 * 0 + _ ≤ _; exact Nat.le_of_eq rfl) (hb hby at_338) (fun _ _ => ⟨rfl, e21, Nat.le_of_ble_eq_true rfl, Nat.le_of_ble_eq_true rfl⟩)
                            dsimp only [Pt.U, Pt.locs, Pt.cells, Pt.slots] at X22 l22 y22 z22 st22 hQ22
                            subst l22 y22 z22
                            obtain ⟨hcase22, rfl, e22⟩ := hQ22
                            have N22 := Fr.app N18 (Fr.nil n0)
                            rcases hcase22 with ⟨rfl, hq22⟩ | ⟨rfl, hq22⟩
                            · skip
                              refine OEndsW.via (fun _ k => st22.trans k) ?_
                              show OEndsW p e below s _ _ _ _ _ (T22.setTop (mkF m 341 #[.val (.int p0), .val (.long p1), .second, .val (.int p2), .val (.int p3), .val (.int ((p0 &&& (2147483647 : Int32)) % (4 : Int32))), .val (.ref x), .val (.int (Int32.ofNat 0)), .val (.ref ba), .val (.ref b11), .unset] [(.int (1 : Int32))]))
                              refine OEndsW.via (fun _ k => XS.ifNo X22.here hx rfl (hb hby at_341) rfl ((if0 _ _).trans (feq (by decide : ¬ ((1 : Int32) = (0 : Int32)))).1) k) ?_
                              show OEndsW p e below s _ _ _ _ _ (T22.setTop (mkF m 344 #[.val (.int p0), .val (.long p1), .second, .val (.int p2), .val (.int p3), .val (.int ((p0 &&& (2147483647 : Int32)) % (4 : Int32))), .val (.ref x), .val (.int (Int32.ofNat 0)), .val (.ref ba), .val (.ref b11), .unset] []))
                              obtain ⟨T23, X23, e23, st23⟩ := getS2 X22 hx hZ hown (host := "") (Or.inl (hw _ (List.mem_of_getElem? (i := 113) rfl))) Via.refl e22 (Sta.ext Od.2 S_STRING) (g := (mkF m 344 #[.val (.int p0), .val (.long p1), .second, .val (.int p2), .val (.int p3), .val (.int ((p0 &&& (2147483647 : Int32)) % (4 : Int32))), .val (.ref x), .val (.int (Int32.ofNat 0)), .val (.ref ba), .val (.ref b11), .unset] [])) rfl (hb hby at_344)
                              refine OEndsW.via (fun _ k => st23 _ k) ?_
                              show OEndsW p e below s _ _ _ _ _ (T23.setTop (mkF m 347 #[.val (.int p0), .val (.long p1), .second, .val (.int p2), .val (.int p3), .val (.int ((p0 &&& (2147483647 : Int32)) % (4 : Int32))), .val (.ref x), .val (.int (Int32.ofNat 0)), .val (.ref ba), .val (.ref b11), .unset] [(.ref a_STRING)]))
                              refine OEndsW.via (fun _ k => XS.astore X23.here hx rfl (hb hby at_347) rfl rfl (l' := #[.val (.int p0), .val (.long p1), .second, .val (.int p2), .val (.int p3), .val (.int ((p0 &&& (2147483647 : Int32)) % (4 : Int32))), .val (.ref x), .val (.int (Int32.ofNat 0)), .val (.ref ba), .val (.ref b11), .val (.ref a_STRING)]) rfl k) ?_
                              show OEndsW p e below s _ _ _ _ _ (T23.setTop (mkF m 349 #[.val (.int p0), .val (.long p1), .second, .val (.int p2), .val (.int p3), .val (.int ((p0 &&& (2147483647 : Int32)) % (4 : Int32))), .val (.ref x), .val (.int (Int32.ofNat 0)), .val (.ref ba), .val (.ref b11), .val (.ref a_STRING)] []))
                              refine OEndsW.via (fun _ k => XS.goto X23.here hx rfl (pc0 := 349) (pc' := 355) rfl (hb hby at_349) (by decide) (by decide) k) ?_
                              show OEndsW p e below s _ _ _ _ _ (T23.setTop (mkF m 355 #[.val (.int p0), .val (.long p1), .second, .val (.int p2), .val (.int p3), .val (.int ((p0 &&& (2147483647 : Int32)) % (4 : Int32))), .val (.ref x), .val (.int (Int32.ofNat 0)), .val (.ref ba), .val (.ref b11), .val (.ref a_STRING)] []))
                              refine OEndsW.via (fun _ k => XS.aload X23.here hx rfl (hb hby at_355) rfl rfl k) ?_
                              show OEndsW p e below s _ _ _ _ _ (T23.setTop (mkF m 357 #[.val (.int p0), .val (.long p1), .second, .val (.int p2), .val (.int p3), .val (.int ((p0 &&& (2147483647 : Int32)) % (4 : Int32))), .val (.ref x), .val (.int (Int32.ofNat 0)), .val (.ref ba), .val (.ref b11), .val (.ref a_STRING)] [(.ref b11)]))
                              obtain ⟨_, _, ⟨T24, L24, k24, n24⟩, -, X24, ⟨Lc24, hQ24, l24, y24, z24⟩, st24⟩ := Jvm.LawKit.callS X23 hx (y := (⟨"com/example/odds3/odds3/engine/ValueType", "named", "(Ljava/lang/String;)Lcom/example/odds3/odds3/engine/ValueType;"⟩ : MethodName)) hown (mvT hZ (hw _ (List.mem_of_getElem? (i := 84) rfl))) (mvT hZ (hw _ (List.mem_of_getElem? (i := 85) rfl))) (mvT hZ (hw _ (List.mem_of_getElem? (i := 86) rfl))) (mvT hZ (hw _ (List.mem_of_getElem? (i := 87) rfl))) (by decide) (backOf (W := 0) (rmN l Z a0 hw [] b11 t_b11 _ _ _ _ ([] : List Int32) a_NUMBER a_BOOLEAN a_STRING t_NUMBER t_BOOLEAN t_STRING tv_NUMBER tv_BOOLEAN tv_STRING kt_NUMBER kt_BOOLEAN kt_STRING va kA G1 (.ref a_STRING) h21 n0 Od E_b11 V_b11 C_b11 K_b11 hcd_b11 own_all0 (by decide) S_CS nz_CS S_V AV EV Et_NUMBER Vt_NUMBER Ct_NUMBER Kt_NUMBER Ft_NUMBER Et_BOOLEAN Vt_BOOLEAN Ct_BOOLEAN Kt_BOOLEAN Ft_BOOLEAN Et_STRING Vt_STRING Ct_STRING Kt_STRING Ft_STRING (by simp only [own_named, if_neg (Ne.symm hq14), if_neg (Ne.symm hq18), if_pos hq22.symm])) hZ (hw _ (List.mem_of_getElem? (i := 87) rfl)) (hw _ (List.mem_of_getElem? (i := 86) rfl)) (by decide) (by decide)) (g := (mkF m 357 #[.val (.int p0), .val (.long p1), .second, .val (.int p2), .val (.int p3), .val (.int ((p0 &&& (2147483647 : Int32)) % (4 : Int32))), .val (.ref x), .val (.int (Int32.ofNat 0)), .val (.ref ba), .val (.ref b11), .val (.ref a_STRING)] [(.ref b11)])) rfl (by rw [hml]; rfl) (argsL := [(.ref b11)]) (rest := []) (lenOf pd_28Ljava2flang2fString3b29Lcom2fexample2fodds32fodds32fengine2fValueType3b rfl) rfl (by show 2 * 0 + _ ≤ _; exact Nat.le_of_eq rfl) (hb hby at_357) (fun _ _ => ⟨rfl, e23, Nat.le_of_ble_eq_true rfl, Nat.le_of_ble_eq_true rfl⟩)
                              dsimp only [Pt.U, Pt.locs, Pt.cells, Pt.slots] at X24 l24 y24 z24 st24 hQ24
                              subst l24 y24 z24
                              obtain ⟨rfl, N24q, K24⟩ := hQ24
                              have N24 := Fr.app N22 N24q
                              have sfk24 : ∀ x ∈ ([] : List Addr), Safe Z consts_1 T21.vm h21 x := all0
                              replace hk := Nat.le_trans hk K24.1
                              replace Od := Od.keep K24 all0
                              replace Ex := Ex.keep K24
                              replace Vx := Vx.keep K24 nin0
                              replace Cx := Cx.keep K24 nin0
                              replace Kx := Kx.keep K24 nin0
                              replace V_ba := V_ba.keep K24 nin0
                              replace sf_b11 := Safe.keep K24 sfk24 CR.1 sf_b11
                              replace E_b11 := E_b11.keep K24
                              replace V_b11 := V_b11.keep K24 nin0
                              replace C_b11 := C_b11.keep K24 nin0
                              replace K_b11 := K_b11.keep K24 nin0
                              replace E_q13 := E_q13.keep K24
                              replace C_q13 := C_q13.keep K24 nin0
                              replace V_q13 := V_q13.keep K24 nin0
                              replace K_q13 := K_q13.keep K24 nin0
                              replace E_q17 := E_q17.keep K24
                              replace C_q17 := C_q17.keep K24 nin0
                              replace V_q17 := V_q17.keep K24 nin0
                              replace K_q17 := K_q17.keep K24 nin0
                              replace E_q21 := E_q21.keep K24
                              replace C_q21 := C_q21.keep K24 nin0
                              replace V_q21 := V_q21.keep K24 nin0
                              replace K_q21 := K_q21.keep K24 nin0
                              replace CR := CR.trans (CHr.keep K24 sfk24 CR.1)
                              refine OEndsW.via (fun _ k => st24 _ k) ?_
                              show OEndsW p e below s _ _ _ _ _ (T24.setTop (mkF m 360 #[.val (.int p0), .val (.long p1), .second, .val (.int p2), .val (.int p3), .val (.int ((p0 &&& (2147483647 : Int32)) % (4 : Int32))), .val (.ref x), .val (.int (Int32.ofNat 0)), .val (.ref ba), .val (.ref b11), .val (.ref a_STRING)] [(.ref a_STRING)]))
                              refine OEndsW.via (fun _ k => XS.aload X24.here hx rfl (hb hby at_360) rfl rfl k) ?_
                              show OEndsW p e below s _ _ _ _ _ (T24.setTop (mkF m 362 #[.val (.int p0), .val (.long p1), .second, .val (.int p2), .val (.int p3), .val (.int ((p0 &&& (2147483647 : Int32)) % (4 : Int32))), .val (.ref x), .val (.int (Int32.ofNat 0)), .val (.ref ba), .val (.ref b11), .val (.ref a_STRING)] [(.ref a_STRING), (.ref a_STRING)]))
                              refine OEndsW.via (fun _ k => Jvm.RoadKit.acmp (g := (mkF m 362 #[.val (.int p0), .val (.long p1), .second, .val (.int p2), .val (.int p3), .val (.int ((p0 &&& (2147483647 : Int32)) % (4 : Int32))), .val (.ref x), .val (.int (Int32.ofNat 0)), .val (.ref ba), .val (.ref b11), .val (.ref a_STRING)] [(.ref a_STRING), (.ref a_STRING)])) X24 hx rfl rfl rfl (pc0 := 362) (pc' := 365) (same := true) rfl (hb hby at_362) rfl (decide_eq_true rfl) (by decide) (by decide) k) ?_
                              show OEndsW p e below s _ _ _ _ _ (T24.setTop (mkF m 365 #[.val (.int p0), .val (.long p1), .second, .val (.int p2), .val (.int p3), .val (.int ((p0 &&& (2147483647 : Int32)) % (4 : Int32))), .val (.ref x), .val (.int (Int32.ofNat 0)), .val (.ref ba), .val (.ref b11), .val (.ref a_STRING)] []))
                              refine OEndsW.via (fun _ k => XS.iconst X24.here hx rfl (hb hby at_365) k) ?_
                              show OEndsW p e below s _ _ _ _ _ (T24.setTop (mkF m 366 #[.val (.int p0), .val (.long p1), .second, .val (.int p2), .val (.int p3), .val (.int ((p0 &&& (2147483647 : Int32)) % (4 : Int32))), .val (.ref x), .val (.int (Int32.ofNat 0)), .val (.ref ba), .val (.ref b11), .val (.ref a_STRING)] [(.int (1 : Int32))]))
                              refine OEndsW.via (fun _ k => XS.goto X24.here hx rfl (pc0 := 366) (pc' := 370) rfl (hb hby at_366) (by decide) (by decide) k) ?_
                              show OEndsW p e below s _ _ _ _ _ (T24.setTop (mkF m 370 #[.val (.int p0), .val (.long p1), .second, .val (.int p2), .val (.int p3), .val (.int ((p0 &&& (2147483647 : Int32)) % (4 : Int32))), .val (.ref x), .val (.int (Int32.ofNat 0)), .val (.ref ba), .val (.ref b11), .val (.ref a_STRING)] [(.int (1 : Int32))]))
                              refine OEndsW.retN X24 hx hlk hS hk hZ hEL rfl es CR (t := .boolean) Bd.returns (by simp) (hb hby at_370) ?_ (by decide) (by decide)
                              exact ⟨rfl, N24⟩
                            · skip
                              refine OEndsW.via (fun _ k => st22.trans k) ?_
                              show OEndsW p e below s _ _ _ _ _ (T22.setTop (mkF m 341 #[.val (.int p0), .val (.long p1), .second, .val (.int p2), .val (.int p3), .val (.int ((p0 &&& (2147483647 : Int32)) % (4 : Int32))), .val (.ref x), .val (.int (Int32.ofNat 0)), .val (.ref ba), .val (.ref b11), .unset] [(.int (0 : Int32))]))
                              refine OEndsW.via (fun _ k => XS.ifYes X22.here hx rfl (pc0 := 341) (pc' := 352) rfl (hb hby at_341) rfl ((if0 _ _).trans (teq (by decide : (0 : Int32) = (0 : Int32))).1) (by decide) (by decide) k) ?_
                              show OEndsW p e below s _ _ _ _ _ (T22.setTop (mkF m 352 #[.val (.int p0), .val (.long p1), .second, .val (.int p2), .val (.int p3), .val (.int ((p0 &&& (2147483647 : Int32)) % (4 : Int32))), .val (.ref x), .val (.int (Int32.ofNat 0)), .val (.ref ba), .val (.ref b11), .unset] []))
                              refine OEndsW.via (fun _ k => XS.aconstNull X22.here hx rfl (hb hby at_352) k) ?_
                              show OEndsW p e below s _ _ _ _ _ (T22.setTop (mkF m 353 #[.val (.int p0), .val (.long p1), .second, .val (.int p2), .val (.int p3), .val (.int ((p0 &&& (2147483647 : Int32)) % (4 : Int32))), .val (.ref x), .val (.int (Int32.ofNat 0)), .val (.ref ba), .val (.ref b11), .unset] [.null]))
                              refine OEndsW.via (fun _ k => XS.astore X22.here hx rfl (hb hby at_353) rfl rfl (l' := #[.val (.int p0), .val (.long p1), .second, .val (.int p2), .val (.int p3), .val (.int ((p0 &&& (2147483647 : Int32)) % (4 : Int32))), .val (.ref x), .val (.int (Int32.ofNat 0)), .val (.ref ba), .val (.ref b11), .val .null]) rfl k) ?_
                              show OEndsW p e below s _ _ _ _ _ (T22.setTop (mkF m 355 #[.val (.int p0), .val (.long p1), .second, .val (.int p2), .val (.int p3), .val (.int ((p0 &&& (2147483647 : Int32)) % (4 : Int32))), .val (.ref x), .val (.int (Int32.ofNat 0)), .val (.ref ba), .val (.ref b11), .val .null] []))
                              refine OEndsW.via (fun _ k => XS.aload X22.here hx rfl (hb hby at_355) rfl rfl k) ?_
                              show OEndsW p e below s _ _ _ _ _ (T22.setTop (mkF m 357 #[.val (.int p0), .val (.long p1), .second, .val (.int p2), .val (.int p3), .val (.int ((p0 &&& (2147483647 : Int32)) % (4 : Int32))), .val (.ref x), .val (.int (Int32.ofNat 0)), .val (.ref ba), .val (.ref b11), .val .null] [(.ref b11)]))
                              obtain ⟨_, _, ⟨T25, L25, k25, n25⟩, -, X25, ⟨Lc25, hQ25, l25, y25, z25⟩, st25⟩ := Jvm.LawKit.callS X22 hx (y := (⟨"com/example/odds3/odds3/engine/ValueType", "named", "(Ljava/lang/String;)Lcom/example/odds3/odds3/engine/ValueType;"⟩ : MethodName)) hown (mvT hZ (hw _ (List.mem_of_getElem? (i := 84) rfl))) (mvT hZ (hw _ (List.mem_of_getElem? (i := 85) rfl))) (mvT hZ (hw _ (List.mem_of_getElem? (i := 86) rfl))) (mvT hZ (hw _ (List.mem_of_getElem? (i := 87) rfl))) (by decide) (backOf (W := 0) (rmN l Z a0 hw [] b11 t_b11 _ _ _ _ ([] : List Int32) a_NUMBER a_BOOLEAN a_STRING t_NUMBER t_BOOLEAN t_STRING tv_NUMBER tv_BOOLEAN tv_STRING kt_NUMBER kt_BOOLEAN kt_STRING va kA G1 .null h21 n0 Od E_b11 V_b11 C_b11 K_b11 hcd_b11 own_all0 (by decide) S_CS nz_CS S_V AV EV Et_NUMBER Vt_NUMBER Ct_NUMBER Kt_NUMBER Ft_NUMBER Et_BOOLEAN Vt_BOOLEAN Ct_BOOLEAN Kt_BOOLEAN Ft_BOOLEAN Et_STRING Vt_STRING Ct_STRING Kt_STRING Ft_STRING (by simp only [own_named, if_neg (Ne.symm hq14), if_neg (Ne.symm hq18), if_neg (Ne.symm hq22)])) hZ (hw _ (List.mem_of_getElem? (i := 87) rfl)) (hw _ (List.mem_of_getElem? (i := 86) rfl)) (by decide) (by decide)) (g := (mkF m 357 #[.val (.int p0), .val (.long p1), .second, .val (.int p2), .val (.int p3), .val (.int ((p0 &&& (2147483647 : Int32)) % (4 : Int32))), .val (.ref x), .val (.int (Int32.ofNat 0)), .val (.ref ba), .val (.ref b11), .val .null] [(.ref b11)])) rfl (by rw [hml]; rfl) (argsL := [(.ref b11)]) (rest := []) (lenOf pd_28Ljava2flang2fString3b29Lcom2fexample2fodds32fodds32fengine2fValueType3b rfl) rfl (by show 2 * 0 + _ ≤ _; exact Nat.le_of_eq rfl) (hb hby at_357) (fun _ _ => ⟨rfl, e22, Nat.le_of_ble_eq_true rfl, Nat.le_of_ble_eq_true rfl⟩)
                              dsimp only [Pt.U, Pt.locs, Pt.cells, Pt.slots] at X25 l25 y25 z25 st25 hQ25
                              subst l25 y25 z25
                              obtain ⟨rfl, N25q, K25⟩ := hQ25
                              have N25 := Fr.app N22 N25q
                              have sfk25 : ∀ x ∈ ([] : List Addr), Safe Z consts_1 T21.vm h21 x := all0
                              replace hk := Nat.le_trans hk K25.1
                              replace Od := Od.keep K25 all0
                              replace Ex := Ex.keep K25
                              replace Vx := Vx.keep K25 nin0
                              replace Cx := Cx.keep K25 nin0
                              replace Kx := Kx.keep K25 nin0
                              replace V_ba := V_ba.keep K25 nin0
                              replace sf_b11 := Safe.keep K25 sfk25 CR.1 sf_b11
                              replace E_b11 := E_b11.keep K25
                              replace V_b11 := V_b11.keep K25 nin0
                              replace C_b11 := C_b11.keep K25 nin0
                              replace K_b11 := K_b11.keep K25 nin0
                              replace E_q13 := E_q13.keep K25
                              replace C_q13 := C_q13.keep K25 nin0
                              replace V_q13 := V_q13.keep K25 nin0
                              replace K_q13 := K_q13.keep K25 nin0
                              replace E_q17 := E_q17.keep K25
                              replace C_q17 := C_q17.keep K25 nin0
                              replace V_q17 := V_q17.keep K25 nin0
                              replace K_q17 := K_q17.keep K25 nin0
                              replace E_q21 := E_q21.keep K25
                              replace C_q21 := C_q21.keep K25 nin0
                              replace V_q21 := V_q21.keep K25 nin0
                              replace K_q21 := K_q21.keep K25 nin0
                              replace CR := CR.trans (CHr.keep K25 sfk25 CR.1)
                              refine OEndsW.via (fun _ k => st25 _ k) ?_
                              show OEndsW p e below s _ _ _ _ _ (T25.setTop (mkF m 360 #[.val (.int p0), .val (.long p1), .second, .val (.int p2), .val (.int p3), .val (.int ((p0 &&& (2147483647 : Int32)) % (4 : Int32))), .val (.ref x), .val (.int (Int32.ofNat 0)), .val (.ref ba), .val (.ref b11), .val .null] [.null]))
                              refine OEndsW.via (fun _ k => XS.aload X25.here hx rfl (hb hby at_360) rfl rfl k) ?_
                              show OEndsW p e below s _ _ _ _ _ (T25.setTop (mkF m 362 #[.val (.int p0), .val (.long p1), .second, .val (.int p2), .val (.int p3), .val (.int ((p0 &&& (2147483647 : Int32)) % (4 : Int32))), .val (.ref x), .val (.int (Int32.ofNat 0)), .val (.ref ba), .val (.ref b11), .val .null] [.null, .null]))
                              refine OEndsW.via (fun _ k => Jvm.RoadKit.acmp (g := (mkF m 362 #[.val (.int p0), .val (.long p1), .second, .val (.int p2), .val (.int p3), .val (.int ((p0 &&& (2147483647 : Int32)) % (4 : Int32))), .val (.ref x), .val (.int (Int32.ofNat 0)), .val (.ref ba), .val (.ref b11), .val .null] [.null, .null])) X25 hx rfl rfl rfl (pc0 := 362) (pc' := 365) (same := true) rfl (hb hby at_362) rfl (decide_eq_true rfl) (by decide) (by decide) k) ?_
                              show OEndsW p e below s _ _ _ _ _ (T25.setTop (mkF m 365 #[.val (.int p0), .val (.long p1), .second, .val (.int p2), .val (.int p3), .val (.int ((p0 &&& (2147483647 : Int32)) % (4 : Int32))), .val (.ref x), .val (.int (Int32.ofNat 0)), .val (.ref ba), .val (.ref b11), .val .null] []))
                              refine OEndsW.via (fun _ k => XS.iconst X25.here hx rfl (hb hby at_365) k) ?_
                              show OEndsW p e below s _ _ _ _ _ (T25.setTop (mkF m 366 #[.val (.int p0), .val (.long p1), .second, .val (.int p2), .val (.int p3), .val (.int ((p0 &&& (2147483647 : Int32)) % (4 : Int32))), .val (.ref x), .val (.int (Int32.ofNat 0)), .val (.ref ba), .val (.ref b11), .val .null] [(.int (1 : Int32))]))
                              refine OEndsW.via (fun _ k => XS.goto X25.here hx rfl (pc0 := 366) (pc' := 370) rfl (hb hby at_366) (by decide) (by decide) k) ?_
                              show OEndsW p e below s _ _ _ _ _ (T25.setTop (mkF m 370 #[.val (.int p0), .val (.long p1), .second, .val (.int p2), .val (.int p3), .val (.int ((p0 &&& (2147483647 : Int32)) % (4 : Int32))), .val (.ref x), .val (.int (Int32.ofNat 0)), .val (.ref ba), .val (.ref b11), .val .null] [(.int (1 : Int32))]))
                              refine OEndsW.retN X25 hx hlk hS hk hZ hEL rfl es CR (t := .boolean) Bd.returns (by simp) (hb hby at_370) ?_ (by decide) (by decide)
                              exact ⟨rfl, N25⟩
                      · skip
                        obtain ⟨_, _, ⟨T26, L26, k26, n26⟩, -, X26, ⟨Lc26, hQ26, l26, y26, z26⟩, st26⟩ := X11.specialBack hx (y := (⟨"java/lang/String", "<init>", "([C)V"⟩ : MethodName)) rfl hown (mvT hZ (hw _ (List.mem_of_getElem? (i := 53) rfl))) (mvT hZ (hw _ (List.mem_of_getElem? (i := 54) rfl))) (mvT hZ (hw _ (List.mem_of_getElem? (i := 55) rfl))) (by decide) (StrChars.Road.backV (W := 1) hZ hws (kI := 4) (hw _ (List.mem_of_getElem? (i := 3) rfl)) (cs := ys) (bs := ys.map (fun c => c.toInt8.toInt32)) (n := kn) ge_b11 (Od.1 ▸ Od.2.1) E_b11 F_value_b11 F_coder_b11 V_ba (Sta.ext Od.2 S_CS) nz_CS hyl rfl (Nat.pos_of_ne_zero hk0) (Nat.le_trans hkn (by decide)) hyp rfl (by decide) (by decide)) (g := (mkF m 293 #[.val (.int p0), .val (.long p1), .second, .val (.int p2), .val (.int p3), .val (.int ((p0 &&& (2147483647 : Int32)) % (4 : Int32))), .val (.ref x), .val (.int (Int32.ofNat kn)), .val (.ref ba), .unset, .unset] [(.ref ba), (.ref b11), (.ref b11)])) rfl (by rw [hml]; rfl) (Steps.refl _) (a := b11) (argsL := [(.ref ba)]) (rest := [(.ref b11)]) (lenOf pd_285bC29V rfl) rfl (by show 2 * 0 + _ ≤ _; exact Nat.le_of_eq rfl) (hb hby at_293) (fun _ _ => ⟨rfl, e11, Nat.le_of_ble_eq_true rfl, (by show 39 + 4 + kn ≤ 5248; omega)⟩)
                        dsimp only [Pt.U, Pt.locs, Pt.cells, Pt.slots] at X26 l26 y26 z26 st26 hQ26
                        subst l26 y26 z26
                        obtain ⟨rfl, N26q, K26, -, C_b11, t_b11, kb_b11, ge_t_b11, sz_t_b11, ntx_b11, V_b11, K_b11⟩ := hQ26
                        have ne_x_t_b11 : x ≠ t_b11 := Nat.ne_of_lt (Nat.lt_of_lt_of_le Ex.lt sz_t_b11)
                        have ne_tx_t_b11 : tx ≠ t_b11 := Nat.ne_of_lt (Nat.lt_of_lt_of_le Kx.lt sz_t_b11)
                        have ne_ba_t_b11 : ba ≠ t_b11 := Nat.ne_of_lt (Nat.lt_of_lt_of_le V_ba.lt sz_t_b11)
                        have ne_b11_t_b11 : b11 ≠ t_b11 := Nat.ne_of_lt (Nat.lt_of_lt_of_le E_b11.lt sz_t_b11)
                        have N26 := Fr.app NU10 N26q
                        have sfk26 : ∀ x ∈ ([b11] : List Addr), Safe Z consts_1 vmU10 h11 x := (allS sf_b11 all0)
                        replace hk := Nat.le_trans hk K26.1
                        replace Od := Od.keep K26 (allS ge_b11 all0)
                        replace Ex := Ex.keep K26
                        replace Vx := Vx.keep K26 (ninS ne_x_b11 nin0)
                        replace Cx := Cx.keep K26 (ninS ne_x_b11 nin0)
                        replace Kx := Kx.keep K26 (ninS ne_tx_b11 nin0)
                        replace V_ba := V_ba.keep K26 (ninS ne_ba_b11 nin0)
                        replace sf_b11 := Safe.keep K26 sfk26 CR.1 sf_b11
                        replace E_b11 := E_b11.keep K26
                        replace CR := CR.trans (CHr.keep K26 sfk26 CR.1)
                        have hcd_b11 : StrChars.Road.CodA ys 0 (Int32.ofNat kn) ((ys.map (fun c => c.toInt8.toInt32)).map Value.int) := StrChars.Road.codOf (n := kn) hyl (fun c hc => (hyp c hc).2)
                        have hbd_b11 := own_up _ hyp
                        replace X26 := X26.more (cells' := 5) (slots' := 80) (Nat.le_of_ble_eq_true rfl) (by show 39 + 4 + kn ≤ 80; omega)
                        refine OEndsW.via (fun _ k => st26.trans k) ?_
                        show OEndsW p e below s _ _ _ _ _ (T26.setTop (mkF m 296 #[.val (.int p0), .val (.long p1), .second, .val (.int p2), .val (.int p3), .val (.int ((p0 &&& (2147483647 : Int32)) % (4 : Int32))), .val (.ref x), .val (.int (Int32.ofNat kn)), .val (.ref ba), .unset, .unset] [(.ref b11)]))
                        refine OEndsW.via (fun _ k => XS.astore X26.here hx rfl (hb hby at_296) rfl rfl (l' := #[.val (.int p0), .val (.long p1), .second, .val (.int p2), .val (.int p3), .val (.int ((p0 &&& (2147483647 : Int32)) % (4 : Int32))), .val (.ref x), .val (.int (Int32.ofNat kn)), .val (.ref ba), .val (.ref b11), .unset]) rfl k) ?_
                        show OEndsW p e below s _ _ _ _ _ (T26.setTop (mkF m 298 #[.val (.int p0), .val (.long p1), .second, .val (.int p2), .val (.int p3), .val (.int ((p0 &&& (2147483647 : Int32)) % (4 : Int32))), .val (.ref x), .val (.int (Int32.ofNat kn)), .val (.ref ba), .val (.ref b11), .unset] []))
                        refine OEndsW.via (fun _ k => XS.aload X26.here hx rfl (hb hby at_298) rfl rfl k) ?_
                        show OEndsW p e below s _ _ _ _ _ (T26.setTop (mkF m 300 #[.val (.int p0), .val (.long p1), .second, .val (.int p2), .val (.int p3), .val (.int ((p0 &&& (2147483647 : Int32)) % (4 : Int32))), .val (.ref x), .val (.int (Int32.ofNat kn)), .val (.ref ba), .val (.ref b11), .unset] [(.ref b11)]))
                        obtain ⟨q27, T27, h27, k127, qv27, kq27, X27, e27, E27, hS27, hk27, hZ27, hown27, E_q27, C_q27, V_q27, K_q27, la27, lb27, CH27, Lt27, hsafe27, st27⟩ := ldcCH X26 hx hZ hown (hw _ (List.mem_of_getElem? (i := 1) rfl)) wS rfl hS hk hEL (by decide : ("com/example/odds3/odds3/engine/ValueTypeNamedPinLaw", 26) ∈ consts_1) CR.1 (vs := [(.int (110 : Int32)), (.int (117 : Int32)), (.int (109 : Int32)), (.int (98 : Int32)), (.int (101 : Int32)), (.int (114 : Int32))]) (z := (6 : Int32)) (by decide) (by decide) (by decide) (g := (mkF m 300 #[.val (.int p0), .val (.long p1), .second, .val (.int p2), .val (.int p3), .val (.int ((p0 &&& (2147483647 : Int32)) % (4 : Int32))), .val (.ref x), .val (.int (Int32.ofNat kn)), .val (.ref ba), .val (.ref b11), .unset] [(.ref b11)])) rfl (hb hby at_300) (n := 24) (by decide) (by decide) (by decide) (by decide)
                        replace sf_b11 := CH27.safe E_b11.lt sf_b11
                        have ne_b11_q27 := (hsafe27 _ sf_b11).1
                        have ne_b11_qv27 := (hsafe27 _ sf_b11).2
                        replace Od := Od.ext E27
                        replace Ex := Exa.ext E27 Ex
                        replace Vx := Fld.ext E27 Vx
                        replace Cx := Fld.ext E27 Cx
                        replace Kx := Kx.ext E27
                        replace V_ba := V_ba.ext E27
                        replace E_b11 := Exa.ext E27 E_b11
                        replace C_b11 := Fld.ext E27 C_b11
                        replace V_b11 := Fld.ext E27 V_b11
                        replace K_b11 := K_b11.ext E27
                        replace CR := CR.trans CH27
                        replace hS := hS27
                        replace hk := hk27
                        replace hZ := hZ27
                        replace hown := hown27
                        have hp_q27 : ∀ c ∈ ([(110 : Int32), (117 : Int32), (109 : Int32), (98 : Int32), (101 : Int32), (114 : Int32)] : List Int32), ¬ c < 0 ∧ ¬ (255 : Int32) < c := by decide
                        have hcd_q27 : StrChars.Road.CodA ([(110 : Int32), (117 : Int32), (109 : Int32), (98 : Int32), (101 : Int32), (114 : Int32)] : List Int32) 0 (6 : Int32) [(.int (110 : Int32)), (.int (117 : Int32)), (.int (109 : Int32)), (.int (98 : Int32)), (.int (101 : Int32)), (.int (114 : Int32))] := StrChars.Road.codOf (n := 6) rfl (fun c hc => (hp_q27 c hc).2)
                        have hbd_q27 := own_up _ hp_q27
                        refine OEndsW.via (fun _ k => st27 _ k) ?_
                        show OEndsW p e below s _ _ _ _ _ (T27.setTop (mkF m 302 #[.val (.int p0), .val (.long p1), .second, .val (.int p2), .val (.int p3), .val (.int ((p0 &&& (2147483647 : Int32)) % (4 : Int32))), .val (.ref x), .val (.int (Int32.ofNat kn)), .val (.ref ba), .val (.ref b11), .unset] [(.ref q27), (.ref b11)]))
                        obtain ⟨cq28, kq28, q28a, q28b, q28c⟩ := isOf hZ e27 E_b11
                        obtain ⟨_, _, ⟨T28, L28, k28, n28⟩, -, X28, ⟨Lc28, hQ28, l28, y28, z28⟩, st28⟩ := X27.virtualBack hx (y := (⟨"java/lang/String", "equals", "(Ljava/lang/Object;)Z"⟩ : MethodName)) (z := (⟨"java/lang/String", "equals", "(Ljava/lang/Object;)Z"⟩ : MethodName)) hown (mvT hZ (hw _ (List.mem_of_getElem? (i := 73) rfl))) (mvT hZ (hw _ (List.mem_of_getElem? (i := 74) rfl))) (notFace_of_selects (args := #[]) (mvT hZ (hw _ (List.mem_of_getElem? (i := 76) rfl)))) (mvT hZ (hw _ (List.mem_of_getElem? (i := 76) rfl))) (mvT hZ (hw _ (List.mem_of_getElem? (i := 75) rfl))) (by decide) (StrChars.Road.eqW (W := 0) hZ heq (kI := 4) (hw _ (List.mem_of_getElem? (i := 3) rfl)) E_b11 V_b11 C_b11 K_b11 hcd_b11 hbd_b11 (by rw [hyl]; exact Nat.le_trans hkn (by decide)) E_q27 V_q27 C_q27 K_q27 hcd_q27 hbd_q27 (by decide) (Sta.ext Od.2 S_CS) nz_CS (by decide) (by decide)) q28a q28c (g := (mkF m 302 #[.val (.int p0), .val (.long p1), .second, .val (.int p2), .val (.int p3), .val (.int ((p0 &&& (2147483647 : Int32)) % (4 : Int32))), .val (.ref x), .val (.int (Int32.ofNat kn)), .val (.ref ba), .val (.ref b11), .unset] [(.ref q27), (.ref b11)])) rfl (by rw [hml]; rfl) (Steps.refl _) (argsL := [(.ref q27)]) (rest := []) (lenOf pd_28Ljava2flang2fObject3b29Z rfl) rfl (by show 2 * 0 + _ ≤ _; exact Nat.le_of_eq rfl) (hb hby at_302) (fun _ _ => ⟨rfl, e27, Nat.le_of_ble_eq_true rfl, Nat.le_of_ble_eq_true rfl⟩)
                        dsimp only [Pt.U, Pt.locs, Pt.cells, Pt.slots] at X28 l28 y28 z28 st28 hQ28
                        subst l28 y28 z28
                        obtain ⟨hcase28, rfl, e28⟩ := hQ28
                        have N28 := Fr.app N26 (Fr.nil n0)
                        rcases hcase28 with ⟨rfl, hq28⟩ | ⟨rfl, hq28⟩
                        · skip
                          refine OEndsW.via (fun _ k => st28.trans k) ?_
                          show OEndsW p e below s _ _ _ _ _ (T28.setTop (mkF m 305 #[.val (.int p0), .val (.long p1), .second, .val (.int p2), .val (.int p3), .val (.int ((p0 &&& (2147483647 : Int32)) % (4 : Int32))), .val (.ref x), .val (.int (Int32.ofNat kn)), .val (.ref ba), .val (.ref b11), .unset] [(.int (1 : Int32))]))
                          refine OEndsW.via (fun _ k => XS.ifNo X28.here hx rfl (hb hby at_305) rfl ((if0 _ _).trans (feq (by decide : ¬ ((1 : Int32) = (0 : Int32)))).1) k) ?_
                          show OEndsW p e below s _ _ _ _ _ (T28.setTop (mkF m 308 #[.val (.int p0), .val (.long p1), .second, .val (.int p2), .val (.int p3), .val (.int ((p0 &&& (2147483647 : Int32)) % (4 : Int32))), .val (.ref x), .val (.int (Int32.ofNat kn)), .val (.ref ba), .val (.ref b11), .unset] []))
                          obtain ⟨T29, X29, e29, st29⟩ := getS2 X28 hx hZ hown (host := "") (Or.inl (hw _ (List.mem_of_getElem? (i := 112) rfl))) Via.refl e28 (Sta.ext Od.2 S_NUMBER) (g := (mkF m 308 #[.val (.int p0), .val (.long p1), .second, .val (.int p2), .val (.int p3), .val (.int ((p0 &&& (2147483647 : Int32)) % (4 : Int32))), .val (.ref x), .val (.int (Int32.ofNat kn)), .val (.ref ba), .val (.ref b11), .unset] [])) rfl (hb hby at_308)
                          refine OEndsW.via (fun _ k => st29 _ k) ?_
                          show OEndsW p e below s _ _ _ _ _ (T29.setTop (mkF m 311 #[.val (.int p0), .val (.long p1), .second, .val (.int p2), .val (.int p3), .val (.int ((p0 &&& (2147483647 : Int32)) % (4 : Int32))), .val (.ref x), .val (.int (Int32.ofNat kn)), .val (.ref ba), .val (.ref b11), .unset] [(.ref a_NUMBER)]))
                          refine OEndsW.via (fun _ k => XS.astore X29.here hx rfl (hb hby at_311) rfl rfl (l' := #[.val (.int p0), .val (.long p1), .second, .val (.int p2), .val (.int p3), .val (.int ((p0 &&& (2147483647 : Int32)) % (4 : Int32))), .val (.ref x), .val (.int (Int32.ofNat kn)), .val (.ref ba), .val (.ref b11), .val (.ref a_NUMBER)]) rfl k) ?_
                          show OEndsW p e below s _ _ _ _ _ (T29.setTop (mkF m 313 #[.val (.int p0), .val (.long p1), .second, .val (.int p2), .val (.int p3), .val (.int ((p0 &&& (2147483647 : Int32)) % (4 : Int32))), .val (.ref x), .val (.int (Int32.ofNat kn)), .val (.ref ba), .val (.ref b11), .val (.ref a_NUMBER)] []))
                          refine OEndsW.via (fun _ k => XS.goto X29.here hx rfl (pc0 := 313) (pc' := 355) rfl (hb hby at_313) (by decide) (by decide) k) ?_
                          show OEndsW p e below s _ _ _ _ _ (T29.setTop (mkF m 355 #[.val (.int p0), .val (.long p1), .second, .val (.int p2), .val (.int p3), .val (.int ((p0 &&& (2147483647 : Int32)) % (4 : Int32))), .val (.ref x), .val (.int (Int32.ofNat kn)), .val (.ref ba), .val (.ref b11), .val (.ref a_NUMBER)] []))
                          refine OEndsW.via (fun _ k => XS.aload X29.here hx rfl (hb hby at_355) rfl rfl k) ?_
                          show OEndsW p e below s _ _ _ _ _ (T29.setTop (mkF m 357 #[.val (.int p0), .val (.long p1), .second, .val (.int p2), .val (.int p3), .val (.int ((p0 &&& (2147483647 : Int32)) % (4 : Int32))), .val (.ref x), .val (.int (Int32.ofNat kn)), .val (.ref ba), .val (.ref b11), .val (.ref a_NUMBER)] [(.ref b11)]))
                          obtain ⟨_, _, ⟨T30, L30, k30, n30⟩, -, X30, ⟨Lc30, hQ30, l30, y30, z30⟩, st30⟩ := Jvm.LawKit.callS X29 hx (y := (⟨"com/example/odds3/odds3/engine/ValueType", "named", "(Ljava/lang/String;)Lcom/example/odds3/odds3/engine/ValueType;"⟩ : MethodName)) hown (mvT hZ (hw _ (List.mem_of_getElem? (i := 84) rfl))) (mvT hZ (hw _ (List.mem_of_getElem? (i := 85) rfl))) (mvT hZ (hw _ (List.mem_of_getElem? (i := 86) rfl))) (mvT hZ (hw _ (List.mem_of_getElem? (i := 87) rfl))) (by decide) (backOf (W := 0) (rmN l Z a0 hw [] b11 t_b11 _ _ _ _ ys a_NUMBER a_BOOLEAN a_STRING t_NUMBER t_BOOLEAN t_STRING tv_NUMBER tv_BOOLEAN tv_STRING kt_NUMBER kt_BOOLEAN kt_STRING va kA G1 (.ref a_NUMBER) h27 n0 Od E_b11 V_b11 C_b11 K_b11 hcd_b11 hbd_b11 (by rw [hyl]; exact Nat.le_trans hkn (by decide)) S_CS nz_CS S_V AV EV Et_NUMBER Vt_NUMBER Ct_NUMBER Kt_NUMBER Ft_NUMBER Et_BOOLEAN Vt_BOOLEAN Ct_BOOLEAN Kt_BOOLEAN Ft_BOOLEAN Et_STRING Vt_STRING Ct_STRING Kt_STRING Ft_STRING (by simp only [own_named, if_pos hq28.symm])) hZ (hw _ (List.mem_of_getElem? (i := 87) rfl)) (hw _ (List.mem_of_getElem? (i := 86) rfl)) (by decide) (by decide)) (g := (mkF m 357 #[.val (.int p0), .val (.long p1), .second, .val (.int p2), .val (.int p3), .val (.int ((p0 &&& (2147483647 : Int32)) % (4 : Int32))), .val (.ref x), .val (.int (Int32.ofNat kn)), .val (.ref ba), .val (.ref b11), .val (.ref a_NUMBER)] [(.ref b11)])) rfl (by rw [hml]; rfl) (argsL := [(.ref b11)]) (rest := []) (lenOf pd_28Ljava2flang2fString3b29Lcom2fexample2fodds32fodds32fengine2fValueType3b rfl) rfl (by show 2 * 0 + _ ≤ _; exact Nat.le_of_eq rfl) (hb hby at_357) (fun _ _ => ⟨rfl, e29, Nat.le_of_ble_eq_true rfl, Nat.le_of_ble_eq_true rfl⟩)
                          dsimp only [Pt.U, Pt.locs, Pt.cells, Pt.slots] at X30 l30 y30 z30 st30 hQ30
                          subst l30 y30 z30
                          obtain ⟨rfl, N30q, K30⟩ := hQ30
                          have N30 := Fr.app N28 N30q
                          have sfk30 : ∀ x ∈ ([] : List Addr), Safe Z consts_1 T27.vm h27 x := all0
                          replace hk := Nat.le_trans hk K30.1
                          replace Od := Od.keep K30 all0
                          replace Ex := Ex.keep K30
                          replace Vx := Vx.keep K30 nin0
                          replace Cx := Cx.keep K30 nin0
                          replace Kx := Kx.keep K30 nin0
                          replace V_ba := V_ba.keep K30 nin0
                          replace sf_b11 := Safe.keep K30 sfk30 CR.1 sf_b11
                          replace E_b11 := E_b11.keep K30
                          replace C_b11 := C_b11.keep K30 nin0
                          replace V_b11 := V_b11.keep K30 nin0
                          replace K_b11 := K_b11.keep K30 nin0
                          replace E_q27 := E_q27.keep K30
                          replace C_q27 := C_q27.keep K30 nin0
                          replace V_q27 := V_q27.keep K30 nin0
                          replace K_q27 := K_q27.keep K30 nin0
                          replace CR := CR.trans (CHr.keep K30 sfk30 CR.1)
                          refine OEndsW.via (fun _ k => st30 _ k) ?_
                          show OEndsW p e below s _ _ _ _ _ (T30.setTop (mkF m 360 #[.val (.int p0), .val (.long p1), .second, .val (.int p2), .val (.int p3), .val (.int ((p0 &&& (2147483647 : Int32)) % (4 : Int32))), .val (.ref x), .val (.int (Int32.ofNat kn)), .val (.ref ba), .val (.ref b11), .val (.ref a_NUMBER)] [(.ref a_NUMBER)]))
                          refine OEndsW.via (fun _ k => XS.aload X30.here hx rfl (hb hby at_360) rfl rfl k) ?_
                          show OEndsW p e below s _ _ _ _ _ (T30.setTop (mkF m 362 #[.val (.int p0), .val (.long p1), .second, .val (.int p2), .val (.int p3), .val (.int ((p0 &&& (2147483647 : Int32)) % (4 : Int32))), .val (.ref x), .val (.int (Int32.ofNat kn)), .val (.ref ba), .val (.ref b11), .val (.ref a_NUMBER)] [(.ref a_NUMBER), (.ref a_NUMBER)]))
                          refine OEndsW.via (fun _ k => Jvm.RoadKit.acmp (g := (mkF m 362 #[.val (.int p0), .val (.long p1), .second, .val (.int p2), .val (.int p3), .val (.int ((p0 &&& (2147483647 : Int32)) % (4 : Int32))), .val (.ref x), .val (.int (Int32.ofNat kn)), .val (.ref ba), .val (.ref b11), .val (.ref a_NUMBER)] [(.ref a_NUMBER), (.ref a_NUMBER)])) X30 hx rfl rfl rfl (pc0 := 362) (pc' := 365) (same := true) rfl (hb hby at_362) rfl (decide_eq_true rfl) (by decide) (by decide) k) ?_
                          show OEndsW p e below s _ _ _ _ _ (T30.setTop (mkF m 365 #[.val (.int p0), .val (.long p1), .second, .val (.int p2), .val (.int p3), .val (.int ((p0 &&& (2147483647 : Int32)) % (4 : Int32))), .val (.ref x), .val (.int (Int32.ofNat kn)), .val (.ref ba), .val (.ref b11), .val (.ref a_NUMBER)] []))
                          refine OEndsW.via (fun _ k => XS.iconst X30.here hx rfl (hb hby at_365) k) ?_
                          show OEndsW p e below s _ _ _ _ _ (T30.setTop (mkF m 366 #[.val (.int p0), .val (.long p1), .second, .val (.int p2), .val (.int p3), .val (.int ((p0 &&& (2147483647 : Int32)) % (4 : Int32))), .val (.ref x), .val (.int (Int32.ofNat kn)), .val (.ref ba), .val (.ref b11), .val (.ref a_NUMBER)] [(.int (1 : Int32))]))
                          refine OEndsW.via (fun _ k => XS.goto X30.here hx rfl (pc0 := 366) (pc' := 370) rfl (hb hby at_366) (by decide) (by decide) k) ?_
                          show OEndsW p e below s _ _ _ _ _ (T30.setTop (mkF m 370 #[.val (.int p0), .val (.long p1), .second, .val (.int p2), .val (.int p3), .val (.int ((p0 &&& (2147483647 : Int32)) % (4 : Int32))), .val (.ref x), .val (.int (Int32.ofNat kn)), .val (.ref ba), .val (.ref b11), .val (.ref a_NUMBER)] [(.int (1 : Int32))]))
                          refine OEndsW.retN X30 hx hlk hS hk hZ hEL rfl es CR (t := .boolean) Bd.returns (by simp) (hb hby at_370) ?_ (by decide) (by decide)
                          exact ⟨rfl, N30⟩
                        · skip
                          refine OEndsW.via (fun _ k => st28.trans k) ?_
                          show OEndsW p e below s _ _ _ _ _ (T28.setTop (mkF m 305 #[.val (.int p0), .val (.long p1), .second, .val (.int p2), .val (.int p3), .val (.int ((p0 &&& (2147483647 : Int32)) % (4 : Int32))), .val (.ref x), .val (.int (Int32.ofNat kn)), .val (.ref ba), .val (.ref b11), .unset] [(.int (0 : Int32))]))
                          refine OEndsW.via (fun _ k => XS.ifYes X28.here hx rfl (pc0 := 305) (pc' := 316) rfl (hb hby at_305) rfl ((if0 _ _).trans (teq (by decide : (0 : Int32) = (0 : Int32))).1) (by decide) (by decide) k) ?_
                          show OEndsW p e below s _ _ _ _ _ (T28.setTop (mkF m 316 #[.val (.int p0), .val (.long p1), .second, .val (.int p2), .val (.int p3), .val (.int ((p0 &&& (2147483647 : Int32)) % (4 : Int32))), .val (.ref x), .val (.int (Int32.ofNat kn)), .val (.ref ba), .val (.ref b11), .unset] []))
                          refine OEndsW.via (fun _ k => XS.aload X28.here hx rfl (hb hby at_316) rfl rfl k) ?_
                          show OEndsW p e below s _ _ _ _ _ (T28.setTop (mkF m 318 #[.val (.int p0), .val (.long p1), .second, .val (.int p2), .val (.int p3), .val (.int ((p0 &&& (2147483647 : Int32)) % (4 : Int32))), .val (.ref x), .val (.int (Int32.ofNat kn)), .val (.ref ba), .val (.ref b11), .unset] [(.ref b11)]))
                          obtain ⟨q31, T31, h31, k131, qv31, kq31, X31, e31, E31, hS31, hk31, hZ31, hown31, E_q31, C_q31, V_q31, K_q31, la31, lb31, CH31, Lt31, hsafe31, st31⟩ := ldcCH X28 hx hZ hown (hw _ (List.mem_of_getElem? (i := 82) rfl)) wS e28 hS hk hEL (by decide : ("com/example/odds3/odds3/engine/ValueTypeNamedPinLaw", 28) ∈ consts_1) CR.1 (vs := [(.int (98 : Int32)), (.int (111 : Int32)), (.int (111 : Int32)), (.int (108 : Int32)), (.int (101 : Int32)), (.int (97 : Int32)), (.int (110 : Int32))]) (z := (7 : Int32)) (by decide) (by decide) (by decide) (g := (mkF m 318 #[.val (.int p0), .val (.long p1), .second, .val (.int p2), .val (.int p3), .val (.int ((p0 &&& (2147483647 : Int32)) % (4 : Int32))), .val (.ref x), .val (.int (Int32.ofNat kn)), .val (.ref ba), .val (.ref b11), .unset] [(.ref b11)])) rfl (hb hby at_318) (n := 28) (by decide) (by decide) (by decide) (by decide)
                          replace sf_b11 := CH31.safe E_b11.lt sf_b11
                          have ne_b11_q31 := (hsafe31 _ sf_b11).1
                          have ne_b11_qv31 := (hsafe31 _ sf_b11).2
                          replace Od := Od.ext E31
                          replace Ex := Exa.ext E31 Ex
                          replace Vx := Fld.ext E31 Vx
                          replace Cx := Fld.ext E31 Cx
                          replace Kx := Kx.ext E31
                          replace V_ba := V_ba.ext E31
                          replace E_b11 := Exa.ext E31 E_b11
                          replace C_b11 := Fld.ext E31 C_b11
                          replace V_b11 := Fld.ext E31 V_b11
                          replace K_b11 := K_b11.ext E31
                          replace E_q27 := Exa.ext E31 E_q27
                          replace C_q27 := Fld.ext E31 C_q27
                          replace V_q27 := Fld.ext E31 V_q27
                          replace K_q27 := K_q27.ext E31
                          replace CR := CR.trans CH31
                          replace hS := hS31
                          replace hk := hk31
                          replace hZ := hZ31
                          replace hown := hown31
                          have hp_q31 : ∀ c ∈ ([(98 : Int32), (111 : Int32), (111 : Int32), (108 : Int32), (101 : Int32), (97 : Int32), (110 : Int32)] : List Int32), ¬ c < 0 ∧ ¬ (255 : Int32) < c := by decide
                          have hcd_q31 : StrChars.Road.CodA ([(98 : Int32), (111 : Int32), (111 : Int32), (108 : Int32), (101 : Int32), (97 : Int32), (110 : Int32)] : List Int32) 0 (7 : Int32) [(.int (98 : Int32)), (.int (111 : Int32)), (.int (111 : Int32)), (.int (108 : Int32)), (.int (101 : Int32)), (.int (97 : Int32)), (.int (110 : Int32))] := StrChars.Road.codOf (n := 7) rfl (fun c hc => (hp_q31 c hc).2)
                          have hbd_q31 := own_up _ hp_q31
                          refine OEndsW.via (fun _ k => st31 _ k) ?_
                          show OEndsW p e below s _ _ _ _ _ (T31.setTop (mkF m 320 #[.val (.int p0), .val (.long p1), .second, .val (.int p2), .val (.int p3), .val (.int ((p0 &&& (2147483647 : Int32)) % (4 : Int32))), .val (.ref x), .val (.int (Int32.ofNat kn)), .val (.ref ba), .val (.ref b11), .unset] [(.ref q31), (.ref b11)]))
                          obtain ⟨cq32, kq32, q32a, q32b, q32c⟩ := isOf hZ e31 E_b11
                          obtain ⟨_, _, ⟨T32, L32, k32, n32⟩, -, X32, ⟨Lc32, hQ32, l32, y32, z32⟩, st32⟩ := X31.virtualBack hx (y := (⟨"java/lang/String", "equals", "(Ljava/lang/Object;)Z"⟩ : MethodName)) (z := (⟨"java/lang/String", "equals", "(Ljava/lang/Object;)Z"⟩ : MethodName)) hown (mvT hZ (hw _ (List.mem_of_getElem? (i := 73) rfl))) (mvT hZ (hw _ (List.mem_of_getElem? (i := 74) rfl))) (notFace_of_selects (args := #[]) (mvT hZ (hw _ (List.mem_of_getElem? (i := 76) rfl)))) (mvT hZ (hw _ (List.mem_of_getElem? (i := 76) rfl))) (mvT hZ (hw _ (List.mem_of_getElem? (i := 75) rfl))) (by decide) (StrChars.Road.eqW (W := 0) hZ heq (kI := 4) (hw _ (List.mem_of_getElem? (i := 3) rfl)) E_b11 V_b11 C_b11 K_b11 hcd_b11 hbd_b11 (by rw [hyl]; exact Nat.le_trans hkn (by decide)) E_q31 V_q31 C_q31 K_q31 hcd_q31 hbd_q31 (by decide) (Sta.ext Od.2 S_CS) nz_CS (by decide) (by decide)) q32a q32c (g := (mkF m 320 #[.val (.int p0), .val (.long p1), .second, .val (.int p2), .val (.int p3), .val (.int ((p0 &&& (2147483647 : Int32)) % (4 : Int32))), .val (.ref x), .val (.int (Int32.ofNat kn)), .val (.ref ba), .val (.ref b11), .unset] [(.ref q31), (.ref b11)])) rfl (by rw [hml]; rfl) (Steps.refl _) (argsL := [(.ref q31)]) (rest := []) (lenOf pd_28Ljava2flang2fObject3b29Z rfl) rfl (by show 2 * 0 + _ ≤ _; exact Nat.le_of_eq rfl) (hb hby at_320) (fun _ _ => ⟨rfl, e31, Nat.le_of_ble_eq_true rfl, Nat.le_of_ble_eq_true rfl⟩)
                          dsimp only [Pt.U, Pt.locs, Pt.cells, Pt.slots] at X32 l32 y32 z32 st32 hQ32
                          subst l32 y32 z32
                          obtain ⟨hcase32, rfl, e32⟩ := hQ32
                          have N32 := Fr.app N28 (Fr.nil n0)
                          rcases hcase32 with ⟨rfl, hq32⟩ | ⟨rfl, hq32⟩
                          · skip
                            refine OEndsW.via (fun _ k => st32.trans k) ?_
                            show OEndsW p e below s _ _ _ _ _ (T32.setTop (mkF m 323 #[.val (.int p0), .val (.long p1), .second, .val (.int p2), .val (.int p3), .val (.int ((p0 &&& (2147483647 : Int32)) % (4 : Int32))), .val (.ref x), .val (.int (Int32.ofNat kn)), .val (.ref ba), .val (.ref b11), .unset] [(.int (1 : Int32))]))
                            refine OEndsW.via (fun _ k => XS.ifNo X32.here hx rfl (hb hby at_323) rfl ((if0 _ _).trans (feq (by decide : ¬ ((1 : Int32) = (0 : Int32)))).1) k) ?_
                            show OEndsW p e below s _ _ _ _ _ (T32.setTop (mkF m 326 #[.val (.int p0), .val (.long p1), .second, .val (.int p2), .val (.int p3), .val (.int ((p0 &&& (2147483647 : Int32)) % (4 : Int32))), .val (.ref x), .val (.int (Int32.ofNat kn)), .val (.ref ba), .val (.ref b11), .unset] []))
                            obtain ⟨T33, X33, e33, st33⟩ := getS2 X32 hx hZ hown (host := "") (Or.inl (hw _ (List.mem_of_getElem? (i := 114) rfl))) Via.refl e32 (Sta.ext Od.2 S_BOOLEAN) (g := (mkF m 326 #[.val (.int p0), .val (.long p1), .second, .val (.int p2), .val (.int p3), .val (.int ((p0 &&& (2147483647 : Int32)) % (4 : Int32))), .val (.ref x), .val (.int (Int32.ofNat kn)), .val (.ref ba), .val (.ref b11), .unset] [])) rfl (hb hby at_326)
                            refine OEndsW.via (fun _ k => st33 _ k) ?_
                            show OEndsW p e below s _ _ _ _ _ (T33.setTop (mkF m 329 #[.val (.int p0), .val (.long p1), .second, .val (.int p2), .val (.int p3), .val (.int ((p0 &&& (2147483647 : Int32)) % (4 : Int32))), .val (.ref x), .val (.int (Int32.ofNat kn)), .val (.ref ba), .val (.ref b11), .unset] [(.ref a_BOOLEAN)]))
                            refine OEndsW.via (fun _ k => XS.astore X33.here hx rfl (hb hby at_329) rfl rfl (l' := #[.val (.int p0), .val (.long p1), .second, .val (.int p2), .val (.int p3), .val (.int ((p0 &&& (2147483647 : Int32)) % (4 : Int32))), .val (.ref x), .val (.int (Int32.ofNat kn)), .val (.ref ba), .val (.ref b11), .val (.ref a_BOOLEAN)]) rfl k) ?_
                            show OEndsW p e below s _ _ _ _ _ (T33.setTop (mkF m 331 #[.val (.int p0), .val (.long p1), .second, .val (.int p2), .val (.int p3), .val (.int ((p0 &&& (2147483647 : Int32)) % (4 : Int32))), .val (.ref x), .val (.int (Int32.ofNat kn)), .val (.ref ba), .val (.ref b11), .val (.ref a_BOOLEAN)] []))
                            refine OEndsW.via (fun _ k => XS.goto X33.here hx rfl (pc0 := 331) (pc' := 355) rfl (hb hby at_331) (by decide) (by decide) k) ?_
                            show OEndsW p e below s _ _ _ _ _ (T33.setTop (mkF m 355 #[.val (.int p0), .val (.long p1), .second, .val (.int p2), .val (.int p3), .val (.int ((p0 &&& (2147483647 : Int32)) % (4 : Int32))), .val (.ref x), .val (.int (Int32.ofNat kn)), .val (.ref ba), .val (.ref b11), .val (.ref a_BOOLEAN)] []))
                            refine OEndsW.via (fun _ k => XS.aload X33.here hx rfl (hb hby at_355) rfl rfl k) ?_
                            show OEndsW p e below s _ _ _ _ _ (T33.setTop (mkF m 357 #[.val (.int p0), .val (.long p1), .second, .val (.int p2), .val (.int p3), .val (.int ((p0 &&& (2147483647 : Int32)) % (4 : Int32))), .val (.ref x), .val (.int (Int32.ofNat kn)), .val (.ref ba), .val (.ref b11), .val (.ref a_BOOLEAN)] [(.ref b11)]))
                            obtain ⟨_, _, ⟨T34, L34, k34, n34⟩, -, X34, ⟨Lc34, hQ34, l34, y34, z34⟩, st34⟩ := Jvm.LawKit.callS X33 hx (y := (⟨"com/example/odds3/odds3/engine/ValueType", "named", "(Ljava/lang/String;)Lcom/example/odds3/odds3/engine/ValueType;"⟩ : MethodName)) hown (mvT hZ (hw _ (List.mem_of_getElem? (i := 84) rfl))) (mvT hZ (hw _ (List.mem_of_getElem? (i := 85) rfl))) (mvT hZ (hw _ (List.mem_of_getElem? (i := 86) rfl))) (mvT hZ (hw _ (List.mem_of_getElem? (i := 87) rfl))) (by decide) (backOf (W := 0) (rmN l Z a0 hw [] b11 t_b11 _ _ _ _ ys a_NUMBER a_BOOLEAN a_STRING t_NUMBER t_BOOLEAN t_STRING tv_NUMBER tv_BOOLEAN tv_STRING kt_NUMBER kt_BOOLEAN kt_STRING va kA G1 (.ref a_BOOLEAN) h31 n0 Od E_b11 V_b11 C_b11 K_b11 hcd_b11 hbd_b11 (by rw [hyl]; exact Nat.le_trans hkn (by decide)) S_CS nz_CS S_V AV EV Et_NUMBER Vt_NUMBER Ct_NUMBER Kt_NUMBER Ft_NUMBER Et_BOOLEAN Vt_BOOLEAN Ct_BOOLEAN Kt_BOOLEAN Ft_BOOLEAN Et_STRING Vt_STRING Ct_STRING Kt_STRING Ft_STRING (by simp only [own_named, if_neg (Ne.symm hq28), if_pos hq32.symm])) hZ (hw _ (List.mem_of_getElem? (i := 87) rfl)) (hw _ (List.mem_of_getElem? (i := 86) rfl)) (by decide) (by decide)) (g := (mkF m 357 #[.val (.int p0), .val (.long p1), .second, .val (.int p2), .val (.int p3), .val (.int ((p0 &&& (2147483647 : Int32)) % (4 : Int32))), .val (.ref x), .val (.int (Int32.ofNat kn)), .val (.ref ba), .val (.ref b11), .val (.ref a_BOOLEAN)] [(.ref b11)])) rfl (by rw [hml]; rfl) (argsL := [(.ref b11)]) (rest := []) (lenOf pd_28Ljava2flang2fString3b29Lcom2fexample2fodds32fodds32fengine2fValueType3b rfl) rfl (by show 2 * 0 + _ ≤ _; exact Nat.le_of_eq rfl) (hb hby at_357) (fun _ _ => ⟨rfl, e33, Nat.le_of_ble_eq_true rfl, Nat.le_of_ble_eq_true rfl⟩)
                            dsimp only [Pt.U, Pt.locs, Pt.cells, Pt.slots] at X34 l34 y34 z34 st34 hQ34
                            subst l34 y34 z34
                            obtain ⟨rfl, N34q, K34⟩ := hQ34
                            have N34 := Fr.app N32 N34q
                            have sfk34 : ∀ x ∈ ([] : List Addr), Safe Z consts_1 T31.vm h31 x := all0
                            replace hk := Nat.le_trans hk K34.1
                            replace Od := Od.keep K34 all0
                            replace Ex := Ex.keep K34
                            replace Vx := Vx.keep K34 nin0
                            replace Cx := Cx.keep K34 nin0
                            replace Kx := Kx.keep K34 nin0
                            replace V_ba := V_ba.keep K34 nin0
                            replace sf_b11 := Safe.keep K34 sfk34 CR.1 sf_b11
                            replace E_b11 := E_b11.keep K34
                            replace C_b11 := C_b11.keep K34 nin0
                            replace V_b11 := V_b11.keep K34 nin0
                            replace K_b11 := K_b11.keep K34 nin0
                            replace E_q27 := E_q27.keep K34
                            replace C_q27 := C_q27.keep K34 nin0
                            replace V_q27 := V_q27.keep K34 nin0
                            replace K_q27 := K_q27.keep K34 nin0
                            replace E_q31 := E_q31.keep K34
                            replace C_q31 := C_q31.keep K34 nin0
                            replace V_q31 := V_q31.keep K34 nin0
                            replace K_q31 := K_q31.keep K34 nin0
                            replace CR := CR.trans (CHr.keep K34 sfk34 CR.1)
                            refine OEndsW.via (fun _ k => st34 _ k) ?_
                            show OEndsW p e below s _ _ _ _ _ (T34.setTop (mkF m 360 #[.val (.int p0), .val (.long p1), .second, .val (.int p2), .val (.int p3), .val (.int ((p0 &&& (2147483647 : Int32)) % (4 : Int32))), .val (.ref x), .val (.int (Int32.ofNat kn)), .val (.ref ba), .val (.ref b11), .val (.ref a_BOOLEAN)] [(.ref a_BOOLEAN)]))
                            refine OEndsW.via (fun _ k => XS.aload X34.here hx rfl (hb hby at_360) rfl rfl k) ?_
                            show OEndsW p e below s _ _ _ _ _ (T34.setTop (mkF m 362 #[.val (.int p0), .val (.long p1), .second, .val (.int p2), .val (.int p3), .val (.int ((p0 &&& (2147483647 : Int32)) % (4 : Int32))), .val (.ref x), .val (.int (Int32.ofNat kn)), .val (.ref ba), .val (.ref b11), .val (.ref a_BOOLEAN)] [(.ref a_BOOLEAN), (.ref a_BOOLEAN)]))
                            refine OEndsW.via (fun _ k => Jvm.RoadKit.acmp (g := (mkF m 362 #[.val (.int p0), .val (.long p1), .second, .val (.int p2), .val (.int p3), .val (.int ((p0 &&& (2147483647 : Int32)) % (4 : Int32))), .val (.ref x), .val (.int (Int32.ofNat kn)), .val (.ref ba), .val (.ref b11), .val (.ref a_BOOLEAN)] [(.ref a_BOOLEAN), (.ref a_BOOLEAN)])) X34 hx rfl rfl rfl (pc0 := 362) (pc' := 365) (same := true) rfl (hb hby at_362) rfl (decide_eq_true rfl) (by decide) (by decide) k) ?_
                            show OEndsW p e below s _ _ _ _ _ (T34.setTop (mkF m 365 #[.val (.int p0), .val (.long p1), .second, .val (.int p2), .val (.int p3), .val (.int ((p0 &&& (2147483647 : Int32)) % (4 : Int32))), .val (.ref x), .val (.int (Int32.ofNat kn)), .val (.ref ba), .val (.ref b11), .val (.ref a_BOOLEAN)] []))
                            refine OEndsW.via (fun _ k => XS.iconst X34.here hx rfl (hb hby at_365) k) ?_
                            show OEndsW p e below s _ _ _ _ _ (T34.setTop (mkF m 366 #[.val (.int p0), .val (.long p1), .second, .val (.int p2), .val (.int p3), .val (.int ((p0 &&& (2147483647 : Int32)) % (4 : Int32))), .val (.ref x), .val (.int (Int32.ofNat kn)), .val (.ref ba), .val (.ref b11), .val (.ref a_BOOLEAN)] [(.int (1 : Int32))]))
                            refine OEndsW.via (fun _ k => XS.goto X34.here hx rfl (pc0 := 366) (pc' := 370) rfl (hb hby at_366) (by decide) (by decide) k) ?_
                            show OEndsW p e below s _ _ _ _ _ (T34.setTop (mkF m 370 #[.val (.int p0), .val (.long p1), .second, .val (.int p2), .val (.int p3), .val (.int ((p0 &&& (2147483647 : Int32)) % (4 : Int32))), .val (.ref x), .val (.int (Int32.ofNat kn)), .val (.ref ba), .val (.ref b11), .val (.ref a_BOOLEAN)] [(.int (1 : Int32))]))
                            refine OEndsW.retN X34 hx hlk hS hk hZ hEL rfl es CR (t := .boolean) Bd.returns (by simp) (hb hby at_370) ?_ (by decide) (by decide)
                            exact ⟨rfl, N34⟩
                          · skip
                            refine OEndsW.via (fun _ k => st32.trans k) ?_
                            show OEndsW p e below s _ _ _ _ _ (T32.setTop (mkF m 323 #[.val (.int p0), .val (.long p1), .second, .val (.int p2), .val (.int p3), .val (.int ((p0 &&& (2147483647 : Int32)) % (4 : Int32))), .val (.ref x), .val (.int (Int32.ofNat kn)), .val (.ref ba), .val (.ref b11), .unset] [(.int (0 : Int32))]))
                            refine OEndsW.via (fun _ k => XS.ifYes X32.here hx rfl (pc0 := 323) (pc' := 334) rfl (hb hby at_323) rfl ((if0 _ _).trans (teq (by decide : (0 : Int32) = (0 : Int32))).1) (by decide) (by decide) k) ?_
                            show OEndsW p e below s _ _ _ _ _ (T32.setTop (mkF m 334 #[.val (.int p0), .val (.long p1), .second, .val (.int p2), .val (.int p3), .val (.int ((p0 &&& (2147483647 : Int32)) % (4 : Int32))), .val (.ref x), .val (.int (Int32.ofNat kn)), .val (.ref ba), .val (.ref b11), .unset] []))
                            refine OEndsW.via (fun _ k => XS.aload X32.here hx rfl (hb hby at_334) rfl rfl k) ?_
                            show OEndsW p e below s _ _ _ _ _ (T32.setTop (mkF m 336 #[.val (.int p0), .val (.long p1), .second, .val (.int p2), .val (.int p3), .val (.int ((p0 &&& (2147483647 : Int32)) % (4 : Int32))), .val (.ref x), .val (.int (Int32.ofNat kn)), .val (.ref ba), .val (.ref b11), .unset] [(.ref b11)]))
                            obtain ⟨q35, T35, h35, k135, qv35, kq35, X35, e35, E35, hS35, hk35, hZ35, hown35, E_q35, C_q35, V_q35, K_q35, la35, lb35, CH35, Lt35, hsafe35, st35⟩ := ldcCH X32 hx hZ hown (hw _ (List.mem_of_getElem? (i := 83) rfl)) wS e32 hS hk hEL (by decide : ("com/example/odds3/odds3/engine/ValueTypeNamedPinLaw", 30) ∈ consts_1) CR.1 (vs := [(.int (115 : Int32)), (.int (116 : Int32)), (.int (114 : Int32)), (.int (105 : Int32)), (.int (110 : Int32)), (.int (103 : Int32))]) (z := (6 : Int32)) (by decide) (by decide) (by decide) (g := (mkF m 336 #[.val (.int p0), .val (.long p1), .second, .val (.int p2), .val (.int p3), .val (.int ((p0 &&& (2147483647 : Int32)) % (4 : Int32))), .val (.ref x), .val (.int (Int32.ofNat kn)), .val (.ref ba), .val (.ref b11), .unset] [(.ref b11)])) rfl (hb hby at_336) (n := 24) (by decide) (by decide) (by decide) (by decide)
                            replace sf_b11 := CH35.safe E_b11.lt sf_b11
                            have ne_b11_q35 := (hsafe35 _ sf_b11).1
                            have ne_b11_qv35 := (hsafe35 _ sf_b11).2
                            replace Od := Od.ext E35
                            replace Ex := Exa.ext E35 Ex
                            replace Vx := Fld.ext E35 Vx
                            replace Cx := Fld.ext E35 Cx
                            replace Kx := Kx.ext E35
                            replace V_ba := V_ba.ext E35
                            replace E_b11 := Exa.ext E35 E_b11
                            replace C_b11 := Fld.ext E35 C_b11
                            replace V_b11 := Fld.ext E35 V_b11
                            replace K_b11 := K_b11.ext E35
                            replace E_q27 := Exa.ext E35 E_q27
                            replace C_q27 := Fld.ext E35 C_q27
                            replace V_q27 := Fld.ext E35 V_q27
                            replace K_q27 := K_q27.ext E35
                            replace E_q31 := Exa.ext E35 E_q31
                            replace C_q31 := Fld.ext E35 C_q31
                            replace V_q31 := Fld.ext E35 V_q31
                            replace K_q31 := K_q31.ext E35
                            replace CR := CR.trans CH35
                            replace hS := hS35
                            replace hk := hk35
                            replace hZ := hZ35
                            replace hown := hown35
                            have hp_q35 : ∀ c ∈ ([(115 : Int32), (116 : Int32), (114 : Int32), (105 : Int32), (110 : Int32), (103 : Int32)] : List Int32), ¬ c < 0 ∧ ¬ (255 : Int32) < c := by decide
                            have hcd_q35 : StrChars.Road.CodA ([(115 : Int32), (116 : Int32), (114 : Int32), (105 : Int32), (110 : Int32), (103 : Int32)] : List Int32) 0 (6 : Int32) [(.int (115 : Int32)), (.int (116 : Int32)), (.int (114 : Int32)), (.int (105 : Int32)), (.int (110 : Int32)), (.int (103 : Int32))] := StrChars.Road.codOf (n := 6) rfl (fun c hc => (hp_q35 c hc).2)
                            have hbd_q35 := own_up _ hp_q35
                            refine OEndsW.via (fun _ k => st35 _ k) ?_
                            show OEndsW p e below s _ _ _ _ _ (T35.setTop (mkF m 338 #[.val (.int p0), .val (.long p1), .second, .val (.int p2), .val (.int p3), .val (.int ((p0 &&& (2147483647 : Int32)) % (4 : Int32))), .val (.ref x), .val (.int (Int32.ofNat kn)), .val (.ref ba), .val (.ref b11), .unset] [(.ref q35), (.ref b11)]))
                            obtain ⟨cq36, kq36, q36a, q36b, q36c⟩ := isOf hZ e35 E_b11
                            obtain ⟨_, _, ⟨T36, L36, k36, n36⟩, -, X36, ⟨Lc36, hQ36, l36, y36, z36⟩, st36⟩ := X35.virtualBack hx (y := (⟨"java/lang/String", "equals", "(Ljava/lang/Object;)Z"⟩ : MethodName)) (z := (⟨"java/lang/String", "equals", "(Ljava/lang/Object;)Z"⟩ : MethodName)) hown (mvT hZ (hw _ (List.mem_of_getElem? (i := 73) rfl))) (mvT hZ (hw _ (List.mem_of_getElem? (i := 74) rfl))) (notFace_of_selects (args := #[]) (mvT hZ (hw _ (List.mem_of_getElem? (i := 76) rfl)))) (mvT hZ (hw _ (List.mem_of_getElem? (i := 76) rfl))) (mvT hZ (hw _ (List.mem_of_getElem? (i := 75) rfl))) (by decide) (StrChars.Road.eqW (W := 0) hZ heq (kI := 4) (hw _ (List.mem_of_getElem? (i := 3) rfl)) E_b11 V_b11 C_b11 K_b11 hcd_b11 hbd_b11 (by rw [hyl]; exact Nat.le_trans hkn (by decide)) E_q35 V_q35 C_q35 K_q35 hcd_q35 hbd_q35 (by decide) (Sta.ext Od.2 S_CS) nz_CS (by decide) (by decide)) q36a q36c (g := (mkF m 338 #[.val (.int p0), .val (.long p1), .second, .val (.int p2), .val (.int p3), .val (.int ((p0 &&& (2147483647 : Int32)) % (4 : Int32))), .val (.ref x), .val (.int (Int32.ofNat kn)), .val (.ref ba), .val (.ref b11), .unset] [(.ref q35), (.ref b11)])) rfl (by rw [hml]; rfl) (Steps.refl _) (argsL := [(.ref q35)]) (rest := []) (lenOf pd_28Ljava2flang2fObject3b29Z rfl) rfl (by show 2 * 0 + _ ≤ _; exact Nat.le_of_eq rfl) (hb hby at_338) (fun _ _ => ⟨rfl, e35, Nat.le_of_ble_eq_true rfl, Nat.le_of_ble_eq_true rfl⟩)
                            dsimp only [Pt.U, Pt.locs, Pt.cells, Pt.slots] at X36 l36 y36 z36 st36 hQ36
                            subst l36 y36 z36
                            obtain ⟨hcase36, rfl, e36⟩ := hQ36
                            have N36 := Fr.app N32 (Fr.nil n0)
                            rcases hcase36 with ⟨rfl, hq36⟩ | ⟨rfl, hq36⟩
                            · skip
                              refine OEndsW.via (fun _ k => st36.trans k) ?_
                              show OEndsW p e below s _ _ _ _ _ (T36.setTop (mkF m 341 #[.val (.int p0), .val (.long p1), .second, .val (.int p2), .val (.int p3), .val (.int ((p0 &&& (2147483647 : Int32)) % (4 : Int32))), .val (.ref x), .val (.int (Int32.ofNat kn)), .val (.ref ba), .val (.ref b11), .unset] [(.int (1 : Int32))]))
                              refine OEndsW.via (fun _ k => XS.ifNo X36.here hx rfl (hb hby at_341) rfl ((if0 _ _).trans (feq (by decide : ¬ ((1 : Int32) = (0 : Int32)))).1) k) ?_
                              show OEndsW p e below s _ _ _ _ _ (T36.setTop (mkF m 344 #[.val (.int p0), .val (.long p1), .second, .val (.int p2), .val (.int p3), .val (.int ((p0 &&& (2147483647 : Int32)) % (4 : Int32))), .val (.ref x), .val (.int (Int32.ofNat kn)), .val (.ref ba), .val (.ref b11), .unset] []))
                              obtain ⟨T37, X37, e37, st37⟩ := getS2 X36 hx hZ hown (host := "") (Or.inl (hw _ (List.mem_of_getElem? (i := 113) rfl))) Via.refl e36 (Sta.ext Od.2 S_STRING) (g := (mkF m 344 #[.val (.int p0), .val (.long p1), .second, .val (.int p2), .val (.int p3), .val (.int ((p0 &&& (2147483647 : Int32)) % (4 : Int32))), .val (.ref x), .val (.int (Int32.ofNat kn)), .val (.ref ba), .val (.ref b11), .unset] [])) rfl (hb hby at_344)
                              refine OEndsW.via (fun _ k => st37 _ k) ?_
                              show OEndsW p e below s _ _ _ _ _ (T37.setTop (mkF m 347 #[.val (.int p0), .val (.long p1), .second, .val (.int p2), .val (.int p3), .val (.int ((p0 &&& (2147483647 : Int32)) % (4 : Int32))), .val (.ref x), .val (.int (Int32.ofNat kn)), .val (.ref ba), .val (.ref b11), .unset] [(.ref a_STRING)]))
                              refine OEndsW.via (fun _ k => XS.astore X37.here hx rfl (hb hby at_347) rfl rfl (l' := #[.val (.int p0), .val (.long p1), .second, .val (.int p2), .val (.int p3), .val (.int ((p0 &&& (2147483647 : Int32)) % (4 : Int32))), .val (.ref x), .val (.int (Int32.ofNat kn)), .val (.ref ba), .val (.ref b11), .val (.ref a_STRING)]) rfl k) ?_
                              show OEndsW p e below s _ _ _ _ _ (T37.setTop (mkF m 349 #[.val (.int p0), .val (.long p1), .second, .val (.int p2), .val (.int p3), .val (.int ((p0 &&& (2147483647 : Int32)) % (4 : Int32))), .val (.ref x), .val (.int (Int32.ofNat kn)), .val (.ref ba), .val (.ref b11), .val (.ref a_STRING)] []))
                              refine OEndsW.via (fun _ k => XS.goto X37.here hx rfl (pc0 := 349) (pc' := 355) rfl (hb hby at_349) (by decide) (by decide) k) ?_
                              show OEndsW p e below s _ _ _ _ _ (T37.setTop (mkF m 355 #[.val (.int p0), .val (.long p1), .second, .val (.int p2), .val (.int p3), .val (.int ((p0 &&& (2147483647 : Int32)) % (4 : Int32))), .val (.ref x), .val (.int (Int32.ofNat kn)), .val (.ref ba), .val (.ref b11), .val (.ref a_STRING)] []))
                              refine OEndsW.via (fun _ k => XS.aload X37.here hx rfl (hb hby at_355) rfl rfl k) ?_
                              show OEndsW p e below s _ _ _ _ _ (T37.setTop (mkF m 357 #[.val (.int p0), .val (.long p1), .second, .val (.int p2), .val (.int p3), .val (.int ((p0 &&& (2147483647 : Int32)) % (4 : Int32))), .val (.ref x), .val (.int (Int32.ofNat kn)), .val (.ref ba), .val (.ref b11), .val (.ref a_STRING)] [(.ref b11)]))
                              obtain ⟨_, _, ⟨T38, L38, k38, n38⟩, -, X38, ⟨Lc38, hQ38, l38, y38, z38⟩, st38⟩ := Jvm.LawKit.callS X37 hx (y := (⟨"com/example/odds3/odds3/engine/ValueType", "named", "(Ljava/lang/String;)Lcom/example/odds3/odds3/engine/ValueType;"⟩ : MethodName)) hown (mvT hZ (hw _ (List.mem_of_getElem? (i := 84) rfl))) (mvT hZ (hw _ (List.mem_of_getElem? (i := 85) rfl))) (mvT hZ (hw _ (List.mem_of_getElem? (i := 86) rfl))) (mvT hZ (hw _ (List.mem_of_getElem? (i := 87) rfl))) (by decide) (backOf (W := 0) (rmN l Z a0 hw [] b11 t_b11 _ _ _ _ ys a_NUMBER a_BOOLEAN a_STRING t_NUMBER t_BOOLEAN t_STRING tv_NUMBER tv_BOOLEAN tv_STRING kt_NUMBER kt_BOOLEAN kt_STRING va kA G1 (.ref a_STRING) h35 n0 Od E_b11 V_b11 C_b11 K_b11 hcd_b11 hbd_b11 (by rw [hyl]; exact Nat.le_trans hkn (by decide)) S_CS nz_CS S_V AV EV Et_NUMBER Vt_NUMBER Ct_NUMBER Kt_NUMBER Ft_NUMBER Et_BOOLEAN Vt_BOOLEAN Ct_BOOLEAN Kt_BOOLEAN Ft_BOOLEAN Et_STRING Vt_STRING Ct_STRING Kt_STRING Ft_STRING (by simp only [own_named, if_neg (Ne.symm hq28), if_neg (Ne.symm hq32), if_pos hq36.symm])) hZ (hw _ (List.mem_of_getElem? (i := 87) rfl)) (hw _ (List.mem_of_getElem? (i := 86) rfl)) (by decide) (by decide)) (g := (mkF m 357 #[.val (.int p0), .val (.long p1), .second, .val (.int p2), .val (.int p3), .val (.int ((p0 &&& (2147483647 : Int32)) % (4 : Int32))), .val (.ref x), .val (.int (Int32.ofNat kn)), .val (.ref ba), .val (.ref b11), .val (.ref a_STRING)] [(.ref b11)])) rfl (by rw [hml]; rfl) (argsL := [(.ref b11)]) (rest := []) (lenOf pd_28Ljava2flang2fString3b29Lcom2fexample2fodds32fodds32fengine2fValueType3b rfl) rfl (by show 2 * 0 + _ ≤ _; exact Nat.le_of_eq rfl) (hb hby at_357) (fun _ _ => ⟨rfl, e37, Nat.le_of_ble_eq_true rfl, Nat.le_of_ble_eq_true rfl⟩)
                              dsimp only [Pt.U, Pt.locs, Pt.cells, Pt.slots] at X38 l38 y38 z38 st38 hQ38
                              subst l38 y38 z38
                              obtain ⟨rfl, N38q, K38⟩ := hQ38
                              have N38 := Fr.app N36 N38q
                              have sfk38 : ∀ x ∈ ([] : List Addr), Safe Z consts_1 T35.vm h35 x := all0
                              replace hk := Nat.le_trans hk K38.1
                              replace Od := Od.keep K38 all0
                              replace Ex := Ex.keep K38
                              replace Vx := Vx.keep K38 nin0
                              replace Cx := Cx.keep K38 nin0
                              replace Kx := Kx.keep K38 nin0
                              replace V_ba := V_ba.keep K38 nin0
                              replace sf_b11 := Safe.keep K38 sfk38 CR.1 sf_b11
                              replace E_b11 := E_b11.keep K38
                              replace C_b11 := C_b11.keep K38 nin0
                              replace V_b11 := V_b11.keep K38 nin0
                              replace K_b11 := K_b11.keep K38 nin0
                              replace E_q27 := E_q27.keep K38
                              replace C_q27 := C_q27.keep K38 nin0
                              replace V_q27 := V_q27.keep K38 nin0
                              replace K_q27 := K_q27.keep K38 nin0
                              replace E_q31 := E_q31.keep K38
                              replace C_q31 := C_q31.keep K38 nin0
                              replace V_q31 := V_q31.keep K38 nin0
                              replace K_q31 := K_q31.keep K38 nin0
                              replace E_q35 := E_q35.keep K38
                              replace C_q35 := C_q35.keep K38 nin0
                              replace V_q35 := V_q35.keep K38 nin0
                              replace K_q35 := K_q35.keep K38 nin0
                              replace CR := CR.trans (CHr.keep K38 sfk38 CR.1)
                              refine OEndsW.via (fun _ k => st38 _ k) ?_
                              show OEndsW p e below s _ _ _ _ _ (T38.setTop (mkF m 360 #[.val (.int p0), .val (.long p1), .second, .val (.int p2), .val (.int p3), .val (.int ((p0 &&& (2147483647 : Int32)) % (4 : Int32))), .val (.ref x), .val (.int (Int32.ofNat kn)), .val (.ref ba), .val (.ref b11), .val (.ref a_STRING)] [(.ref a_STRING)]))
                              refine OEndsW.via (fun _ k => XS.aload X38.here hx rfl (hb hby at_360) rfl rfl k) ?_
                              show OEndsW p e below s _ _ _ _ _ (T38.setTop (mkF m 362 #[.val (.int p0), .val (.long p1), .second, .val (.int p2), .val (.int p3), .val (.int ((p0 &&& (2147483647 : Int32)) % (4 : Int32))), .val (.ref x), .val (.int (Int32.ofNat kn)), .val (.ref ba), .val (.ref b11), .val (.ref a_STRING)] [(.ref a_STRING), (.ref a_STRING)]))
                              refine OEndsW.via (fun _ k => Jvm.RoadKit.acmp (g := (mkF m 362 #[.val (.int p0), .val (.long p1), .second, .val (.int p2), .val (.int p3), .val (.int ((p0 &&& (2147483647 : Int32)) % (4 : Int32))), .val (.ref x), .val (.int (Int32.ofNat kn)), .val (.ref ba), .val (.ref b11), .val (.ref a_STRING)] [(.ref a_STRING), (.ref a_STRING)])) X38 hx rfl rfl rfl (pc0 := 362) (pc' := 365) (same := true) rfl (hb hby at_362) rfl (decide_eq_true rfl) (by decide) (by decide) k) ?_
                              show OEndsW p e below s _ _ _ _ _ (T38.setTop (mkF m 365 #[.val (.int p0), .val (.long p1), .second, .val (.int p2), .val (.int p3), .val (.int ((p0 &&& (2147483647 : Int32)) % (4 : Int32))), .val (.ref x), .val (.int (Int32.ofNat kn)), .val (.ref ba), .val (.ref b11), .val (.ref a_STRING)] []))
                              refine OEndsW.via (fun _ k => XS.iconst X38.here hx rfl (hb hby at_365) k) ?_
                              show OEndsW p e below s _ _ _ _ _ (T38.setTop (mkF m 366 #[.val (.int p0), .val (.long p1), .second, .val (.int p2), .val (.int p3), .val (.int ((p0 &&& (2147483647 : Int32)) % (4 : Int32))), .val (.ref x), .val (.int (Int32.ofNat kn)), .val (.ref ba), .val (.ref b11), .val (.ref a_STRING)] [(.int (1 : Int32))]))
                              refine OEndsW.via (fun _ k => XS.goto X38.here hx rfl (pc0 := 366) (pc' := 370) rfl (hb hby at_366) (by decide) (by decide) k) ?_
                              show OEndsW p e below s _ _ _ _ _ (T38.setTop (mkF m 370 #[.val (.int p0), .val (.long p1), .second, .val (.int p2), .val (.int p3), .val (.int ((p0 &&& (2147483647 : Int32)) % (4 : Int32))), .val (.ref x), .val (.int (Int32.ofNat kn)), .val (.ref ba), .val (.ref b11), .val (.ref a_STRING)] [(.int (1 : Int32))]))
                              refine OEndsW.retN X38 hx hlk hS hk hZ hEL rfl es CR (t := .boolean) Bd.returns (by simp) (hb hby at_370) ?_ (by decide) (by decide)
                              exact ⟨rfl, N38⟩
                            · skip
                              refine OEndsW.via (fun _ k => st36.trans k) ?_
                              show OEndsW p e below s _ _ _ _ _ (T36.setTop (mkF m 341 #[.val (.int p0), .val (.long p1), .second, .val (.int p2), .val (.int p3), .val (.int ((p0 &&& (2147483647 : Int32)) % (4 : Int32))), .val (.ref x), .val (.int (Int32.ofNat kn)), .val (.ref ba), .val (.ref b11), .unset] [(.int (0 : Int32))]))
                              refine OEndsW.via (fun _ k => XS.ifYes X36.here hx rfl (pc0 := 341) (pc' := 352) rfl (hb hby at_341) rfl ((if0 _ _).trans (teq (by decide : (0 : Int32) = (0 : Int32))).1) (by decide) (by decide) k) ?_
                              show OEndsW p e below s _ _ _ _ _ (T36.setTop (mkF m 352 #[.val (.int p0), .val (.long p1), .second, .val (.int p2), .val (.int p3), .val (.int ((p0 &&& (2147483647 : Int32)) % (4 : Int32))), .val (.ref x), .val (.int (Int32.ofNat kn)), .val (.ref ba), .val (.ref b11), .unset] []))
                              refine OEndsW.via (fun _ k => XS.aconstNull X36.here hx rfl (hb hby at_352) k) ?_
                              show OEndsW p e below s _ _ _ _ _ (T36.setTop (mkF m 353 #[.val (.int p0), .val (.long p1), .second, .val (.int p2), .val (.int p3), .val (.int ((p0 &&& (2147483647 : Int32)) % (4 : Int32))), .val (.ref x), .val (.int (Int32.ofNat kn)), .val (.ref ba), .val (.ref b11), .unset] [.null]))
                              refine OEndsW.via (fun _ k => XS.astore X36.here hx rfl (hb hby at_353) rfl rfl (l' := #[.val (.int p0), .val (.long p1), .second, .val (.int p2), .val (.int p3), .val (.int ((p0 &&& (2147483647 : Int32)) % (4 : Int32))), .val (.ref x), .val (.int (Int32.ofNat kn)), .val (.ref ba), .val (.ref b11), .val .null]) rfl k) ?_
                              show OEndsW p e below s _ _ _ _ _ (T36.setTop (mkF m 355 #[.val (.int p0), .val (.long p1), .second, .val (.int p2), .val (.int p3), .val (.int ((p0 &&& (2147483647 : Int32)) % (4 : Int32))), .val (.ref x), .val (.int (Int32.ofNat kn)), .val (.ref ba), .val (.ref b11), .val .null] []))
                              refine OEndsW.via (fun _ k => XS.aload X36.here hx rfl (hb hby at_355) rfl rfl k) ?_
                              show OEndsW p e below s _ _ _ _ _ (T36.setTop (mkF m 357 #[.val (.int p0), .val (.long p1), .second, .val (.int p2), .val (.int p3), .val (.int ((p0 &&& (2147483647 : Int32)) % (4 : Int32))), .val (.ref x), .val (.int (Int32.ofNat kn)), .val (.ref ba), .val (.ref b11), .val .null] [(.ref b11)]))
                              obtain ⟨_, _, ⟨T39, L39, k39, n39⟩, -, X39, ⟨Lc39, hQ39, l39, y39, z39⟩, st39⟩ := Jvm.LawKit.callS X36 hx (y := (⟨"com/example/odds3/odds3/engine/ValueType", "named", "(Ljava/lang/String;)Lcom/example/odds3/odds3/engine/ValueType;"⟩ : MethodName)) hown (mvT hZ (hw _ (List.mem_of_getElem? (i := 84) rfl))) (mvT hZ (hw _ (List.mem_of_getElem? (i := 85) rfl))) (mvT hZ (hw _ (List.mem_of_getElem? (i := 86) rfl))) (mvT hZ (hw _ (List.mem_of_getElem? (i := 87) rfl))) (by decide) (backOf (W := 0) (rmN l Z a0 hw [] b11 t_b11 _ _ _ _ ys a_NUMBER a_BOOLEAN a_STRING t_NUMBER t_BOOLEAN t_STRING tv_NUMBER tv_BOOLEAN tv_STRING kt_NUMBER kt_BOOLEAN kt_STRING va kA G1 .null h35 n0 Od E_b11 V_b11 C_b11 K_b11 hcd_b11 hbd_b11 (by rw [hyl]; exact Nat.le_trans hkn (by decide)) S_CS nz_CS S_V AV EV Et_NUMBER Vt_NUMBER Ct_NUMBER Kt_NUMBER Ft_NUMBER Et_BOOLEAN Vt_BOOLEAN Ct_BOOLEAN Kt_BOOLEAN Ft_BOOLEAN Et_STRING Vt_STRING Ct_STRING Kt_STRING Ft_STRING (by simp only [own_named, if_neg (Ne.symm hq28), if_neg (Ne.symm hq32), if_neg (Ne.symm hq36)])) hZ (hw _ (List.mem_of_getElem? (i := 87) rfl)) (hw _ (List.mem_of_getElem? (i := 86) rfl)) (by decide) (by decide)) (g := (mkF m 357 #[.val (.int p0), .val (.long p1), .second, .val (.int p2), .val (.int p3), .val (.int ((p0 &&& (2147483647 : Int32)) % (4 : Int32))), .val (.ref x), .val (.int (Int32.ofNat kn)), .val (.ref ba), .val (.ref b11), .val .null] [(.ref b11)])) rfl (by rw [hml]; rfl) (argsL := [(.ref b11)]) (rest := []) (lenOf pd_28Ljava2flang2fString3b29Lcom2fexample2fodds32fodds32fengine2fValueType3b rfl) rfl (by show 2 * 0 + _ ≤ _; exact Nat.le_of_eq rfl) (hb hby at_357) (fun _ _ => ⟨rfl, e36, Nat.le_of_ble_eq_true rfl, Nat.le_of_ble_eq_true rfl⟩)
                              dsimp only [Pt.U, Pt.locs, Pt.cells, Pt.slots] at X39 l39 y39 z39 st39 hQ39
                              subst l39 y39 z39
                              obtain ⟨rfl, N39q, K39⟩ := hQ39
                              have N39 := Fr.app N36 N39q
                              have sfk39 : ∀ x ∈ ([] : List Addr), Safe Z consts_1 T35.vm h35 x := all0
                              replace hk := Nat.le_trans hk K39.1
                              replace Od := Od.keep K39 all0
                              replace Ex := Ex.keep K39
                              replace Vx := Vx.keep K39 nin0
                              replace Cx := Cx.keep K39 nin0
                              replace Kx := Kx.keep K39 nin0
                              replace V_ba := V_ba.keep K39 nin0
                              replace sf_b11 := Safe.keep K39 sfk39 CR.1 sf_b11
                              replace E_b11 := E_b11.keep K39
                              replace C_b11 := C_b11.keep K39 nin0
                              replace V_b11 := V_b11.keep K39 nin0
                              replace K_b11 := K_b11.keep K39 nin0
                              replace E_q27 := E_q27.keep K39
                              replace C_q27 := C_q27.keep K39 nin0
                              replace V_q27 := V_q27.keep K39 nin0
                              replace K_q27 := K_q27.keep K39 nin0
                              replace E_q31 := E_q31.keep K39
                              replace C_q31 := C_q31.keep K39 nin0
                              replace V_q31 := V_q31.keep K39 nin0
                              replace K_q31 := K_q31.keep K39 nin0
                              replace E_q35 := E_q35.keep K39
                              replace C_q35 := C_q35.keep K39 nin0
                              replace V_q35 := V_q35.keep K39 nin0
                              replace K_q35 := K_q35.keep K39 nin0
                              replace CR := CR.trans (CHr.keep K39 sfk39 CR.1)
                              refine OEndsW.via (fun _ k => st39 _ k) ?_
                              show OEndsW p e below s _ _ _ _ _ (T39.setTop (mkF m 360 #[.val (.int p0), .val (.long p1), .second, .val (.int p2), .val (.int p3), .val (.int ((p0 &&& (2147483647 : Int32)) % (4 : Int32))), .val (.ref x), .val (.int (Int32.ofNat kn)), .val (.ref ba), .val (.ref b11), .val .null] [.null]))
                              refine OEndsW.via (fun _ k => XS.aload X39.here hx rfl (hb hby at_360) rfl rfl k) ?_
                              show OEndsW p e below s _ _ _ _ _ (T39.setTop (mkF m 362 #[.val (.int p0), .val (.long p1), .second, .val (.int p2), .val (.int p3), .val (.int ((p0 &&& (2147483647 : Int32)) % (4 : Int32))), .val (.ref x), .val (.int (Int32.ofNat kn)), .val (.ref ba), .val (.ref b11), .val .null] [.null, .null]))
                              refine OEndsW.via (fun _ k => Jvm.RoadKit.acmp (g := (mkF m 362 #[.val (.int p0), .val (.long p1), .second, .val (.int p2), .val (.int p3), .val (.int ((p0 &&& (2147483647 : Int32)) % (4 : Int32))), .val (.ref x), .val (.int (Int32.ofNat kn)), .val (.ref ba), .val (.ref b11), .val .null] [.null, .null])) X39 hx rfl rfl rfl (pc0 := 362) (pc' := 365) (same := true) rfl (hb hby at_362) rfl (decide_eq_true rfl) (by decide) (by decide) k) ?_
                              show OEndsW p e below s _ _ _ _ _ (T39.setTop (mkF m 365 #[.val (.int p0), .val (.long p1), .second, .val (.int p2), .val (.int p3), .val (.int ((p0 &&& (2147483647 : Int32)) % (4 : Int32))), .val (.ref x), .val (.int (Int32.ofNat kn)), .val (.ref ba), .val (.ref b11), .val .null] []))
                              refine OEndsW.via (fun _ k => XS.iconst X39.here hx rfl (hb hby at_365) k) ?_
                              show OEndsW p e below s _ _ _ _ _ (T39.setTop (mkF m 366 #[.val (.int p0), .val (.long p1), .second, .val (.int p2), .val (.int p3), .val (.int ((p0 &&& (2147483647 : Int32)) % (4 : Int32))), .val (.ref x), .val (.int (Int32.ofNat kn)), .val (.ref ba), .val (.ref b11), .val .null] [(.int (1 : Int32))]))
                              refine OEndsW.via (fun _ k => XS.goto X39.here hx rfl (pc0 := 366) (pc' := 370) rfl (hb hby at_366) (by decide) (by decide) k) ?_
                              show OEndsW p e below s _ _ _ _ _ (T39.setTop (mkF m 370 #[.val (.int p0), .val (.long p1), .second, .val (.int p2), .val (.int p3), .val (.int ((p0 &&& (2147483647 : Int32)) % (4 : Int32))), .val (.ref x), .val (.int (Int32.ofNat kn)), .val (.ref ba), .val (.ref b11), .val .null] [(.int (1 : Int32))]))
                              refine OEndsW.retN X39 hx hlk hS hk hZ hEL rfl es CR (t := .boolean) Bd.returns (by simp) (hb hby at_370) ?_ (by decide) (by decide)
                              exact ⟨rfl, N39⟩
                    by_cases hc270_39 : (6 : Int32) < (Int32.ofNat kn)
                    · skip
                      refine OEndsW.via (fun _ k => XS.icmpNo XU9.here hx rfl (hb hby at_270) rfl (tlt hc270_39).2.2.2 k) ?_
                      show OEndsW p e below s _ _ _ _ _ (U9.setTop (mkF m 273 #[.val (.int p0), .val (.long p1), .second, .val (.int p2), .val (.int p3), .val (.int ((p0 &&& (2147483647 : Int32)) % (4 : Int32))), .val (.ref x), .val (.int (Int32.ofNat kn)), .val (.ref ba), .unset, .unset] []))
                      refine OEndsW.via (fun _ k => XS.aload XU9.here hx rfl (hb hby at_273) rfl rfl k) ?_
                      show OEndsW p e below s _ _ _ _ _ (U9.setTop (mkF m 275 #[.val (.int p0), .val (.long p1), .second, .val (.int p2), .val (.int p3), .val (.int ((p0 &&& (2147483647 : Int32)) % (4 : Int32))), .val (.ref x), .val (.int (Int32.ofNat kn)), .val (.ref ba), .unset, .unset] [(.ref ba)]))
                      refine OEndsW.via (fun _ k => XS.bipush XU9.here hx rfl (hb hby at_275) k) ?_
                      show OEndsW p e below s _ _ _ _ _ (U9.setTop (mkF m 277 #[.val (.int p0), .val (.long p1), .second, .val (.int p2), .val (.int p3), .val (.int ((p0 &&& (2147483647 : Int32)) % (4 : Int32))), .val (.ref x), .val (.int (Int32.ofNat kn)), .val (.ref ba), .unset, .unset] [(.int (6 : Int32)), (.ref ba)]))
                      refine OEndsW.via (fun _ k => XS.aload XU9.here hx rfl (hb hby at_277) rfl rfl k) ?_
                      show OEndsW p e below s _ _ _ _ _ (U9.setTop (mkF m 279 #[.val (.int p0), .val (.long p1), .second, .val (.int p2), .val (.int p3), .val (.int ((p0 &&& (2147483647 : Int32)) % (4 : Int32))), .val (.ref x), .val (.int (Int32.ofNat kn)), .val (.ref ba), .unset, .unset] [(.ref x), (.int (6 : Int32)), (.ref ba)]))
                      refine OEndsW.via (fun _ k => XS.lloadN XU9.here hx rfl (hb hby at_279) rfl k) ?_
                      show OEndsW p e below s _ _ _ _ _ (U9.setTop (mkF m 280 #[.val (.int p0), .val (.long p1), .second, .val (.int p2), .val (.int p3), .val (.int ((p0 &&& (2147483647 : Int32)) % (4 : Int32))), .val (.ref x), .val (.int (Int32.ofNat kn)), .val (.ref ba), .unset, .unset] [(.long p1), (.ref x), (.int (6 : Int32)), (.ref ba)]))
                      refine OEndsW.via (fun _ k => XS.iloadN XU9.here hx rfl (hb hby at_280) rfl k) ?_
                      show OEndsW p e below s _ _ _ _ _ (U9.setTop (mkF m 281 #[.val (.int p0), .val (.long p1), .second, .val (.int p2), .val (.int p3), .val (.int ((p0 &&& (2147483647 : Int32)) % (4 : Int32))), .val (.ref x), .val (.int (Int32.ofNat kn)), .val (.ref ba), .unset, .unset] [(.int p2), (.long p1), (.ref x), (.int (6 : Int32)), (.ref ba)]))
                      refine OEndsW.via (fun _ k => XS.bipush XU9.here hx rfl (hb hby at_281) k) ?_
                      show OEndsW p e below s _ _ _ _ _ (U9.setTop (mkF m 283 #[.val (.int p0), .val (.long p1), .second, .val (.int p2), .val (.int p3), .val (.int ((p0 &&& (2147483647 : Int32)) % (4 : Int32))), .val (.ref x), .val (.int (Int32.ofNat kn)), .val (.ref ba), .unset, .unset] [(.int (6 : Int32)), (.int p2), (.long p1), (.ref x), (.int (6 : Int32)), (.ref ba)]))
                      obtain ⟨_, _, ⟨T41, L41, k41, n41⟩, -, X41, ⟨Lc41, hQ41, l41, y41, z41⟩, st41⟩ := Jvm.LawKit.callS XU9 hx (y := (⟨"com/example/odds3/odds3/engine/ValueTypeNamedPinLaw", "at", "(Ljava/lang/String;JII)C"⟩ : MethodName)) hown (mvT hZ (hw _ (List.mem_of_getElem? (i := 23) rfl))) (mvT hZ (hw _ (List.mem_of_getElem? (i := 24) rfl))) (mvT hZ (hw _ (List.mem_of_getElem? (i := 25) rfl))) (mvT hZ (hw _ (List.mem_of_getElem? (i := 26) rfl))) (by decide) (backOf (W := 2) (rmAt l Z a0 hw [] x tx kx nx vx cs p1 p2 6 G1 fm hU9 n0 Od S_CS nz_CS S_FM r_FM Ex Vx Cx Kx hcx hpx lex (by decide)) hZ (hw _ (List.mem_of_getElem? (i := 26) rfl)) (hw _ (List.mem_of_getElem? (i := 25) rfl)) (by decide) (by decide)) (g := (mkF m 283 #[.val (.int p0), .val (.long p1), .second, .val (.int p2), .val (.int p3), .val (.int ((p0 &&& (2147483647 : Int32)) % (4 : Int32))), .val (.ref x), .val (.int (Int32.ofNat kn)), .val (.ref ba), .unset, .unset] [(.int (6 : Int32)), (.int p2), (.long p1), (.ref x), (.int (6 : Int32)), (.ref ba)])) rfl (by rw [hml]; rfl) (argsL := [(.ref x), (.long p1), (.int p2), (.int (6 : Int32))]) (rest := [(.int (6 : Int32)), (.ref ba)]) (lenOf pd_28Ljava2flang2fString3bJII29C rfl) rfl (by show 2 * 0 + _ ≤ _; exact Nat.le_of_eq rfl) (hb hby at_283) (fun _ _ => ⟨rfl, eU9, Nat.le_of_ble_eq_true rfl, Nat.le_of_ble_eq_true rfl⟩)
                      dsimp only [Pt.U, Pt.locs, Pt.cells, Pt.slots] at X41 l41 y41 z41 st41 hQ41
                      subst l41 y41 z41
                      obtain ⟨r41, rfl, hr41, N41q, e41⟩ := hQ41
                      have N41 := Fr.app NU9 N41q
                      refine OEndsW.via (fun _ k => st41 _ k) ?_
                      show OEndsW p e below s _ _ _ _ _ (T41.setTop (mkF m 286 #[.val (.int p0), .val (.long p1), .second, .val (.int p2), .val (.int p3), .val (.int ((p0 &&& (2147483647 : Int32)) % (4 : Int32))), .val (.ref x), .val (.int (Int32.ofNat kn)), .val (.ref ba), .unset, .unset] [(.int r41), (.int (6 : Int32)), (.ref ba)]))
                      obtain ⟨cl42, Ar42, q42, S42, M42, H42, G42⟩ := V_ba
                      have hin42 : ¬ ((6 : Int32) < 0 ∨ cl42.slots.size ≤ ((6 : Int32)).toNatClampNeg) := inb_of S42 ⟨by decide, hc270_39⟩
                      obtain ⟨T42, h42, X42, e42, W42, st42⟩ := stC X41 hx hZ e41 Ar42 (j := (6 : Int32)) hin42 (g := (mkF m 286 #[.val (.int p0), .val (.long p1), .second, .val (.int p2), .val (.int p3), .val (.int ((p0 &&& (2147483647 : Int32)) % (4 : Int32))), .val (.ref x), .val (.int (Int32.ofNat kn)), .val (.ref ba), .unset, .unset] [(.int r41), (.int (6 : Int32)), (.ref ba)])) rfl rfl (hb hby at_286)
                      have V_ba := own_set Ar42 q42 S42 M42 H42 G42 (hyl.trans (own_cl hkn).symm) hin42 W42 hr41
                      have hyl42 := (List.length_set (as := ys) (i := ((6 : Int32)).toNatClampNeg) (a := r41)).trans hyl
                      have hyp42 := own_setp (i := ((6 : Int32)).toNatClampNeg) hyp hr41
                      have N42 := Fr.snoc X42 N41 ge_ba
                      have sfw42 := (Safe.arr (EL := consts_1) hZ.alike Ar42 (by decide))
                      replace hk := Nat.le_trans hk (Keep.of_wr W42).1
                      replace Od := Od.wr W42 ge_ba
                      replace Ex := Exa.wr W42 Ex
                      replace Vx := Fld.other W42 Vx (Or.inl ne_x)
                      replace Cx := Fld.other W42 Cx (Or.inl ne_x)
                      replace Kx := Kx.other W42 ne_tx
                      replace CR := CR.trans (CHr.wr W42 sfw42 CR.1)
                      refine OEndsW.via (fun _ k => st42 _ k) ?_
                      show OEndsW p e below s _ _ _ _ _ (T42.setTop (mkF m 287 #[.val (.int p0), .val (.long p1), .second, .val (.int p2), .val (.int p3), .val (.int ((p0 &&& (2147483647 : Int32)) % (4 : Int32))), .val (.ref x), .val (.int (Int32.ofNat kn)), .val (.ref ba), .unset, .unset] []))
                      exact J10 _ _ _ _ _ (X42.more (by decide) (by decide)) e42 N42 hS hk hZ hown CR Od Ex Vx Cx Kx (ys.set ((6 : Int32)).toNatClampNeg r41) hyl42 hyp42 V_ba
                    · skip
                      refine OEndsW.via (fun _ k => XS.icmpYes XU9.here hx rfl (pc0 := 270) (pc' := 287) rfl (hb hby at_270) rfl (flt hc270_39).2.2.2 (by decide) (by decide) k) ?_
                      show OEndsW p e below s _ _ _ _ _ (U9.setTop (mkF m 287 #[.val (.int p0), .val (.long p1), .second, .val (.int p2), .val (.int p3), .val (.int ((p0 &&& (2147483647 : Int32)) % (4 : Int32))), .val (.ref x), .val (.int (Int32.ofNat kn)), .val (.ref ba), .unset, .unset] []))
                      exact J10 _ _ _ _ _ (XU9.more (by decide) (by decide)) eU9 NU9 hS hk hZ hown CR Od Ex Vx Cx Kx ys hyl hyp V_ba
                  by_cases hc251_42 : (5 : Int32) < (Int32.ofNat kn)
                  · skip
                    refine OEndsW.via (fun _ k => XS.icmpNo XU8.here hx rfl (hb hby at_251) rfl (tlt hc251_42).2.2.2 k) ?_
                    show OEndsW p e below s _ _ _ _ _ (U8.setTop (mkF m 254 #[.val (.int p0), .val (.long p1), .second, .val (.int p2), .val (.int p3), .val (.int ((p0 &&& (2147483647 : Int32)) % (4 : Int32))), .val (.ref x), .val (.int (Int32.ofNat kn)), .val (.ref ba), .unset, .unset] []))
                    refine OEndsW.via (fun _ k => XS.aload XU8.here hx rfl (hb hby at_254) rfl rfl k) ?_
                    show OEndsW p e below s _ _ _ _ _ (U8.setTop (mkF m 256 #[.val (.int p0), .val (.long p1), .second, .val (.int p2), .val (.int p3), .val (.int ((p0 &&& (2147483647 : Int32)) % (4 : Int32))), .val (.ref x), .val (.int (Int32.ofNat kn)), .val (.ref ba), .unset, .unset] [(.ref ba)]))
                    refine OEndsW.via (fun _ k => XS.iconst XU8.here hx rfl (hb hby at_256) k) ?_
                    show OEndsW p e below s _ _ _ _ _ (U8.setTop (mkF m 257 #[.val (.int p0), .val (.long p1), .second, .val (.int p2), .val (.int p3), .val (.int ((p0 &&& (2147483647 : Int32)) % (4 : Int32))), .val (.ref x), .val (.int (Int32.ofNat kn)), .val (.ref ba), .unset, .unset] [(.int (5 : Int32)), (.ref ba)]))
                    refine OEndsW.via (fun _ k => XS.aload XU8.here hx rfl (hb hby at_257) rfl rfl k) ?_
                    show OEndsW p e below s _ _ _ _ _ (U8.setTop (mkF m 259 #[.val (.int p0), .val (.long p1), .second, .val (.int p2), .val (.int p3), .val (.int ((p0 &&& (2147483647 : Int32)) % (4 : Int32))), .val (.ref x), .val (.int (Int32.ofNat kn)), .val (.ref ba), .unset, .unset] [(.ref x), (.int (5 : Int32)), (.ref ba)]))
                    refine OEndsW.via (fun _ k => XS.lloadN XU8.here hx rfl (hb hby at_259) rfl k) ?_
                    show OEndsW p e below s _ _ _ _ _ (U8.setTop (mkF m 260 #[.val (.int p0), .val (.long p1), .second, .val (.int p2), .val (.int p3), .val (.int ((p0 &&& (2147483647 : Int32)) % (4 : Int32))), .val (.ref x), .val (.int (Int32.ofNat kn)), .val (.ref ba), .unset, .unset] [(.long p1), (.ref x), (.int (5 : Int32)), (.ref ba)]))
                    refine OEndsW.via (fun _ k => XS.iloadN XU8.here hx rfl (hb hby at_260) rfl k) ?_
                    show OEndsW p e below s _ _ _ _ _ (U8.setTop (mkF m 261 #[.val (.int p0), .val (.long p1), .second, .val (.int p2), .val (.int p3), .val (.int ((p0 &&& (2147483647 : Int32)) % (4 : Int32))), .val (.ref x), .val (.int (Int32.ofNat kn)), .val (.ref ba), .unset, .unset] [(.int p2), (.long p1), (.ref x), (.int (5 : Int32)), (.ref ba)]))
                    refine OEndsW.via (fun _ k => XS.iconst XU8.here hx rfl (hb hby at_261) k) ?_
                    show OEndsW p e below s _ _ _ _ _ (U8.setTop (mkF m 262 #[.val (.int p0), .val (.long p1), .second, .val (.int p2), .val (.int p3), .val (.int ((p0 &&& (2147483647 : Int32)) % (4 : Int32))), .val (.ref x), .val (.int (Int32.ofNat kn)), .val (.ref ba), .unset, .unset] [(.int (5 : Int32)), (.int p2), (.long p1), (.ref x), (.int (5 : Int32)), (.ref ba)]))
                    obtain ⟨_, _, ⟨T44, L44, k44, n44⟩, -, X44, ⟨Lc44, hQ44, l44, y44, z44⟩, st44⟩ := Jvm.LawKit.callS XU8 hx (y := (⟨"com/example/odds3/odds3/engine/ValueTypeNamedPinLaw", "at", "(Ljava/lang/String;JII)C"⟩ : MethodName)) hown (mvT hZ (hw _ (List.mem_of_getElem? (i := 23) rfl))) (mvT hZ (hw _ (List.mem_of_getElem? (i := 24) rfl))) (mvT hZ (hw _ (List.mem_of_getElem? (i := 25) rfl))) (mvT hZ (hw _ (List.mem_of_getElem? (i := 26) rfl))) (by decide) (backOf (W := 2) (rmAt l Z a0 hw [] x tx kx nx vx cs p1 p2 5 G1 fm hU8 n0 Od S_CS nz_CS S_FM r_FM Ex Vx Cx Kx hcx hpx lex (by decide)) hZ (hw _ (List.mem_of_getElem? (i := 26) rfl)) (hw _ (List.mem_of_getElem? (i := 25) rfl)) (by decide) (by decide)) (g := (mkF m 262 #[.val (.int p0), .val (.long p1), .second, .val (.int p2), .val (.int p3), .val (.int ((p0 &&& (2147483647 : Int32)) % (4 : Int32))), .val (.ref x), .val (.int (Int32.ofNat kn)), .val (.ref ba), .unset, .unset] [(.int (5 : Int32)), (.int p2), (.long p1), (.ref x), (.int (5 : Int32)), (.ref ba)])) rfl (by rw [hml]; rfl) (argsL := [(.ref x), (.long p1), (.int p2), (.int (5 : Int32))]) (rest := [(.int (5 : Int32)), (.ref ba)]) (lenOf pd_28Ljava2flang2fString3bJII29C rfl) rfl (by show 2 * 0 + _ ≤ _; exact Nat.le_of_eq rfl) (hb hby at_262) (fun _ _ => ⟨rfl, eU8, Nat.le_of_ble_eq_true rfl, Nat.le_of_ble_eq_true rfl⟩)
                    dsimp only [Pt.U, Pt.locs, Pt.cells, Pt.slots] at X44 l44 y44 z44 st44 hQ44
                    subst l44 y44 z44
                    obtain ⟨r44, rfl, hr44, N44q, e44⟩ := hQ44
                    have N44 := Fr.app NU8 N44q
                    refine OEndsW.via (fun _ k => st44 _ k) ?_
                    show OEndsW p e below s _ _ _ _ _ (T44.setTop (mkF m 265 #[.val (.int p0), .val (.long p1), .second, .val (.int p2), .val (.int p3), .val (.int ((p0 &&& (2147483647 : Int32)) % (4 : Int32))), .val (.ref x), .val (.int (Int32.ofNat kn)), .val (.ref ba), .unset, .unset] [(.int r44), (.int (5 : Int32)), (.ref ba)]))
                    obtain ⟨cl45, Ar45, q45, S45, M45, H45, G45⟩ := V_ba
                    have hin45 : ¬ ((5 : Int32) < 0 ∨ cl45.slots.size ≤ ((5 : Int32)).toNatClampNeg) := inb_of S45 ⟨by decide, hc251_42⟩
                    obtain ⟨T45, h45, X45, e45, W45, st45⟩ := stC X44 hx hZ e44 Ar45 (j := (5 : Int32)) hin45 (g := (mkF m 265 #[.val (.int p0), .val (.long p1), .second, .val (.int p2), .val (.int p3), .val (.int ((p0 &&& (2147483647 : Int32)) % (4 : Int32))), .val (.ref x), .val (.int (Int32.ofNat kn)), .val (.ref ba), .unset, .unset] [(.int r44), (.int (5 : Int32)), (.ref ba)])) rfl rfl (hb hby at_265)
                    have V_ba := own_set Ar45 q45 S45 M45 H45 G45 (hyl.trans (own_cl hkn).symm) hin45 W45 hr44
                    have hyl45 := (List.length_set (as := ys) (i := ((5 : Int32)).toNatClampNeg) (a := r44)).trans hyl
                    have hyp45 := own_setp (i := ((5 : Int32)).toNatClampNeg) hyp hr44
                    have N45 := Fr.snoc X45 N44 ge_ba
                    have sfw45 := (Safe.arr (EL := consts_1) hZ.alike Ar45 (by decide))
                    replace hk := Nat.le_trans hk (Keep.of_wr W45).1
                    replace Od := Od.wr W45 ge_ba
                    replace Ex := Exa.wr W45 Ex
                    replace Vx := Fld.other W45 Vx (Or.inl ne_x)
                    replace Cx := Fld.other W45 Cx (Or.inl ne_x)
                    replace Kx := Kx.other W45 ne_tx
                    replace CR := CR.trans (CHr.wr W45 sfw45 CR.1)
                    refine OEndsW.via (fun _ k => st45 _ k) ?_
                    show OEndsW p e below s _ _ _ _ _ (T45.setTop (mkF m 266 #[.val (.int p0), .val (.long p1), .second, .val (.int p2), .val (.int p3), .val (.int ((p0 &&& (2147483647 : Int32)) % (4 : Int32))), .val (.ref x), .val (.int (Int32.ofNat kn)), .val (.ref ba), .unset, .unset] []))
                    exact J9 _ _ _ _ _ (X45.more (by decide) (by decide)) e45 N45 hS hk hZ hown CR Od Ex Vx Cx Kx (ys.set ((5 : Int32)).toNatClampNeg r44) hyl45 hyp45 V_ba
                  · skip
                    refine OEndsW.via (fun _ k => XS.icmpYes XU8.here hx rfl (pc0 := 251) (pc' := 266) rfl (hb hby at_251) rfl (flt hc251_42).2.2.2 (by decide) (by decide) k) ?_
                    show OEndsW p e below s _ _ _ _ _ (U8.setTop (mkF m 266 #[.val (.int p0), .val (.long p1), .second, .val (.int p2), .val (.int p3), .val (.int ((p0 &&& (2147483647 : Int32)) % (4 : Int32))), .val (.ref x), .val (.int (Int32.ofNat kn)), .val (.ref ba), .unset, .unset] []))
                    exact J9 _ _ _ _ _ (XU8.more (by decide) (by decide)) eU8 NU8 hS hk hZ hown CR Od Ex Vx Cx Kx ys hyl hyp V_ba
                by_cases hc233_45 : (4 : Int32) < (Int32.ofNat kn)
                · skip
                  refine OEndsW.via (fun _ k => XS.icmpNo XU7.here hx rfl (hb hby at_233) rfl (tlt hc233_45).2.2.2 k) ?_
                  show OEndsW p e below s _ _ _ _ _ (U7.setTop (mkF m 236 #[.val (.int p0), .val (.long p1), .second, .val (.int p2), .val (.int p3), .val (.int ((p0 &&& (2147483647 : Int32)) % (4 : Int32))), .val (.ref x), .val (.int (Int32.ofNat kn)), .val (.ref ba), .unset, .unset] []))
                  refine OEndsW.via (fun _ k => XS.aload XU7.here hx rfl (hb hby at_236) rfl rfl k) ?_
                  show OEndsW p e below s _ _ _ _ _ (U7.setTop (mkF m 238 #[.val (.int p0), .val (.long p1), .second, .val (.int p2), .val (.int p3), .val (.int ((p0 &&& (2147483647 : Int32)) % (4 : Int32))), .val (.ref x), .val (.int (Int32.ofNat kn)), .val (.ref ba), .unset, .unset] [(.ref ba)]))
                  refine OEndsW.via (fun _ k => XS.iconst XU7.here hx rfl (hb hby at_238) k) ?_
                  show OEndsW p e below s _ _ _ _ _ (U7.setTop (mkF m 239 #[.val (.int p0), .val (.long p1), .second, .val (.int p2), .val (.int p3), .val (.int ((p0 &&& (2147483647 : Int32)) % (4 : Int32))), .val (.ref x), .val (.int (Int32.ofNat kn)), .val (.ref ba), .unset, .unset] [(.int (4 : Int32)), (.ref ba)]))
                  refine OEndsW.via (fun _ k => XS.aload XU7.here hx rfl (hb hby at_239) rfl rfl k) ?_
                  show OEndsW p e below s _ _ _ _ _ (U7.setTop (mkF m 241 #[.val (.int p0), .val (.long p1), .second, .val (.int p2), .val (.int p3), .val (.int ((p0 &&& (2147483647 : Int32)) % (4 : Int32))), .val (.ref x), .val (.int (Int32.ofNat kn)), .val (.ref ba), .unset, .unset] [(.ref x), (.int (4 : Int32)), (.ref ba)]))
                  refine OEndsW.via (fun _ k => XS.lloadN XU7.here hx rfl (hb hby at_241) rfl k) ?_
                  show OEndsW p e below s _ _ _ _ _ (U7.setTop (mkF m 242 #[.val (.int p0), .val (.long p1), .second, .val (.int p2), .val (.int p3), .val (.int ((p0 &&& (2147483647 : Int32)) % (4 : Int32))), .val (.ref x), .val (.int (Int32.ofNat kn)), .val (.ref ba), .unset, .unset] [(.long p1), (.ref x), (.int (4 : Int32)), (.ref ba)]))
                  refine OEndsW.via (fun _ k => XS.iloadN XU7.here hx rfl (hb hby at_242) rfl k) ?_
                  show OEndsW p e below s _ _ _ _ _ (U7.setTop (mkF m 243 #[.val (.int p0), .val (.long p1), .second, .val (.int p2), .val (.int p3), .val (.int ((p0 &&& (2147483647 : Int32)) % (4 : Int32))), .val (.ref x), .val (.int (Int32.ofNat kn)), .val (.ref ba), .unset, .unset] [(.int p2), (.long p1), (.ref x), (.int (4 : Int32)), (.ref ba)]))
                  refine OEndsW.via (fun _ k => XS.iconst XU7.here hx rfl (hb hby at_243) k) ?_
                  show OEndsW p e below s _ _ _ _ _ (U7.setTop (mkF m 244 #[.val (.int p0), .val (.long p1), .second, .val (.int p2), .val (.int p3), .val (.int ((p0 &&& (2147483647 : Int32)) % (4 : Int32))), .val (.ref x), .val (.int (Int32.ofNat kn)), .val (.ref ba), .unset, .unset] [(.int (4 : Int32)), (.int p2), (.long p1), (.ref x), (.int (4 : Int32)), (.ref ba)]))
                  obtain ⟨_, _, ⟨T47, L47, k47, n47⟩, -, X47, ⟨Lc47, hQ47, l47, y47, z47⟩, st47⟩ := Jvm.LawKit.callS XU7 hx (y := (⟨"com/example/odds3/odds3/engine/ValueTypeNamedPinLaw", "at", "(Ljava/lang/String;JII)C"⟩ : MethodName)) hown (mvT hZ (hw _ (List.mem_of_getElem? (i := 23) rfl))) (mvT hZ (hw _ (List.mem_of_getElem? (i := 24) rfl))) (mvT hZ (hw _ (List.mem_of_getElem? (i := 25) rfl))) (mvT hZ (hw _ (List.mem_of_getElem? (i := 26) rfl))) (by decide) (backOf (W := 2) (rmAt l Z a0 hw [] x tx kx nx vx cs p1 p2 4 G1 fm hU7 n0 Od S_CS nz_CS S_FM r_FM Ex Vx Cx Kx hcx hpx lex (by decide)) hZ (hw _ (List.mem_of_getElem? (i := 26) rfl)) (hw _ (List.mem_of_getElem? (i := 25) rfl)) (by decide) (by decide)) (g := (mkF m 244 #[.val (.int p0), .val (.long p1), .second, .val (.int p2), .val (.int p3), .val (.int ((p0 &&& (2147483647 : Int32)) % (4 : Int32))), .val (.ref x), .val (.int (Int32.ofNat kn)), .val (.ref ba), .unset, .unset] [(.int (4 : Int32)), (.int p2), (.long p1), (.ref x), (.int (4 : Int32)), (.ref ba)])) rfl (by rw [hml]; rfl) (argsL := [(.ref x), (.long p1), (.int p2), (.int (4 : Int32))]) (rest := [(.int (4 : Int32)), (.ref ba)]) (lenOf pd_28Ljava2flang2fString3bJII29C rfl) rfl (by show 2 * 0 + _ ≤ _; exact Nat.le_of_eq rfl) (hb hby at_244) (fun _ _ => ⟨rfl, eU7, Nat.le_of_ble_eq_true rfl, Nat.le_of_ble_eq_true rfl⟩)
                  dsimp only [Pt.U, Pt.locs, Pt.cells, Pt.slots] at X47 l47 y47 z47 st47 hQ47
                  subst l47 y47 z47
                  obtain ⟨r47, rfl, hr47, N47q, e47⟩ := hQ47
                  have N47 := Fr.app NU7 N47q
                  refine OEndsW.via (fun _ k => st47 _ k) ?_
                  show OEndsW p e below s _ _ _ _ _ (T47.setTop (mkF m 247 #[.val (.int p0), .val (.long p1), .second, .val (.int p2), .val (.int p3), .val (.int ((p0 &&& (2147483647 : Int32)) % (4 : Int32))), .val (.ref x), .val (.int (Int32.ofNat kn)), .val (.ref ba), .unset, .unset] [(.int r47), (.int (4 : Int32)), (.ref ba)]))
                  obtain ⟨cl48, Ar48, q48, S48, M48, H48, G48⟩ := V_ba
                  have hin48 : ¬ ((4 : Int32) < 0 ∨ cl48.slots.size ≤ ((4 : Int32)).toNatClampNeg) := inb_of S48 ⟨by decide, hc233_45⟩
                  obtain ⟨T48, h48, X48, e48, W48, st48⟩ := stC X47 hx hZ e47 Ar48 (j := (4 : Int32)) hin48 (g := (mkF m 247 #[.val (.int p0), .val (.long p1), .second, .val (.int p2), .val (.int p3), .val (.int ((p0 &&& (2147483647 : Int32)) % (4 : Int32))), .val (.ref x), .val (.int (Int32.ofNat kn)), .val (.ref ba), .unset, .unset] [(.int r47), (.int (4 : Int32)), (.ref ba)])) rfl rfl (hb hby at_247)
                  have V_ba := own_set Ar48 q48 S48 M48 H48 G48 (hyl.trans (own_cl hkn).symm) hin48 W48 hr47
                  have hyl48 := (List.length_set (as := ys) (i := ((4 : Int32)).toNatClampNeg) (a := r47)).trans hyl
                  have hyp48 := own_setp (i := ((4 : Int32)).toNatClampNeg) hyp hr47
                  have N48 := Fr.snoc X48 N47 ge_ba
                  have sfw48 := (Safe.arr (EL := consts_1) hZ.alike Ar48 (by decide))
                  replace hk := Nat.le_trans hk (Keep.of_wr W48).1
                  replace Od := Od.wr W48 ge_ba
                  replace Ex := Exa.wr W48 Ex
                  replace Vx := Fld.other W48 Vx (Or.inl ne_x)
                  replace Cx := Fld.other W48 Cx (Or.inl ne_x)
                  replace Kx := Kx.other W48 ne_tx
                  replace CR := CR.trans (CHr.wr W48 sfw48 CR.1)
                  refine OEndsW.via (fun _ k => st48 _ k) ?_
                  show OEndsW p e below s _ _ _ _ _ (T48.setTop (mkF m 248 #[.val (.int p0), .val (.long p1), .second, .val (.int p2), .val (.int p3), .val (.int ((p0 &&& (2147483647 : Int32)) % (4 : Int32))), .val (.ref x), .val (.int (Int32.ofNat kn)), .val (.ref ba), .unset, .unset] []))
                  exact J8 _ _ _ _ _ (X48.more (by decide) (by decide)) e48 N48 hS hk hZ hown CR Od Ex Vx Cx Kx (ys.set ((4 : Int32)).toNatClampNeg r47) hyl48 hyp48 V_ba
                · skip
                  refine OEndsW.via (fun _ k => XS.icmpYes XU7.here hx rfl (pc0 := 233) (pc' := 248) rfl (hb hby at_233) rfl (flt hc233_45).2.2.2 (by decide) (by decide) k) ?_
                  show OEndsW p e below s _ _ _ _ _ (U7.setTop (mkF m 248 #[.val (.int p0), .val (.long p1), .second, .val (.int p2), .val (.int p3), .val (.int ((p0 &&& (2147483647 : Int32)) % (4 : Int32))), .val (.ref x), .val (.int (Int32.ofNat kn)), .val (.ref ba), .unset, .unset] []))
                  exact J8 _ _ _ _ _ (XU7.more (by decide) (by decide)) eU7 NU7 hS hk hZ hown CR Od Ex Vx Cx Kx ys hyl hyp V_ba
              by_cases hc215_48 : (3 : Int32) < (Int32.ofNat kn)
              · skip
                refine OEndsW.via (fun _ k => XS.icmpNo XU6.here hx rfl (hb hby at_215) rfl (tlt hc215_48).2.2.2 k) ?_
                show OEndsW p e below s _ _ _ _ _ (U6.setTop (mkF m 218 #[.val (.int p0), .val (.long p1), .second, .val (.int p2), .val (.int p3), .val (.int ((p0 &&& (2147483647 : Int32)) % (4 : Int32))), .val (.ref x), .val (.int (Int32.ofNat kn)), .val (.ref ba), .unset, .unset] []))
                refine OEndsW.via (fun _ k => XS.aload XU6.here hx rfl (hb hby at_218) rfl rfl k) ?_
                show OEndsW p e below s _ _ _ _ _ (U6.setTop (mkF m 220 #[.val (.int p0), .val (.long p1), .second, .val (.int p2), .val (.int p3), .val (.int ((p0 &&& (2147483647 : Int32)) % (4 : Int32))), .val (.ref x), .val (.int (Int32.ofNat kn)), .val (.ref ba), .unset, .unset] [(.ref ba)]))
                refine OEndsW.via (fun _ k => XS.iconst XU6.here hx rfl (hb hby at_220) k) ?_
                show OEndsW p e below s _ _ _ _ _ (U6.setTop (mkF m 221 #[.val (.int p0), .val (.long p1), .second, .val (.int p2), .val (.int p3), .val (.int ((p0 &&& (2147483647 : Int32)) % (4 : Int32))), .val (.ref x), .val (.int (Int32.ofNat kn)), .val (.ref ba), .unset, .unset] [(.int (3 : Int32)), (.ref ba)]))
                refine OEndsW.via (fun _ k => XS.aload XU6.here hx rfl (hb hby at_221) rfl rfl k) ?_
                show OEndsW p e below s _ _ _ _ _ (U6.setTop (mkF m 223 #[.val (.int p0), .val (.long p1), .second, .val (.int p2), .val (.int p3), .val (.int ((p0 &&& (2147483647 : Int32)) % (4 : Int32))), .val (.ref x), .val (.int (Int32.ofNat kn)), .val (.ref ba), .unset, .unset] [(.ref x), (.int (3 : Int32)), (.ref ba)]))
                refine OEndsW.via (fun _ k => XS.lloadN XU6.here hx rfl (hb hby at_223) rfl k) ?_
                show OEndsW p e below s _ _ _ _ _ (U6.setTop (mkF m 224 #[.val (.int p0), .val (.long p1), .second, .val (.int p2), .val (.int p3), .val (.int ((p0 &&& (2147483647 : Int32)) % (4 : Int32))), .val (.ref x), .val (.int (Int32.ofNat kn)), .val (.ref ba), .unset, .unset] [(.long p1), (.ref x), (.int (3 : Int32)), (.ref ba)]))
                refine OEndsW.via (fun _ k => XS.iloadN XU6.here hx rfl (hb hby at_224) rfl k) ?_
                show OEndsW p e below s _ _ _ _ _ (U6.setTop (mkF m 225 #[.val (.int p0), .val (.long p1), .second, .val (.int p2), .val (.int p3), .val (.int ((p0 &&& (2147483647 : Int32)) % (4 : Int32))), .val (.ref x), .val (.int (Int32.ofNat kn)), .val (.ref ba), .unset, .unset] [(.int p2), (.long p1), (.ref x), (.int (3 : Int32)), (.ref ba)]))
                refine OEndsW.via (fun _ k => XS.iconst XU6.here hx rfl (hb hby at_225) k) ?_
                show OEndsW p e below s _ _ _ _ _ (U6.setTop (mkF m 226 #[.val (.int p0), .val (.long p1), .second, .val (.int p2), .val (.int p3), .val (.int ((p0 &&& (2147483647 : Int32)) % (4 : Int32))), .val (.ref x), .val (.int (Int32.ofNat kn)), .val (.ref ba), .unset, .unset] [(.int (3 : Int32)), (.int p2), (.long p1), (.ref x), (.int (3 : Int32)), (.ref ba)]))
                obtain ⟨_, _, ⟨T50, L50, k50, n50⟩, -, X50, ⟨Lc50, hQ50, l50, y50, z50⟩, st50⟩ := Jvm.LawKit.callS XU6 hx (y := (⟨"com/example/odds3/odds3/engine/ValueTypeNamedPinLaw", "at", "(Ljava/lang/String;JII)C"⟩ : MethodName)) hown (mvT hZ (hw _ (List.mem_of_getElem? (i := 23) rfl))) (mvT hZ (hw _ (List.mem_of_getElem? (i := 24) rfl))) (mvT hZ (hw _ (List.mem_of_getElem? (i := 25) rfl))) (mvT hZ (hw _ (List.mem_of_getElem? (i := 26) rfl))) (by decide) (backOf (W := 2) (rmAt l Z a0 hw [] x tx kx nx vx cs p1 p2 3 G1 fm hU6 n0 Od S_CS nz_CS S_FM r_FM Ex Vx Cx Kx hcx hpx lex (by decide)) hZ (hw _ (List.mem_of_getElem? (i := 26) rfl)) (hw _ (List.mem_of_getElem? (i := 25) rfl)) (by decide) (by decide)) (g := (mkF m 226 #[.val (.int p0), .val (.long p1), .second, .val (.int p2), .val (.int p3), .val (.int ((p0 &&& (2147483647 : Int32)) % (4 : Int32))), .val (.ref x), .val (.int (Int32.ofNat kn)), .val (.ref ba), .unset, .unset] [(.int (3 : Int32)), (.int p2), (.long p1), (.ref x), (.int (3 : Int32)), (.ref ba)])) rfl (by rw [hml]; rfl) (argsL := [(.ref x), (.long p1), (.int p2), (.int (3 : Int32))]) (rest := [(.int (3 : Int32)), (.ref ba)]) (lenOf pd_28Ljava2flang2fString3bJII29C rfl) rfl (by show 2 * 0 + _ ≤ _; exact Nat.le_of_eq rfl) (hb hby at_226) (fun _ _ => ⟨rfl, eU6, Nat.le_of_ble_eq_true rfl, Nat.le_of_ble_eq_true rfl⟩)
                dsimp only [Pt.U, Pt.locs, Pt.cells, Pt.slots] at X50 l50 y50 z50 st50 hQ50
                subst l50 y50 z50
                obtain ⟨r50, rfl, hr50, N50q, e50⟩ := hQ50
                have N50 := Fr.app NU6 N50q
                refine OEndsW.via (fun _ k => st50 _ k) ?_
                show OEndsW p e below s _ _ _ _ _ (T50.setTop (mkF m 229 #[.val (.int p0), .val (.long p1), .second, .val (.int p2), .val (.int p3), .val (.int ((p0 &&& (2147483647 : Int32)) % (4 : Int32))), .val (.ref x), .val (.int (Int32.ofNat kn)), .val (.ref ba), .unset, .unset] [(.int r50), (.int (3 : Int32)), (.ref ba)]))
                obtain ⟨cl51, Ar51, q51, S51, M51, H51, G51⟩ := V_ba
                have hin51 : ¬ ((3 : Int32) < 0 ∨ cl51.slots.size ≤ ((3 : Int32)).toNatClampNeg) := inb_of S51 ⟨by decide, hc215_48⟩
                obtain ⟨T51, h51, X51, e51, W51, st51⟩ := stC X50 hx hZ e50 Ar51 (j := (3 : Int32)) hin51 (g := (mkF m 229 #[.val (.int p0), .val (.long p1), .second, .val (.int p2), .val (.int p3), .val (.int ((p0 &&& (2147483647 : Int32)) % (4 : Int32))), .val (.ref x), .val (.int (Int32.ofNat kn)), .val (.ref ba), .unset, .unset] [(.int r50), (.int (3 : Int32)), (.ref ba)])) rfl rfl (hb hby at_229)
                have V_ba := own_set Ar51 q51 S51 M51 H51 G51 (hyl.trans (own_cl hkn).symm) hin51 W51 hr50
                have hyl51 := (List.length_set (as := ys) (i := ((3 : Int32)).toNatClampNeg) (a := r50)).trans hyl
                have hyp51 := own_setp (i := ((3 : Int32)).toNatClampNeg) hyp hr50
                have N51 := Fr.snoc X51 N50 ge_ba
                have sfw51 := (Safe.arr (EL := consts_1) hZ.alike Ar51 (by decide))
                replace hk := Nat.le_trans hk (Keep.of_wr W51).1
                replace Od := Od.wr W51 ge_ba
                replace Ex := Exa.wr W51 Ex
                replace Vx := Fld.other W51 Vx (Or.inl ne_x)
                replace Cx := Fld.other W51 Cx (Or.inl ne_x)
                replace Kx := Kx.other W51 ne_tx
                replace CR := CR.trans (CHr.wr W51 sfw51 CR.1)
                refine OEndsW.via (fun _ k => st51 _ k) ?_
                show OEndsW p e below s _ _ _ _ _ (T51.setTop (mkF m 230 #[.val (.int p0), .val (.long p1), .second, .val (.int p2), .val (.int p3), .val (.int ((p0 &&& (2147483647 : Int32)) % (4 : Int32))), .val (.ref x), .val (.int (Int32.ofNat kn)), .val (.ref ba), .unset, .unset] []))
                exact J7 _ _ _ _ _ (X51.more (by decide) (by decide)) e51 N51 hS hk hZ hown CR Od Ex Vx Cx Kx (ys.set ((3 : Int32)).toNatClampNeg r50) hyl51 hyp51 V_ba
              · skip
                refine OEndsW.via (fun _ k => XS.icmpYes XU6.here hx rfl (pc0 := 215) (pc' := 230) rfl (hb hby at_215) rfl (flt hc215_48).2.2.2 (by decide) (by decide) k) ?_
                show OEndsW p e below s _ _ _ _ _ (U6.setTop (mkF m 230 #[.val (.int p0), .val (.long p1), .second, .val (.int p2), .val (.int p3), .val (.int ((p0 &&& (2147483647 : Int32)) % (4 : Int32))), .val (.ref x), .val (.int (Int32.ofNat kn)), .val (.ref ba), .unset, .unset] []))
                exact J7 _ _ _ _ _ (XU6.more (by decide) (by decide)) eU6 NU6 hS hk hZ hown CR Od Ex Vx Cx Kx ys hyl hyp V_ba
            by_cases hc197_51 : (2 : Int32) < (Int32.ofNat kn)
            · skip
              refine OEndsW.via (fun _ k => XS.icmpNo XU5.here hx rfl (hb hby at_197) rfl (tlt hc197_51).2.2.2 k) ?_
              show OEndsW p e below s _ _ _ _ _ (U5.setTop (mkF m 200 #[.val (.int p0), .val (.long p1), .second, .val (.int p2), .val (.int p3), .val (.int ((p0 &&& (2147483647 : Int32)) % (4 : Int32))), .val (.ref x), .val (.int (Int32.ofNat kn)), .val (.ref ba), .unset, .unset] []))
              refine OEndsW.via (fun _ k => XS.aload XU5.here hx rfl (hb hby at_200) rfl rfl k) ?_
              show OEndsW p e below s _ _ _ _ _ (U5.setTop (mkF m 202 #[.val (.int p0), .val (.long p1), .second, .val (.int p2), .val (.int p3), .val (.int ((p0 &&& (2147483647 : Int32)) % (4 : Int32))), .val (.ref x), .val (.int (Int32.ofNat kn)), .val (.ref ba), .unset, .unset] [(.ref ba)]))
              refine OEndsW.via (fun _ k => XS.iconst XU5.here hx rfl (hb hby at_202) k) ?_
              show OEndsW p e below s _ _ _ _ _ (U5.setTop (mkF m 203 #[.val (.int p0), .val (.long p1), .second, .val (.int p2), .val (.int p3), .val (.int ((p0 &&& (2147483647 : Int32)) % (4 : Int32))), .val (.ref x), .val (.int (Int32.ofNat kn)), .val (.ref ba), .unset, .unset] [(.int (2 : Int32)), (.ref ba)]))
              refine OEndsW.via (fun _ k => XS.aload XU5.here hx rfl (hb hby at_203) rfl rfl k) ?_
              show OEndsW p e below s _ _ _ _ _ (U5.setTop (mkF m 205 #[.val (.int p0), .val (.long p1), .second, .val (.int p2), .val (.int p3), .val (.int ((p0 &&& (2147483647 : Int32)) % (4 : Int32))), .val (.ref x), .val (.int (Int32.ofNat kn)), .val (.ref ba), .unset, .unset] [(.ref x), (.int (2 : Int32)), (.ref ba)]))
              refine OEndsW.via (fun _ k => XS.lloadN XU5.here hx rfl (hb hby at_205) rfl k) ?_
              show OEndsW p e below s _ _ _ _ _ (U5.setTop (mkF m 206 #[.val (.int p0), .val (.long p1), .second, .val (.int p2), .val (.int p3), .val (.int ((p0 &&& (2147483647 : Int32)) % (4 : Int32))), .val (.ref x), .val (.int (Int32.ofNat kn)), .val (.ref ba), .unset, .unset] [(.long p1), (.ref x), (.int (2 : Int32)), (.ref ba)]))
              refine OEndsW.via (fun _ k => XS.iloadN XU5.here hx rfl (hb hby at_206) rfl k) ?_
              show OEndsW p e below s _ _ _ _ _ (U5.setTop (mkF m 207 #[.val (.int p0), .val (.long p1), .second, .val (.int p2), .val (.int p3), .val (.int ((p0 &&& (2147483647 : Int32)) % (4 : Int32))), .val (.ref x), .val (.int (Int32.ofNat kn)), .val (.ref ba), .unset, .unset] [(.int p2), (.long p1), (.ref x), (.int (2 : Int32)), (.ref ba)]))
              refine OEndsW.via (fun _ k => XS.iconst XU5.here hx rfl (hb hby at_207) k) ?_
              show OEndsW p e below s _ _ _ _ _ (U5.setTop (mkF m 208 #[.val (.int p0), .val (.long p1), .second, .val (.int p2), .val (.int p3), .val (.int ((p0 &&& (2147483647 : Int32)) % (4 : Int32))), .val (.ref x), .val (.int (Int32.ofNat kn)), .val (.ref ba), .unset, .unset] [(.int (2 : Int32)), (.int p2), (.long p1), (.ref x), (.int (2 : Int32)), (.ref ba)]))
              obtain ⟨_, _, ⟨T53, L53, k53, n53⟩, -, X53, ⟨Lc53, hQ53, l53, y53, z53⟩, st53⟩ := Jvm.LawKit.callS XU5 hx (y := (⟨"com/example/odds3/odds3/engine/ValueTypeNamedPinLaw", "at", "(Ljava/lang/String;JII)C"⟩ : MethodName)) hown (mvT hZ (hw _ (List.mem_of_getElem? (i := 23) rfl))) (mvT hZ (hw _ (List.mem_of_getElem? (i := 24) rfl))) (mvT hZ (hw _ (List.mem_of_getElem? (i := 25) rfl))) (mvT hZ (hw _ (List.mem_of_getElem? (i := 26) rfl))) (by decide) (backOf (W := 2) (rmAt l Z a0 hw [] x tx kx nx vx cs p1 p2 2 G1 fm hU5 n0 Od S_CS nz_CS S_FM r_FM Ex Vx Cx Kx hcx hpx lex (by decide)) hZ (hw _ (List.mem_of_getElem? (i := 26) rfl)) (hw _ (List.mem_of_getElem? (i := 25) rfl)) (by decide) (by decide)) (g := (mkF m 208 #[.val (.int p0), .val (.long p1), .second, .val (.int p2), .val (.int p3), .val (.int ((p0 &&& (2147483647 : Int32)) % (4 : Int32))), .val (.ref x), .val (.int (Int32.ofNat kn)), .val (.ref ba), .unset, .unset] [(.int (2 : Int32)), (.int p2), (.long p1), (.ref x), (.int (2 : Int32)), (.ref ba)])) rfl (by rw [hml]; rfl) (argsL := [(.ref x), (.long p1), (.int p2), (.int (2 : Int32))]) (rest := [(.int (2 : Int32)), (.ref ba)]) (lenOf pd_28Ljava2flang2fString3bJII29C rfl) rfl (by show 2 * 0 + _ ≤ _; exact Nat.le_of_eq rfl) (hb hby at_208) (fun _ _ => ⟨rfl, eU5, Nat.le_of_ble_eq_true rfl, Nat.le_of_ble_eq_true rfl⟩)
              dsimp only [Pt.U, Pt.locs, Pt.cells, Pt.slots] at X53 l53 y53 z53 st53 hQ53
              subst l53 y53 z53
              obtain ⟨r53, rfl, hr53, N53q, e53⟩ := hQ53
              have N53 := Fr.app NU5 N53q
              refine OEndsW.via (fun _ k => st53 _ k) ?_
              show OEndsW p e below s _ _ _ _ _ (T53.setTop (mkF m 211 #[.val (.int p0), .val (.long p1), .second, .val (.int p2), .val (.int p3), .val (.int ((p0 &&& (2147483647 : Int32)) % (4 : Int32))), .val (.ref x), .val (.int (Int32.ofNat kn)), .val (.ref ba), .unset, .unset] [(.int r53), (.int (2 : Int32)), (.ref ba)]))
              obtain ⟨cl54, Ar54, q54, S54, M54, H54, G54⟩ := V_ba
              have hin54 : ¬ ((2 : Int32) < 0 ∨ cl54.slots.size ≤ ((2 : Int32)).toNatClampNeg) := inb_of S54 ⟨by decide, hc197_51⟩
              obtain ⟨T54, h54, X54, e54, W54, st54⟩ := stC X53 hx hZ e53 Ar54 (j := (2 : Int32)) hin54 (g := (mkF m 211 #[.val (.int p0), .val (.long p1), .second, .val (.int p2), .val (.int p3), .val (.int ((p0 &&& (2147483647 : Int32)) % (4 : Int32))), .val (.ref x), .val (.int (Int32.ofNat kn)), .val (.ref ba), .unset, .unset] [(.int r53), (.int (2 : Int32)), (.ref ba)])) rfl rfl (hb hby at_211)
              have V_ba := own_set Ar54 q54 S54 M54 H54 G54 (hyl.trans (own_cl hkn).symm) hin54 W54 hr53
              have hyl54 := (List.length_set (as := ys) (i := ((2 : Int32)).toNatClampNeg) (a := r53)).trans hyl
              have hyp54 := own_setp (i := ((2 : Int32)).toNatClampNeg) hyp hr53
              have N54 := Fr.snoc X54 N53 ge_ba
              have sfw54 := (Safe.arr (EL := consts_1) hZ.alike Ar54 (by decide))
              replace hk := Nat.le_trans hk (Keep.of_wr W54).1
              replace Od := Od.wr W54 ge_ba
              replace Ex := Exa.wr W54 Ex
              replace Vx := Fld.other W54 Vx (Or.inl ne_x)
              replace Cx := Fld.other W54 Cx (Or.inl ne_x)
              replace Kx := Kx.other W54 ne_tx
              replace CR := CR.trans (CHr.wr W54 sfw54 CR.1)
              refine OEndsW.via (fun _ k => st54 _ k) ?_
              show OEndsW p e below s _ _ _ _ _ (T54.setTop (mkF m 212 #[.val (.int p0), .val (.long p1), .second, .val (.int p2), .val (.int p3), .val (.int ((p0 &&& (2147483647 : Int32)) % (4 : Int32))), .val (.ref x), .val (.int (Int32.ofNat kn)), .val (.ref ba), .unset, .unset] []))
              exact J6 _ _ _ _ _ (X54.more (by decide) (by decide)) e54 N54 hS hk hZ hown CR Od Ex Vx Cx Kx (ys.set ((2 : Int32)).toNatClampNeg r53) hyl54 hyp54 V_ba
            · skip
              refine OEndsW.via (fun _ k => XS.icmpYes XU5.here hx rfl (pc0 := 197) (pc' := 212) rfl (hb hby at_197) rfl (flt hc197_51).2.2.2 (by decide) (by decide) k) ?_
              show OEndsW p e below s _ _ _ _ _ (U5.setTop (mkF m 212 #[.val (.int p0), .val (.long p1), .second, .val (.int p2), .val (.int p3), .val (.int ((p0 &&& (2147483647 : Int32)) % (4 : Int32))), .val (.ref x), .val (.int (Int32.ofNat kn)), .val (.ref ba), .unset, .unset] []))
              exact J6 _ _ _ _ _ (XU5.more (by decide) (by decide)) eU5 NU5 hS hk hZ hown CR Od Ex Vx Cx Kx ys hyl hyp V_ba
          by_cases hc179_54 : (1 : Int32) < (Int32.ofNat kn)
          · skip
            refine OEndsW.via (fun _ k => XS.icmpNo XU4.here hx rfl (hb hby at_179) rfl (tlt hc179_54).2.2.2 k) ?_
            show OEndsW p e below s _ _ _ _ _ (U4.setTop (mkF m 182 #[.val (.int p0), .val (.long p1), .second, .val (.int p2), .val (.int p3), .val (.int ((p0 &&& (2147483647 : Int32)) % (4 : Int32))), .val (.ref x), .val (.int (Int32.ofNat kn)), .val (.ref ba), .unset, .unset] []))
            refine OEndsW.via (fun _ k => XS.aload XU4.here hx rfl (hb hby at_182) rfl rfl k) ?_
            show OEndsW p e below s _ _ _ _ _ (U4.setTop (mkF m 184 #[.val (.int p0), .val (.long p1), .second, .val (.int p2), .val (.int p3), .val (.int ((p0 &&& (2147483647 : Int32)) % (4 : Int32))), .val (.ref x), .val (.int (Int32.ofNat kn)), .val (.ref ba), .unset, .unset] [(.ref ba)]))
            refine OEndsW.via (fun _ k => XS.iconst XU4.here hx rfl (hb hby at_184) k) ?_
            show OEndsW p e below s _ _ _ _ _ (U4.setTop (mkF m 185 #[.val (.int p0), .val (.long p1), .second, .val (.int p2), .val (.int p3), .val (.int ((p0 &&& (2147483647 : Int32)) % (4 : Int32))), .val (.ref x), .val (.int (Int32.ofNat kn)), .val (.ref ba), .unset, .unset] [(.int (1 : Int32)), (.ref ba)]))
            refine OEndsW.via (fun _ k => XS.aload XU4.here hx rfl (hb hby at_185) rfl rfl k) ?_
            show OEndsW p e below s _ _ _ _ _ (U4.setTop (mkF m 187 #[.val (.int p0), .val (.long p1), .second, .val (.int p2), .val (.int p3), .val (.int ((p0 &&& (2147483647 : Int32)) % (4 : Int32))), .val (.ref x), .val (.int (Int32.ofNat kn)), .val (.ref ba), .unset, .unset] [(.ref x), (.int (1 : Int32)), (.ref ba)]))
            refine OEndsW.via (fun _ k => XS.lloadN XU4.here hx rfl (hb hby at_187) rfl k) ?_
            show OEndsW p e below s _ _ _ _ _ (U4.setTop (mkF m 188 #[.val (.int p0), .val (.long p1), .second, .val (.int p2), .val (.int p3), .val (.int ((p0 &&& (2147483647 : Int32)) % (4 : Int32))), .val (.ref x), .val (.int (Int32.ofNat kn)), .val (.ref ba), .unset, .unset] [(.long p1), (.ref x), (.int (1 : Int32)), (.ref ba)]))
            refine OEndsW.via (fun _ k => XS.iloadN XU4.here hx rfl (hb hby at_188) rfl k) ?_
            show OEndsW p e below s _ _ _ _ _ (U4.setTop (mkF m 189 #[.val (.int p0), .val (.long p1), .second, .val (.int p2), .val (.int p3), .val (.int ((p0 &&& (2147483647 : Int32)) % (4 : Int32))), .val (.ref x), .val (.int (Int32.ofNat kn)), .val (.ref ba), .unset, .unset] [(.int p2), (.long p1), (.ref x), (.int (1 : Int32)), (.ref ba)]))
            refine OEndsW.via (fun _ k => XS.iconst XU4.here hx rfl (hb hby at_189) k) ?_
            show OEndsW p e below s _ _ _ _ _ (U4.setTop (mkF m 190 #[.val (.int p0), .val (.long p1), .second, .val (.int p2), .val (.int p3), .val (.int ((p0 &&& (2147483647 : Int32)) % (4 : Int32))), .val (.ref x), .val (.int (Int32.ofNat kn)), .val (.ref ba), .unset, .unset] [(.int (1 : Int32)), (.int p2), (.long p1), (.ref x), (.int (1 : Int32)), (.ref ba)]))
            obtain ⟨_, _, ⟨T56, L56, k56, n56⟩, -, X56, ⟨Lc56, hQ56, l56, y56, z56⟩, st56⟩ := Jvm.LawKit.callS XU4 hx (y := (⟨"com/example/odds3/odds3/engine/ValueTypeNamedPinLaw", "at", "(Ljava/lang/String;JII)C"⟩ : MethodName)) hown (mvT hZ (hw _ (List.mem_of_getElem? (i := 23) rfl))) (mvT hZ (hw _ (List.mem_of_getElem? (i := 24) rfl))) (mvT hZ (hw _ (List.mem_of_getElem? (i := 25) rfl))) (mvT hZ (hw _ (List.mem_of_getElem? (i := 26) rfl))) (by decide) (backOf (W := 2) (rmAt l Z a0 hw [] x tx kx nx vx cs p1 p2 1 G1 fm hU4 n0 Od S_CS nz_CS S_FM r_FM Ex Vx Cx Kx hcx hpx lex (by decide)) hZ (hw _ (List.mem_of_getElem? (i := 26) rfl)) (hw _ (List.mem_of_getElem? (i := 25) rfl)) (by decide) (by decide)) (g := (mkF m 190 #[.val (.int p0), .val (.long p1), .second, .val (.int p2), .val (.int p3), .val (.int ((p0 &&& (2147483647 : Int32)) % (4 : Int32))), .val (.ref x), .val (.int (Int32.ofNat kn)), .val (.ref ba), .unset, .unset] [(.int (1 : Int32)), (.int p2), (.long p1), (.ref x), (.int (1 : Int32)), (.ref ba)])) rfl (by rw [hml]; rfl) (argsL := [(.ref x), (.long p1), (.int p2), (.int (1 : Int32))]) (rest := [(.int (1 : Int32)), (.ref ba)]) (lenOf pd_28Ljava2flang2fString3bJII29C rfl) rfl (by show 2 * 0 + _ ≤ _; exact Nat.le_of_eq rfl) (hb hby at_190) (fun _ _ => ⟨rfl, eU4, Nat.le_of_ble_eq_true rfl, Nat.le_of_ble_eq_true rfl⟩)
            dsimp only [Pt.U, Pt.locs, Pt.cells, Pt.slots] at X56 l56 y56 z56 st56 hQ56
            subst l56 y56 z56
            obtain ⟨r56, rfl, hr56, N56q, e56⟩ := hQ56
            have N56 := Fr.app NU4 N56q
            refine OEndsW.via (fun _ k => st56 _ k) ?_
            show OEndsW p e below s _ _ _ _ _ (T56.setTop (mkF m 193 #[.val (.int p0), .val (.long p1), .second, .val (.int p2), .val (.int p3), .val (.int ((p0 &&& (2147483647 : Int32)) % (4 : Int32))), .val (.ref x), .val (.int (Int32.ofNat kn)), .val (.ref ba), .unset, .unset] [(.int r56), (.int (1 : Int32)), (.ref ba)]))
            obtain ⟨cl57, Ar57, q57, S57, M57, H57, G57⟩ := V_ba
            have hin57 : ¬ ((1 : Int32) < 0 ∨ cl57.slots.size ≤ ((1 : Int32)).toNatClampNeg) := inb_of S57 ⟨by decide, hc179_54⟩
            obtain ⟨T57, h57, X57, e57, W57, st57⟩ := stC X56 hx hZ e56 Ar57 (j := (1 : Int32)) hin57 (g := (mkF m 193 #[.val (.int p0), .val (.long p1), .second, .val (.int p2), .val (.int p3), .val (.int ((p0 &&& (2147483647 : Int32)) % (4 : Int32))), .val (.ref x), .val (.int (Int32.ofNat kn)), .val (.ref ba), .unset, .unset] [(.int r56), (.int (1 : Int32)), (.ref ba)])) rfl rfl (hb hby at_193)
            have V_ba := own_set Ar57 q57 S57 M57 H57 G57 (hyl.trans (own_cl hkn).symm) hin57 W57 hr56
            have hyl57 := (List.length_set (as := ys) (i := ((1 : Int32)).toNatClampNeg) (a := r56)).trans hyl
            have hyp57 := own_setp (i := ((1 : Int32)).toNatClampNeg) hyp hr56
            have N57 := Fr.snoc X57 N56 ge_ba
            have sfw57 := (Safe.arr (EL := consts_1) hZ.alike Ar57 (by decide))
            replace hk := Nat.le_trans hk (Keep.of_wr W57).1
            replace Od := Od.wr W57 ge_ba
            replace Ex := Exa.wr W57 Ex
            replace Vx := Fld.other W57 Vx (Or.inl ne_x)
            replace Cx := Fld.other W57 Cx (Or.inl ne_x)
            replace Kx := Kx.other W57 ne_tx
            replace CR := CR.trans (CHr.wr W57 sfw57 CR.1)
            refine OEndsW.via (fun _ k => st57 _ k) ?_
            show OEndsW p e below s _ _ _ _ _ (T57.setTop (mkF m 194 #[.val (.int p0), .val (.long p1), .second, .val (.int p2), .val (.int p3), .val (.int ((p0 &&& (2147483647 : Int32)) % (4 : Int32))), .val (.ref x), .val (.int (Int32.ofNat kn)), .val (.ref ba), .unset, .unset] []))
            exact J5 _ _ _ _ _ (X57.more (by decide) (by decide)) e57 N57 hS hk hZ hown CR Od Ex Vx Cx Kx (ys.set ((1 : Int32)).toNatClampNeg r56) hyl57 hyp57 V_ba
          · skip
            refine OEndsW.via (fun _ k => XS.icmpYes XU4.here hx rfl (pc0 := 179) (pc' := 194) rfl (hb hby at_179) rfl (flt hc179_54).2.2.2 (by decide) (by decide) k) ?_
            show OEndsW p e below s _ _ _ _ _ (U4.setTop (mkF m 194 #[.val (.int p0), .val (.long p1), .second, .val (.int p2), .val (.int p3), .val (.int ((p0 &&& (2147483647 : Int32)) % (4 : Int32))), .val (.ref x), .val (.int (Int32.ofNat kn)), .val (.ref ba), .unset, .unset] []))
            exact J5 _ _ _ _ _ (XU4.more (by decide) (by decide)) eU4 NU4 hS hk hZ hown CR Od Ex Vx Cx Kx ys hyl hyp V_ba
        by_cases hc161_57 : (0 : Int32) < (Int32.ofNat kn)
        · skip
          refine OEndsW.via (fun _ k => XS.ifNo XU3.here hx rfl (hb hby at_161) rfl ((if0 _ _).trans (tlt hc161_57).2.2.2) k) ?_
          show OEndsW p e below s _ _ _ _ _ (U3.setTop (mkF m 164 #[.val (.int p0), .val (.long p1), .second, .val (.int p2), .val (.int p3), .val (.int ((p0 &&& (2147483647 : Int32)) % (4 : Int32))), .val (.ref x), .val (.int (Int32.ofNat kn)), .val (.ref ba), .unset, .unset] []))
          refine OEndsW.via (fun _ k => XS.aload XU3.here hx rfl (hb hby at_164) rfl rfl k) ?_
          show OEndsW p e below s _ _ _ _ _ (U3.setTop (mkF m 166 #[.val (.int p0), .val (.long p1), .second, .val (.int p2), .val (.int p3), .val (.int ((p0 &&& (2147483647 : Int32)) % (4 : Int32))), .val (.ref x), .val (.int (Int32.ofNat kn)), .val (.ref ba), .unset, .unset] [(.ref ba)]))
          refine OEndsW.via (fun _ k => XS.iconst XU3.here hx rfl (hb hby at_166) k) ?_
          show OEndsW p e below s _ _ _ _ _ (U3.setTop (mkF m 167 #[.val (.int p0), .val (.long p1), .second, .val (.int p2), .val (.int p3), .val (.int ((p0 &&& (2147483647 : Int32)) % (4 : Int32))), .val (.ref x), .val (.int (Int32.ofNat kn)), .val (.ref ba), .unset, .unset] [(.int (0 : Int32)), (.ref ba)]))
          refine OEndsW.via (fun _ k => XS.aload XU3.here hx rfl (hb hby at_167) rfl rfl k) ?_
          show OEndsW p e below s _ _ _ _ _ (U3.setTop (mkF m 169 #[.val (.int p0), .val (.long p1), .second, .val (.int p2), .val (.int p3), .val (.int ((p0 &&& (2147483647 : Int32)) % (4 : Int32))), .val (.ref x), .val (.int (Int32.ofNat kn)), .val (.ref ba), .unset, .unset] [(.ref x), (.int (0 : Int32)), (.ref ba)]))
          refine OEndsW.via (fun _ k => XS.lloadN XU3.here hx rfl (hb hby at_169) rfl k) ?_
          show OEndsW p e below s _ _ _ _ _ (U3.setTop (mkF m 170 #[.val (.int p0), .val (.long p1), .second, .val (.int p2), .val (.int p3), .val (.int ((p0 &&& (2147483647 : Int32)) % (4 : Int32))), .val (.ref x), .val (.int (Int32.ofNat kn)), .val (.ref ba), .unset, .unset] [(.long p1), (.ref x), (.int (0 : Int32)), (.ref ba)]))
          refine OEndsW.via (fun _ k => XS.iloadN XU3.here hx rfl (hb hby at_170) rfl k) ?_
          show OEndsW p e below s _ _ _ _ _ (U3.setTop (mkF m 171 #[.val (.int p0), .val (.long p1), .second, .val (.int p2), .val (.int p3), .val (.int ((p0 &&& (2147483647 : Int32)) % (4 : Int32))), .val (.ref x), .val (.int (Int32.ofNat kn)), .val (.ref ba), .unset, .unset] [(.int p2), (.long p1), (.ref x), (.int (0 : Int32)), (.ref ba)]))
          refine OEndsW.via (fun _ k => XS.iconst XU3.here hx rfl (hb hby at_171) k) ?_
          show OEndsW p e below s _ _ _ _ _ (U3.setTop (mkF m 172 #[.val (.int p0), .val (.long p1), .second, .val (.int p2), .val (.int p3), .val (.int ((p0 &&& (2147483647 : Int32)) % (4 : Int32))), .val (.ref x), .val (.int (Int32.ofNat kn)), .val (.ref ba), .unset, .unset] [(.int (0 : Int32)), (.int p2), (.long p1), (.ref x), (.int (0 : Int32)), (.ref ba)]))
          obtain ⟨_, _, ⟨T59, L59, k59, n59⟩, -, X59, ⟨Lc59, hQ59, l59, y59, z59⟩, st59⟩ := Jvm.LawKit.callS XU3 hx (y := (⟨"com/example/odds3/odds3/engine/ValueTypeNamedPinLaw", "at", "(Ljava/lang/String;JII)C"⟩ : MethodName)) hown (mvT hZ (hw _ (List.mem_of_getElem? (i := 23) rfl))) (mvT hZ (hw _ (List.mem_of_getElem? (i := 24) rfl))) (mvT hZ (hw _ (List.mem_of_getElem? (i := 25) rfl))) (mvT hZ (hw _ (List.mem_of_getElem? (i := 26) rfl))) (by decide) (backOf (W := 2) (rmAt l Z a0 hw [] x tx kx nx vx cs p1 p2 0 G1 fm hU3 n0 Od S_CS nz_CS S_FM r_FM Ex Vx Cx Kx hcx hpx lex (by decide)) hZ (hw _ (List.mem_of_getElem? (i := 26) rfl)) (hw _ (List.mem_of_getElem? (i := 25) rfl)) (by decide) (by decide)) (g := (mkF m 172 #[.val (.int p0), .val (.long p1), .second, .val (.int p2), .val (.int p3), .val (.int ((p0 &&& (2147483647 : Int32)) % (4 : Int32))), .val (.ref x), .val (.int (Int32.ofNat kn)), .val (.ref ba), .unset, .unset] [(.int (0 : Int32)), (.int p2), (.long p1), (.ref x), (.int (0 : Int32)), (.ref ba)])) rfl (by rw [hml]; rfl) (argsL := [(.ref x), (.long p1), (.int p2), (.int (0 : Int32))]) (rest := [(.int (0 : Int32)), (.ref ba)]) (lenOf pd_28Ljava2flang2fString3bJII29C rfl) rfl (by show 2 * 0 + _ ≤ _; exact Nat.le_of_eq rfl) (hb hby at_172) (fun _ _ => ⟨rfl, eU3, Nat.le_of_ble_eq_true rfl, Nat.le_of_ble_eq_true rfl⟩)
          dsimp only [Pt.U, Pt.locs, Pt.cells, Pt.slots] at X59 l59 y59 z59 st59 hQ59
          subst l59 y59 z59
          obtain ⟨r59, rfl, hr59, N59q, e59⟩ := hQ59
          have N59 := Fr.app NU3 N59q
          refine OEndsW.via (fun _ k => st59 _ k) ?_
          show OEndsW p e below s _ _ _ _ _ (T59.setTop (mkF m 175 #[.val (.int p0), .val (.long p1), .second, .val (.int p2), .val (.int p3), .val (.int ((p0 &&& (2147483647 : Int32)) % (4 : Int32))), .val (.ref x), .val (.int (Int32.ofNat kn)), .val (.ref ba), .unset, .unset] [(.int r59), (.int (0 : Int32)), (.ref ba)]))
          obtain ⟨cl60, Ar60, q60, S60, M60, H60, G60⟩ := V_ba
          have hin60 : ¬ ((0 : Int32) < 0 ∨ cl60.slots.size ≤ ((0 : Int32)).toNatClampNeg) := inb_of S60 ⟨by decide, hc161_57⟩
          obtain ⟨T60, h60, X60, e60, W60, st60⟩ := stC X59 hx hZ e59 Ar60 (j := (0 : Int32)) hin60 (g := (mkF m 175 #[.val (.int p0), .val (.long p1), .second, .val (.int p2), .val (.int p3), .val (.int ((p0 &&& (2147483647 : Int32)) % (4 : Int32))), .val (.ref x), .val (.int (Int32.ofNat kn)), .val (.ref ba), .unset, .unset] [(.int r59), (.int (0 : Int32)), (.ref ba)])) rfl rfl (hb hby at_175)
          have V_ba := own_set Ar60 q60 S60 M60 H60 G60 (hyl.trans (own_cl hkn).symm) hin60 W60 hr59
          have hyl60 := (List.length_set (as := ys) (i := ((0 : Int32)).toNatClampNeg) (a := r59)).trans hyl
          have hyp60 := own_setp (i := ((0 : Int32)).toNatClampNeg) hyp hr59
          have N60 := Fr.snoc X60 N59 ge_ba
          have sfw60 := (Safe.arr (EL := consts_1) hZ.alike Ar60 (by decide))
          replace hk := Nat.le_trans hk (Keep.of_wr W60).1
          replace Od := Od.wr W60 ge_ba
          replace Ex := Exa.wr W60 Ex
          replace Vx := Fld.other W60 Vx (Or.inl ne_x)
          replace Cx := Fld.other W60 Cx (Or.inl ne_x)
          replace Kx := Kx.other W60 ne_tx
          replace CR := CR.trans (CHr.wr W60 sfw60 CR.1)
          refine OEndsW.via (fun _ k => st60 _ k) ?_
          show OEndsW p e below s _ _ _ _ _ (T60.setTop (mkF m 176 #[.val (.int p0), .val (.long p1), .second, .val (.int p2), .val (.int p3), .val (.int ((p0 &&& (2147483647 : Int32)) % (4 : Int32))), .val (.ref x), .val (.int (Int32.ofNat kn)), .val (.ref ba), .unset, .unset] []))
          exact J4 _ _ _ _ _ (X60.more (by decide) (by decide)) e60 N60 hS hk hZ hown CR Od Ex Vx Cx Kx (ys.set ((0 : Int32)).toNatClampNeg r59) hyl60 hyp60 V_ba
        · skip
          refine OEndsW.via (fun _ k => XS.ifYes XU3.here hx rfl (pc0 := 161) (pc' := 176) rfl (hb hby at_161) rfl ((if0 _ _).trans (flt hc161_57).2.2.2) (by decide) (by decide) k) ?_
          show OEndsW p e below s _ _ _ _ _ (U3.setTop (mkF m 176 #[.val (.int p0), .val (.long p1), .second, .val (.int p2), .val (.int p3), .val (.int ((p0 &&& (2147483647 : Int32)) % (4 : Int32))), .val (.ref x), .val (.int (Int32.ofNat kn)), .val (.ref ba), .unset, .unset] []))
          exact J4 _ _ _ _ _ (XU3.more (by decide) (by decide)) eU3 NU3 hS hk hZ hown CR Od Ex Vx Cx Kx ys hyl hyp V_ba
      by_cases hc70_60 : (Int32.ofNat kn) = (0 : Int32)
      · skip
        refine OEndsW.via (fun _ k => XS.ifNo XU2.here hx rfl (hb hby at_70) rfl ((if0 _ _).trans (teq hc70_60).2) k) ?_
        show OEndsW p e below s _ _ _ _ _ (U2.setTop (mkF m 73 #[.val (.int p0), .val (.long p1), .second, .val (.int p2), .val (.int p3), .val (.int ((p0 &&& (2147483647 : Int32)) % (4 : Int32))), .val (.ref x), .val (.int (Int32.ofNat kn)), .unset, .unset, .unset] []))
        refine OEndsW.via (fun _ k => XS.iconst XU2.here hx rfl (hb hby at_73) k) ?_
        show OEndsW p e below s _ _ _ _ _ (U2.setTop (mkF m 74 #[.val (.int p0), .val (.long p1), .second, .val (.int p2), .val (.int p3), .val (.int ((p0 &&& (2147483647 : Int32)) % (4 : Int32))), .val (.ref x), .val (.int (Int32.ofNat kn)), .unset, .unset, .unset] [(.int (0 : Int32))]))
        obtain ⟨T62, h62, k62, X62, e62, E62, A62, st62⟩ := newP XU2 hx hZ (hw _ (List.mem_of_getElem? (i := 22) rfl)) eU2 (g := (mkF m 74 #[.val (.int p0), .val (.long p1), .second, .val (.int p2), .val (.int p3), .val (.int ((p0 &&& (2147483647 : Int32)) % (4 : Int32))), .val (.ref x), .val (.int (Int32.ofNat kn)), .unset, .unset, .unset] [(.int (0 : Int32))])) rfl (hb hby at_74) rfl (by decide) (cap := 0) (by decide) (by decide) (by decide) (by decide)
        obtain ⟨b62, g62⟩ : ∃ z, z = hU2.size := ⟨_, rfl⟩
        have ne_x_b62 : x ≠ b62 := Nat.ne_of_lt (Nat.lt_of_lt_of_le Ex.lt (Nat.le_of_eq g62.symm))
        have ne_tx_b62 : tx ≠ b62 := Nat.ne_of_lt (Nat.lt_of_lt_of_le Kx.lt (Nat.le_of_eq g62.symm))
        have ge_b62 : n0 ≤ b62 := Nat.le_trans (Od.1 ▸ Od.2.1) (Nat.le_of_eq g62.symm)
        have sf_b62 : Safe Z consts_1 _ hU2 b62 := Safe.new (EL := consts_1) (vm := vmU2) (Nat.le_of_eq g62.symm)
        rw [← g62] at A62 st62
        replace hk := Nat.le_trans hk E62.1
        replace Od := Od.ext E62
        replace Ex := Exa.ext E62 Ex
        replace Vx := Fld.ext E62 Vx
        replace Cx := Fld.ext E62 Cx
        replace Kx := Kx.ext E62
        replace sf_b62 := Safe.ext E62 CR.1 sf_b62
        replace CR := CR.trans (CHr.ext E62 CR.1)
        have V_b62 : Arv Z h62 b62 k62 .char (0 : Int32) [] (.int (0 : Int32)) := (Arv.new A62 (by decide)).pad (pad_rep [] (.int (0 : Int32)) 0)
        refine OEndsW.via (fun _ k => st62 _ k) ?_
        show OEndsW p e below s _ _ _ _ _ (T62.setTop (mkF m 76 #[.val (.int p0), .val (.long p1), .second, .val (.int p2), .val (.int p3), .val (.int ((p0 &&& (2147483647 : Int32)) % (4 : Int32))), .val (.ref x), .val (.int (Int32.ofNat kn)), .unset, .unset, .unset] [(.ref b62)]))
        refine OEndsW.via (fun _ k => XS.goto X62.here hx rfl (pc0 := 76) (pc' := 157) rfl (hb hby at_76) (by decide) (by decide) k) ?_
        show OEndsW p e below s _ _ _ _ _ (T62.setTop (mkF m 157 #[.val (.int p0), .val (.long p1), .second, .val (.int p2), .val (.int p3), .val (.int ((p0 &&& (2147483647 : Int32)) % (4 : Int32))), .val (.ref x), .val (.int (Int32.ofNat kn)), .unset, .unset, .unset] [(.ref b62)]))
        have hck : Int32.ofNat kn = (0 : Int32) := hc70_60
        have hkk : kn = 0 := own_inj7 hkn (by decide) hck
        exact J3 _ _ _ _ _ (X62.more (by decide) (by decide)) e62 NU2 hS hk hZ hown CR Od Ex Vx Cx Kx b62 k62 (List.replicate 0 0) (by rw [hkk]; rfl) (own_rep 0) (by rw [hck]; exact V_b62) ge_b62 ne_x_b62 ne_tx_b62
      · skip
        refine OEndsW.via (fun _ k => XS.ifYes XU2.here hx rfl (pc0 := 70) (pc' := 79) rfl (hb hby at_70) rfl ((if0 _ _).trans (feq hc70_60).2) (by decide) (by decide) k) ?_
        show OEndsW p e below s _ _ _ _ _ (U2.setTop (mkF m 79 #[.val (.int p0), .val (.long p1), .second, .val (.int p2), .val (.int p3), .val (.int ((p0 &&& (2147483647 : Int32)) % (4 : Int32))), .val (.ref x), .val (.int (Int32.ofNat kn)), .unset, .unset, .unset] []))
        refine OEndsW.via (fun _ k => XS.iload XU2.here hx rfl (hb hby at_79) rfl k) ?_
        show OEndsW p e below s _ _ _ _ _ (U2.setTop (mkF m 81 #[.val (.int p0), .val (.long p1), .second, .val (.int p2), .val (.int p3), .val (.int ((p0 &&& (2147483647 : Int32)) % (4 : Int32))), .val (.ref x), .val (.int (Int32.ofNat kn)), .unset, .unset, .unset] [(.int (Int32.ofNat kn))]))
        refine OEndsW.via (fun _ k => XS.iconst XU2.here hx rfl (hb hby at_81) k) ?_
        show OEndsW p e below s _ _ _ _ _ (U2.setTop (mkF m 82 #[.val (.int p0), .val (.long p1), .second, .val (.int p2), .val (.int p3), .val (.int ((p0 &&& (2147483647 : Int32)) % (4 : Int32))), .val (.ref x), .val (.int (Int32.ofNat kn)), .unset, .unset, .unset] [(.int (1 : Int32)), (.int (Int32.ofNat kn))]))
        by_cases hc82_62 : (Int32.ofNat kn) = (1 : Int32)
        · skip
          refine OEndsW.via (fun _ k => XS.icmpNo XU2.here hx rfl (hb hby at_82) rfl (teq hc82_62).2 k) ?_
          show OEndsW p e below s _ _ _ _ _ (U2.setTop (mkF m 85 #[.val (.int p0), .val (.long p1), .second, .val (.int p2), .val (.int p3), .val (.int ((p0 &&& (2147483647 : Int32)) % (4 : Int32))), .val (.ref x), .val (.int (Int32.ofNat kn)), .unset, .unset, .unset] []))
          refine OEndsW.via (fun _ k => XS.iconst XU2.here hx rfl (hb hby at_85) k) ?_
          show OEndsW p e below s _ _ _ _ _ (U2.setTop (mkF m 86 #[.val (.int p0), .val (.long p1), .second, .val (.int p2), .val (.int p3), .val (.int ((p0 &&& (2147483647 : Int32)) % (4 : Int32))), .val (.ref x), .val (.int (Int32.ofNat kn)), .unset, .unset, .unset] [(.int (1 : Int32))]))
          obtain ⟨T64, h64, k64, X64, e64, E64, A64, st64⟩ := newP XU2 hx hZ (hw _ (List.mem_of_getElem? (i := 22) rfl)) eU2 (g := (mkF m 86 #[.val (.int p0), .val (.long p1), .second, .val (.int p2), .val (.int p3), .val (.int ((p0 &&& (2147483647 : Int32)) % (4 : Int32))), .val (.ref x), .val (.int (Int32.ofNat kn)), .unset, .unset, .unset] [(.int (1 : Int32))])) rfl (hb hby at_86) rfl (by decide) (cap := 1) (by decide) (by decide) (by decide) (by decide)
          obtain ⟨b64, g64⟩ : ∃ z, z = hU2.size := ⟨_, rfl⟩
          have ne_x_b64 : x ≠ b64 := Nat.ne_of_lt (Nat.lt_of_lt_of_le Ex.lt (Nat.le_of_eq g64.symm))
          have ne_tx_b64 : tx ≠ b64 := Nat.ne_of_lt (Nat.lt_of_lt_of_le Kx.lt (Nat.le_of_eq g64.symm))
          have ge_b64 : n0 ≤ b64 := Nat.le_trans (Od.1 ▸ Od.2.1) (Nat.le_of_eq g64.symm)
          have sf_b64 : Safe Z consts_1 _ hU2 b64 := Safe.new (EL := consts_1) (vm := vmU2) (Nat.le_of_eq g64.symm)
          rw [← g64] at A64 st64
          replace hk := Nat.le_trans hk E64.1
          replace Od := Od.ext E64
          replace Ex := Exa.ext E64 Ex
          replace Vx := Fld.ext E64 Vx
          replace Cx := Fld.ext E64 Cx
          replace Kx := Kx.ext E64
          replace sf_b64 := Safe.ext E64 CR.1 sf_b64
          replace CR := CR.trans (CHr.ext E64 CR.1)
          have V_b64 : Arv Z h64 b64 k64 .char (1 : Int32) [(.int (0 : Int32))] (.int (0 : Int32)) := (Arv.new A64 (by decide)).pad (pad_rep [] (.int (0 : Int32)) 1)
          refine OEndsW.via (fun _ k => st64 _ k) ?_
          show OEndsW p e below s _ _ _ _ _ (T64.setTop (mkF m 88 #[.val (.int p0), .val (.long p1), .second, .val (.int p2), .val (.int p3), .val (.int ((p0 &&& (2147483647 : Int32)) % (4 : Int32))), .val (.ref x), .val (.int (Int32.ofNat kn)), .unset, .unset, .unset] [(.ref b64)]))
          refine OEndsW.via (fun _ k => XS.goto X64.here hx rfl (pc0 := 88) (pc' := 157) rfl (hb hby at_88) (by decide) (by decide) k) ?_
          show OEndsW p e below s _ _ _ _ _ (T64.setTop (mkF m 157 #[.val (.int p0), .val (.long p1), .second, .val (.int p2), .val (.int p3), .val (.int ((p0 &&& (2147483647 : Int32)) % (4 : Int32))), .val (.ref x), .val (.int (Int32.ofNat kn)), .unset, .unset, .unset] [(.ref b64)]))
          have hck : Int32.ofNat kn = (1 : Int32) := hc82_62
          have hkk : kn = 1 := own_inj7 hkn (by decide) hck
          exact J3 _ _ _ _ _ (X64.more (by decide) (by decide)) e64 NU2 hS hk hZ hown CR Od Ex Vx Cx Kx b64 k64 (List.replicate 1 0) (by rw [hkk]; rfl) (own_rep 1) (by rw [hck]; exact V_b64) ge_b64 ne_x_b64 ne_tx_b64
        · skip
          refine OEndsW.via (fun _ k => XS.icmpYes XU2.here hx rfl (pc0 := 82) (pc' := 91) rfl (hb hby at_82) rfl (feq hc82_62).2 (by decide) (by decide) k) ?_
          show OEndsW p e below s _ _ _ _ _ (U2.setTop (mkF m 91 #[.val (.int p0), .val (.long p1), .second, .val (.int p2), .val (.int p3), .val (.int ((p0 &&& (2147483647 : Int32)) % (4 : Int32))), .val (.ref x), .val (.int (Int32.ofNat kn)), .unset, .unset, .unset] []))
          refine OEndsW.via (fun _ k => XS.iload XU2.here hx rfl (hb hby at_91) rfl k) ?_
          show OEndsW p e below s _ _ _ _ _ (U2.setTop (mkF m 93 #[.val (.int p0), .val (.long p1), .second, .val (.int p2), .val (.int p3), .val (.int ((p0 &&& (2147483647 : Int32)) % (4 : Int32))), .val (.ref x), .val (.int (Int32.ofNat kn)), .unset, .unset, .unset] [(.int (Int32.ofNat kn))]))
          refine OEndsW.via (fun _ k => XS.iconst XU2.here hx rfl (hb hby at_93) k) ?_
          show OEndsW p e below s _ _ _ _ _ (U2.setTop (mkF m 94 #[.val (.int p0), .val (.long p1), .second, .val (.int p2), .val (.int p3), .val (.int ((p0 &&& (2147483647 : Int32)) % (4 : Int32))), .val (.ref x), .val (.int (Int32.ofNat kn)), .unset, .unset, .unset] [(.int (2 : Int32)), (.int (Int32.ofNat kn))]))
          by_cases hc94_64 : (Int32.ofNat kn) = (2 : Int32)
          · skip
            refine OEndsW.via (fun _ k => XS.icmpNo XU2.here hx rfl (hb hby at_94) rfl (teq hc94_64).2 k) ?_
            show OEndsW p e below s _ _ _ _ _ (U2.setTop (mkF m 97 #[.val (.int p0), .val (.long p1), .second, .val (.int p2), .val (.int p3), .val (.int ((p0 &&& (2147483647 : Int32)) % (4 : Int32))), .val (.ref x), .val (.int (Int32.ofNat kn)), .unset, .unset, .unset] []))
            refine OEndsW.via (fun _ k => XS.iconst XU2.here hx rfl (hb hby at_97) k) ?_
            show OEndsW p e below s _ _ _ _ _ (U2.setTop (mkF m 98 #[.val (.int p0), .val (.long p1), .second, .val (.int p2), .val (.int p3), .val (.int ((p0 &&& (2147483647 : Int32)) % (4 : Int32))), .val (.ref x), .val (.int (Int32.ofNat kn)), .unset, .unset, .unset] [(.int (2 : Int32))]))
            obtain ⟨T66, h66, k66, X66, e66, E66, A66, st66⟩ := newP XU2 hx hZ (hw _ (List.mem_of_getElem? (i := 22) rfl)) eU2 (g := (mkF m 98 #[.val (.int p0), .val (.long p1), .second, .val (.int p2), .val (.int p3), .val (.int ((p0 &&& (2147483647 : Int32)) % (4 : Int32))), .val (.ref x), .val (.int (Int32.ofNat kn)), .unset, .unset, .unset] [(.int (2 : Int32))])) rfl (hb hby at_98) rfl (by decide) (cap := 2) (by decide) (by decide) (by decide) (by decide)
            obtain ⟨b66, g66⟩ : ∃ z, z = hU2.size := ⟨_, rfl⟩
            have ne_x_b66 : x ≠ b66 := Nat.ne_of_lt (Nat.lt_of_lt_of_le Ex.lt (Nat.le_of_eq g66.symm))
            have ne_tx_b66 : tx ≠ b66 := Nat.ne_of_lt (Nat.lt_of_lt_of_le Kx.lt (Nat.le_of_eq g66.symm))
            have ge_b66 : n0 ≤ b66 := Nat.le_trans (Od.1 ▸ Od.2.1) (Nat.le_of_eq g66.symm)
            have sf_b66 : Safe Z consts_1 _ hU2 b66 := Safe.new (EL := consts_1) (vm := vmU2) (Nat.le_of_eq g66.symm)
            rw [← g66] at A66 st66
            replace hk := Nat.le_trans hk E66.1
            replace Od := Od.ext E66
            replace Ex := Exa.ext E66 Ex
            replace Vx := Fld.ext E66 Vx
            replace Cx := Fld.ext E66 Cx
            replace Kx := Kx.ext E66
            replace sf_b66 := Safe.ext E66 CR.1 sf_b66
            replace CR := CR.trans (CHr.ext E66 CR.1)
            have V_b66 : Arv Z h66 b66 k66 .char (2 : Int32) [(.int (0 : Int32)), (.int (0 : Int32))] (.int (0 : Int32)) := (Arv.new A66 (by decide)).pad (pad_rep [] (.int (0 : Int32)) 2)
            refine OEndsW.via (fun _ k => st66 _ k) ?_
            show OEndsW p e below s _ _ _ _ _ (T66.setTop (mkF m 100 #[.val (.int p0), .val (.long p1), .second, .val (.int p2), .val (.int p3), .val (.int ((p0 &&& (2147483647 : Int32)) % (4 : Int32))), .val (.ref x), .val (.int (Int32.ofNat kn)), .unset, .unset, .unset] [(.ref b66)]))
            refine OEndsW.via (fun _ k => XS.goto X66.here hx rfl (pc0 := 100) (pc' := 157) rfl (hb hby at_100) (by decide) (by decide) k) ?_
            show OEndsW p e below s _ _ _ _ _ (T66.setTop (mkF m 157 #[.val (.int p0), .val (.long p1), .second, .val (.int p2), .val (.int p3), .val (.int ((p0 &&& (2147483647 : Int32)) % (4 : Int32))), .val (.ref x), .val (.int (Int32.ofNat kn)), .unset, .unset, .unset] [(.ref b66)]))
            have hck : Int32.ofNat kn = (2 : Int32) := hc94_64
            have hkk : kn = 2 := own_inj7 hkn (by decide) hck
            exact J3 _ _ _ _ _ (X66.more (by decide) (by decide)) e66 NU2 hS hk hZ hown CR Od Ex Vx Cx Kx b66 k66 (List.replicate 2 0) (by rw [hkk]; rfl) (own_rep 2) (by rw [hck]; exact V_b66) ge_b66 ne_x_b66 ne_tx_b66
          · skip
            refine OEndsW.via (fun _ k => XS.icmpYes XU2.here hx rfl (pc0 := 94) (pc' := 103) rfl (hb hby at_94) rfl (feq hc94_64).2 (by decide) (by decide) k) ?_
            show OEndsW p e below s _ _ _ _ _ (U2.setTop (mkF m 103 #[.val (.int p0), .val (.long p1), .second, .val (.int p2), .val (.int p3), .val (.int ((p0 &&& (2147483647 : Int32)) % (4 : Int32))), .val (.ref x), .val (.int (Int32.ofNat kn)), .unset, .unset, .unset] []))
            refine OEndsW.via (fun _ k => XS.iload XU2.here hx rfl (hb hby at_103) rfl k) ?_
            show OEndsW p e below s _ _ _ _ _ (U2.setTop (mkF m 105 #[.val (.int p0), .val (.long p1), .second, .val (.int p2), .val (.int p3), .val (.int ((p0 &&& (2147483647 : Int32)) % (4 : Int32))), .val (.ref x), .val (.int (Int32.ofNat kn)), .unset, .unset, .unset] [(.int (Int32.ofNat kn))]))
            refine OEndsW.via (fun _ k => XS.iconst XU2.here hx rfl (hb hby at_105) k) ?_
            show OEndsW p e below s _ _ _ _ _ (U2.setTop (mkF m 106 #[.val (.int p0), .val (.long p1), .second, .val (.int p2), .val (.int p3), .val (.int ((p0 &&& (2147483647 : Int32)) % (4 : Int32))), .val (.ref x), .val (.int (Int32.ofNat kn)), .unset, .unset, .unset] [(.int (3 : Int32)), (.int (Int32.ofNat kn))]))
            by_cases hc106_66 : (Int32.ofNat kn) = (3 : Int32)
            · skip
              refine OEndsW.via (fun _ k => XS.icmpNo XU2.here hx rfl (hb hby at_106) rfl (teq hc106_66).2 k) ?_
              show OEndsW p e below s _ _ _ _ _ (U2.setTop (mkF m 109 #[.val (.int p0), .val (.long p1), .second, .val (.int p2), .val (.int p3), .val (.int ((p0 &&& (2147483647 : Int32)) % (4 : Int32))), .val (.ref x), .val (.int (Int32.ofNat kn)), .unset, .unset, .unset] []))
              refine OEndsW.via (fun _ k => XS.iconst XU2.here hx rfl (hb hby at_109) k) ?_
              show OEndsW p e below s _ _ _ _ _ (U2.setTop (mkF m 110 #[.val (.int p0), .val (.long p1), .second, .val (.int p2), .val (.int p3), .val (.int ((p0 &&& (2147483647 : Int32)) % (4 : Int32))), .val (.ref x), .val (.int (Int32.ofNat kn)), .unset, .unset, .unset] [(.int (3 : Int32))]))
              obtain ⟨T68, h68, k68, X68, e68, E68, A68, st68⟩ := newP XU2 hx hZ (hw _ (List.mem_of_getElem? (i := 22) rfl)) eU2 (g := (mkF m 110 #[.val (.int p0), .val (.long p1), .second, .val (.int p2), .val (.int p3), .val (.int ((p0 &&& (2147483647 : Int32)) % (4 : Int32))), .val (.ref x), .val (.int (Int32.ofNat kn)), .unset, .unset, .unset] [(.int (3 : Int32))])) rfl (hb hby at_110) rfl (by decide) (cap := 3) (by decide) (by decide) (by decide) (by decide)
              obtain ⟨b68, g68⟩ : ∃ z, z = hU2.size := ⟨_, rfl⟩
              have ne_x_b68 : x ≠ b68 := Nat.ne_of_lt (Nat.lt_of_lt_of_le Ex.lt (Nat.le_of_eq g68.symm))
              have ne_tx_b68 : tx ≠ b68 := Nat.ne_of_lt (Nat.lt_of_lt_of_le Kx.lt (Nat.le_of_eq g68.symm))
              have ge_b68 : n0 ≤ b68 := Nat.le_trans (Od.1 ▸ Od.2.1) (Nat.le_of_eq g68.symm)
              have sf_b68 : Safe Z consts_1 _ hU2 b68 := Safe.new (EL := consts_1) (vm := vmU2) (Nat.le_of_eq g68.symm)
              rw [← g68] at A68 st68
              replace hk := Nat.le_trans hk E68.1
              replace Od := Od.ext E68
              replace Ex := Exa.ext E68 Ex
              replace Vx := Fld.ext E68 Vx
              replace Cx := Fld.ext E68 Cx
              replace Kx := Kx.ext E68
              replace sf_b68 := Safe.ext E68 CR.1 sf_b68
              replace CR := CR.trans (CHr.ext E68 CR.1)
              have V_b68 : Arv Z h68 b68 k68 .char (3 : Int32) [(.int (0 : Int32)), (.int (0 : Int32)), (.int (0 : Int32))] (.int (0 : Int32)) := (Arv.new A68 (by decide)).pad (pad_rep [] (.int (0 : Int32)) 3)
              refine OEndsW.via (fun _ k => st68 _ k) ?_
              show OEndsW p e below s _ _ _ _ _ (T68.setTop (mkF m 112 #[.val (.int p0), .val (.long p1), .second, .val (.int p2), .val (.int p3), .val (.int ((p0 &&& (2147483647 : Int32)) % (4 : Int32))), .val (.ref x), .val (.int (Int32.ofNat kn)), .unset, .unset, .unset] [(.ref b68)]))
              refine OEndsW.via (fun _ k => XS.goto X68.here hx rfl (pc0 := 112) (pc' := 157) rfl (hb hby at_112) (by decide) (by decide) k) ?_
              show OEndsW p e below s _ _ _ _ _ (T68.setTop (mkF m 157 #[.val (.int p0), .val (.long p1), .second, .val (.int p2), .val (.int p3), .val (.int ((p0 &&& (2147483647 : Int32)) % (4 : Int32))), .val (.ref x), .val (.int (Int32.ofNat kn)), .unset, .unset, .unset] [(.ref b68)]))
              have hck : Int32.ofNat kn = (3 : Int32) := hc106_66
              have hkk : kn = 3 := own_inj7 hkn (by decide) hck
              exact J3 _ _ _ _ _ (X68.more (by decide) (by decide)) e68 NU2 hS hk hZ hown CR Od Ex Vx Cx Kx b68 k68 (List.replicate 3 0) (by rw [hkk]; rfl) (own_rep 3) (by rw [hck]; exact V_b68) ge_b68 ne_x_b68 ne_tx_b68
            · skip
              refine OEndsW.via (fun _ k => XS.icmpYes XU2.here hx rfl (pc0 := 106) (pc' := 115) rfl (hb hby at_106) rfl (feq hc106_66).2 (by decide) (by decide) k) ?_
              show OEndsW p e below s _ _ _ _ _ (U2.setTop (mkF m 115 #[.val (.int p0), .val (.long p1), .second, .val (.int p2), .val (.int p3), .val (.int ((p0 &&& (2147483647 : Int32)) % (4 : Int32))), .val (.ref x), .val (.int (Int32.ofNat kn)), .unset, .unset, .unset] []))
              refine OEndsW.via (fun _ k => XS.iload XU2.here hx rfl (hb hby at_115) rfl k) ?_
              show OEndsW p e below s _ _ _ _ _ (U2.setTop (mkF m 117 #[.val (.int p0), .val (.long p1), .second, .val (.int p2), .val (.int p3), .val (.int ((p0 &&& (2147483647 : Int32)) % (4 : Int32))), .val (.ref x), .val (.int (Int32.ofNat kn)), .unset, .unset, .unset] [(.int (Int32.ofNat kn))]))
              refine OEndsW.via (fun _ k => XS.iconst XU2.here hx rfl (hb hby at_117) k) ?_
              show OEndsW p e below s _ _ _ _ _ (U2.setTop (mkF m 118 #[.val (.int p0), .val (.long p1), .second, .val (.int p2), .val (.int p3), .val (.int ((p0 &&& (2147483647 : Int32)) % (4 : Int32))), .val (.ref x), .val (.int (Int32.ofNat kn)), .unset, .unset, .unset] [(.int (4 : Int32)), (.int (Int32.ofNat kn))]))
              by_cases hc118_68 : (Int32.ofNat kn) = (4 : Int32)
              · skip
                refine OEndsW.via (fun _ k => XS.icmpNo XU2.here hx rfl (hb hby at_118) rfl (teq hc118_68).2 k) ?_
                show OEndsW p e below s _ _ _ _ _ (U2.setTop (mkF m 121 #[.val (.int p0), .val (.long p1), .second, .val (.int p2), .val (.int p3), .val (.int ((p0 &&& (2147483647 : Int32)) % (4 : Int32))), .val (.ref x), .val (.int (Int32.ofNat kn)), .unset, .unset, .unset] []))
                refine OEndsW.via (fun _ k => XS.iconst XU2.here hx rfl (hb hby at_121) k) ?_
                show OEndsW p e below s _ _ _ _ _ (U2.setTop (mkF m 122 #[.val (.int p0), .val (.long p1), .second, .val (.int p2), .val (.int p3), .val (.int ((p0 &&& (2147483647 : Int32)) % (4 : Int32))), .val (.ref x), .val (.int (Int32.ofNat kn)), .unset, .unset, .unset] [(.int (4 : Int32))]))
                obtain ⟨T70, h70, k70, X70, e70, E70, A70, st70⟩ := newP XU2 hx hZ (hw _ (List.mem_of_getElem? (i := 22) rfl)) eU2 (g := (mkF m 122 #[.val (.int p0), .val (.long p1), .second, .val (.int p2), .val (.int p3), .val (.int ((p0 &&& (2147483647 : Int32)) % (4 : Int32))), .val (.ref x), .val (.int (Int32.ofNat kn)), .unset, .unset, .unset] [(.int (4 : Int32))])) rfl (hb hby at_122) rfl (by decide) (cap := 4) (by decide) (by decide) (by decide) (by decide)
                obtain ⟨b70, g70⟩ : ∃ z, z = hU2.size := ⟨_, rfl⟩
                have ne_x_b70 : x ≠ b70 := Nat.ne_of_lt (Nat.lt_of_lt_of_le Ex.lt (Nat.le_of_eq g70.symm))
                have ne_tx_b70 : tx ≠ b70 := Nat.ne_of_lt (Nat.lt_of_lt_of_le Kx.lt (Nat.le_of_eq g70.symm))
                have ge_b70 : n0 ≤ b70 := Nat.le_trans (Od.1 ▸ Od.2.1) (Nat.le_of_eq g70.symm)
                have sf_b70 : Safe Z consts_1 _ hU2 b70 := Safe.new (EL := consts_1) (vm := vmU2) (Nat.le_of_eq g70.symm)
                rw [← g70] at A70 st70
                replace hk := Nat.le_trans hk E70.1
                replace Od := Od.ext E70
                replace Ex := Exa.ext E70 Ex
                replace Vx := Fld.ext E70 Vx
                replace Cx := Fld.ext E70 Cx
                replace Kx := Kx.ext E70
                replace sf_b70 := Safe.ext E70 CR.1 sf_b70
                replace CR := CR.trans (CHr.ext E70 CR.1)
                have V_b70 : Arv Z h70 b70 k70 .char (4 : Int32) [(.int (0 : Int32)), (.int (0 : Int32)), (.int (0 : Int32)), (.int (0 : Int32))] (.int (0 : Int32)) := (Arv.new A70 (by decide)).pad (pad_rep [] (.int (0 : Int32)) 4)
                refine OEndsW.via (fun _ k => st70 _ k) ?_
                show OEndsW p e below s _ _ _ _ _ (T70.setTop (mkF m 124 #[.val (.int p0), .val (.long p1), .second, .val (.int p2), .val (.int p3), .val (.int ((p0 &&& (2147483647 : Int32)) % (4 : Int32))), .val (.ref x), .val (.int (Int32.ofNat kn)), .unset, .unset, .unset] [(.ref b70)]))
                refine OEndsW.via (fun _ k => XS.goto X70.here hx rfl (pc0 := 124) (pc' := 157) rfl (hb hby at_124) (by decide) (by decide) k) ?_
                show OEndsW p e below s _ _ _ _ _ (T70.setTop (mkF m 157 #[.val (.int p0), .val (.long p1), .second, .val (.int p2), .val (.int p3), .val (.int ((p0 &&& (2147483647 : Int32)) % (4 : Int32))), .val (.ref x), .val (.int (Int32.ofNat kn)), .unset, .unset, .unset] [(.ref b70)]))
                have hck : Int32.ofNat kn = (4 : Int32) := hc118_68
                have hkk : kn = 4 := own_inj7 hkn (by decide) hck
                exact J3 _ _ _ _ _ (X70.more (by decide) (by decide)) e70 NU2 hS hk hZ hown CR Od Ex Vx Cx Kx b70 k70 (List.replicate 4 0) (by rw [hkk]; rfl) (own_rep 4) (by rw [hck]; exact V_b70) ge_b70 ne_x_b70 ne_tx_b70
              · skip
                refine OEndsW.via (fun _ k => XS.icmpYes XU2.here hx rfl (pc0 := 118) (pc' := 127) rfl (hb hby at_118) rfl (feq hc118_68).2 (by decide) (by decide) k) ?_
                show OEndsW p e below s _ _ _ _ _ (U2.setTop (mkF m 127 #[.val (.int p0), .val (.long p1), .second, .val (.int p2), .val (.int p3), .val (.int ((p0 &&& (2147483647 : Int32)) % (4 : Int32))), .val (.ref x), .val (.int (Int32.ofNat kn)), .unset, .unset, .unset] []))
                refine OEndsW.via (fun _ k => XS.iload XU2.here hx rfl (hb hby at_127) rfl k) ?_
                show OEndsW p e below s _ _ _ _ _ (U2.setTop (mkF m 129 #[.val (.int p0), .val (.long p1), .second, .val (.int p2), .val (.int p3), .val (.int ((p0 &&& (2147483647 : Int32)) % (4 : Int32))), .val (.ref x), .val (.int (Int32.ofNat kn)), .unset, .unset, .unset] [(.int (Int32.ofNat kn))]))
                refine OEndsW.via (fun _ k => XS.iconst XU2.here hx rfl (hb hby at_129) k) ?_
                show OEndsW p e below s _ _ _ _ _ (U2.setTop (mkF m 130 #[.val (.int p0), .val (.long p1), .second, .val (.int p2), .val (.int p3), .val (.int ((p0 &&& (2147483647 : Int32)) % (4 : Int32))), .val (.ref x), .val (.int (Int32.ofNat kn)), .unset, .unset, .unset] [(.int (5 : Int32)), (.int (Int32.ofNat kn))]))
                by_cases hc130_70 : (Int32.ofNat kn) = (5 : Int32)
                · skip
                  refine OEndsW.via (fun _ k => XS.icmpNo XU2.here hx rfl (hb hby at_130) rfl (teq hc130_70).2 k) ?_
                  show OEndsW p e below s _ _ _ _ _ (U2.setTop (mkF m 133 #[.val (.int p0), .val (.long p1), .second, .val (.int p2), .val (.int p3), .val (.int ((p0 &&& (2147483647 : Int32)) % (4 : Int32))), .val (.ref x), .val (.int (Int32.ofNat kn)), .unset, .unset, .unset] []))
                  refine OEndsW.via (fun _ k => XS.iconst XU2.here hx rfl (hb hby at_133) k) ?_
                  show OEndsW p e below s _ _ _ _ _ (U2.setTop (mkF m 134 #[.val (.int p0), .val (.long p1), .second, .val (.int p2), .val (.int p3), .val (.int ((p0 &&& (2147483647 : Int32)) % (4 : Int32))), .val (.ref x), .val (.int (Int32.ofNat kn)), .unset, .unset, .unset] [(.int (5 : Int32))]))
                  obtain ⟨T72, h72, k72, X72, e72, E72, A72, st72⟩ := newP XU2 hx hZ (hw _ (List.mem_of_getElem? (i := 22) rfl)) eU2 (g := (mkF m 134 #[.val (.int p0), .val (.long p1), .second, .val (.int p2), .val (.int p3), .val (.int ((p0 &&& (2147483647 : Int32)) % (4 : Int32))), .val (.ref x), .val (.int (Int32.ofNat kn)), .unset, .unset, .unset] [(.int (5 : Int32))])) rfl (hb hby at_134) rfl (by decide) (cap := 5) (by decide) (by decide) (by decide) (by decide)
                  obtain ⟨b72, g72⟩ : ∃ z, z = hU2.size := ⟨_, rfl⟩
                  have ne_x_b72 : x ≠ b72 := Nat.ne_of_lt (Nat.lt_of_lt_of_le Ex.lt (Nat.le_of_eq g72.symm))
                  have ne_tx_b72 : tx ≠ b72 := Nat.ne_of_lt (Nat.lt_of_lt_of_le Kx.lt (Nat.le_of_eq g72.symm))
                  have ge_b72 : n0 ≤ b72 := Nat.le_trans (Od.1 ▸ Od.2.1) (Nat.le_of_eq g72.symm)
                  have sf_b72 : Safe Z consts_1 _ hU2 b72 := Safe.new (EL := consts_1) (vm := vmU2) (Nat.le_of_eq g72.symm)
                  rw [← g72] at A72 st72
                  replace hk := Nat.le_trans hk E72.1
                  replace Od := Od.ext E72
                  replace Ex := Exa.ext E72 Ex
                  replace Vx := Fld.ext E72 Vx
                  replace Cx := Fld.ext E72 Cx
                  replace Kx := Kx.ext E72
                  replace sf_b72 := Safe.ext E72 CR.1 sf_b72
                  replace CR := CR.trans (CHr.ext E72 CR.1)
                  have V_b72 : Arv Z h72 b72 k72 .char (5 : Int32) [(.int (0 : Int32)), (.int (0 : Int32)), (.int (0 : Int32)), (.int (0 : Int32)), (.int (0 : Int32))] (.int (0 : Int32)) := (Arv.new A72 (by decide)).pad (pad_rep [] (.int (0 : Int32)) 5)
                  refine OEndsW.via (fun _ k => st72 _ k) ?_
                  show OEndsW p e below s _ _ _ _ _ (T72.setTop (mkF m 136 #[.val (.int p0), .val (.long p1), .second, .val (.int p2), .val (.int p3), .val (.int ((p0 &&& (2147483647 : Int32)) % (4 : Int32))), .val (.ref x), .val (.int (Int32.ofNat kn)), .unset, .unset, .unset] [(.ref b72)]))
                  refine OEndsW.via (fun _ k => XS.goto X72.here hx rfl (pc0 := 136) (pc' := 157) rfl (hb hby at_136) (by decide) (by decide) k) ?_
                  show OEndsW p e below s _ _ _ _ _ (T72.setTop (mkF m 157 #[.val (.int p0), .val (.long p1), .second, .val (.int p2), .val (.int p3), .val (.int ((p0 &&& (2147483647 : Int32)) % (4 : Int32))), .val (.ref x), .val (.int (Int32.ofNat kn)), .unset, .unset, .unset] [(.ref b72)]))
                  have hck : Int32.ofNat kn = (5 : Int32) := hc130_70
                  have hkk : kn = 5 := own_inj7 hkn (by decide) hck
                  exact J3 _ _ _ _ _ (X72.more (by decide) (by decide)) e72 NU2 hS hk hZ hown CR Od Ex Vx Cx Kx b72 k72 (List.replicate 5 0) (by rw [hkk]; rfl) (own_rep 5) (by rw [hck]; exact V_b72) ge_b72 ne_x_b72 ne_tx_b72
                · skip
                  refine OEndsW.via (fun _ k => XS.icmpYes XU2.here hx rfl (pc0 := 130) (pc' := 139) rfl (hb hby at_130) rfl (feq hc130_70).2 (by decide) (by decide) k) ?_
                  show OEndsW p e below s _ _ _ _ _ (U2.setTop (mkF m 139 #[.val (.int p0), .val (.long p1), .second, .val (.int p2), .val (.int p3), .val (.int ((p0 &&& (2147483647 : Int32)) % (4 : Int32))), .val (.ref x), .val (.int (Int32.ofNat kn)), .unset, .unset, .unset] []))
                  refine OEndsW.via (fun _ k => XS.iload XU2.here hx rfl (hb hby at_139) rfl k) ?_
                  show OEndsW p e below s _ _ _ _ _ (U2.setTop (mkF m 141 #[.val (.int p0), .val (.long p1), .second, .val (.int p2), .val (.int p3), .val (.int ((p0 &&& (2147483647 : Int32)) % (4 : Int32))), .val (.ref x), .val (.int (Int32.ofNat kn)), .unset, .unset, .unset] [(.int (Int32.ofNat kn))]))
                  refine OEndsW.via (fun _ k => XS.bipush XU2.here hx rfl (hb hby at_141) k) ?_
                  show OEndsW p e below s _ _ _ _ _ (U2.setTop (mkF m 143 #[.val (.int p0), .val (.long p1), .second, .val (.int p2), .val (.int p3), .val (.int ((p0 &&& (2147483647 : Int32)) % (4 : Int32))), .val (.ref x), .val (.int (Int32.ofNat kn)), .unset, .unset, .unset] [(.int (6 : Int32)), (.int (Int32.ofNat kn))]))
                  by_cases hc143_72 : (Int32.ofNat kn) = (6 : Int32)
                  · skip
                    refine OEndsW.via (fun _ k => XS.icmpNo XU2.here hx rfl (hb hby at_143) rfl (teq hc143_72).2 k) ?_
                    show OEndsW p e below s _ _ _ _ _ (U2.setTop (mkF m 146 #[.val (.int p0), .val (.long p1), .second, .val (.int p2), .val (.int p3), .val (.int ((p0 &&& (2147483647 : Int32)) % (4 : Int32))), .val (.ref x), .val (.int (Int32.ofNat kn)), .unset, .unset, .unset] []))
                    refine OEndsW.via (fun _ k => XS.bipush XU2.here hx rfl (hb hby at_146) k) ?_
                    show OEndsW p e below s _ _ _ _ _ (U2.setTop (mkF m 148 #[.val (.int p0), .val (.long p1), .second, .val (.int p2), .val (.int p3), .val (.int ((p0 &&& (2147483647 : Int32)) % (4 : Int32))), .val (.ref x), .val (.int (Int32.ofNat kn)), .unset, .unset, .unset] [(.int (6 : Int32))]))
                    obtain ⟨T74, h74, k74, X74, e74, E74, A74, st74⟩ := newP XU2 hx hZ (hw _ (List.mem_of_getElem? (i := 22) rfl)) eU2 (g := (mkF m 148 #[.val (.int p0), .val (.long p1), .second, .val (.int p2), .val (.int p3), .val (.int ((p0 &&& (2147483647 : Int32)) % (4 : Int32))), .val (.ref x), .val (.int (Int32.ofNat kn)), .unset, .unset, .unset] [(.int (6 : Int32))])) rfl (hb hby at_148) rfl (by decide) (cap := 6) (by decide) (by decide) (by decide) (by decide)
                    obtain ⟨b74, g74⟩ : ∃ z, z = hU2.size := ⟨_, rfl⟩
                    have ne_x_b74 : x ≠ b74 := Nat.ne_of_lt (Nat.lt_of_lt_of_le Ex.lt (Nat.le_of_eq g74.symm))
                    have ne_tx_b74 : tx ≠ b74 := Nat.ne_of_lt (Nat.lt_of_lt_of_le Kx.lt (Nat.le_of_eq g74.symm))
                    have ge_b74 : n0 ≤ b74 := Nat.le_trans (Od.1 ▸ Od.2.1) (Nat.le_of_eq g74.symm)
                    have sf_b74 : Safe Z consts_1 _ hU2 b74 := Safe.new (EL := consts_1) (vm := vmU2) (Nat.le_of_eq g74.symm)
                    rw [← g74] at A74 st74
                    replace hk := Nat.le_trans hk E74.1
                    replace Od := Od.ext E74
                    replace Ex := Exa.ext E74 Ex
                    replace Vx := Fld.ext E74 Vx
                    replace Cx := Fld.ext E74 Cx
                    replace Kx := Kx.ext E74
                    replace sf_b74 := Safe.ext E74 CR.1 sf_b74
                    replace CR := CR.trans (CHr.ext E74 CR.1)
                    have V_b74 : Arv Z h74 b74 k74 .char (6 : Int32) [(.int (0 : Int32)), (.int (0 : Int32)), (.int (0 : Int32)), (.int (0 : Int32)), (.int (0 : Int32)), (.int (0 : Int32))] (.int (0 : Int32)) := (Arv.new A74 (by decide)).pad (pad_rep [] (.int (0 : Int32)) 6)
                    refine OEndsW.via (fun _ k => st74 _ k) ?_
                    show OEndsW p e below s _ _ _ _ _ (T74.setTop (mkF m 150 #[.val (.int p0), .val (.long p1), .second, .val (.int p2), .val (.int p3), .val (.int ((p0 &&& (2147483647 : Int32)) % (4 : Int32))), .val (.ref x), .val (.int (Int32.ofNat kn)), .unset, .unset, .unset] [(.ref b74)]))
                    refine OEndsW.via (fun _ k => XS.goto X74.here hx rfl (pc0 := 150) (pc' := 157) rfl (hb hby at_150) (by decide) (by decide) k) ?_
                    show OEndsW p e below s _ _ _ _ _ (T74.setTop (mkF m 157 #[.val (.int p0), .val (.long p1), .second, .val (.int p2), .val (.int p3), .val (.int ((p0 &&& (2147483647 : Int32)) % (4 : Int32))), .val (.ref x), .val (.int (Int32.ofNat kn)), .unset, .unset, .unset] [(.ref b74)]))
                    have hck : Int32.ofNat kn = (6 : Int32) := hc143_72
                    have hkk : kn = 6 := own_inj7 hkn (by decide) hck
                    exact J3 _ _ _ _ _ (X74.more (by decide) (by decide)) e74 NU2 hS hk hZ hown CR Od Ex Vx Cx Kx b74 k74 (List.replicate 6 0) (by rw [hkk]; rfl) (own_rep 6) (by rw [hck]; exact V_b74) ge_b74 ne_x_b74 ne_tx_b74
                  · skip
                    refine OEndsW.via (fun _ k => XS.icmpYes XU2.here hx rfl (pc0 := 143) (pc' := 153) rfl (hb hby at_143) rfl (feq hc143_72).2 (by decide) (by decide) k) ?_
                    show OEndsW p e below s _ _ _ _ _ (U2.setTop (mkF m 153 #[.val (.int p0), .val (.long p1), .second, .val (.int p2), .val (.int p3), .val (.int ((p0 &&& (2147483647 : Int32)) % (4 : Int32))), .val (.ref x), .val (.int (Int32.ofNat kn)), .unset, .unset, .unset] []))
                    refine OEndsW.via (fun _ k => XS.bipush XU2.here hx rfl (hb hby at_153) k) ?_
                    show OEndsW p e below s _ _ _ _ _ (U2.setTop (mkF m 155 #[.val (.int p0), .val (.long p1), .second, .val (.int p2), .val (.int p3), .val (.int ((p0 &&& (2147483647 : Int32)) % (4 : Int32))), .val (.ref x), .val (.int (Int32.ofNat kn)), .unset, .unset, .unset] [(.int (7 : Int32))]))
                    obtain ⟨T75, h75, k75, X75, e75, E75, A75, st75⟩ := newP XU2 hx hZ (hw _ (List.mem_of_getElem? (i := 22) rfl)) eU2 (g := (mkF m 155 #[.val (.int p0), .val (.long p1), .second, .val (.int p2), .val (.int p3), .val (.int ((p0 &&& (2147483647 : Int32)) % (4 : Int32))), .val (.ref x), .val (.int (Int32.ofNat kn)), .unset, .unset, .unset] [(.int (7 : Int32))])) rfl (hb hby at_155) rfl (by decide) (cap := 7) (by decide) (by decide) (by decide) (by decide)
                    obtain ⟨b75, g75⟩ : ∃ z, z = hU2.size := ⟨_, rfl⟩
                    have ne_x_b75 : x ≠ b75 := Nat.ne_of_lt (Nat.lt_of_lt_of_le Ex.lt (Nat.le_of_eq g75.symm))
                    have ne_tx_b75 : tx ≠ b75 := Nat.ne_of_lt (Nat.lt_of_lt_of_le Kx.lt (Nat.le_of_eq g75.symm))
                    have ge_b75 : n0 ≤ b75 := Nat.le_trans (Od.1 ▸ Od.2.1) (Nat.le_of_eq g75.symm)
                    have sf_b75 : Safe Z consts_1 _ hU2 b75 := Safe.new (EL := consts_1) (vm := vmU2) (Nat.le_of_eq g75.symm)
                    rw [← g75] at A75 st75
                    replace hk := Nat.le_trans hk E75.1
                    replace Od := Od.ext E75
                    replace Ex := Exa.ext E75 Ex
                    replace Vx := Fld.ext E75 Vx
                    replace Cx := Fld.ext E75 Cx
                    replace Kx := Kx.ext E75
                    replace sf_b75 := Safe.ext E75 CR.1 sf_b75
                    replace CR := CR.trans (CHr.ext E75 CR.1)
                    have V_b75 : Arv Z h75 b75 k75 .char (7 : Int32) [(.int (0 : Int32)), (.int (0 : Int32)), (.int (0 : Int32)), (.int (0 : Int32)), (.int (0 : Int32)), (.int (0 : Int32)), (.int (0 : Int32))] (.int (0 : Int32)) := (Arv.new A75 (by decide)).pad (pad_rep [] (.int (0 : Int32)) 7)
                    refine OEndsW.via (fun _ k => st75 _ k) ?_
                    show OEndsW p e below s _ _ _ _ _ (T75.setTop (mkF m 157 #[.val (.int p0), .val (.long p1), .second, .val (.int p2), .val (.int p3), .val (.int ((p0 &&& (2147483647 : Int32)) % (4 : Int32))), .val (.ref x), .val (.int (Int32.ofNat kn)), .unset, .unset, .unset] [(.ref b75)]))
                    have hkk : kn = 7 := own_last hkn hc70_60 hc82_62 hc94_64 hc106_66 hc118_68 hc130_70 hc143_72
                    have hck : Int32.ofNat kn = (7 : Int32) := by rw [hkk]; rfl
                    exact J3 _ _ _ _ _ (X75.more (by decide) (by decide)) e75 NU2 hS hk hZ hown CR Od Ex Vx Cx Kx b75 k75 (List.replicate 7 0) (by rw [hkk]; rfl) (own_rep 7) (by rw [hck]; exact V_b75) ge_b75 ne_x_b75 ne_tx_b75
    by_cases hc48_75 : (p3 &&& (1 : Int32)) = (0 : Int32)
    · skip
      refine OEndsW.via (fun _ k => XS.ifNo XU1.here hx rfl (hb hby at_48) rfl ((if0 _ _).trans (teq hc48_75).2) k) ?_
      show OEndsW p e below s _ _ _ _ _ (U1.setTop (mkF m 51 #[.val (.int p0), .val (.long p1), .second, .val (.int p2), .val (.int p3), .val (.int ((p0 &&& (2147483647 : Int32)) % (4 : Int32))), .val (.ref x), .unset, .unset, .unset, .unset] []))
      refine OEndsW.via (fun _ k => XS.aload XU1.here hx rfl (hb hby at_51) rfl rfl k) ?_
      show OEndsW p e below s _ _ _ _ _ (U1.setTop (mkF m 53 #[.val (.int p0), .val (.long p1), .second, .val (.int p2), .val (.int p3), .val (.int ((p0 &&& (2147483647 : Int32)) % (4 : Int32))), .val (.ref x), .unset, .unset, .unset, .unset] [(.ref x)]))
      obtain ⟨cq77, kq77, q77a, q77b, q77c⟩ := isOf hZ eU1 Ex
      obtain ⟨_, _, ⟨T77, L77, k77, n77⟩, -, X77, ⟨Lc77, hQ77, l77, y77, z77⟩, st77⟩ := XU1.virtualBack hx (y := (⟨"java/lang/String", "length", "()I"⟩ : MethodName)) (z := (⟨"java/lang/String", "length", "()I"⟩ : MethodName)) hown (mvT hZ (hw _ (List.mem_of_getElem? (i := 9) rfl))) (mvT hZ (hw _ (List.mem_of_getElem? (i := 10) rfl))) (notFace_of_selects (args := #[]) (mvT hZ (hw _ (List.mem_of_getElem? (i := 12) rfl)))) (mvT hZ (hw _ (List.mem_of_getElem? (i := 12) rfl))) (mvT hZ (hw _ (List.mem_of_getElem? (i := 11) rfl))) (by decide) (StrChars.Road.lenW (W := 0) hZ hln (kI := 4) (hw _ (List.mem_of_getElem? (i := 3) rfl)) Ex Vx Cx Kx hcx hbx (Sta.ext Od.2 S_CS) nz_CS lex (by decide) (by decide)) q77a q77c (g := (mkF m 53 #[.val (.int p0), .val (.long p1), .second, .val (.int p2), .val (.int p3), .val (.int ((p0 &&& (2147483647 : Int32)) % (4 : Int32))), .val (.ref x), .unset, .unset, .unset, .unset] [(.ref x)])) rfl (by rw [hml]; rfl) (Steps.refl _) (argsL := []) (rest := []) (lenOf pd_2829I rfl) rfl (by show 2 * 0 + _ ≤ _; exact Nat.le_of_eq rfl) (hb hby at_53) (fun _ _ => ⟨rfl, eU1, Nat.le_of_ble_eq_true rfl, Nat.le_of_ble_eq_true rfl⟩)
      dsimp only [Pt.U, Pt.locs, Pt.cells, Pt.slots] at X77 l77 y77 z77 st77 hQ77
      subst l77 y77 z77
      obtain ⟨rfl, rfl, e77⟩ := hQ77
      have N77 := Fr.app NU1 (Fr.nil n0)
      refine OEndsW.via (fun _ k => st77.trans k) ?_
      show OEndsW p e below s _ _ _ _ _ (T77.setTop (mkF m 56 #[.val (.int p0), .val (.long p1), .second, .val (.int p2), .val (.int p3), .val (.int ((p0 &&& (2147483647 : Int32)) % (4 : Int32))), .val (.ref x), .unset, .unset, .unset, .unset] [(.int (Int32.ofNat cs.length))]))
      refine OEndsW.via (fun _ k => XS.goto X77.here hx rfl (pc0 := 56) (pc' := 66) rfl (hb hby at_56) (by decide) (by decide) k) ?_
      show OEndsW p e below s _ _ _ _ _ (T77.setTop (mkF m 66 #[.val (.int p0), .val (.long p1), .second, .val (.int p2), .val (.int p3), .val (.int ((p0 &&& (2147483647 : Int32)) % (4 : Int32))), .val (.ref x), .unset, .unset, .unset, .unset] [(.int (Int32.ofNat cs.length))]))
      exact J2 _ _ _ _ _ (X77.more (by decide) (by decide)) e77 N77 hS hk hZ hown CR Od Ex Vx Cx Kx cs.length hl7
    · skip
      refine OEndsW.via (fun _ k => XS.ifYes XU1.here hx rfl (pc0 := 48) (pc' := 59) rfl (hb hby at_48) rfl ((if0 _ _).trans (feq hc48_75).2) (by decide) (by decide) k) ?_
      show OEndsW p e below s _ _ _ _ _ (U1.setTop (mkF m 59 #[.val (.int p0), .val (.long p1), .second, .val (.int p2), .val (.int p3), .val (.int ((p0 &&& (2147483647 : Int32)) % (4 : Int32))), .val (.ref x), .unset, .unset, .unset, .unset] []))
      refine OEndsW.via (fun _ k => XS.iload XU1.here hx rfl (hb hby at_59) rfl k) ?_
      show OEndsW p e below s _ _ _ _ _ (U1.setTop (mkF m 61 #[.val (.int p0), .val (.long p1), .second, .val (.int p2), .val (.int p3), .val (.int ((p0 &&& (2147483647 : Int32)) % (4 : Int32))), .val (.ref x), .unset, .unset, .unset, .unset] [(.int p3)]))
      refine OEndsW.via (fun _ k => XS.iconst XU1.here hx rfl (hb hby at_61) k) ?_
      show OEndsW p e below s _ _ _ _ _ (U1.setTop (mkF m 62 #[.val (.int p0), .val (.long p1), .second, .val (.int p2), .val (.int p3), .val (.int ((p0 &&& (2147483647 : Int32)) % (4 : Int32))), .val (.ref x), .unset, .unset, .unset, .unset] [(.int (1 : Int32)), (.int p3)]))
      refine OEndsW.via (fun _ k => XS.iushr XU1.here hx rfl (hb hby at_62) rfl k) ?_
      show OEndsW p e below s _ _ _ _ _ (U1.setTop (mkF m 63 #[.val (.int p0), .val (.long p1), .second, .val (.int p2), .val (.int p3), .val (.int ((p0 &&& (2147483647 : Int32)) % (4 : Int32))), .val (.ref x), .unset, .unset, .unset, .unset] [(.int ((p3.toUInt32 >>> ((1 : Int32) &&& 31).toUInt32).toInt32))]))
      refine OEndsW.via (fun _ k => XS.bipush XU1.here hx rfl (hb hby at_63) k) ?_
      show OEndsW p e below s _ _ _ _ _ (U1.setTop (mkF m 65 #[.val (.int p0), .val (.long p1), .second, .val (.int p2), .val (.int p3), .val (.int ((p0 &&& (2147483647 : Int32)) % (4 : Int32))), .val (.ref x), .unset, .unset, .unset, .unset] [(.int (7 : Int32)), (.int ((p3.toUInt32 >>> ((1 : Int32) &&& 31).toUInt32).toInt32))]))
      refine OEndsW.via (fun _ k => XS.iand XU1.here hx rfl (hb hby at_65) rfl k) ?_
      show OEndsW p e below s _ _ _ _ _ (U1.setTop (mkF m 66 #[.val (.int p0), .val (.long p1), .second, .val (.int p2), .val (.int p3), .val (.int ((p0 &&& (2147483647 : Int32)) % (4 : Int32))), .val (.ref x), .unset, .unset, .unset, .unset] [(.int (((p3.toUInt32 >>> ((1 : Int32) &&& 31).toUInt32).toInt32) &&& (7 : Int32)))]))
      obtain ⟨k7, hk7, hq7⟩ := own_and7 ((p3.toUInt32 >>> ((1 : Int32) &&& 31).toUInt32).toInt32)
      rw [hq7]
      exact J2 _ _ _ _ _ (XU1.more (by decide) (by decide)) eU1 NU1 hS hk hZ hown CR Od Ex Vx Cx Kx k7 hk7
  by_cases hc10_77 : ((p0 &&& (2147483647 : Int32)) % (4 : Int32)) = (0 : Int32)
  · skip
    refine OEndsW.via (fun _ k => XS.ifNo X0.here hx rfl (hb hby at_10) rfl ((if0 _ _).trans (teq hc10_77).2) k) ?_
    show OEndsW p e below s _ _ _ _ _ (s₁.setTop (mkF m 13 #[.val (.int p0), .val (.long p1), .second, .val (.int p2), .val (.int p3), .val (.int ((p0 &&& (2147483647 : Int32)) % (4 : Int32))), .unset, .unset, .unset, .unset, .unset] []))
    obtain ⟨q79, T79, h79, k179, qv79, kq79, X79, e79, E79, hS79, hk79, hZ79, hown79, E_q79, C_q79, V_q79, K_q79, la79, lb79, CH79, Lt79, hsafe79, st79⟩ := ldcCH X0 hx hZ hown (hw _ (List.mem_of_getElem? (i := 1) rfl)) wS e0 hS hk hEL (by decide : ("com/example/odds3/odds3/engine/ValueTypeNamedPinLaw", 26) ∈ consts_1) CR.1 (vs := [(.int (110 : Int32)), (.int (117 : Int32)), (.int (109 : Int32)), (.int (98 : Int32)), (.int (101 : Int32)), (.int (114 : Int32))]) (z := (6 : Int32)) (by decide) (by decide) (by decide) (g := (mkF m 13 #[.val (.int p0), .val (.long p1), .second, .val (.int p2), .val (.int p3), .val (.int ((p0 &&& (2147483647 : Int32)) % (4 : Int32))), .unset, .unset, .unset, .unset, .unset] [])) rfl (hb hby at_13) (n := 24) (by decide) (by decide) (by decide) (by decide)
    replace Od := Od.ext E79
    replace CR := CR.trans CH79
    replace hS := hS79
    replace hk := hk79
    replace hZ := hZ79
    replace hown := hown79
    have hp_q79 : ∀ c ∈ ([(110 : Int32), (117 : Int32), (109 : Int32), (98 : Int32), (101 : Int32), (114 : Int32)] : List Int32), ¬ c < 0 ∧ ¬ (255 : Int32) < c := by decide
    have hcd_q79 : StrChars.Road.CodA ([(110 : Int32), (117 : Int32), (109 : Int32), (98 : Int32), (101 : Int32), (114 : Int32)] : List Int32) 0 (6 : Int32) [(.int (110 : Int32)), (.int (117 : Int32)), (.int (109 : Int32)), (.int (98 : Int32)), (.int (101 : Int32)), (.int (114 : Int32))] := StrChars.Road.codOf (n := 6) rfl (fun c hc => (hp_q79 c hc).2)
    have hbd_q79 := own_up _ hp_q79
    refine OEndsW.via (fun _ k => st79 _ k) ?_
    show OEndsW p e below s _ _ _ _ _ (T79.setTop (mkF m 15 #[.val (.int p0), .val (.long p1), .second, .val (.int p2), .val (.int p3), .val (.int ((p0 &&& (2147483647 : Int32)) % (4 : Int32))), .unset, .unset, .unset, .unset, .unset] [(.ref q79)]))
    refine OEndsW.via (fun _ k => XS.goto X79.here hx rfl (pc0 := 15) (pc' := 42) rfl (hb hby at_15) (by decide) (by decide) k) ?_
    show OEndsW p e below s _ _ _ _ _ (T79.setTop (mkF m 42 #[.val (.int p0), .val (.long p1), .second, .val (.int p2), .val (.int p3), .val (.int ((p0 &&& (2147483647 : Int32)) % (4 : Int32))), .unset, .unset, .unset, .unset, .unset] [(.ref q79)]))
    exact J1 _ _ _ _ _ (X79.more (by decide) (by decide)) e79 N0 hS hk hZ hown CR Od q79 qv79 _ _ _ ([(110 : Int32), (117 : Int32), (109 : Int32), (98 : Int32), (101 : Int32), (114 : Int32)] : List Int32) E_q79 V_q79 C_q79 K_q79 hcd_q79 hp_q79 (by decide) (by decide)
  · skip
    refine OEndsW.via (fun _ k => XS.ifYes X0.here hx rfl (pc0 := 10) (pc' := 18) rfl (hb hby at_10) rfl ((if0 _ _).trans (feq hc10_77).2) (by decide) (by decide) k) ?_
    show OEndsW p e below s _ _ _ _ _ (s₁.setTop (mkF m 18 #[.val (.int p0), .val (.long p1), .second, .val (.int p2), .val (.int p3), .val (.int ((p0 &&& (2147483647 : Int32)) % (4 : Int32))), .unset, .unset, .unset, .unset, .unset] []))
    refine OEndsW.via (fun _ k => XS.iload X0.here hx rfl (hb hby at_18) rfl k) ?_
    show OEndsW p e below s _ _ _ _ _ (s₁.setTop (mkF m 20 #[.val (.int p0), .val (.long p1), .second, .val (.int p2), .val (.int p3), .val (.int ((p0 &&& (2147483647 : Int32)) % (4 : Int32))), .unset, .unset, .unset, .unset, .unset] [(.int ((p0 &&& (2147483647 : Int32)) % (4 : Int32)))]))
    refine OEndsW.via (fun _ k => XS.iconst X0.here hx rfl (hb hby at_20) k) ?_
    show OEndsW p e below s _ _ _ _ _ (s₁.setTop (mkF m 21 #[.val (.int p0), .val (.long p1), .second, .val (.int p2), .val (.int p3), .val (.int ((p0 &&& (2147483647 : Int32)) % (4 : Int32))), .unset, .unset, .unset, .unset, .unset] [(.int (1 : Int32)), (.int ((p0 &&& (2147483647 : Int32)) % (4 : Int32)))]))
    by_cases hc21_79 : ((p0 &&& (2147483647 : Int32)) % (4 : Int32)) = (1 : Int32)
    · skip
      refine OEndsW.via (fun _ k => XS.icmpNo X0.here hx rfl (hb hby at_21) rfl (teq hc21_79).2 k) ?_
      show OEndsW p e below s _ _ _ _ _ (s₁.setTop (mkF m 24 #[.val (.int p0), .val (.long p1), .second, .val (.int p2), .val (.int p3), .val (.int ((p0 &&& (2147483647 : Int32)) % (4 : Int32))), .unset, .unset, .unset, .unset, .unset] []))
      obtain ⟨q81, T81, h81, k181, qv81, kq81, X81, e81, E81, hS81, hk81, hZ81, hown81, E_q81, C_q81, V_q81, K_q81, la81, lb81, CH81, Lt81, hsafe81, st81⟩ := ldcCH X0 hx hZ hown (hw _ (List.mem_of_getElem? (i := 82) rfl)) wS e0 hS hk hEL (by decide : ("com/example/odds3/odds3/engine/ValueTypeNamedPinLaw", 28) ∈ consts_1) CR.1 (vs := [(.int (98 : Int32)), (.int (111 : Int32)), (.int (111 : Int32)), (.int (108 : Int32)), (.int (101 : Int32)), (.int (97 : Int32)), (.int (110 : Int32))]) (z := (7 : Int32)) (by decide) (by decide) (by decide) (g := (mkF m 24 #[.val (.int p0), .val (.long p1), .second, .val (.int p2), .val (.int p3), .val (.int ((p0 &&& (2147483647 : Int32)) % (4 : Int32))), .unset, .unset, .unset, .unset, .unset] [])) rfl (hb hby at_24) (n := 28) (by decide) (by decide) (by decide) (by decide)
      replace Od := Od.ext E81
      replace CR := CR.trans CH81
      replace hS := hS81
      replace hk := hk81
      replace hZ := hZ81
      replace hown := hown81
      have hp_q81 : ∀ c ∈ ([(98 : Int32), (111 : Int32), (111 : Int32), (108 : Int32), (101 : Int32), (97 : Int32), (110 : Int32)] : List Int32), ¬ c < 0 ∧ ¬ (255 : Int32) < c := by decide
      have hcd_q81 : StrChars.Road.CodA ([(98 : Int32), (111 : Int32), (111 : Int32), (108 : Int32), (101 : Int32), (97 : Int32), (110 : Int32)] : List Int32) 0 (7 : Int32) [(.int (98 : Int32)), (.int (111 : Int32)), (.int (111 : Int32)), (.int (108 : Int32)), (.int (101 : Int32)), (.int (97 : Int32)), (.int (110 : Int32))] := StrChars.Road.codOf (n := 7) rfl (fun c hc => (hp_q81 c hc).2)
      have hbd_q81 := own_up _ hp_q81
      refine OEndsW.via (fun _ k => st81 _ k) ?_
      show OEndsW p e below s _ _ _ _ _ (T81.setTop (mkF m 26 #[.val (.int p0), .val (.long p1), .second, .val (.int p2), .val (.int p3), .val (.int ((p0 &&& (2147483647 : Int32)) % (4 : Int32))), .unset, .unset, .unset, .unset, .unset] [(.ref q81)]))
      refine OEndsW.via (fun _ k => XS.goto X81.here hx rfl (pc0 := 26) (pc' := 42) rfl (hb hby at_26) (by decide) (by decide) k) ?_
      show OEndsW p e below s _ _ _ _ _ (T81.setTop (mkF m 42 #[.val (.int p0), .val (.long p1), .second, .val (.int p2), .val (.int p3), .val (.int ((p0 &&& (2147483647 : Int32)) % (4 : Int32))), .unset, .unset, .unset, .unset, .unset] [(.ref q81)]))
      exact J1 _ _ _ _ _ (X81.more (by decide) (by decide)) e81 N0 hS hk hZ hown CR Od q81 qv81 _ _ _ ([(98 : Int32), (111 : Int32), (111 : Int32), (108 : Int32), (101 : Int32), (97 : Int32), (110 : Int32)] : List Int32) E_q81 V_q81 C_q81 K_q81 hcd_q81 hp_q81 (by decide) (by decide)
    · skip
      refine OEndsW.via (fun _ k => XS.icmpYes X0.here hx rfl (pc0 := 21) (pc' := 29) rfl (hb hby at_21) rfl (feq hc21_79).2 (by decide) (by decide) k) ?_
      show OEndsW p e below s _ _ _ _ _ (s₁.setTop (mkF m 29 #[.val (.int p0), .val (.long p1), .second, .val (.int p2), .val (.int p3), .val (.int ((p0 &&& (2147483647 : Int32)) % (4 : Int32))), .unset, .unset, .unset, .unset, .unset] []))
      refine OEndsW.via (fun _ k => XS.iload X0.here hx rfl (hb hby at_29) rfl k) ?_
      show OEndsW p e below s _ _ _ _ _ (s₁.setTop (mkF m 31 #[.val (.int p0), .val (.long p1), .second, .val (.int p2), .val (.int p3), .val (.int ((p0 &&& (2147483647 : Int32)) % (4 : Int32))), .unset, .unset, .unset, .unset, .unset] [(.int ((p0 &&& (2147483647 : Int32)) % (4 : Int32)))]))
      refine OEndsW.via (fun _ k => XS.iconst X0.here hx rfl (hb hby at_31) k) ?_
      show OEndsW p e below s _ _ _ _ _ (s₁.setTop (mkF m 32 #[.val (.int p0), .val (.long p1), .second, .val (.int p2), .val (.int p3), .val (.int ((p0 &&& (2147483647 : Int32)) % (4 : Int32))), .unset, .unset, .unset, .unset, .unset] [(.int (2 : Int32)), (.int ((p0 &&& (2147483647 : Int32)) % (4 : Int32)))]))
      by_cases hc32_81 : ((p0 &&& (2147483647 : Int32)) % (4 : Int32)) = (2 : Int32)
      · skip
        refine OEndsW.via (fun _ k => XS.icmpNo X0.here hx rfl (hb hby at_32) rfl (teq hc32_81).2 k) ?_
        show OEndsW p e below s _ _ _ _ _ (s₁.setTop (mkF m 35 #[.val (.int p0), .val (.long p1), .second, .val (.int p2), .val (.int p3), .val (.int ((p0 &&& (2147483647 : Int32)) % (4 : Int32))), .unset, .unset, .unset, .unset, .unset] []))
        obtain ⟨q83, T83, h83, k183, qv83, kq83, X83, e83, E83, hS83, hk83, hZ83, hown83, E_q83, C_q83, V_q83, K_q83, la83, lb83, CH83, Lt83, hsafe83, st83⟩ := ldcCH X0 hx hZ hown (hw _ (List.mem_of_getElem? (i := 83) rfl)) wS e0 hS hk hEL (by decide : ("com/example/odds3/odds3/engine/ValueTypeNamedPinLaw", 30) ∈ consts_1) CR.1 (vs := [(.int (115 : Int32)), (.int (116 : Int32)), (.int (114 : Int32)), (.int (105 : Int32)), (.int (110 : Int32)), (.int (103 : Int32))]) (z := (6 : Int32)) (by decide) (by decide) (by decide) (g := (mkF m 35 #[.val (.int p0), .val (.long p1), .second, .val (.int p2), .val (.int p3), .val (.int ((p0 &&& (2147483647 : Int32)) % (4 : Int32))), .unset, .unset, .unset, .unset, .unset] [])) rfl (hb hby at_35) (n := 24) (by decide) (by decide) (by decide) (by decide)
        replace Od := Od.ext E83
        replace CR := CR.trans CH83
        replace hS := hS83
        replace hk := hk83
        replace hZ := hZ83
        replace hown := hown83
        have hp_q83 : ∀ c ∈ ([(115 : Int32), (116 : Int32), (114 : Int32), (105 : Int32), (110 : Int32), (103 : Int32)] : List Int32), ¬ c < 0 ∧ ¬ (255 : Int32) < c := by decide
        have hcd_q83 : StrChars.Road.CodA ([(115 : Int32), (116 : Int32), (114 : Int32), (105 : Int32), (110 : Int32), (103 : Int32)] : List Int32) 0 (6 : Int32) [(.int (115 : Int32)), (.int (116 : Int32)), (.int (114 : Int32)), (.int (105 : Int32)), (.int (110 : Int32)), (.int (103 : Int32))] := StrChars.Road.codOf (n := 6) rfl (fun c hc => (hp_q83 c hc).2)
        have hbd_q83 := own_up _ hp_q83
        refine OEndsW.via (fun _ k => st83 _ k) ?_
        show OEndsW p e below s _ _ _ _ _ (T83.setTop (mkF m 37 #[.val (.int p0), .val (.long p1), .second, .val (.int p2), .val (.int p3), .val (.int ((p0 &&& (2147483647 : Int32)) % (4 : Int32))), .unset, .unset, .unset, .unset, .unset] [(.ref q83)]))
        refine OEndsW.via (fun _ k => XS.goto X83.here hx rfl (pc0 := 37) (pc' := 42) rfl (hb hby at_37) (by decide) (by decide) k) ?_
        show OEndsW p e below s _ _ _ _ _ (T83.setTop (mkF m 42 #[.val (.int p0), .val (.long p1), .second, .val (.int p2), .val (.int p3), .val (.int ((p0 &&& (2147483647 : Int32)) % (4 : Int32))), .unset, .unset, .unset, .unset, .unset] [(.ref q83)]))
        exact J1 _ _ _ _ _ (X83.more (by decide) (by decide)) e83 N0 hS hk hZ hown CR Od q83 qv83 _ _ _ ([(115 : Int32), (116 : Int32), (114 : Int32), (105 : Int32), (110 : Int32), (103 : Int32)] : List Int32) E_q83 V_q83 C_q83 K_q83 hcd_q83 hp_q83 (by decide) (by decide)
      · skip
        refine OEndsW.via (fun _ k => XS.icmpYes X0.here hx rfl (pc0 := 32) (pc' := 40) rfl (hb hby at_32) rfl (feq hc32_81).2 (by decide) (by decide) k) ?_
        show OEndsW p e below s _ _ _ _ _ (s₁.setTop (mkF m 40 #[.val (.int p0), .val (.long p1), .second, .val (.int p2), .val (.int p3), .val (.int ((p0 &&& (2147483647 : Int32)) % (4 : Int32))), .unset, .unset, .unset, .unset, .unset] []))
        obtain ⟨q84, T84, h84, k184, qv84, kq84, X84, e84, E84, hS84, hk84, hZ84, hown84, E_q84, C_q84, V_q84, K_q84, la84, lb84, CH84, Lt84, hsafe84, st84⟩ := ldcCH X0 hx hZ hown (hw _ (List.mem_of_getElem? (i := 109) rfl)) wS e0 hS hk hEL (by decide : ("com/example/odds3/odds3/engine/ValueTypeNamedPinLaw", 32) ∈ consts_1) CR.1 (vs := []) (z := (0 : Int32)) (by decide) (by decide) (by decide) (g := (mkF m 40 #[.val (.int p0), .val (.long p1), .second, .val (.int p2), .val (.int p3), .val (.int ((p0 &&& (2147483647 : Int32)) % (4 : Int32))), .unset, .unset, .unset, .unset, .unset] [])) rfl (hb hby at_40) (n := 0) (by decide) (by decide) (by decide) (by decide)
        replace Od := Od.ext E84
        replace CR := CR.trans CH84
        replace hS := hS84
        replace hk := hk84
        replace hZ := hZ84
        replace hown := hown84
        have hp_q84 : ∀ c ∈ ([] : List Int32), ¬ c < 0 ∧ ¬ (255 : Int32) < c := by decide
        have hcd_q84 : StrChars.Road.CodA ([] : List Int32) 0 (0 : Int32) [] := own_cod0
        have hbd_q84 := own_up _ hp_q84
        refine OEndsW.via (fun _ k => st84 _ k) ?_
        show OEndsW p e below s _ _ _ _ _ (T84.setTop (mkF m 42 #[.val (.int p0), .val (.long p1), .second, .val (.int p2), .val (.int p3), .val (.int ((p0 &&& (2147483647 : Int32)) % (4 : Int32))), .unset, .unset, .unset, .unset, .unset] [(.ref q84)]))
        exact J1 _ _ _ _ _ (X84.more (by decide) (by decide)) e84 N0 hS hk hZ hown CR Od q84 qv84 _ _ _ ([] : List Int32) E_q84 V_q84 C_q84 K_q84 hcd_q84 hp_q84 (by decide) (by decide)
set_option maxRecDepth 65536 in
set_option maxHeartbeats 40000000 in
theorem comes_1 {Post : Tables → Env → Array Value → State → Outcome → State → Prop} (hpost : ∀ tb e args s v u, (limb_1_1.after args s (.returned v) u = true ∧ limb_1_2.after args s (.returned v) u = true ∧ True) → ReturnedEndW s (.returned v) u (Jvm.fieldLocs frame_1_writes args s ++ Jvm.arrayLocs frame_1_arrays args s ++ Jvm.staticLocs frame_1_statics s) 32 5248 → Post tb e args s (.returned v) u) :
    ArmFor flags0 classFile x code maxLocals ret World_1 tables_1 room_1 Calls_1 rest_1 Pre_1 Post := by
  intro l hfl _ _ p e ha hc hk s m args below hf hA hF happ hP
  obtain ⟨hcalls, hrest, hpre⟩ := hP
  obtain ⟨-, -, -, hnamed, -, -, -, hat⟩ := (Spec.applies_iff hf).mp happ
  obtain ⟨hg, hn⟩ := and_e (Cond.before_iff.mp (show (Jvm.Cond.and given_1 narrow_1).before args s = true from hpre))
  obtain ⟨g1, g2⟩ := and_e hg
  obtain ⟨g3, g4⟩ := and_e g2
  obtain ⟨g5, g6⟩ := and_e g4
  obtain ⟨g7, g8⟩ := and_e g6
  obtain ⟨w0, w1, w2, w3, rfl⟩ : ∃ w0 w1 w2 w3 : Value, args = #[w0, w1, w2, w3] := by
    have hs : args.size = 4 := by simpa [Cond.value, given_1] using g1
    obtain ⟨L⟩ := args
    match L, hs with
    | [w0, w1, w2, w3], _ => exact ⟨w0, w1, w2, w3, rfl⟩
  have hw := fun d (hd : d ∈ tables_1) => atoms_spec (ws := Jvm.Cond.code x code maxLocals ret :: tables_1) hat d (List.mem_cons_of_mem _ hd)
  have hfit : Fit s := fun {y c} hc i hi => by
    obtain ⟨ha, rfl⟩ := Array.getElem?_eq_some_iff.mp hc
    have q := List.all_eq_true.mp ((Array.all_eq_true_iff_forall_mem.mp hF) _ (Array.getElem_mem ha)) i (List.mem_range.mpr hi)
    simpa [Array.getElem?_eq_getElem hi] using q
  obtain ⟨hsets, hown0⟩ := atoms_of _ (rest_1_c_eq ▸ (show rest_1_c.before _ s = true from hrest))
  have hr0 := Cond.before_iff.mp hown0
  obtain ⟨i0, ei0⟩ := is_v g3
  obtain rfl : w0 = (.int i0) := Option.some.inj ei0
  obtain ⟨i1, ei1⟩ := isL_v g5
  obtain rfl : w1 = (.long i1) := Option.some.inj ei1
  obtain ⟨i2, ei2⟩ := is_v g7
  obtain rfl : w2 = (.int i2) := Option.some.inj ei2
  obtain ⟨i3, ei3⟩ := is_v g8
  obtain rfl : w3 = (.int i3) := Option.some.inj ei3
  obtain ⟨g9, g10⟩ := and_e hn
  obtain ⟨g11, g12⟩ := and_e g10
  obtain ⟨g13, g14⟩ := and_e g12
  obtain ⟨g15, g16⟩ := and_e g14
  obtain ⟨g17, g18⟩ := and_e g16
  obtain ⟨g19, g20⟩ := and_e g18
  obtain ⟨g21, g22⟩ := and_e g20
  obtain ⟨g23, g24⟩ := and_e g22
  obtain ⟨g25, g26⟩ := and_e g24
  obtain ⟨g27, g28⟩ := and_e g26
  obtain ⟨g29, g30⟩ := and_e g28
  obtain ⟨g31, g32⟩ := and_e g30
  obtain ⟨g33, g34⟩ := and_e g32
  obtain ⟨g35, g36⟩ := and_e g34
  obtain ⟨g37, g38⟩ := and_e g36
  obtain ⟨g39, g40⟩ := and_e g38
  obtain ⟨g41, g42⟩ := and_e g40
  obtain ⟨g43, g44⟩ := and_e g42
  obtain ⟨g45, g46⟩ := and_e g44
  obtain ⟨g47, g48⟩ := and_e g46
  obtain ⟨g49, g50⟩ := and_e g48
  obtain ⟨g51, g52⟩ := and_e g50
  obtain ⟨g53, g54⟩ := and_e g52
  obtain ⟨g55, g56⟩ := and_e g54
  obtain ⟨g57, g58⟩ := and_e g56
  obtain ⟨g59, g60⟩ := and_e g58
  obtain ⟨g61, g62⟩ := and_e g60
  obtain ⟨g63, g64⟩ := and_e g62
  obtain ⟨g65, g66⟩ := and_e g64
  obtain ⟨g67, g68⟩ := and_e g66
  obtain ⟨g69, g70⟩ := and_e g68
  obtain ⟨g71, g72⟩ := and_e g70
  obtain ⟨g73, g74⟩ := and_e g72
  obtain ⟨g75, g76⟩ := and_e g74
  obtain ⟨g77, g78⟩ := and_e g76
  obtain ⟨g79, g80⟩ := and_e g78
  obtain ⟨g81, g82⟩ := and_e g80
  obtain ⟨g83, g84⟩ := and_e g82
  obtain ⟨g85, g86⟩ := and_e g84
  obtain ⟨a_COMPACT_STRINGS, ev_a_COMPACT_STRINGS⟩ := is_v (Cond.before_iff.mp (hsets _ (List.mem_of_getElem? (i := 1) rfl)))
  have S_a_COMPACT_STRINGS : Sta s s.heap "java/lang/String" "COMPACT_STRINGS" "Z" (.int a_COMPACT_STRINGS) := Sta.start ev_a_COMPACT_STRINGS (Or.inl (hsets _ (List.mem_of_getElem? (i := 0) rfl)))
  obtain ⟨a_SIOOBE_FORMATTER, ev_a_SIOOBE_FORMATTER, rf_a_SIOOBE_FORMATTER⟩ := isR_v (Cond.before_iff.mp (hsets _ (List.mem_of_getElem? (i := 8) rfl)))
  have S_a_SIOOBE_FORMATTER : Sta s s.heap "jdk/internal/util/Preconditions" "SIOOBE_FORMATTER" "Ljava/util/function/BiFunction;" a_SIOOBE_FORMATTER := Sta.start ev_a_SIOOBE_FORMATTER (Or.inl (hsets _ (List.mem_of_getElem? (i := 7) rfl)))
  have nz_a_COMPACT_STRINGS : ¬ (a_COMPACT_STRINGS = (0 : Int32)) := gotF (Cond.eq_ints ev_a_COMPACT_STRINGS (Term.int_eval (0))) (not_v (Cond.before_iff.mp (hsets _ (List.mem_of_getElem? (i := 2) rfl))))
  obtain ⟨a__VALUES, ev_a__VALUES⟩ := arr_v g9
  have S_a__VALUES : Sta s s.heap "com/example/odds3/odds3/engine/ValueType" "$VALUES" "[Lcom/example/odds3/odds3/engine/ValueType;" (.ref a__VALUES) := Sta.start ev_a__VALUES (Or.inl (hw _ (List.mem_of_getElem? (i := 103) rfl)))
  obtain ⟨cl_a__VALUES, Ar_a__VALUES⟩ := Arr.start ev_a__VALUES g9
  have E_a__VALUES : Exa s s.heap a__VALUES "[Lcom/example/odds3/odds3/engine/ValueType;" := Exa.start ev_a__VALUES g11
  obtain ⟨a_NUMBER, ev_a_NUMBER⟩ := exa_v g15
  have S_a_NUMBER : Sta s s.heap "com/example/odds3/odds3/engine/ValueType" "NUMBER" "Lcom/example/odds3/odds3/engine/ValueType;" (.ref a_NUMBER) := Sta.start ev_a_NUMBER (Or.inr ⟨(hw _ (List.mem_of_getElem? (i := 86) rfl)), (hw _ (List.mem_of_getElem? (i := 100) rfl))⟩)
  have E_a_NUMBER : Exa s s.heap a_NUMBER "com/example/odds3/odds3/engine/ValueType" := Exa.start ev_a_NUMBER g15
  obtain ⟨a_BOOLEAN, ev_a_BOOLEAN⟩ := exa_v g19
  have S_a_BOOLEAN : Sta s s.heap "com/example/odds3/odds3/engine/ValueType" "BOOLEAN" "Lcom/example/odds3/odds3/engine/ValueType;" (.ref a_BOOLEAN) := Sta.start ev_a_BOOLEAN (Or.inr ⟨(hw _ (List.mem_of_getElem? (i := 86) rfl)), (hw _ (List.mem_of_getElem? (i := 101) rfl))⟩)
  have E_a_BOOLEAN : Exa s s.heap a_BOOLEAN "com/example/odds3/odds3/engine/ValueType" := Exa.start ev_a_BOOLEAN g19
  obtain ⟨a_STRING, ev_a_STRING⟩ := exa_v g23
  have S_a_STRING : Sta s s.heap "com/example/odds3/odds3/engine/ValueType" "STRING" "Lcom/example/odds3/odds3/engine/ValueType;" (.ref a_STRING) := Sta.start ev_a_STRING (Or.inr ⟨(hw _ (List.mem_of_getElem? (i := 86) rfl)), (hw _ (List.mem_of_getElem? (i := 102) rfl))⟩)
  have E_a_STRING : Exa s s.heap a_STRING "com/example/odds3/odds3/engine/ValueType" := Exa.start ev_a_STRING g23
  obtain ⟨a_NUMBER_policyName, ev_a_NUMBER_policyName⟩ := exa_v g27
  have F_policyName_a_NUMBER : Fld s s.heap a_NUMBER "com/example/odds3/odds3/engine/ValueType" "policyName" "Ljava/lang/String;" (.ref a_NUMBER_policyName) := Fld.start ((fld_at ev_a_NUMBER).symm.trans ev_a_NUMBER_policyName)
  have E_a_NUMBER_policyName : Exa s s.heap a_NUMBER_policyName "java/lang/String" := Exa.start ev_a_NUMBER_policyName g27
  obtain ⟨a_BOOLEAN_policyName, ev_a_BOOLEAN_policyName⟩ := exa_v g35
  have F_policyName_a_BOOLEAN : Fld s s.heap a_BOOLEAN "com/example/odds3/odds3/engine/ValueType" "policyName" "Ljava/lang/String;" (.ref a_BOOLEAN_policyName) := Fld.start ((fld_at ev_a_BOOLEAN).symm.trans ev_a_BOOLEAN_policyName)
  have E_a_BOOLEAN_policyName : Exa s s.heap a_BOOLEAN_policyName "java/lang/String" := Exa.start ev_a_BOOLEAN_policyName g35
  obtain ⟨a_STRING_policyName, ev_a_STRING_policyName⟩ := exa_v g43
  have F_policyName_a_STRING : Fld s s.heap a_STRING "com/example/odds3/odds3/engine/ValueType" "policyName" "Ljava/lang/String;" (.ref a_STRING_policyName) := Fld.start ((fld_at ev_a_STRING).symm.trans ev_a_STRING_policyName)
  have E_a_STRING_policyName : Exa s s.heap a_STRING_policyName "java/lang/String" := Exa.start ev_a_STRING_policyName g43
  obtain ⟨a_NUMBER_policyName_value, ev_a_NUMBER_policyName_value⟩ := arr_v g31
  have F_value_a_NUMBER_policyName : Fld s s.heap a_NUMBER_policyName "java/lang/String" "value" "[B" (.ref a_NUMBER_policyName_value) := Fld.start ((fld_at ev_a_NUMBER_policyName).symm.trans ev_a_NUMBER_policyName_value)
  obtain ⟨cl_a_NUMBER_policyName_value, Ar_a_NUMBER_policyName_value⟩ := Arr.start ev_a_NUMBER_policyName_value g31
  obtain ⟨a_BOOLEAN_policyName_value, ev_a_BOOLEAN_policyName_value⟩ := arr_v g39
  have F_value_a_BOOLEAN_policyName : Fld s s.heap a_BOOLEAN_policyName "java/lang/String" "value" "[B" (.ref a_BOOLEAN_policyName_value) := Fld.start ((fld_at ev_a_BOOLEAN_policyName).symm.trans ev_a_BOOLEAN_policyName_value)
  obtain ⟨cl_a_BOOLEAN_policyName_value, Ar_a_BOOLEAN_policyName_value⟩ := Arr.start ev_a_BOOLEAN_policyName_value g39
  obtain ⟨a_STRING_policyName_value, ev_a_STRING_policyName_value⟩ := arr_v g47
  have F_value_a_STRING_policyName : Fld s s.heap a_STRING_policyName "java/lang/String" "value" "[B" (.ref a_STRING_policyName_value) := Fld.start ((fld_at ev_a_STRING_policyName).symm.trans ev_a_STRING_policyName_value)
  obtain ⟨cl_a_STRING_policyName_value, Ar_a_STRING_policyName_value⟩ := Arr.start ev_a_STRING_policyName_value g47
  obtain ⟨L31_a__VALUES, L_a__VALUES⟩ := own_len g13 ev_a__VALUES Ar_a__VALUES
  have el_a__VALUES_0 := own_elemR g17 ev_a_NUMBER ev_a__VALUES Ar_a__VALUES
  have el_a__VALUES_1 := own_elemR g21 ev_a_BOOLEAN ev_a__VALUES Ar_a__VALUES
  have el_a__VALUES_2 := own_elemR g25 ev_a_STRING ev_a__VALUES Ar_a__VALUES
  have F_coder_a_NUMBER_policyName : Fld s s.heap a_NUMBER_policyName "java/lang/String" "coder" "B" (.int (0 : Int32)) := Fld.start ((fld_at ev_a_NUMBER_policyName).symm.trans (own_eqint g29))
  obtain ⟨L31_a_NUMBER_policyName_value, L_a_NUMBER_policyName_value⟩ := own_len g33 ev_a_NUMBER_policyName_value Ar_a_NUMBER_policyName_value
  have F_coder_a_BOOLEAN_policyName : Fld s s.heap a_BOOLEAN_policyName "java/lang/String" "coder" "B" (.int (0 : Int32)) := Fld.start ((fld_at ev_a_BOOLEAN_policyName).symm.trans (own_eqint g37))
  obtain ⟨L31_a_BOOLEAN_policyName_value, L_a_BOOLEAN_policyName_value⟩ := own_len g41 ev_a_BOOLEAN_policyName_value Ar_a_BOOLEAN_policyName_value
  have F_coder_a_STRING_policyName : Fld s s.heap a_STRING_policyName "java/lang/String" "coder" "B" (.int (0 : Int32)) := Fld.start ((fld_at ev_a_STRING_policyName).symm.trans (own_eqint g45))
  obtain ⟨L31_a_STRING_policyName_value, L_a_STRING_policyName_value⟩ := own_len g49 ev_a_STRING_policyName_value Ar_a_STRING_policyName_value
  have el_a_NUMBER_policyName_value_0 := own_elem g51 ev_a_NUMBER_policyName_value Ar_a_NUMBER_policyName_value
  have el_a_NUMBER_policyName_value_1 := own_elem g53 ev_a_NUMBER_policyName_value Ar_a_NUMBER_policyName_value
  have el_a_NUMBER_policyName_value_2 := own_elem g55 ev_a_NUMBER_policyName_value Ar_a_NUMBER_policyName_value
  have el_a_NUMBER_policyName_value_3 := own_elem g57 ev_a_NUMBER_policyName_value Ar_a_NUMBER_policyName_value
  have el_a_NUMBER_policyName_value_4 := own_elem g59 ev_a_NUMBER_policyName_value Ar_a_NUMBER_policyName_value
  have el_a_NUMBER_policyName_value_5 := own_elem g61 ev_a_NUMBER_policyName_value Ar_a_NUMBER_policyName_value
  have el_a_BOOLEAN_policyName_value_0 := own_elem g63 ev_a_BOOLEAN_policyName_value Ar_a_BOOLEAN_policyName_value
  have el_a_BOOLEAN_policyName_value_1 := own_elem g65 ev_a_BOOLEAN_policyName_value Ar_a_BOOLEAN_policyName_value
  have el_a_BOOLEAN_policyName_value_2 := own_elem g67 ev_a_BOOLEAN_policyName_value Ar_a_BOOLEAN_policyName_value
  have el_a_BOOLEAN_policyName_value_3 := own_elem g69 ev_a_BOOLEAN_policyName_value Ar_a_BOOLEAN_policyName_value
  have el_a_BOOLEAN_policyName_value_4 := own_elem g71 ev_a_BOOLEAN_policyName_value Ar_a_BOOLEAN_policyName_value
  have el_a_BOOLEAN_policyName_value_5 := own_elem g73 ev_a_BOOLEAN_policyName_value Ar_a_BOOLEAN_policyName_value
  have el_a_BOOLEAN_policyName_value_6 := own_elem g75 ev_a_BOOLEAN_policyName_value Ar_a_BOOLEAN_policyName_value
  have el_a_STRING_policyName_value_0 := own_elem g77 ev_a_STRING_policyName_value Ar_a_STRING_policyName_value
  have el_a_STRING_policyName_value_1 := own_elem g79 ev_a_STRING_policyName_value Ar_a_STRING_policyName_value
  have el_a_STRING_policyName_value_2 := own_elem g81 ev_a_STRING_policyName_value Ar_a_STRING_policyName_value
  have el_a_STRING_policyName_value_3 := own_elem g83 ev_a_STRING_policyName_value Ar_a_STRING_policyName_value
  have el_a_STRING_policyName_value_4 := own_elem g85 ev_a_STRING_policyName_value Ar_a_STRING_policyName_value
  have el_a_STRING_policyName_value_5 := own_elem g86 ev_a_STRING_policyName_value Ar_a_STRING_policyName_value
  have V_a__VALUES : Arv s s.heap a__VALUES cl_a__VALUES.cls (.object "com/example/odds3/odds3/engine/ValueType") (3 : Int32) [(.ref a_NUMBER), (.ref a_BOOLEAN), (.ref a_STRING)] .null := Arv.start hfit Ar_a__VALUES L31_a__VALUES L_a__VALUES (by decide) rfl ⟨el_a__VALUES_0, el_a__VALUES_1, el_a__VALUES_2, trivial⟩
  have V_a_NUMBER_policyName_value : Arv s s.heap a_NUMBER_policyName_value cl_a_NUMBER_policyName_value.cls .byte (6 : Int32) [(.int (110 : Int32)), (.int (117 : Int32)), (.int (109 : Int32)), (.int (98 : Int32)), (.int (101 : Int32)), (.int (114 : Int32))] (.int (0 : Int32)) := Arv.start hfit Ar_a_NUMBER_policyName_value L31_a_NUMBER_policyName_value L_a_NUMBER_policyName_value (by decide) rfl ⟨el_a_NUMBER_policyName_value_0, el_a_NUMBER_policyName_value_1, el_a_NUMBER_policyName_value_2, el_a_NUMBER_policyName_value_3, el_a_NUMBER_policyName_value_4, el_a_NUMBER_policyName_value_5, trivial⟩
  have V_a_BOOLEAN_policyName_value : Arv s s.heap a_BOOLEAN_policyName_value cl_a_BOOLEAN_policyName_value.cls .byte (7 : Int32) [(.int (98 : Int32)), (.int (111 : Int32)), (.int (111 : Int32)), (.int (108 : Int32)), (.int (101 : Int32)), (.int (97 : Int32)), (.int (110 : Int32))] (.int (0 : Int32)) := Arv.start hfit Ar_a_BOOLEAN_policyName_value L31_a_BOOLEAN_policyName_value L_a_BOOLEAN_policyName_value (by decide) rfl ⟨el_a_BOOLEAN_policyName_value_0, el_a_BOOLEAN_policyName_value_1, el_a_BOOLEAN_policyName_value_2, el_a_BOOLEAN_policyName_value_3, el_a_BOOLEAN_policyName_value_4, el_a_BOOLEAN_policyName_value_5, el_a_BOOLEAN_policyName_value_6, trivial⟩
  have V_a_STRING_policyName_value : Arv s s.heap a_STRING_policyName_value cl_a_STRING_policyName_value.cls .byte (6 : Int32) [(.int (115 : Int32)), (.int (116 : Int32)), (.int (114 : Int32)), (.int (105 : Int32)), (.int (110 : Int32)), (.int (103 : Int32))] (.int (0 : Int32)) := Arv.start hfit Ar_a_STRING_policyName_value L31_a_STRING_policyName_value L_a_STRING_policyName_value (by decide) rfl ⟨el_a_STRING_policyName_value_0, el_a_STRING_policyName_value_1, el_a_STRING_policyName_value_2, el_a_STRING_policyName_value_3, el_a_STRING_policyName_value_4, el_a_STRING_policyName_value_5, trivial⟩
  have hCH0 : CHv s consts_1 s.vm s.heap := CHv.start (own_EW hw) (fun p hp => hcalls.1 p hp) (hsets _ (List.mem_of_getElem? (i := 2) rfl)) (hw _ (List.mem_of_getElem? (i := 4) rfl)) (hw _ (List.mem_of_getElem? (i := 3) rfl))
  obtain ⟨n, o, h1, h2, h3, _, L, rfl, ⟨rfl, N⟩, -, hq⟩ := rm0 l s _ hw tables_1 i0 i1 i2 i3 a_SIOOBE_FORMATTER a_NUMBER a_BOOLEAN a_STRING a_NUMBER_policyName a_BOOLEAN_policyName a_STRING_policyName a_NUMBER_policyName_value a_BOOLEAN_policyName_value a_STRING_policyName_value cl_a_NUMBER_policyName_value.cls cl_a_BOOLEAN_policyName_value.cls cl_a_STRING_policyName_value.cls a__VALUES cl_a__VALUES.cls a_COMPACT_STRINGS s.heap s.heap.size (Old.start s) S_a_SIOOBE_FORMATTER rf_a_SIOOBE_FORMATTER S_a_COMPACT_STRINGS nz_a_COMPACT_STRINGS S_a__VALUES V_a__VALUES E_a__VALUES E_a_NUMBER_policyName F_value_a_NUMBER_policyName F_coder_a_NUMBER_policyName V_a_NUMBER_policyName_value F_policyName_a_NUMBER E_a_BOOLEAN_policyName F_value_a_BOOLEAN_policyName F_coder_a_BOOLEAN_policyName V_a_BOOLEAN_policyName_value F_policyName_a_BOOLEAN E_a_STRING_policyName F_value_a_STRING_policyName F_coder_a_STRING_policyName V_a_STRING_policyName_value F_policyName_a_STRING S_a_NUMBER S_a_BOOLEAN S_a_STRING p e ha hc hk s m _ below hf ((Spec.applies_iff_loose hf).mp happ).1 ⟨rfl, State.Warmed39.refl s, rfl, hCH0⟩ trivial
  refine ⟨n, _, h1, h2, h3, hpost _ _ _ _ _ _ ⟨Cond.after_iff.mpr rfl, Cond.after_iff.mpr (eq_i res_at (Term.int_eval (1)) rfl), trivial⟩ ⟨hq.1, hq.2.1, hq.2.2.1, (hq.2.2.2.sift fun y hy => Or.inr (N y hy)).mono (by decide) (by decide)⟩⟩
theorem main_1_1 : Claimed_1_1 := comes_1 fun _ _ _ _ _ _ h hF => ⟨h.1, hF⟩
theorem main_1_2 : Claimed_1_2 := comes_1 fun _ _ _ _ _ _ h hF => ⟨h.2.1, hF⟩
end Jvm.Pilot.@@N@@
namespace Jvm.Pilot.@@N@@
open Jvm Jvm.ClassFile Sem Op Lib Jvm.Free Jvm.Stand Jvm.Pilot.@@N@@.Jvm.D
/-! MADE BY PROGRAM (witnessworld.py) out of the Statement's table words and the real class files: 22 classes; the members and pool entries that the words name. The judged class is class 1, her method 3. -/
namespace start1
open Jvm.ClassFile
def u (s : String) : CpInfo := .utf8 (stringToUtf16 s)
/-- a pool by its gaps: so many unusable entries, then the entry; so many at the end -/
def gap : Nat → List CpInfo → List CpInfo
  | 0, r => r
  | n + 1, r => .unusable :: gap n r
def poolList (es : List (Nat × CpInfo)) (last : Nat) : List CpInfo := es.foldr (fun e r => gap e.1 (e.2 :: r)) (gap last [])
def pool (es : List (Nat × CpInfo)) (last : Nat) : Array CpInfo := ⟨poolList es last⟩
def fileOf (pool : Array CpInfo) (this : Nat) (attrs : Array Attribute := #[]) (ms : Array MethodInfo := #[]) (fl : Nat := 33) (sup : Nat := 0) (ifs : Array Nat := #[]) (fds : Array FieldInfo := #[]) : ClassFile where
  minorVersion := 0
  majorVersion := 65
  constantPool := pool
  accessFlags := fl
  thisClass := this
  superClass := sup
  interfaces := ifs
  fields := fds
  methods := ms
  attributes := attrs
def plain (name : String) (sup : Option ClassId) : Class where
  name := name
  kind := .ordinary
  loader := none
  accessFlags := 33
  super := sup
  interfaces := #[]
  cf := none
  fields := #[]
  methods := #[]
  instanceTypes := #[]
  staticTypes := #[]
  resolved := #[]
  callSites := []
  init := .initialized
  statics := none
  mirror := none

def pool0 : Array CpInfo := pool [(5, u "<init>"), (0, u "()V"), (1, .class_ 10), (1, u "java/lang/Object"), (85, u "clone"), (0, u "()Ljava/lang/Object;")] 26

def k0c0 : Code := { maxStack := 0, maxLocals := 1, code := object_method_1_code, exceptionTable := #[], attributes := #[] }
def k0m0 : Method := { name := "<init>", desc := "()V", sig := { parameters := [], returnType := none }, accessFlags := 1, code := some k0c0 }
def k0m1 : Method := { name := "clone", desc := "()Ljava/lang/Object;", sig := { parameters := [], returnType := some (.object "java/lang/Object") }, accessFlags := 260, code := none }
/-- java/lang/Object -/
def k0 : Class := { plain "java/lang/Object" none with
  accessFlags := 33
  interfaces := #[]
  cf := some (fileOf pool0 8 #[] #[{ accessFlags := 1, nameIndex := 5, descriptorIndex := 6, attributes := #[] }, { accessFlags := 260, nameIndex := 96, descriptorIndex := 97, attributes := #[] }] 33 0 #[] #[])
  fields := #[]
  methods := #[k0m0, k0m1]
  instanceTypes := #[]
  staticTypes := #[]
  resolved := Array.replicate 124 none
  statics := none }

def pool1 : Array CpInfo := pool [(2, .class_ 4), (1, u "java/lang/Object"), (0, u "<init>"), (0, u "()V"), (0, .methodref 8 9), (0, .class_ 10), (0, .nameAndType 11 12), (0, u "java/lang/String"), (0, u "length"), (0, u "()I"), (0, .methodref 8 14), (0, .nameAndType 15 16), (0, u "charAt"), (0, u "(I)C"), (0, .long 255), (1, .methodref 20 21), (0, .class_ 22), (0, .nameAndType 23 24), (0, u "com/example/odds3/odds3/engine/ValueTypeNamedPinLaw"), (0, u "drawn"), (0, u "(Ljava/lang/String;JI)C"), (0, .integer 2147483647), (0, .string 27), (0, u "number"), (0, .string 29), (0, u "boolean"), (0, .string 31), (0, u "string"), (0, .string 33), (0, u ""), (0, .methodref 20 35), (0, .nameAndType 36 37), (0, u "at"), (0, u "(Ljava/lang/String;JII)C"), (0, .methodref 8 39), (0, .nameAndType 5 40), (0, u "([C)V"), (0, .methodref 8 42), (0, .nameAndType 43 44), (0, u "equals"), (0, u "(Ljava/lang/Object;)Z"), (0, .fieldref 46 47), (0, .class_ 48), (0, .nameAndType 49 50), (0, u "com/example/odds3/odds3/engine/ValueType"), (0, u "NUMBER"), (0, u "Lcom/example/odds3/odds3/engine/ValueType;"), (0, .fieldref 46 52), (0, .nameAndType 53 50), (0, u "BOOLEAN"), (0, .fieldref 46 55), (0, .nameAndType 56 50), (0, u "STRING"), (0, .methodref 46 58), (0, .nameAndType 59 60), (0, u "named"), (0, u "(Ljava/lang/String;)Lcom/example/odds3/odds3/engine/ValueType;"), (3, u "law"), (0, u "(IJII)Z")] 4

def k1m0 : Method := { name := "<init>", desc := "()V", sig := { parameters := [], returnType := none }, accessFlags := 1, code := none }
def k1c1 : Code := { maxStack := 4, maxLocals := 4, code := method_2_code, exceptionTable := #[], attributes := #[] }
def k1m1 : Method := { name := "drawn", desc := "(Ljava/lang/String;JI)C", sig := { parameters := [(.object "java/lang/String"), .long, .int], returnType := some .char }, accessFlags := 10, code := some k1c1 }
def k1c2 : Code := { maxStack := 4, maxLocals := 5, code := method_3_code, exceptionTable := #[], attributes := #[] }
def k1m2 : Method := { name := "at", desc := "(Ljava/lang/String;JII)C", sig := { parameters := [(.object "java/lang/String"), .long, .int, .int], returnType := some .char }, accessFlags := 10, code := some k1c2 }
def k1c3 : Code := { maxStack := 7, maxLocals := 11, code := code, exceptionTable := #[], attributes := #[] }
def k1m3 : Method := { name := "law", desc := "(IJII)Z", sig := { parameters := [.int, .long, .int, .int], returnType := some .boolean }, accessFlags := 9, code := some k1c3 }
/-- com/example/odds3/odds3/engine/ValueTypeNamedPinLaw -/
def k1 : Class := { plain "com/example/odds3/odds3/engine/ValueTypeNamedPinLaw" (some 0) with
  accessFlags := 49
  interfaces := #[]
  cf := some (fileOf pool1 20 #[] #[{ accessFlags := 1, nameIndex := 5, descriptorIndex := 6, attributes := #[] }, { accessFlags := 10, nameIndex := 23, descriptorIndex := 24, attributes := #[] }, { accessFlags := 10, nameIndex := 36, descriptorIndex := 37, attributes := #[] }, { accessFlags := 9, nameIndex := 64, descriptorIndex := 65, attributes := #[] }] 49 2 #[] #[])
  fields := #[]
  methods := #[k1m0, k1m1, k1m2, k1m3]
  instanceTypes := #[]
  staticTypes := #[]
  resolved := Array.replicate 70 none
  statics := none }

def pool2 : Array CpInfo := pool [(1, .class_ 2), (0, u "java/io/Serializable"), (0, .class_ 4), (0, u "java/lang/Object")] 2

/-- java/io/Serializable -/
def k2 : Class := { plain "java/io/Serializable" (some 0) with
  accessFlags := 1537
  interfaces := #[]
  cf := some (fileOf pool2 1 #[] #[] 1537 3 #[] #[])
  fields := #[]
  methods := #[]
  instanceTypes := #[]
  staticTypes := #[]
  resolved := Array.replicate 7 none
  statics := none }

def pool3 : Array CpInfo := pool [(1, .class_ 2), (0, u "java/lang/Comparable"), (0, .class_ 4), (0, u "java/lang/Object")] 7

/-- java/lang/Comparable -/
def k3 : Class := { plain "java/lang/Comparable" (some 0) with
  accessFlags := 1537
  interfaces := #[]
  cf := some (fileOf pool3 1 #[] #[] 1537 3 #[] #[])
  fields := #[]
  methods := #[]
  instanceTypes := #[]
  staticTypes := #[]
  resolved := Array.replicate 12 none
  statics := none }

def pool4 : Array CpInfo := pool [(2, .class_ 4), (1, u "java/lang/CharSequence"), (42, .class_ 48), (0, u "java/lang/CharSequence$1CodePointIterator"), (10, .class_ 60), (0, u "java/lang/CharSequence$1CharIterator"), (5, .class_ 67), (0, u "java/lang/Object")] 63

/-- java/lang/CharSequence -/
def k4 : Class := { plain "java/lang/CharSequence" (some 0) with
  accessFlags := 1537
  interfaces := #[]
  cf := some (fileOf pool4 2 #[.nestMembers #[47, 59]] #[] 1537 66 #[] #[])
  fields := #[]
  methods := #[]
  instanceTypes := #[]
  staticTypes := #[]
  resolved := Array.replicate 131 none
  statics := none }

def pool5 : Array CpInfo := pool [(1, .class_ 2), (0, u "java/lang/constant/Constable"), (0, .class_ 4), (0, u "java/lang/Object")] 6

/-- java/lang/constant/Constable -/
def k5 : Class := { plain "java/lang/constant/Constable" (some 0) with
  accessFlags := 1537
  interfaces := #[]
  cf := some (fileOf pool5 1 #[] #[] 1537 3 #[] #[])
  fields := #[]
  methods := #[]
  instanceTypes := #[]
  staticTypes := #[]
  resolved := Array.replicate 11 none
  statics := none }

def pool6 : Array CpInfo := pool [(1, .class_ 2), (0, u "java/lang/constant/ConstantDesc"), (0, .class_ 4), (0, u "java/lang/Object")] 32

/-- java/lang/constant/ConstantDesc -/
def k6 : Class := { plain "java/lang/constant/ConstantDesc" (some 0) with
  accessFlags := 1537
  interfaces := #[]
  cf := some (fileOf pool6 1 #[] #[] 1537 3 #[] #[])
  fields := #[]
  methods := #[]
  instanceTypes := #[]
  staticTypes := #[]
  resolved := Array.replicate 37 none
  statics := none }

def pool7 : Array CpInfo := pool [(1, .methodref 2 3), (0, .class_ 4), (0, .nameAndType 5 6), (0, u "java/lang/Object"), (0, u "<init>"), (0, u "()V"), (0, .string 8), (0, u ""), (0, .fieldref 10 11), (0, .class_ 12), (0, .nameAndType 13 14), (0, u "java/lang/String"), (0, u "value"), (0, u "[B"), (0, .fieldref 10 16), (0, .nameAndType 17 18), (0, u "coder"), (0, u "B"), (2, u "hash"), (0, u "I"), (2, u "hashIsZero"), (0, u "Z"), (0, .methodref 10 28), (0, .nameAndType 5 29), (0, u "([CIILjava/lang/Void;)V"), (8, .fieldref 10 39), (0, .nameAndType 40 26), (0, u "COMPACT_STRINGS"), (1, .class_ 44), (1, u "java/lang/StringUTF16"), (0, u "compress"), (1, .methodref 42 48), (0, .nameAndType 49 50), (0, u "coderFromArrayLen"), (0, u "([BI)B"), (56, .class_ 109), (1, u "java/lang/StringLatin1"), (32, u "()Z"), (34, .methodref 42 178), (0, .nameAndType 45 179), (0, u "([CII)[B"), (154, u "()I"), (0, .methodref 10 336), (0, .nameAndType 17 337), (0, u "()B"), (25, u "([BI)C"), (27, u "(II)V"), (35, u "(I)C"), (64, .methodref 10 493), (0, .nameAndType 494 142), (0, u "isLatin1"), (0, .methodref 107 496), (0, .nameAndType 497 363), (0, u "charAt"), (3, u "checkIndex"), (5, u "length"), (33, .methodref 107 542), (0, .nameAndType 543 544), (0, u "equals"), (0, u "([B[B)Z"), (28, u "(Ljava/lang/Object;)Z"), (1, .class_ 576), (0, u "java/lang/CharSequence"), (22, u "CASE_INSENSITIVE_ORDER"), (0, u "Ljava/util/Comparator;"), (409, u "([C)V"), (42, .fieldref 1054 1055), (0, .class_ 1056), (0, .nameAndType 1057 1058), (0, u "jdk/internal/util/Preconditions"), (0, u "SIOOBE_FORMATTER"), (0, u "Ljava/util/function/BiFunction;"), (0, .methodref 1054 1060), (0, .nameAndType 501 1061), (0, u "(IILjava/util/function/BiFunction;)I"), (39, u "serialPersistentFields"), (0, u "[Ljava/io/ObjectStreamField;"), (0, .class_ 1104), (0, u "java/lang/String$CaseInsensitiveComparator"), (1, .class_ 1107), (0, u "java/io/Serializable"), (0, .class_ 1109), (0, u "java/lang/Comparable"), (0, .class_ 1111), (0, u "java/lang/constant/Constable"), (0, .class_ 1113), (0, u "java/lang/constant/ConstantDesc"), (2, u "serialVersionUID"), (0, u "J"), (3, u "REPL"), (0, u "C"), (2, u "LATIN1"), (1, u "UTF16")] 323

def k7m0 : Method := { name := "<init>", desc := "()V", sig := { parameters := [], returnType := none }, accessFlags := 1, code := none }
def k7c1 : Code := { maxStack := 5, maxLocals := 2, code := jdk_42_method_3_code, exceptionTable := #[], attributes := #[] }
def k7m1 : Method := { name := "<init>", desc := "([C)V", sig := { parameters := [(.array .char)], returnType := none }, accessFlags := 1, code := some k7c1 }
def k7c2 : Code := { maxStack := 2, maxLocals := 1, code := jdk_42_method_54_code, exceptionTable := #[], attributes := #[] }
def k7m2 : Method := { name := "length", desc := "()I", sig := { parameters := [], returnType := some .int }, accessFlags := 1, code := some k7c2 }
def k7c3 : Code := { maxStack := 2, maxLocals := 2, code := jdk_42_method_56_code, exceptionTable := #[], attributes := #[] }
def k7m3 : Method := { name := "charAt", desc := "(I)C", sig := { parameters := [.int], returnType := some .char }, accessFlags := 1, code := some k7c3 }
def k7c4 : Code := { maxStack := 2, maxLocals := 3, code := jdk_42_method_66_code, exceptionTable := #[], attributes := #[] }
def k7m4 : Method := { name := "equals", desc := "(Ljava/lang/Object;)Z", sig := { parameters := [(.object "java/lang/Object")], returnType := some .boolean }, accessFlags := 1, code := some k7c4 }
def k7c5 : Code := { maxStack := 4, maxLocals := 6, code := jdk_42_method_149_code, exceptionTable := #[], attributes := #[] }
def k7m5 : Method := { name := "<init>", desc := "([CIILjava/lang/Void;)V", sig := { parameters := [(.array .char), .int, .int, (.object "java/lang/Void")], returnType := none }, accessFlags := 2, code := some k7c5 }
def k7c6 : Code := { maxStack := 1, maxLocals := 1, code := jdk_42_method_152_code, exceptionTable := #[], attributes := #[] }
def k7m6 : Method := { name := "coder", desc := "()B", sig := { parameters := [], returnType := some .byte }, accessFlags := 0, code := some k7c6 }
def k7c7 : Code := { maxStack := 1, maxLocals := 1, code := jdk_42_method_154_code, exceptionTable := #[], attributes := #[] }
def k7m7 : Method := { name := "isLatin1", desc := "()Z", sig := { parameters := [], returnType := some .boolean }, accessFlags := 0, code := some k7c7 }
def k7c8 : Code := { maxStack := 3, maxLocals := 2, code := jdk_42_method_155_code, exceptionTable := #[], attributes := #[] }
def k7m8 : Method := { name := "checkIndex", desc := "(II)V", sig := { parameters := [.int, .int], returnType := none }, accessFlags := 8, code := some k7c8 }
/-- java/lang/String -/
def k7 : Class := { plain "java/lang/String" (some 0) with
  accessFlags := 49
  interfaces := #[2, 3, 4, 5, 6]
  cf := some (fileOf pool7 10 #[.nestMembers #[1103]] #[{ accessFlags := 1, nameIndex := 5, descriptorIndex := 6, attributes := #[] }, { accessFlags := 1, nameIndex := 5, descriptorIndex := 1010, attributes := #[] }, { accessFlags := 1, nameIndex := 507, descriptorIndex := 334, attributes := #[] }, { accessFlags := 1, nameIndex := 497, descriptorIndex := 427, attributes := #[] }, { accessFlags := 1, nameIndex := 543, descriptorIndex := 573, attributes := #[] }, { accessFlags := 2, nameIndex := 5, descriptorIndex := 29, attributes := #[] }, { accessFlags := 0, nameIndex := 17, descriptorIndex := 337, attributes := #[] }, { accessFlags := 0, nameIndex := 494, descriptorIndex := 142, attributes := #[] }, { accessFlags := 8, nameIndex := 501, descriptorIndex := 391, attributes := #[] }] 49 2 #[1106, 1108, 575, 1110, 1112] #[{ accessFlags := 18, nameIndex := 13, descriptorIndex := 14, attributes := #[] }, { accessFlags := 18, nameIndex := 17, descriptorIndex := 18, attributes := #[] }, { accessFlags := 2, nameIndex := 21, descriptorIndex := 22, attributes := #[] }, { accessFlags := 2, nameIndex := 25, descriptorIndex := 26, attributes := #[] }, { accessFlags := 26, nameIndex := 1116, descriptorIndex := 1117, attributes := #[] }, { accessFlags := 24, nameIndex := 40, descriptorIndex := 26, attributes := #[] }, { accessFlags := 26, nameIndex := 1101, descriptorIndex := 1102, attributes := #[] }, { accessFlags := 26, nameIndex := 1121, descriptorIndex := 1122, attributes := #[] }, { accessFlags := 25, nameIndex := 599, descriptorIndex := 600, attributes := #[] }, { accessFlags := 24, nameIndex := 1125, descriptorIndex := 18, attributes := #[] }, { accessFlags := 24, nameIndex := 1127, descriptorIndex := 18, attributes := #[] }])
  fields := #[{ name := "value", type := (.array .byte), accessFlags := 18, slot := 0, constantValue := 0 }, { name := "coder", type := .byte, accessFlags := 18, slot := 1, constantValue := 0 }, { name := "hash", type := .int, accessFlags := 2, slot := 2, constantValue := 0 }, { name := "hashIsZero", type := .boolean, accessFlags := 2, slot := 3, constantValue := 0 }, { name := "serialVersionUID", type := .long, accessFlags := 26, slot := 0, constantValue := 0 }, { name := "COMPACT_STRINGS", type := .boolean, accessFlags := 24, slot := 1, constantValue := 0 }, { name := "serialPersistentFields", type := (.array (.object "java/io/ObjectStreamField")), accessFlags := 26, slot := 2, constantValue := 0 }, { name := "REPL", type := .char, accessFlags := 26, slot := 3, constantValue := 0 }, { name := "CASE_INSENSITIVE_ORDER", type := (.object "java/util/Comparator"), accessFlags := 25, slot := 4, constantValue := 0 }, { name := "LATIN1", type := .byte, accessFlags := 24, slot := 5, constantValue := 0 }, { name := "UTF16", type := .byte, accessFlags := 24, slot := 6, constantValue := 0 }]
  methods := #[k7m0, k7m1, k7m2, k7m3, k7m4, k7m5, k7m6, k7m7, k7m8]
  instanceTypes := #[(.array .byte), .byte, .int, .boolean]
  staticTypes := #[.long, .boolean, (.array (.object "java/io/ObjectStreamField")), .char, (.object "java/util/Comparator"), .byte, .byte]
  resolved := Array.replicate 1451 none
  statics := some 0 }

def pool8 : Array CpInfo := pool [(1, .class_ 2), (0, u "java/lang/String"), (1, .class_ 6), (1, u "java/lang/Object"), (0, u "<init>"), (0, u "()V"), (0, .methodref 1 10), (0, .nameAndType 11 12), (0, u "checkIndex"), (0, u "(II)V"), (1, .class_ 16), (1, u "java/lang/StringLatin1"), (36, u "([BI)C"), (67, u "$assertionsDisabled"), (0, u "Z"), (98, .class_ 223), (1, u "java/lang/StringLatin1$LinesSpliterator"), (28, u "charAt"), (28, u "equals"), (0, u "([B[B)Z"), (107, .class_ 391), (0, u "java/lang/StringLatin1$CharsSpliterator")] 3

def k8m0 : Method := { name := "<init>", desc := "()V", sig := { parameters := [], returnType := none }, accessFlags := 0, code := none }
def k8c1 : Code := { maxStack := 2, maxLocals := 2, code := jdk_43_method_2_code, exceptionTable := #[], attributes := #[] }
def k8m1 : Method := { name := "charAt", desc := "([BI)C", sig := { parameters := [(.array .byte), .int], returnType := some .char }, accessFlags := 9, code := some k8c1 }
def k8c2 : Code := { maxStack := 3, maxLocals := 3, code := jdk_43_method_13_code, exceptionTable := #[], attributes := #[] }
def k8m2 : Method := { name := "equals", desc := "([B[B)Z", sig := { parameters := [(.array .byte), (.array .byte)], returnType := some .boolean }, accessFlags := 9, code := some k8c2 }
/-- java/lang/StringLatin1 -/
def k8 : Class := { plain "java/lang/StringLatin1" (some 0) with
  accessFlags := 48
  interfaces := #[]
  cf := some (fileOf pool8 14 #[.nestMembers #[390, 221]] #[{ accessFlags := 0, nameIndex := 7, descriptorIndex := 8, attributes := #[] }, { accessFlags := 9, nameIndex := 252, descriptorIndex := 53, attributes := #[] }, { accessFlags := 9, nameIndex := 281, descriptorIndex := 282, attributes := #[] }] 48 4 #[] #[{ accessFlags := 4120, nameIndex := 121, descriptorIndex := 122, attributes := #[] }])
  fields := #[{ name := "$assertionsDisabled", type := .boolean, accessFlags := 4120, slot := 0, constantValue := 0 }]
  methods := #[k8m0, k8m1, k8m2]
  instanceTypes := #[]
  staticTypes := #[.boolean]
  resolved := Array.replicate 395 none
  statics := none }

def pool9 : Array CpInfo := pool [(2, .class_ 4), (1, u "java/lang/Object"), (0, u "<init>"), (0, u "()V"), (17, .class_ 26), (1, u "jdk/internal/util/Preconditions"), (6, u "checkIndex"), (21, .class_ 56), (0, u "jdk/internal/util/Preconditions$4"), (57, .class_ 115), (0, u "jdk/internal/util/Preconditions$1"), (7, u "SIOOBE_FORMATTER"), (0, u "Ljava/util/function/BiFunction;"), (0, .class_ 126), (0, u "jdk/internal/util/Preconditions$2"), (3, u "AIOOBE_FORMATTER"), (0, .class_ 132), (0, u "jdk/internal/util/Preconditions$3"), (3, u "IOOBE_FORMATTER"), (41, u "(IILjava/util/function/BiFunction;)I")] 15

def k9m0 : Method := { name := "<init>", desc := "()V", sig := { parameters := [], returnType := none }, accessFlags := 1, code := none }
def k9c1 : Code := { maxStack := 3, maxLocals := 3, code := jdk_41_method_11_code, exceptionTable := #[], attributes := #[] }
def k9m1 : Method := { name := "checkIndex", desc := "(IILjava/util/function/BiFunction;)I", sig := { parameters := [.int, .int, (.object "java/util/function/BiFunction")], returnType := some .int }, accessFlags := 9, code := some k9c1 }
/-- jdk/internal/util/Preconditions -/
def k9 : Class := { plain "jdk/internal/util/Preconditions" (some 0) with
  accessFlags := 33
  interfaces := #[]
  cf := some (fileOf pool9 24 #[.nestMembers #[55, 131, 125, 114]] #[{ accessFlags := 1, nameIndex := 5, descriptorIndex := 6, attributes := #[] }, { accessFlags := 9, nameIndex := 33, descriptorIndex := 178, attributes := #[] }] 33 2 #[] #[{ accessFlags := 25, nameIndex := 123, descriptorIndex := 124, attributes := #[] }, { accessFlags := 25, nameIndex := 130, descriptorIndex := 124, attributes := #[] }, { accessFlags := 25, nameIndex := 136, descriptorIndex := 124, attributes := #[] }])
  fields := #[{ name := "SIOOBE_FORMATTER", type := (.object "java/util/function/BiFunction"), accessFlags := 25, slot := 0, constantValue := 0 }, { name := "AIOOBE_FORMATTER", type := (.object "java/util/function/BiFunction"), accessFlags := 25, slot := 1, constantValue := 0 }, { name := "IOOBE_FORMATTER", type := (.object "java/util/function/BiFunction"), accessFlags := 25, slot := 2, constantValue := 0 }]
  methods := #[k9m0, k9m1]
  instanceTypes := #[]
  staticTypes := #[(.object "java/util/function/BiFunction"), (.object "java/util/function/BiFunction"), (.object "java/util/function/BiFunction")]
  resolved := Array.replicate 194 none
  statics := some 1 }

def pool10 : Array CpInfo := pool [(6, .class_ 8), (1, u "java/lang/Object"), (0, u "<init>"), (0, u "()V"), (1, .class_ 14), (1, u "java/lang/StringUTF16"), (31, u "$assertionsDisabled"), (0, u "Z"), (13, u "HI_BYTE_SHIFT"), (0, u "I"), (2, u "LO_BYTE_SHIFT"), (49, .methodref 12 116), (0, .nameAndType 117 118), (0, u "compress"), (0, u "([CI[BII)I"), (3, u "([CII)[B"), (138, u "coderFromArrayLen"), (0, u "([BI)B"), (106, .class_ 371), (1, u "java/lang/StringUTF16$LinesSpliterator"), (58, u "MAX_LENGTH"), (196, .class_ 628), (0, u "java/lang/StringUTF16$CodePointsSpliterator"), (0, .class_ 630), (0, u "java/lang/StringUTF16$CharsSpliterator")] 4

def k10m0 : Method := { name := "<init>", desc := "()V", sig := { parameters := [], returnType := none }, accessFlags := 0, code := none }
def k10c1 : Code := { maxStack := 2, maxLocals := 2, code := jdk_52_method_15_code, exceptionTable := #[], attributes := #[] }
def k10m1 : Method := { name := "coderFromArrayLen", desc := "([BI)B", sig := { parameters := [(.array .byte), .int], returnType := some .byte }, accessFlags := 8, code := some k10c1 }
def k10c2 : Code := { maxStack := 5, maxLocals := 6, code := jdk_52_method_16_code, exceptionTable := #[], attributes := #[] }
def k10m2 : Method := { name := "compress", desc := "([CII)[B", sig := { parameters := [(.array .char), .int, .int], returnType := some (.array .byte) }, accessFlags := 9, code := some k10c2 }
def k10c3 : Code := { maxStack := 3, maxLocals := 7, code := jdk_52_method_21_code, exceptionTable := #[], attributes := #[] }
def k10m3 : Method := { name := "compress", desc := "([CI[BII)I", sig := { parameters := [(.array .char), .int, (.array .byte), .int, .int], returnType := some .int }, accessFlags := 9, code := some k10c3 }
/-- java/lang/StringUTF16 -/
def k10 : Class := { plain "java/lang/StringUTF16" (some 0) with
  accessFlags := 48
  interfaces := #[]
  cf := some (fileOf pool10 12 #[.nestMembers #[627, 629, 369]] #[{ accessFlags := 0, nameIndex := 9, descriptorIndex := 10, attributes := #[] }, { accessFlags := 8, nameIndex := 261, descriptorIndex := 262, attributes := #[] }, { accessFlags := 9, nameIndex := 117, descriptorIndex := 122, attributes := #[] }, { accessFlags := 9, nameIndex := 117, descriptorIndex := 118, attributes := #[] }] 48 6 #[] #[{ accessFlags := 26, nameIndex := 61, descriptorIndex := 62, attributes := #[] }, { accessFlags := 26, nameIndex := 65, descriptorIndex := 62, attributes := #[] }, { accessFlags := 24, nameIndex := 430, descriptorIndex := 62, attributes := #[] }, { accessFlags := 4120, nameIndex := 46, descriptorIndex := 47, attributes := #[] }])
  fields := #[{ name := "HI_BYTE_SHIFT", type := .int, accessFlags := 26, slot := 0, constantValue := 0 }, { name := "LO_BYTE_SHIFT", type := .int, accessFlags := 26, slot := 1, constantValue := 0 }, { name := "MAX_LENGTH", type := .int, accessFlags := 24, slot := 2, constantValue := 0 }, { name := "$assertionsDisabled", type := .boolean, accessFlags := 4120, slot := 3, constantValue := 0 }]
  methods := #[k10m0, k10m1, k10m2, k10m3]
  instanceTypes := #[]
  staticTypes := #[.int, .int, .int, .boolean]
  resolved := Array.replicate 635 none
  statics := none }

def pool11 : Array CpInfo := pool [(2, .class_ 4), (1, u "java/lang/Enum"), (0, u "name"), (0, u "Ljava/lang/String;"), (2, u "ordinal"), (0, u "I"), (1, .class_ 14), (1, u "java/lang/Object"), (4, u "hash"), (86, .class_ 108), (1, u "java/lang/Enum$EnumDesc"), (2, .class_ 112), (0, u "java/lang/constant/Constable"), (0, .class_ 114), (0, u "java/lang/Comparable"), (0, .class_ 116), (0, u "java/io/Serializable")] 87

/-- java/lang/Enum -/
def k11 : Class := { plain "java/lang/Enum" (some 0) with
  accessFlags := 1057
  interfaces := #[5, 3, 2]
  cf := some (fileOf pool11 2 #[.nestMembers #[106]] #[] 1057 12 #[111, 113, 115] #[{ accessFlags := 18, nameIndex := 5, descriptorIndex := 6, attributes := #[] }, { accessFlags := 18, nameIndex := 9, descriptorIndex := 10, attributes := #[] }, { accessFlags := 2, nameIndex := 19, descriptorIndex := 10, attributes := #[] }])
  fields := #[{ name := "name", type := (.object "java/lang/String"), accessFlags := 18, slot := 0, constantValue := 0 }, { name := "ordinal", type := .int, accessFlags := 18, slot := 1, constantValue := 0 }, { name := "hash", type := .int, accessFlags := 2, slot := 2, constantValue := 0 }]
  methods := #[]
  instanceTypes := #[(.object "java/lang/String"), .int, .int]
  staticTypes := #[]
  resolved := Array.replicate 204 none
  statics := none }

def pool12 : Array CpInfo := pool [(1, .class_ 2), (0, u "com/example/odds3/odds3/engine/ValueType"), (2, u "NUMBER"), (0, u "Lcom/example/odds3/odds3/engine/ValueType;"), (2, u "BOOLEAN"), (2, u "STRING"), (0, .fieldref 1 14), (0, .nameAndType 15 16), (0, u "$VALUES"), (0, u "[Lcom/example/odds3/odds3/engine/ValueType;"), (0, .methodref 18 19), (0, .class_ 16), (0, .nameAndType 20 21), (0, u "clone"), (0, u "()Ljava/lang/Object;"), (1, .class_ 25), (1, u "java/lang/Enum"), (6, .fieldref 1 33), (0, .nameAndType 34 35), (0, u "policyName"), (0, u "Ljava/lang/String;"), (0, .methodref 1 37), (0, .nameAndType 38 39), (0, u "values"), (0, u "()[Lcom/example/odds3/odds3/engine/ValueType;"), (0, .methodref 41 42), (0, .class_ 43), (0, .nameAndType 44 45), (0, u "java/lang/String"), (0, u "equals"), (0, u "(Ljava/lang/Object;)Z"), (17, u "(Ljava/lang/String;)Lcom/example/odds3/odds3/engine/ValueType;"), (4, u "named")] 6

def k12c0 : Code := { maxStack := 1, maxLocals := 0, code := prog_9_method_1_code, exceptionTable := #[], attributes := #[] }
def k12m0 : Method := { name := "values", desc := "()[Lcom/example/odds3/odds3/engine/ValueType;", sig := { parameters := [], returnType := some (.array (.object "com/example/odds3/odds3/engine/ValueType")) }, accessFlags := 9, code := some k12c0 }
def k12c1 : Code := { maxStack := 2, maxLocals := 5, code := prog_9_method_5_code, exceptionTable := #[], attributes := #[] }
def k12m1 : Method := { name := "named", desc := "(Ljava/lang/String;)Lcom/example/odds3/odds3/engine/ValueType;", sig := { parameters := [(.object "java/lang/String")], returnType := some (.object "com/example/odds3/odds3/engine/ValueType") }, accessFlags := 8, code := some k12c1 }
/-- com/example/odds3/odds3/engine/ValueType -/
def k12 : Class := { plain "com/example/odds3/odds3/engine/ValueType" (some 11) with
  accessFlags := 16432
  interfaces := #[]
  cf := some (fileOf pool12 1 #[] #[{ accessFlags := 9, nameIndex := 38, descriptorIndex := 39, attributes := #[] }, { accessFlags := 8, nameIndex := 68, descriptorIndex := 63, attributes := #[] }] 16432 23 #[] #[{ accessFlags := 16409, nameIndex := 5, descriptorIndex := 6, attributes := #[] }, { accessFlags := 16409, nameIndex := 9, descriptorIndex := 6, attributes := #[] }, { accessFlags := 16409, nameIndex := 12, descriptorIndex := 6, attributes := #[] }, { accessFlags := 18, nameIndex := 34, descriptorIndex := 35, attributes := #[] }, { accessFlags := 4122, nameIndex := 15, descriptorIndex := 16, attributes := #[] }])
  fields := #[{ name := "NUMBER", type := (.object "com/example/odds3/odds3/engine/ValueType"), accessFlags := 16409, slot := 0, constantValue := 0 }, { name := "BOOLEAN", type := (.object "com/example/odds3/odds3/engine/ValueType"), accessFlags := 16409, slot := 1, constantValue := 0 }, { name := "STRING", type := (.object "com/example/odds3/odds3/engine/ValueType"), accessFlags := 16409, slot := 2, constantValue := 0 }, { name := "policyName", type := (.object "java/lang/String"), accessFlags := 18, slot := 3, constantValue := 0 }, { name := "$VALUES", type := (.array (.object "com/example/odds3/odds3/engine/ValueType")), accessFlags := 4122, slot := 3, constantValue := 0 }]
  methods := #[k12m0, k12m1]
  instanceTypes := #[(.object "java/lang/String"), .int, .int, (.object "java/lang/String")]
  staticTypes := #[(.object "com/example/odds3/odds3/engine/ValueType"), (.object "com/example/odds3/odds3/engine/ValueType"), (.object "com/example/odds3/odds3/engine/ValueType"), (.array (.object "com/example/odds3/odds3/engine/ValueType"))]
  resolved := Array.replicate 75 none
  statics := some 2 }

def pool13 : Array CpInfo := pool [(1, .class_ 2), (0, u "java/lang/Cloneable"), (0, .class_ 4), (0, u "java/lang/Object")] 2

/-- java/lang/Cloneable -/
def k13 : Class := { plain "java/lang/Cloneable" (some 0) with
  accessFlags := 1537
  interfaces := #[]
  cf := some (fileOf pool13 1 #[] #[] 1537 3 #[] #[])
  fields := #[]
  methods := #[]
  instanceTypes := #[]
  staticTypes := #[]
  resolved := Array.replicate 7 none
  statics := none }

def pool14 : Array CpInfo := pool [(9, u "<init>"), (6, .class_ 18), (1, u "java/lang/Object"), (0, u "()V"), (1, .class_ 23), (1, u "jdk/internal/util/ArraysSupport"), (0, u "LOG2_ARRAY_LONG_INDEX_SCALE"), (0, u "I"), (2, u "U"), (0, u "Ljdk/internal/misc/Unsafe;"), (8, u "BIG_ENDIAN"), (0, u "Z"), (8, u "LOG2_BYTE_BIT_SIZE"), (4, u "LOG2_ARRAY_INT_INDEX_SCALE"), (54, u "JLA"), (0, u "Ljdk/internal/access/JavaLangAccess;"), (11, u "LOG2_ARRAY_BOOLEAN_INDEX_SCALE"), (9, u "LOG2_ARRAY_BYTE_INDEX_SCALE"), (5, u "LOG2_ARRAY_CHAR_INDEX_SCALE"), (5, u "LOG2_ARRAY_SHORT_INDEX_SCALE"), (18, u "LOG2_ARRAY_FLOAT_INDEX_SCALE"), (24, u "LOG2_ARRAY_DOUBLE_INDEX_SCALE"), (89, u "T_BOOLEAN"), (2, u "T_CHAR"), (1, u "T_FLOAT"), (1, u "T_DOUBLE"), (1, u "T_BYTE"), (1, u "T_SHORT"), (1, u "T_INT"), (1, u "T_LONG"), (1, u "SOFT_MAX_ARRAY_LENGTH")] 83

def k14m0 : Method := { name := "<init>", desc := "()V", sig := { parameters := [], returnType := none }, accessFlags := 2, code := none }
/-- jdk/internal/util/ArraysSupport -/
def k14 : Class := { plain "jdk/internal/util/ArraysSupport" (some 0) with
  accessFlags := 33
  interfaces := #[]
  cf := some (fileOf pool14 21 #[] #[{ accessFlags := 2, nameIndex := 9, descriptorIndex := 19, attributes := #[] }] 33 16 #[] #[{ accessFlags := 24, nameIndex := 28, descriptorIndex := 29, attributes := #[] }, { accessFlags := 26, nameIndex := 38, descriptorIndex := 39, attributes := #[] }, { accessFlags := 25, nameIndex := 121, descriptorIndex := 25, attributes := #[] }, { accessFlags := 25, nameIndex := 131, descriptorIndex := 25, attributes := #[] }, { accessFlags := 25, nameIndex := 137, descriptorIndex := 25, attributes := #[] }, { accessFlags := 25, nameIndex := 143, descriptorIndex := 25, attributes := #[] }, { accessFlags := 25, nameIndex := 53, descriptorIndex := 25, attributes := #[] }, { accessFlags := 25, nameIndex := 24, descriptorIndex := 25, attributes := #[] }, { accessFlags := 25, nameIndex := 162, descriptorIndex := 25, attributes := #[] }, { accessFlags := 25, nameIndex := 187, descriptorIndex := 25, attributes := #[] }, { accessFlags := 26, nameIndex := 48, descriptorIndex := 25, attributes := #[] }, { accessFlags := 25, nameIndex := 277, descriptorIndex := 25, attributes := #[] }, { accessFlags := 25, nameIndex := 280, descriptorIndex := 25, attributes := #[] }, { accessFlags := 25, nameIndex := 282, descriptorIndex := 25, attributes := #[] }, { accessFlags := 25, nameIndex := 284, descriptorIndex := 25, attributes := #[] }, { accessFlags := 25, nameIndex := 286, descriptorIndex := 25, attributes := #[] }, { accessFlags := 25, nameIndex := 288, descriptorIndex := 25, attributes := #[] }, { accessFlags := 25, nameIndex := 290, descriptorIndex := 25, attributes := #[] }, { accessFlags := 25, nameIndex := 292, descriptorIndex := 25, attributes := #[] }, { accessFlags := 26, nameIndex := 108, descriptorIndex := 109, attributes := #[] }, { accessFlags := 25, nameIndex := 294, descriptorIndex := 25, attributes := #[] }])
  fields := #[{ name := "U", type := (.object "jdk/internal/misc/Unsafe"), accessFlags := 24, slot := 0, constantValue := 0 }, { name := "BIG_ENDIAN", type := .boolean, accessFlags := 26, slot := 1, constantValue := 0 }, { name := "LOG2_ARRAY_BOOLEAN_INDEX_SCALE", type := .int, accessFlags := 25, slot := 2, constantValue := 0 }, { name := "LOG2_ARRAY_BYTE_INDEX_SCALE", type := .int, accessFlags := 25, slot := 3, constantValue := 0 }, { name := "LOG2_ARRAY_CHAR_INDEX_SCALE", type := .int, accessFlags := 25, slot := 4, constantValue := 0 }, { name := "LOG2_ARRAY_SHORT_INDEX_SCALE", type := .int, accessFlags := 25, slot := 5, constantValue := 0 }, { name := "LOG2_ARRAY_INT_INDEX_SCALE", type := .int, accessFlags := 25, slot := 6, constantValue := 0 }, { name := "LOG2_ARRAY_LONG_INDEX_SCALE", type := .int, accessFlags := 25, slot := 7, constantValue := 0 }, { name := "LOG2_ARRAY_FLOAT_INDEX_SCALE", type := .int, accessFlags := 25, slot := 8, constantValue := 0 }, { name := "LOG2_ARRAY_DOUBLE_INDEX_SCALE", type := .int, accessFlags := 25, slot := 9, constantValue := 0 }, { name := "LOG2_BYTE_BIT_SIZE", type := .int, accessFlags := 26, slot := 10, constantValue := 0 }, { name := "T_BOOLEAN", type := .int, accessFlags := 25, slot := 11, constantValue := 0 }, { name := "T_CHAR", type := .int, accessFlags := 25, slot := 12, constantValue := 0 }, { name := "T_FLOAT", type := .int, accessFlags := 25, slot := 13, constantValue := 0 }, { name := "T_DOUBLE", type := .int, accessFlags := 25, slot := 14, constantValue := 0 }, { name := "T_BYTE", type := .int, accessFlags := 25, slot := 15, constantValue := 0 }, { name := "T_SHORT", type := .int, accessFlags := 25, slot := 16, constantValue := 0 }, { name := "T_INT", type := .int, accessFlags := 25, slot := 17, constantValue := 0 }, { name := "T_LONG", type := .int, accessFlags := 25, slot := 18, constantValue := 0 }, { name := "JLA", type := (.object "jdk/internal/access/JavaLangAccess"), accessFlags := 26, slot := 19, constantValue := 0 }, { name := "SOFT_MAX_ARRAY_LENGTH", type := .int, accessFlags := 25, slot := 20, constantValue := 0 }]
  methods := #[k14m0]
  instanceTypes := #[]
  staticTypes := #[(.object "jdk/internal/misc/Unsafe"), .boolean, .int, .int, .int, .int, .int, .int, .int, .int, .int, .int, .int, .int, .int, .int, .int, .int, .int, (.object "jdk/internal/access/JavaLangAccess"), .int]
  resolved := Array.replicate 378 none
  statics := none }

/-- the primitive byte -/
def k15 : Class := { plain "byte" none with kind := .primitive 'B', accessFlags := 0x411 }
/-- [B -/
def k16 : Class := { plain "[B" (some 0) with kind := .array 15 .byte, interfaces := #[13, 2], accessFlags := 1041 }

/-- the primitive char -/
def k17 : Class := { plain "char" none with kind := .primitive 'C', accessFlags := 0x411 }
/-- [C -/
def k18 : Class := { plain "[C" (some 0) with kind := .array 17 .char, interfaces := #[13, 2], accessFlags := 1041 }

/-- the primitive int -/
def k19 : Class := { plain "int" none with kind := .primitive 'I', accessFlags := 0x411 }
/-- [I -/
def k20 : Class := { plain "[I" (some 0) with kind := .array 19 .int, interfaces := #[13, 2], accessFlags := 1041 }

/-- [Lcom/example/odds3/odds3/engine/ValueType; -/
def k21 : Class := { plain "[Lcom/example/odds3/odds3/engine/ValueType;" (some 0) with kind := .array 12 (.object "com/example/odds3/odds3/engine/ValueType"), interfaces := #[13, 2], accessFlags := 1041 }

def heap : Heap := #[{ cls := 7, slots := #[.long 0, .int 1, .null, .int 0, .null, .int 0, .int 0], vm := .statics 7 },
  { cls := 9, slots := #[.null, .null, .null], vm := .statics 9 },
  { cls := 12, slots := #[.ref 4, .ref 5, .ref 6, .ref 3], vm := .statics 12 },
  { cls := 21, slots := #[.ref 4, .ref 5, .ref 6], vm := .none },
  { cls := 12, slots := #[.null, .int 0, .int 0, .ref 7], vm := .none },
  { cls := 12, slots := #[.null, .int 1, .int 0, .ref 8], vm := .none },
  { cls := 12, slots := #[.null, .int 2, .int 0, .ref 9], vm := .none },
  { cls := 7, slots := #[.ref 10, .int 0, .int 0, .int 0], vm := .none },
  { cls := 7, slots := #[.ref 11, .int 0, .int 0, .int 0], vm := .none },
  { cls := 7, slots := #[.ref 12, .int 0, .int 0, .int 0], vm := .none },
  { cls := 16, slots := #[.int 110, .int 117, .int 109, .int 98, .int 101, .int 114], vm := .none },
  { cls := 16, slots := #[.int 98, .int 111, .int 111, .int 108, .int 101, .int 97, .int 110], vm := .none },
  { cls := 16, slots := #[.int 115, .int 116, .int 114, .int 105, .int 110, .int 103], vm := .none }]
def classes : Array Class := #[k0, k1, k2, k3, k4, k5, k6, k7, k8, k9, k10, k11, k12, k13, k14, k15, k16, k17, k18, k19, k20, k21]
def interned : List (Array UInt16 × Addr) := []
def slotsUsed : Nat := 60
def theMethod : MethodId := ⟨1, 3⟩
def args0 : Array Value := #[.int 1, .long 7, .int 4, .int 3]
def aboutOver (below : List Frame) : State where
  vm := { classes := classes, interned := interned.toArray }
  heap := heap
  slotsUsed := slotsUsed
  threads := #[{ frames := .invoking theMethod args0 :: below }]
def below0 : List Frame := [.native { method := ⟨0, 0⟩, args := #[] }]
def about1 : State := aboutOver below0
def p0 : Program := .bare "" "" ""
def e0 : Env := launch0.env 0 0 0
theorem w_frames : about1.frames = Frame.invoking theMethod args0 :: below0 := rfl
set_option maxRecDepth 65536 in
theorem w_args : argsFit about1.vm theMethod args0 = true := by decide +kernel
set_option maxRecDepth 65536 in
theorem w_heap : heapFits about1 = true := by decide +kernel
set_option maxRecDepth 65536 in
theorem w_runnable : about1.curStatus? = some .runnable := by decide +kernel
set_option maxRecDepth 65536 in
theorem w_alone : about1.alone = true := by decide +kernel
set_option maxRecDepth 65536 in
theorem w_named : about1.methodNamed? x = some theMethod := by decide +kernel
set_option maxRecDepth 65536 in
theorem w_hears : about1.hears theMethod below0 = true := by decide +kernel
set_option maxRecDepth 65536 in
theorem w_ripe : about1.ripe theMethod args0 below0 = true := by decide +kernel
theorem w_running : about1.status = .running := rfl
set_option maxRecDepth 65536 in
theorem w_room : about1.hasRoom e0.platform room_1 = true :=
  launch0.hasRoom_least _ room_1 (by decide +kernel) (by decide +kernel) (by decide +kernel) (by decide +kernel) (by decide +kernel) (by decide +kernel)
theorem allAtoms_all (ts : List Jvm.Cond) (a : Array Jvm.Value) (st : Jvm.State) : (allAtoms ts).before a st = ts.all (fun c => c.before a st) := by
  induction ts with
  | nil => rfl
  | cons c t ih =>
    show (Jvm.Cond.and c (allAtoms t)).before a st = _
    rw [Jvm.Cond.before_and, ih, List.all_cons]
def words1 : List Jvm.Cond := Jvm.Cond.code x code maxLocals ret :: tables_1
/-- a 'code' word, met by the world's own term for the bytes: nothing is compared byte by byte -/
theorem code_word {y : MethodName} {bytes : ByteArray} {mx : Nat} {rt : Option FieldType} {a : Array Value} {s : State} {m : MethodId} {meth : Method} {c : Code} (h1 : s.methodNamed? y = some m) (h2 : s.vm.method? m = some meth) (h3 : meth.code = some c) (h4 : c.code = bytes)
    (h5 : (c.maxLocals == mx && c.exceptionTable.isEmpty && decide (c.maxStack ≤ mostOperands) && decide (meth.sig.returnType = rt) && !meth.locks && decide (parseMethodDescriptor y.desc = some meth.sig)) = true) : (Jvm.Cond.code y bytes mx rt).before a s = true := by
  simp only [Bool.and_eq_true, beq_iff_eq, Bool.not_eq_true', decide_eq_true_eq] at h5
  obtain ⟨⟨⟨⟨⟨g1, g2⟩, g3⟩, g4⟩, g5⟩, g6⟩ := h5
  simp [Cond.before, Cond.holds, Cond.value, h1, h2, h3, h4, g1, g2, g3, g4, g5, g6]
def isCode : Jvm.Cond → Bool
  | .code _ _ _ _ => true
  | _ => false
theorem all_split {L : List Jvm.Cond} {P : Jvm.Cond → Bool} (h1 : L.all (fun c => isCode c || P c) = true) (h2 : ∀ c ∈ L.filter isCode, P c = true) : L.all P = true := by
  refine List.all_eq_true.mpr fun c hc => ?_
  have h := List.all_eq_true.mp h1 c hc
  rcases Bool.eq_false_or_eq_true (isCode c) with hi | hi
  · exact h2 c (List.mem_filter.mpr ⟨hc, hi⟩)
  · simpa [hi] using h
set_option maxRecDepth 65536 in
theorem w_c0 : (Jvm.Cond.code x code maxLocals ret).before args0 about1 = true := code_word (m := ⟨1, 3⟩) (meth := k1m3) (c := k1c3) (by decide +kernel) rfl rfl rfl (by decide +kernel)
set_option maxRecDepth 65536 in
theorem w_c1 : (Jvm.Cond.code ({ cls := "java/lang/String", name := "length", desc := "()I" } : Jvm.MethodName) jdk_42_method_54_code (1 : Nat) (Option.some Jvm.ClassFile.FieldType.int)).before args0 about1 = true := code_word (m := ⟨7, 2⟩) (meth := k7m2) (c := k7c2) (by decide +kernel) rfl rfl rfl (by decide +kernel)
set_option maxRecDepth 65536 in
theorem w_c2 : (Jvm.Cond.code ({ cls := "java/lang/String", name := "coder", desc := "()B" } : Jvm.MethodName) jdk_42_method_152_code (1 : Nat) (Option.some Jvm.ClassFile.FieldType.byte)).before args0 about1 = true := code_word (m := ⟨7, 6⟩) (meth := k7m6) (c := k7c6) (by decide +kernel) rfl rfl rfl (by decide +kernel)
set_option maxRecDepth 65536 in
theorem w_c3 : (Jvm.Cond.code ({ cls := "com/example/odds3/odds3/engine/ValueTypeNamedPinLaw", name := "at", desc := "(Ljava/lang/String;JII)C" } : Jvm.MethodName) method_3_code (5 : Nat) (Option.some Jvm.ClassFile.FieldType.char)).before args0 about1 = true := code_word (m := ⟨1, 2⟩) (meth := k1m2) (c := k1c2) (by decide +kernel) rfl rfl rfl (by decide +kernel)
set_option maxRecDepth 65536 in
theorem w_c4 : (Jvm.Cond.code ({ cls := "com/example/odds3/odds3/engine/ValueTypeNamedPinLaw", name := "drawn", desc := "(Ljava/lang/String;JI)C" } : Jvm.MethodName) method_2_code (4 : Nat) (Option.some Jvm.ClassFile.FieldType.char)).before args0 about1 = true := code_word (m := ⟨1, 1⟩) (meth := k1m1) (c := k1c1) (by decide +kernel) rfl rfl rfl (by decide +kernel)
set_option maxRecDepth 65536 in
theorem w_c5 : (Jvm.Cond.code ({ cls := "java/lang/String", name := "charAt", desc := "(I)C" } : Jvm.MethodName) jdk_42_method_56_code (2 : Nat) (Option.some Jvm.ClassFile.FieldType.char)).before args0 about1 = true := code_word (m := ⟨7, 3⟩) (meth := k7m3) (c := k7c3) (by decide +kernel) rfl rfl rfl (by decide +kernel)
set_option maxRecDepth 65536 in
theorem w_c6 : (Jvm.Cond.code ({ cls := "java/lang/String", name := "isLatin1", desc := "()Z" } : Jvm.MethodName) jdk_42_method_154_code (1 : Nat) (Option.some Jvm.ClassFile.FieldType.boolean)).before args0 about1 = true := code_word (m := ⟨7, 7⟩) (meth := k7m7) (c := k7c7) (by decide +kernel) rfl rfl rfl (by decide +kernel)
set_option maxRecDepth 65536 in
theorem w_c7 : (Jvm.Cond.code ({ cls := "java/lang/StringLatin1", name := "charAt", desc := "([BI)C" } : Jvm.MethodName) jdk_43_method_2_code (2 : Nat) (Option.some Jvm.ClassFile.FieldType.char)).before args0 about1 = true := code_word (m := ⟨8, 1⟩) (meth := k8m1) (c := k8c1) (by decide +kernel) rfl rfl rfl (by decide +kernel)
set_option maxRecDepth 65536 in
theorem w_c8 : (Jvm.Cond.code ({ cls := "java/lang/String", name := "checkIndex", desc := "(II)V" } : Jvm.MethodName) jdk_42_method_155_code (2 : Nat) (Option.none : Option Jvm.ClassFile.FieldType)).before args0 about1 = true := code_word (m := ⟨7, 8⟩) (meth := k7m8) (c := k7c8) (by decide +kernel) rfl rfl rfl (by decide +kernel)
set_option maxRecDepth 65536 in
theorem w_c9 : (Jvm.Cond.code ({ cls := "jdk/internal/util/Preconditions", name := "checkIndex", desc := "(IILjava/util/function/BiFunction;)I" } : Jvm.MethodName) jdk_41_method_11_code (3 : Nat) (Option.some Jvm.ClassFile.FieldType.int)).before args0 about1 = true := code_word (m := ⟨9, 1⟩) (meth := k9m1) (c := k9c1) (by decide +kernel) rfl rfl rfl (by decide +kernel)
set_option maxRecDepth 65536 in
theorem w_c10 : (Jvm.Cond.code ({ cls := "java/lang/String", name := "<init>", desc := "([C)V" } : Jvm.MethodName) jdk_42_method_3_code (2 : Nat) (Option.none : Option Jvm.ClassFile.FieldType)).before args0 about1 = true := code_word (m := ⟨7, 1⟩) (meth := k7m1) (c := k7c1) (by decide +kernel) rfl rfl rfl (by decide +kernel)
set_option maxRecDepth 65536 in
theorem w_c11 : (Jvm.Cond.code ({ cls := "java/lang/String", name := "<init>", desc := "([CIILjava/lang/Void;)V" } : Jvm.MethodName) jdk_42_method_149_code (6 : Nat) (Option.none : Option Jvm.ClassFile.FieldType)).before args0 about1 = true := code_word (m := ⟨7, 5⟩) (meth := k7m5) (c := k7c5) (by decide +kernel) rfl rfl rfl (by decide +kernel)
set_option maxRecDepth 65536 in
theorem w_c12 : (Jvm.Cond.code ({ cls := "java/lang/Object", name := "<init>", desc := "()V" } : Jvm.MethodName) object_method_1_code (1 : Nat) (Option.none : Option Jvm.ClassFile.FieldType)).before args0 about1 = true := code_word (m := ⟨0, 0⟩) (meth := k0m0) (c := k0c0) (by decide +kernel) rfl rfl rfl (by decide +kernel)
set_option maxRecDepth 65536 in
theorem w_c13 : (Jvm.Cond.code ({ cls := "java/lang/StringUTF16", name := "compress", desc := "([CII)[B" } : Jvm.MethodName) jdk_52_method_16_code (6 : Nat) (Option.some (Jvm.ClassFile.FieldType.array Jvm.ClassFile.FieldType.byte))).before args0 about1 = true := code_word (m := ⟨10, 2⟩) (meth := k10m2) (c := k10c2) (by decide +kernel) rfl rfl rfl (by decide +kernel)
set_option maxRecDepth 65536 in
theorem w_c14 : (Jvm.Cond.code ({ cls := "java/lang/StringUTF16", name := "compress", desc := "([CI[BII)I" } : Jvm.MethodName) jdk_52_method_21_code (7 : Nat) (Option.some Jvm.ClassFile.FieldType.int)).before args0 about1 = true := code_word (m := ⟨10, 3⟩) (meth := k10m3) (c := k10c3) (by decide +kernel) rfl rfl rfl (by decide +kernel)
set_option maxRecDepth 65536 in
theorem w_c15 : (Jvm.Cond.code ({ cls := "java/lang/StringUTF16", name := "coderFromArrayLen", desc := "([BI)B" } : Jvm.MethodName) jdk_52_method_15_code (2 : Nat) (Option.some Jvm.ClassFile.FieldType.byte)).before args0 about1 = true := code_word (m := ⟨10, 1⟩) (meth := k10m1) (c := k10c1) (by decide +kernel) rfl rfl rfl (by decide +kernel)
set_option maxRecDepth 65536 in
theorem w_c16 : (Jvm.Cond.code ({ cls := "java/lang/String", name := "equals", desc := "(Ljava/lang/Object;)Z" } : Jvm.MethodName) jdk_42_method_66_code (3 : Nat) (Option.some Jvm.ClassFile.FieldType.boolean)).before args0 about1 = true := code_word (m := ⟨7, 4⟩) (meth := k7m4) (c := k7c4) (by decide +kernel) rfl rfl rfl (by decide +kernel)
set_option maxRecDepth 65536 in
theorem w_c17 : (Jvm.Cond.code ({ cls := "java/lang/StringLatin1", name := "equals", desc := "([B[B)Z" } : Jvm.MethodName) jdk_43_method_13_code (3 : Nat) (Option.some Jvm.ClassFile.FieldType.boolean)).before args0 about1 = true := code_word (m := ⟨8, 2⟩) (meth := k8m2) (c := k8c2) (by decide +kernel) rfl rfl rfl (by decide +kernel)
set_option maxRecDepth 65536 in
theorem w_c18 : (Jvm.Cond.code ({ cls := "com/example/odds3/odds3/engine/ValueType", name := "named", desc := "(Ljava/lang/String;)Lcom/example/odds3/odds3/engine/ValueType;" } : Jvm.MethodName) prog_9_method_5_code (5 : Nat) (Option.some (Jvm.ClassFile.FieldType.object "com/example/odds3/odds3/engine/ValueType"))).before args0 about1 = true := code_word (m := ⟨12, 1⟩) (meth := k12m1) (c := k12c1) (by decide +kernel) rfl rfl rfl (by decide +kernel)
set_option maxRecDepth 65536 in
theorem w_c19 : (Jvm.Cond.code ({ cls := "com/example/odds3/odds3/engine/ValueType", name := "values", desc := "()[Lcom/example/odds3/odds3/engine/ValueType;" } : Jvm.MethodName) prog_9_method_1_code (0 : Nat) (Option.some (Jvm.ClassFile.FieldType.array (Jvm.ClassFile.FieldType.object "com/example/odds3/odds3/engine/ValueType")))).before args0 about1 = true := code_word (m := ⟨12, 0⟩) (meth := k12m0) (c := k12c0) (by decide +kernel) rfl rfl rfl (by decide +kernel)
def codes1 : List Jvm.Cond := [Jvm.Cond.code x code maxLocals ret, Jvm.Cond.code ({ cls := "java/lang/String", name := "length", desc := "()I" } : Jvm.MethodName) jdk_42_method_54_code (1 : Nat) (Option.some Jvm.ClassFile.FieldType.int), Jvm.Cond.code ({ cls := "java/lang/String", name := "coder", desc := "()B" } : Jvm.MethodName) jdk_42_method_152_code (1 : Nat) (Option.some Jvm.ClassFile.FieldType.byte), Jvm.Cond.code ({ cls := "com/example/odds3/odds3/engine/ValueTypeNamedPinLaw", name := "at", desc := "(Ljava/lang/String;JII)C" } : Jvm.MethodName) method_3_code (5 : Nat) (Option.some Jvm.ClassFile.FieldType.char), Jvm.Cond.code ({ cls := "com/example/odds3/odds3/engine/ValueTypeNamedPinLaw", name := "drawn", desc := "(Ljava/lang/String;JI)C" } : Jvm.MethodName) method_2_code (4 : Nat) (Option.some Jvm.ClassFile.FieldType.char), Jvm.Cond.code ({ cls := "java/lang/String", name := "charAt", desc := "(I)C" } : Jvm.MethodName) jdk_42_method_56_code (2 : Nat) (Option.some Jvm.ClassFile.FieldType.char), Jvm.Cond.code ({ cls := "java/lang/String", name := "isLatin1", desc := "()Z" } : Jvm.MethodName) jdk_42_method_154_code (1 : Nat) (Option.some Jvm.ClassFile.FieldType.boolean), Jvm.Cond.code ({ cls := "java/lang/StringLatin1", name := "charAt", desc := "([BI)C" } : Jvm.MethodName) jdk_43_method_2_code (2 : Nat) (Option.some Jvm.ClassFile.FieldType.char), Jvm.Cond.code ({ cls := "java/lang/String", name := "checkIndex", desc := "(II)V" } : Jvm.MethodName) jdk_42_method_155_code (2 : Nat) (Option.none : Option Jvm.ClassFile.FieldType), Jvm.Cond.code ({ cls := "jdk/internal/util/Preconditions", name := "checkIndex", desc := "(IILjava/util/function/BiFunction;)I" } : Jvm.MethodName) jdk_41_method_11_code (3 : Nat) (Option.some Jvm.ClassFile.FieldType.int), Jvm.Cond.code ({ cls := "java/lang/String", name := "<init>", desc := "([C)V" } : Jvm.MethodName) jdk_42_method_3_code (2 : Nat) (Option.none : Option Jvm.ClassFile.FieldType), Jvm.Cond.code ({ cls := "java/lang/String", name := "<init>", desc := "([CIILjava/lang/Void;)V" } : Jvm.MethodName) jdk_42_method_149_code (6 : Nat) (Option.none : Option Jvm.ClassFile.FieldType), Jvm.Cond.code ({ cls := "java/lang/Object", name := "<init>", desc := "()V" } : Jvm.MethodName) object_method_1_code (1 : Nat) (Option.none : Option Jvm.ClassFile.FieldType), Jvm.Cond.code ({ cls := "java/lang/StringUTF16", name := "compress", desc := "([CII)[B" } : Jvm.MethodName) jdk_52_method_16_code (6 : Nat) (Option.some (Jvm.ClassFile.FieldType.array Jvm.ClassFile.FieldType.byte)), Jvm.Cond.code ({ cls := "java/lang/StringUTF16", name := "compress", desc := "([CI[BII)I" } : Jvm.MethodName) jdk_52_method_21_code (7 : Nat) (Option.some Jvm.ClassFile.FieldType.int), Jvm.Cond.code ({ cls := "java/lang/StringUTF16", name := "coderFromArrayLen", desc := "([BI)B" } : Jvm.MethodName) jdk_52_method_15_code (2 : Nat) (Option.some Jvm.ClassFile.FieldType.byte), Jvm.Cond.code ({ cls := "java/lang/String", name := "equals", desc := "(Ljava/lang/Object;)Z" } : Jvm.MethodName) jdk_42_method_66_code (3 : Nat) (Option.some Jvm.ClassFile.FieldType.boolean), Jvm.Cond.code ({ cls := "java/lang/StringLatin1", name := "equals", desc := "([B[B)Z" } : Jvm.MethodName) jdk_43_method_13_code (3 : Nat) (Option.some Jvm.ClassFile.FieldType.boolean), Jvm.Cond.code ({ cls := "com/example/odds3/odds3/engine/ValueType", name := "named", desc := "(Ljava/lang/String;)Lcom/example/odds3/odds3/engine/ValueType;" } : Jvm.MethodName) prog_9_method_5_code (5 : Nat) (Option.some (Jvm.ClassFile.FieldType.object "com/example/odds3/odds3/engine/ValueType")), Jvm.Cond.code ({ cls := "com/example/odds3/odds3/engine/ValueType", name := "values", desc := "()[Lcom/example/odds3/odds3/engine/ValueType;" } : Jvm.MethodName) prog_9_method_1_code (0 : Nat) (Option.some (Jvm.ClassFile.FieldType.array (Jvm.ClassFile.FieldType.object "com/example/odds3/odds3/engine/ValueType")))]
set_option maxRecDepth 65536 in
theorem codes_eq : words1.filter isCode = codes1 := rfl
theorem w_codes : ∀ c ∈ words1.filter isCode, c.before args0 about1 = true := by
  rw [codes_eq]
  intro c hc
  simp only [codes1, List.mem_cons, List.not_mem_nil, or_false] at hc
  rcases hc with rfl | rfl | rfl | rfl | rfl | rfl | rfl | rfl | rfl | rfl | rfl | rfl | rfl | rfl | rfl | rfl | rfl | rfl | rfl | rfl
  · exact w_c0
  · exact w_c1
  · exact w_c2
  · exact w_c3
  · exact w_c4
  · exact w_c5
  · exact w_c6
  · exact w_c7
  · exact w_c8
  · exact w_c9
  · exact w_c10
  · exact w_c11
  · exact w_c12
  · exact w_c13
  · exact w_c14
  · exact w_c15
  · exact w_c16
  · exact w_c17
  · exact w_c18
  · exact w_c19
set_option maxRecDepth 65536 in
theorem w_t1 : (words1.take 24).all (fun c => isCode c || c.before args0 about1) = true := by decide +kernel
set_option maxRecDepth 65536 in
theorem w_t2 : ((words1.drop 24).take 24).all (fun c => isCode c || c.before args0 about1) = true := by decide +kernel
set_option maxRecDepth 65536 in
theorem w_t3 : (((words1.drop 24).drop 24).take 24).all (fun c => isCode c || c.before args0 about1) = true := by decide +kernel
set_option maxRecDepth 65536 in
theorem w_t4 : ((((words1.drop 24).drop 24).drop 24).take 24).all (fun c => isCode c || c.before args0 about1) = true := by decide +kernel
set_option maxRecDepth 65536 in
theorem w_t5 : ((((words1.drop 24).drop 24).drop 24).drop 24).all (fun c => isCode c || c.before args0 about1) = true := by decide +kernel
theorem w_tables : (allAtoms (Jvm.Cond.code x code maxLocals ret :: tables_1)).before args0 about1 = true := by
  rw [allAtoms_all]
  show words1.all (fun c => c.before args0 about1) = true
  refine all_split ?_ w_codes
  rw [← List.take_append_drop 24 words1, List.all_append, w_t1, ← List.take_append_drop 24 (words1.drop 24), List.all_append, w_t2, ← List.take_append_drop 24 ((words1.drop 24).drop 24), List.all_append, w_t3, ← List.take_append_drop 24 (((words1.drop 24).drop 24).drop 24), List.all_append, w_t4, w_t5]
  rfl
set_option maxRecDepth 65536 in
theorem w_rest : rest_1_c.before args0 about1 = true := by decide +kernel
set_option maxRecDepth 65536 in
theorem w_case : (Jvm.Cond.and given_1 narrow_1).before args0 about1 = true := by decide +kernel
set_option maxRecDepth 65536 in
theorem w_consts : constsHeld consts_1 about1 := Jvm.Lit.constsHeldB_iff.mp (by decide +kernel)
theorem w_applies : (headSpec (Jvm.Cond.code x code maxLocals ret :: tables_1) room_1).applies x e0.platform about1 = true :=
  (Spec.applies_iff w_frames).mpr ⟨w_running, w_runnable, w_alone, w_named, w_hears, w_ripe, w_room, w_tables⟩
theorem atStart : AtStart classFile x code maxLocals ret World_1 tables_1 room_1 Calls_1 rest_1 Pre_1 launch0 p0 e0 about1 theMethod args0 below0 :=
  ⟨lists_1, trivial, launch0.admits_env _ _ _, launch0.least_env, fairChoices_fair.cas, fairChoices_fair.clock, w_frames, w_args, w_heap, w_applies, ⟨w_consts, trivial⟩, w_rest, w_case⟩
end start1
theorem witness_1 : WitnessClaimed_1 := ⟨start1.p0, start1.e0, start1.about1, start1.theMethod, start1.args0, start1.below0, start1.atStart⟩
end Jvm.Pilot.@@N@@
