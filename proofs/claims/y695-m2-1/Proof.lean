import JvmDerived
import JvmDerived.Pilot.@@N@@Statement
import JvmDerived.Pilot.@@N@@Code
set_option linter.unusedVariables false
set_option linter.unusedSimpArgs false
namespace Jvm.RoadKit
open Sem ClassFile Op Lib Jvm.Stand Jvm.Free Jvm.LawKit
section OwnKit
variable {p : Program} {l : Launch} {e : Env} {R : Room} {s : State} {m : MethodId} {args : Array Value} {below : List Frame} {meth : Method} {c : Code} {T : State} {locs : List Loc} {cells slots : Nat} {rc rs : Nat} {Q : Option Value → Heap → List Loc → Prop} {S S' : State}
/-- from S on the invocation ends, it returns, and Q holds of what it returns, of the heap and of the places written -/
def OEnds (p : Program) (e : Env) (below : List Frame) (s : State) (rc rs : Nat) (Q : Option Value → Heap → List Loc → Prop) (S : State) : Prop :=
  ∃ s₂ o, Steps p.tables e below S s₂ ∧ s₂.status = .running ∧ Ended s₂ below o ∧ ∃ v L, o = .returned v ∧ Q v s₂.heap L ∧ FrameEnd s o s₂ L rc rs
theorem OEnds.via (h : ∀ t, Steps p.tables e below S' t → Steps p.tables e below S t) (k : OEnds p e below s rc rs Q S') : OEnds p e below s rc rs Q S := by
  obtain ⟨t, o, h1, r⟩ := k
  exact ⟨t, o, h _ h1, r⟩
theorem OEnds.retN (X : Stand p l e R s m args below meth c T locs cells slots) (hx : p.tables.exec = Jvm.exec) (hlk : meth.locks = false) {pc : Nat} {Ls : Array Slot} {z : Int32} {t : FieldType} {rest : List Value} (hret : meth.sig.returnType = some t) (ht : t = .boolean ∨ t = .byte ∨ t = .char ∨ t = .short)
    (hd : decode c.code pc = .ok (.ireturn, 1)) (q : Q (some (.int (nar t z))) T.heap locs) (hc : cells ≤ rc) (hs : slots ≤ rs) : OEnds p e below s rc rs Q (T.setTop (mkF m pc Ls (.int z :: rest))) := by
  obtain ⟨fs, hr, hrun, hended, hW, hsame⟩ := X.leave (v := some (.int (nar t z))) (fun h => by rw [hret] at h; cases h) hlk
  exact ⟨_, _, Jvm.RoadKit.retN X hx hret ht hd hr, hrun, hended, _, _, rfl, q, ⟨_, rfl⟩, hW, hsame.mono hc hs⟩
theorem OEnds.retI (X : Stand p l e R s m args below meth c T locs cells slots) (hx : p.tables.exec = Jvm.exec) (hlk : meth.locks = false) {pc : Nat} {Ls : Array Slot} {z : Int32} {rest : List Value} (hret : meth.sig.returnType = some .int)
    (hd : decode c.code pc = .ok (.ireturn, 1)) (q : Q (some (.int z)) T.heap locs) (hc : cells ≤ rc) (hs : slots ≤ rs) : OEnds p e below s rc rs Q (T.setTop (mkF m pc Ls (.int z :: rest))) := by
  obtain ⟨fs, hr, hrun, hended, hW, hsame⟩ := X.leave (v := some (.int z)) (fun h => by rw [hret] at h; cases h) hlk
  exact ⟨_, _, retOut X hx hret rfl (Or.inl ⟨rfl, Or.inl rfl, z, rfl⟩) hd hr, hrun, hended, _, _, rfl, q, ⟨_, rfl⟩, hW, hsame.mono hc hs⟩
theorem OEnds.retJ (X : Stand p l e R s m args below meth c T locs cells slots) (hx : p.tables.exec = Jvm.exec) (hlk : meth.locks = false) {pc : Nat} {Ls : Array Slot} {z : Int64} {rest : List Value} (hret : meth.sig.returnType = some .long)
    (hd : decode c.code pc = .ok (.lreturn, 1)) (q : Q (some (.long z)) T.heap locs) (hc : cells ≤ rc) (hs : slots ≤ rs) : OEnds p e below s rc rs Q (T.setTop (mkF m pc Ls (.long z :: rest))) := by
  obtain ⟨fs, hr, hrun, hended, hW, hsame⟩ := X.leave (v := some (.long z)) (fun h => by rw [hret] at h; cases h) hlk
  exact ⟨_, _, retOut X hx hret rfl (Or.inr (Or.inl ⟨rfl, rfl, z, rfl⟩)) hd hr, hrun, hended, _, _, rfl, q, ⟨_, rfl⟩, hW, hsame.mono hc hs⟩
theorem OEnds.retR (X : Stand p l e R s m args below meth c T locs cells slots) (hx : p.tables.exec = Jvm.exec) (hlk : meth.locks = false) {pc : Nat} {Ls : Array Slot} {w : Value} {t : FieldType} {rest : List Value} (hret : meth.sig.returnType = some t) (ht : t.isReference = true) (hw : w.isRef = true)
    (hd : decode c.code pc = .ok (.areturn, 1)) (q : Q (some w) T.heap locs) (hc : cells ≤ rc) (hs : slots ≤ rs) : OEnds p e below s rc rs Q (T.setTop (mkF m pc Ls (w :: rest))) := by
  obtain ⟨fs, hr, hrun, hended, hW, hsame⟩ := X.leave (v := some w) (fun h => by rw [hret] at h; cases h) hlk
  have hn : narrow t w = w := by rcases ref_cases hw with rfl | ⟨a, rfl⟩ <;> cases t <;> rfl
  exact ⟨_, _, retOut X hx hret hn (Or.inr (Or.inr (Or.inr (Or.inr ⟨rfl, ht, hw⟩)))) hd hr, hrun, hended, _, _, rfl, q, ⟨_, rfl⟩, hW, hsame.mono hc hs⟩
theorem OEnds.retV (X : Stand p l e R s m args below meth c T locs cells slots) (hx : p.tables.exec = Jvm.exec) (hlk : meth.locks = false) {pc : Nat} {Ls : Array Slot} (hret : meth.sig.returnType = none)
    (hd : decode c.code pc = .ok (.return_, 1)) (q : Q none T.heap locs) (hc : cells ≤ rc) (hs : slots ≤ rs) : OEnds p e below s rc rs Q (T.setTop (mkF m pc Ls [])) := by
  obtain ⟨fs, hr, hrun, hended, hW, hsame⟩ := X.leave (v := none) (fun _ => rfl) hlk
  exact ⟨_, _, X.returnOut hx hret hd hr, hrun, hended, _, _, rfl, q, ⟨_, rfl⟩, hW, hsame.mono hc hs⟩
/-- the call answers r, writes nothing that was there, makes nothing -/
def QA (r : Option Value) (h0 : Heap) (n0 : Nat) : Option Value → Heap → List Loc → Prop := fun v h L => v = r ∧ Fr n0 L ∧ h = h0
/-- the law's own answer -/
def QL (n0 : Nat) : Option Value → Heap → List Loc → Prop := fun v _ L => v = some (.int 1) ∧ Fr n0 L
theorem own_lc0 (x : Int64) : lcmpW x x = 0 := by rw [lcW]; exact (lc_eq _ _).mpr rfl
theorem own_lcpos {x y : Int64} (h : y < x) : 0 < lcmpW x y := by rw [lcW]; exact (lc_gt _ _).mpr h
theorem own_lcnpos {x y : Int64} (h : ¬ y < x) : ¬ 0 < lcmpW x y := by rw [lcW]; exact fun q => h ((lc_gt _ _).mp q)
theorem own_narrow {t : String} {w : Value} (h : w.isRef = true) : narrow (.object t) w = w := by rcases ref_cases h with rfl | ⟨_, rfl⟩ <;> rfl
theorem own_fits {t : String} {w : Value} (h : w.isRef = true) : fits (.object t) w = true := by rcases ref_cases h with rfl | ⟨_, rfl⟩ <;> rfl
end OwnKit
section OwnWords
variable {args : Array Value} {s : State} {t u : Term} {a : Addr} {cl : Cell} {ty : FieldType} {j k : Int32}
theorem own_eqint (h : (Jvm.Cond.eq t (.int k)).value args s none s [] = some true) : t.eval args s none [] s = some (.int k) := by
  obtain ⟨x, y, e1, e2, -, k2⟩ := cmp_v (Or.inl h)
  obtain rfl : Value.int k = y := Option.some.inj ((Term.int_eval k).symm.trans e2)
  obtain ⟨z, rfl⟩ : ∃ z, x = .int z := k2
  have q := gotT (Cond.eq_ints e1 (Term.int_eval k)) h
  rw [e1, q]
theorem own_len (h : (Jvm.Cond.eq (.length t) (.int k)).value args s none s [] = some true) (ev : t.eval args s none [] s = some (.ref a)) (A : Arr s s.heap a cl ty) : cl.slots.size < 2 ^ 31 ∧ cl.slots.size.toInt32 = k := by
  have e1 := own_eqint h
  have e2 : s.arrayAt? a = some cl := A.fin (Vm.Alike.refl _)
  have e3 : cl.slots.size < 2 ^ 31 := by
    refine Classical.byContradiction fun q => ?_
    simp [Term.eval, ev, e2, q] at e1
  have e4 := len_f ev e2 e3
  rw [e1] at e4
  exact ⟨e3, (Value.int.inj (Option.some.inj e4)).symm⟩
theorem own_elem (h : (Jvm.Cond.eq (.elem t (.int j)) (.int k)).value args s none s [] = some true) (ev : t.eval args s none [] s = some (.ref a)) (A : Arr s s.heap a cl ty) : cl.slots[j.toNatClampNeg]? = some (.int k) :=
  (elem_in (own_eqint h) ev (Term.int_eval j) A.1).2
theorem own_eqref (h : (Jvm.Cond.eq t u).value args s none s [] = some true) (eu : u.eval args s none [] s = some (.ref a)) : t.eval args s none [] s = some (.ref a) := by
  obtain ⟨x, y, e1, e2, -, k2⟩ := cmp_v (Or.inl h)
  obtain rfl : Value.ref a = y := Option.some.inj (eu.symm.trans e2)
  have hx : x.isRef = true := k2.2
  have q := gotT (eq_R e1 eu hx rfl) h
  rw [e1, q]
theorem own_elemR (h : (Jvm.Cond.eq (.elem t (.int j)) u).value args s none s [] = some true) {b : Addr} (eu : u.eval args s none [] s = some (.ref b)) (ev : t.eval args s none [] s = some (.ref a)) (A : Arr s s.heap a cl ty) : cl.slots[j.toNatClampNeg]? = some (.ref b) :=
  (elem_in (own_eqref h eu) ev (Term.int_eval j) A.1).2
end OwnWords
end Jvm.RoadKit
namespace Jvm.RoadKit
open Sem ClassFile Op Lib Jvm.Stand Jvm.Free Jvm.LawKit
section OwnWide
variable {p : Program} {l : Launch} {e : Env} {R : Room} {s : State} {m : MethodId} {args : Array Value} {below : List Frame} {meth : Method} {c : Code} {T : State} {locs : List Loc} {cells slots : Nat} {rc rs : Nat} {Q : Option Value → Heap → List Loc → Prop} {S S' : State} {Z : State} {a0 : Array Value} {EL : List (String × Nat)} {vm : Vm} {k0 : Nat} {h h0 : Heap}
/-- as OEnds, for a road that may intern constants: the books of the constants go on -/
def OEndsW (p : Program) (e : Env) (below : List Frame) (s : State) (Z : State) (EL : List (String × Nat)) (rc rs : Nat) (Q : Option Value → Heap → List Loc → Prop) (S : State) : Prop :=
  ∃ s₂ o, Steps p.tables e below S s₂ ∧ s₂.status = .running ∧ Ended s₂ below o ∧ ∃ v L, o = .returned v ∧ Q v s₂.heap L ∧ CHr Z EL s.vm s.heap s₂.vm s₂.heap ∧ ReturnedEndW s o s₂ L rc rs
theorem OEndsW.via (g : ∀ t, Steps p.tables e below S' t → Steps p.tables e below S t) (k : OEndsW p e below s Z EL rc rs Q S') : OEndsW p e below s Z EL rc rs Q S := by
  obtain ⟨t, o, h1, r⟩ := k
  exact ⟨t, o, g _ h1, r⟩
theorem OEndsW.out (X : Stand p l e R (s.setVm vm) m args below meth c T locs cells slots) (hlk : meth.locks = false) (hS : s.Since vm k0) (hk : k0 ≤ h.size) (hZ : Z.Warmed39 vm) (hEL : EW Z a0 EL) (eT : T.heap = h) (es : s.heap = h0) (CR : CHr Z EL s.vm h0 vm h) {v : Option Value} (hv : meth.sig.returnType = none → v = none)
    (hst : ∀ fs, (∀ (f : JFrame) (acts : List Action), f.method = m → f.locked = none → f.entered = [] → (doReturn e (T.setTop f) acts v).1 = T.setFrames fs) → Steps p.tables e below S (T.setFrames fs)) (q : Q v T.heap locs) (hc : cells ≤ rc) (hs : slots ≤ rs) : OEndsW p e below s Z EL rc rs Q S := by
  obtain ⟨fs, hr, hrun, hended, a, b, c', d⟩ := X.leaveW hS (by rw [eT]; exact hk) (v := v) hv hlk
  have A := CR.trans (CHv.at X hZ hEL CR.1)
  refine ⟨_, _, hst fs hr, hrun, hended, _, _, rfl, q, ?_, a, b, c', d.mono hc hs⟩
  show CHr Z EL s.vm s.heap T.vm T.heap
  rw [es, eT]
  exact A
theorem OEndsW.retN (X : Stand p l e R (s.setVm vm) m args below meth c T locs cells slots) (hx : p.tables.exec = Jvm.exec) (hlk : meth.locks = false) (hS : s.Since vm k0) (hk : k0 ≤ h.size) (hZ : Z.Warmed39 vm) (hEL : EW Z a0 EL) (eT : T.heap = h) (es : s.heap = h0) (CR : CHr Z EL s.vm h0 vm h) {pc : Nat} {Ls : Array Slot} {z : Int32} {t : FieldType} {rest : List Value} (hret : meth.sig.returnType = some t) (ht : t = .boolean ∨ t = .byte ∨ t = .char ∨ t = .short)
    (hd : decode c.code pc = .ok (.ireturn, 1)) (q : Q (some (.int (nar t z))) T.heap locs) (hc : cells ≤ rc) (hs : slots ≤ rs) : OEndsW p e below s Z EL rc rs Q (T.setTop (mkF m pc Ls (.int z :: rest))) :=
  OEndsW.out X hlk hS hk hZ hEL eT es CR (fun h => by rw [hret] at h; cases h) (fun fs hr => Jvm.RoadKit.retN X hx hret ht hd hr) q hc hs
theorem OEndsW.retI (X : Stand p l e R (s.setVm vm) m args below meth c T locs cells slots) (hx : p.tables.exec = Jvm.exec) (hlk : meth.locks = false) (hS : s.Since vm k0) (hk : k0 ≤ h.size) (hZ : Z.Warmed39 vm) (hEL : EW Z a0 EL) (eT : T.heap = h) (es : s.heap = h0) (CR : CHr Z EL s.vm h0 vm h) {pc : Nat} {Ls : Array Slot} {z : Int32} {rest : List Value} (hret : meth.sig.returnType = some .int)
    (hd : decode c.code pc = .ok (.ireturn, 1)) (q : Q (some (.int z)) T.heap locs) (hc : cells ≤ rc) (hs : slots ≤ rs) : OEndsW p e below s Z EL rc rs Q (T.setTop (mkF m pc Ls (.int z :: rest))) :=
  OEndsW.out X hlk hS hk hZ hEL eT es CR (fun h => by rw [hret] at h; cases h) (fun fs hr => retOut X hx hret rfl (Or.inl ⟨rfl, Or.inl rfl, z, rfl⟩) hd hr) q hc hs
theorem OEndsW.retJ (X : Stand p l e R (s.setVm vm) m args below meth c T locs cells slots) (hx : p.tables.exec = Jvm.exec) (hlk : meth.locks = false) (hS : s.Since vm k0) (hk : k0 ≤ h.size) (hZ : Z.Warmed39 vm) (hEL : EW Z a0 EL) (eT : T.heap = h) (es : s.heap = h0) (CR : CHr Z EL s.vm h0 vm h) {pc : Nat} {Ls : Array Slot} {z : Int64} {rest : List Value} (hret : meth.sig.returnType = some .long)
    (hd : decode c.code pc = .ok (.lreturn, 1)) (q : Q (some (.long z)) T.heap locs) (hc : cells ≤ rc) (hs : slots ≤ rs) : OEndsW p e below s Z EL rc rs Q (T.setTop (mkF m pc Ls (.long z :: rest))) :=
  OEndsW.out X hlk hS hk hZ hEL eT es CR (fun h => by rw [hret] at h; cases h) (fun fs hr => retOut X hx hret rfl (Or.inr (Or.inl ⟨rfl, rfl, z, rfl⟩)) hd hr) q hc hs
theorem OEndsW.retR (X : Stand p l e R (s.setVm vm) m args below meth c T locs cells slots) (hx : p.tables.exec = Jvm.exec) (hlk : meth.locks = false) (hS : s.Since vm k0) (hk : k0 ≤ h.size) (hZ : Z.Warmed39 vm) (hEL : EW Z a0 EL) (eT : T.heap = h) (es : s.heap = h0) (CR : CHr Z EL s.vm h0 vm h) {pc : Nat} {Ls : Array Slot} {w : Value} {t : FieldType} {rest : List Value} (hret : meth.sig.returnType = some t) (ht : t.isReference = true) (hw : w.isRef = true)
    (hd : decode c.code pc = .ok (.areturn, 1)) (q : Q (some w) T.heap locs) (hc : cells ≤ rc) (hs : slots ≤ rs) : OEndsW p e below s Z EL rc rs Q (T.setTop (mkF m pc Ls (w :: rest))) :=
  OEndsW.out X hlk hS hk hZ hEL eT es CR (fun h => by rw [hret] at h; cases h) (fun fs hr => retOut X hx hret (by rcases ref_cases hw with rfl | ⟨a, rfl⟩ <;> cases t <;> rfl) (Or.inr (Or.inr (Or.inr (Or.inr ⟨rfl, ht, hw⟩)))) hd hr) q hc hs
theorem OEndsW.retV (X : Stand p l e R (s.setVm vm) m args below meth c T locs cells slots) (hx : p.tables.exec = Jvm.exec) (hlk : meth.locks = false) (hS : s.Since vm k0) (hk : k0 ≤ h.size) (hZ : Z.Warmed39 vm) (hEL : EW Z a0 EL) (eT : T.heap = h) (es : s.heap = h0) (CR : CHr Z EL s.vm h0 vm h) {pc : Nat} {Ls : Array Slot} (hret : meth.sig.returnType = none)
    (hd : decode c.code pc = .ok (.return_, 1)) (q : Q none T.heap locs) (hc : cells ≤ rc) (hs : slots ≤ rs) : OEndsW p e below s Z EL rc rs Q (T.setTop (mkF m pc Ls [])) :=
  OEndsW.out X hlk hS hk hZ hEL eT es CR (fun _ => rfl) (fun fs hr => X.returnOut hx hret hd hr) q hc hs
theorem own_safeV {a : Addr} {k : ClassId} {ty : FieldType} {n : Int32} {vs : List Value} {d : Value} (hal : Z.vm.Alike vm) (V : Arv Z h a k ty n vs d) (ht : ty ≠ .byte) : Safe Z EL vm h a := by
  obtain ⟨c, A, -⟩ := V
  exact Safe.arr hal A ht
theorem own_safe_null {x : Addr} (hal : Z.vm.Alike vm) (E : Exa Z h x "java/lang/String") (F : Fld Z h x "java/lang/String" "value" "[B" .null) : Safe Z EL vm h x := fun B => by
  obtain ⟨p, -, u, a, -, q, -, G, rfl | rfl⟩ := B
  · obtain ⟨cell, cf, k, i, f, h1, h2, -, -, -, -, h7⟩ := F
    cases (show h[q.sa]? = some q.sC from G.ha).symm.trans h1
    obtain ⟨cS, ⟨⟨s1, s2, s3, ⟨cv, kv, iv, s4, s4'⟩, s5, s6, s7, s8, r⟩, hfS, hcS⟩, -⟩ := G
    obtain ⟨kv', z4⟩ := ff_back (U := Wst Z vm h) hal s4
    cases h2.symm.trans z4
    rw [s8] at h7
    cases h7
  · obtain ⟨cell, k, e1, e2, e3, -, -⟩ := E
    cases (show h[q.sd]? = some q.SA from G.hd).symm.trans e1
    obtain ⟨cS, -, -, f, -⟩ := G
    have f : vm.findClass "[B" = some q.SA.cls := f
    rw [hal.findClass] at f
    obtain ⟨k1, q1, q2⟩ := Vm.findClass_spec f
    obtain ⟨k2, q3, q4⟩ := Vm.findClass_spec e2
    cases q1.symm.trans q3
    exact absurd (q2.symm.trans q4) (by decide)
end OwnWide
end Jvm.RoadKit
/- laws to paste: Road.backV, Road.eqW, Road.codOf (cut by pick.py; bodies as the Statement names them) -/
namespace Jvm.Pilot.@@N@@
namespace StrChars
open Jvm Sem ClassFile Op Lib Jvm.Stand Jvm.Free.XT Jvm.Free.ALB Jvm.Free.JM Jvm.Free
open Jvm.Lib.Cold (StaticIs)
/-- a char array whose places are chars -/
def Ch (a : Addr) (A : Cell) (U : State) : Prop := Arr .char a A U ∧ Typed .char A
theorem Ch.mv {a : Addr} {A : Cell} {U U' : State} (h : Ch a A U) (hal : U.vm.Alike U'.vm) (hh : U'.heap = U.heap) : Ch a A U' := ⟨h.1.mv hal hh, h.2⟩
theorem Ch.keep {a : Addr} {A : Cell} {U U' : State} (h : Ch a A U) (hal : U.vm.Alike U'.vm) (hk : U'.heap[a]? = some A) : Ch a A U' := ⟨h.1.keep hal hk, h.2⟩
/-- what place i of a char[]'s cell holds -/
def cv (A : Cell) (i : Nat) : Int32 := match A.slots[i]? with | some (.int x) => x | _ => 0
theorem Ch.get {a : Addr} {A : Cell} {U : State} (h : Ch a A U) {i : Nat} (hi : i < A.slots.size) : A.slots[i]? = some (.int (cv A i)) := by
  have e := Array.getElem?_eq_getElem hi
  have f := h.2 i _ e
  unfold cv; rw [e]
  generalize A.slots[i] = v at f
  cases v <;> simp [fits] at f ⊢
/-- the byte that i2b leaves of a char -/
def lo8 (x : Int32) : Int32 := x.toInt8.toInt32
theorem fits_lo8 (y : Int32) : fits .byte (.int (lo8 y)) = true := by
  have h1 := y.toInt8.le_toInt
  have h2 := y.toInt8.toInt_lt
  simp only [lo8, fits, Bool.and_eq_true, decide_eq_true_eq, Int32.le_iff_toInt_le, Int8.toInt_toInt32, show (-128 : Int32).toInt = -128 from by decide, show (127 : Int32).toInt = 127 from by decide]
  omega
/-- A' is A but that each place j of lo .. hi - 1 holds f j -/
def Laid (A A' : Cell) (lo hi : Nat) (f : Nat → Value) : Prop := A'.cls = A.cls ∧ A'.vm = A.vm ∧ A'.slots.size = A.slots.size ∧ ∀ i, A'.slots[i]? = if lo ≤ i ∧ i < hi then some (f i) else A.slots[i]?
theorem Laid.zero (A : Cell) (lo : Nat) (f : Nat → Value) : Laid A A lo (lo + 0) f := ⟨rfl, rfl, rfl, fun i => by rw [if_neg (by omega)]⟩
theorem Laid.step {A Ak : Cell} {lo k : Nat} {f : Nat → Value} {v : Value} (h : Laid A Ak lo k f) (hlo : lo ≤ k) (hk : k < Ak.slots.size) (hv : v = f k) : Laid A (Ak.setSlot k v) lo (k + 1) f := by
  refine ⟨h.1, h.2.1, by simpa [Cell.setSlot] using h.2.2.1, fun i => ?_⟩
  by_cases e : k = i
  · subst e; rw [Cell.slots_setSlot_self v hk, if_pos (by omega), hv]
  · rw [Cell.slots_setSlot_ne v e, h.2.2.2 i]
    by_cases q : lo ≤ i ∧ i < k
    · rw [if_pos q, if_pos (by omega)]
    · rw [if_neg q, if_neg (by omega)]
def U16 : String := "java/lang/StringUTF16"
namespace Cmp5
def yN : MethodName := ⟨"java/lang/StringUTF16", "compress", "([CI[BII)I"⟩
abbrev yB : ByteArray := jdk_52_method_21_code
theorem d0 : decode yB 0 = .ok (.iconst 0, 1) := by decide +kernel
theorem d1 : decode yB 1 = .ok (.istore 5, 2) := by decide +kernel
theorem d3 : decode yB 3 = .ok (.iload 5, 2) := by decide +kernel
theorem d5 : decode yB 5 = .ok (.iload 4, 2) := by decide +kernel
theorem d7 : decode yB 7 = .ok (.if_icmp (.ge) 37, 3) := by decide +kernel
theorem d10 : decode yB 10 = .ok (.aload_n 0, 1) := by decide +kernel
theorem d11 : decode yB 11 = .ok (.iload_n 1, 1) := by decide +kernel
theorem d12 : decode yB 12 = .ok (.caload, 1) := by decide +kernel
theorem d13 : decode yB 13 = .ok (.istore 6, 2) := by decide +kernel
theorem d15 : decode yB 15 = .ok (.iload 6, 2) := by decide +kernel
theorem d17 : decode yB 17 = .ok (.sipush 255, 3) := by decide +kernel
theorem d20 : decode yB 20 = .ok (.if_icmp (.le) 6, 3) := by decide +kernel
theorem d26 : decode yB 26 = .ok (.aload_n 2, 1) := by decide +kernel
theorem d27 : decode yB 27 = .ok (.iload_n 3, 1) := by decide +kernel
theorem d28 : decode yB 28 = .ok (.iload 6, 2) := by decide +kernel
theorem d30 : decode yB 30 = .ok (.i2b, 1) := by decide +kernel
theorem d31 : decode yB 31 = .ok (.bastore, 1) := by decide +kernel
theorem d32 : decode yB 32 = .ok (.iinc 1 1, 3) := by decide +kernel
theorem d35 : decode yB 35 = .ok (.iinc 3 1, 3) := by decide +kernel
theorem d38 : decode yB 38 = .ok (.iinc 5 1, 3) := by decide +kernel
theorem d41 : decode yB 41 = .ok (.goto (-38), 3) := by decide +kernel
theorem d44 : decode yB 44 = .ok (.iload 4, 2) := by decide +kernel
theorem d46 : decode yB 46 = .ok (.ireturn, 1) := by decide +kernel
def site : List Cond := []
def tab : Cond := tabOf yN yB 7 (some .int) site
def P (b : Addr) (A : Cell) (d : Addr) (B : Cell) (o q len : Nat) (args : Array Value) (s : State) : Prop := args = #[.ref b, .int (Int32.ofNat o), .ref d, .int (Int32.ofNat q), .int (Int32.ofNat len)] ∧ Ch b A s ∧ Arr .byte d B s ∧ b ≠ d ∧ o + len ≤ A.slots.size ∧ q + len ≤ B.slots.size ∧ ∀ i, i < len → ¬ 255 < cv A (o + i)
def E (b : Addr) (A : Cell) (d : Addr) (B : Cell) (o q len : Nat) (r : Option Value) (s u : State) : Prop := r = some (.int (Int32.ofNat len)) ∧ ∃ B', Put d B' s u ∧ Laid B B' q (q + len) (fun j => Value.int (lo8 (cv A (o + (j - q)))))
/-- no char of the range above 255: len; the places written hold each char's low byte -/
theorem law (l : Launch) (b : Addr) (A : Cell) (d : Addr) (B : Cell) (o q len : Nat) : Law l yN 5 5 0 0 yB 7 (some .int) site (P b A d B o q len) (E b A d B o q len) (copyLocs d q len) 0 0 := by
  refine Law.of_walk (plainFor_of_name (by decide +kernel)) (by decide +kernel) (by decide +kernel) (by decide) (fun _ _ h => by rw [h.1]; rfl) (fun _ U U' hal hh h => ⟨h.1, h.2.1.mv hal hh, h.2.2.1.mv hal hh, h.2.2.2⟩) (fun r U U' V V' h1 hal h2 h => ⟨h.1, h.2.elim fun B' q => ⟨B', q.1.mv h1 h2, q.2⟩⟩) ?_
  intro p e s m args below meth c s₁ X0 hexec hbytes hml hret hlk hnm hown hh0 W hP
  obtain ⟨rfl, hA, hB, hne, l1, l2, hp⟩ := hP
  have c1 : Steps p.tables e below (s₁.setTop (entryFrame m #[.ref b, .int (Int32.ofNat o), .ref d, .int (Int32.ofNat q), .int (Int32.ofNat len)] 7)) (s₁.setTop (mkF m 0 #[.val (.ref b), .val (.int (Int32.ofNat o)), .val (.ref d), .val (.int (Int32.ofNat q)), .val (.int (Int32.ofNat len)), .unset, .unset] [])) := entry rfl
  have hA0 := hA.1.mv X0.warmed.alike hh0
  have hB0 := hB.mv X0.warmed.alike hh0
  have a31 := hA.1.2.2.2
  have c2 : Steps p.tables e below (s₁.setTop (entryFrame m #[.ref b, .int (Int32.ofNat o), .ref d, .int (Int32.ofNat q), .int (Int32.ofNat len)] 7)) (s₁.setTop (mkF m 3 #[.val (.ref b), .val (.int (Int32.ofNat o)), .val (.ref d), .val (.int (Int32.ofNat q)), .val (.int (Int32.ofNat len)), .val (.int 0), .unset] [])) := c1.trans (by
    refine iconstV X0.here hexec rfl 0 (hb hbytes d0) (by decide) ?_
    refine XS.istore X0.here hexec rfl (hb hbytes d1) rfl rfl ?_
    exact Steps.refl _)
  have loop : ∀ (r i : Nat), i + r = len → ∀ (z : Slot), (z = .unset ∨ ∃ w, z = .val w ∧ w.category = 1) → ∀ (Tl : State) (Bk : Cell), Stand p l e { frames := 0, locals := 0, cells := 0, slots := 0 } s m #[.ref b, .int (Int32.ofNat o), .ref d, .int (Int32.ofNat q), .int (Int32.ofNat len)] below meth c Tl ([] ++ copyLocs d q i) 0 0 → Put d Bk s₁ Tl → Laid B Bk q (q + i) (fun j => Value.int (lo8 (cv A (o + (j - q))))) →
      Steps p.tables e below (s₁.setTop (entryFrame m #[.ref b, .int (Int32.ofNat o), .ref d, .int (Int32.ofNat q), .int (Int32.ofNat len)] 7)) (Tl.setTop (mkF m 3 #[.val (.ref b), .val (.int (Int32.ofNat (o + i))), .val (.ref d), .val (.int (Int32.ofNat (q + i))), .val (.int (Int32.ofNat len)), .val (.int (Int32.ofNat i)), z] [])) → ∃ (T' : State) (B' : Cell) (z' : Slot), Stand p l e { frames := 0, locals := 0, cells := 0, slots := 0 } s m #[.ref b, .int (Int32.ofNat o), .ref d, .int (Int32.ofNat q), .int (Int32.ofNat len)] below meth c T' ([] ++ copyLocs d q len) 0 0 ∧ Put d B' s₁ T' ∧ Laid B B' q (q + len) (fun j => Value.int (lo8 (cv A (o + (j - q))))) ∧
      Steps p.tables e below (s₁.setTop (entryFrame m #[.ref b, .int (Int32.ofNat o), .ref d, .int (Int32.ofNat q), .int (Int32.ofNat len)] 7)) (T'.setTop (mkF m 3 #[.val (.ref b), .val (.int (Int32.ofNat (o + len))), .val (.ref d), .val (.int (Int32.ofNat (q + len))), .val (.int (Int32.ofNat len)), .val (.int (Int32.ofNat len)), z'] [])) := by
    intro r
    induction r with
    | zero =>
      intro i hi z hz Tl Bk Xl pl fl cl
      have hil : i = len := by omega
      rw [hil] at Xl fl cl
      exact ⟨Tl, Bk, z, Xl, pl, fl, cl⟩
    | succ r ih =>
      intro i hi z hz Tl Bk Xl pl fl cl
      have all := X0.warmed.alike.symm.trans Xl.warmed.alike
      have hAl := hA0.keep all (pl.other hne hA0.1)
      have hBk := hB0.like all pl.1 fl.1 fl.2.1 fl.2.2.1
      have hlt : q + i < Bk.slots.size := by rw [fl.2.2.1]; omega
      have c3 : Steps p.tables e below (s₁.setTop (entryFrame m #[.ref b, .int (Int32.ofNat o), .ref d, .int (Int32.ofNat q), .int (Int32.ofNat len)] 7)) (Tl.setTop (mkF m 12 #[.val (.ref b), .val (.int (Int32.ofNat (o + i))), .val (.ref d), .val (.int (Int32.ofNat (q + i))), .val (.int (Int32.ofNat len)), .val (.int (Int32.ofNat i)), z] [.int (Int32.ofNat (o + i)), .ref b])) := cl.trans (by
        refine XS.iload Xl.here hexec rfl (hb hbytes d3) rfl ?_
        refine XS.iload Xl.here hexec rfl (hb hbytes d5) rfl ?_
        refine XS.icmpNo Xl.here hexec rfl (hb hbytes d7) rfl (ii_ge_f (lt32 (by omega) (by omega))) ?_
        refine XS.aloadN Xl.here hexec rfl (hb hbytes d10) rfl rfl ?_
        refine XS.iloadN Xl.here hexec rfl (hb hbytes d11) rfl ?_
        exact Steps.refl _)
      have c4 : Steps p.tables e below (s₁.setTop (entryFrame m #[.ref b, .int (Int32.ofNat o), .ref d, .int (Int32.ofNat q), .int (Int32.ofNat len)] 7)) (Tl.setTop (mkF m 13 #[.val (.ref b), .val (.int (Int32.ofNat (o + i))), .val (.ref d), .val (.int (Int32.ofNat (q + i))), .val (.int (Int32.ofNat len)), .val (.int (Int32.ofNat i)), z] [.int (cv A (o + i))])) := c3.trans (by
        refine Xl.aget hexec hAl rfl (hA.get (i := o + i) (by omega)) rfl rfl (hb hbytes d12) ?_
        exact Steps.refl _)
      have c5 : Steps p.tables e below (s₁.setTop (entryFrame m #[.ref b, .int (Int32.ofNat o), .ref d, .int (Int32.ofNat q), .int (Int32.ofNat len)] 7)) (Tl.setTop (mkF m 15 #[.val (.ref b), .val (.int (Int32.ofNat (o + i))), .val (.ref d), .val (.int (Int32.ofNat (q + i))), .val (.int (Int32.ofNat len)), .val (.int (Int32.ofNat i)), .val (.int (cv A (o + i)))] [])) := c4.trans (by
        refine XS.istoreS Xl.here hexec rfl (hb hbytes d13) rfl rfl hz ?_
        exact Steps.refl _)
      have c6 : Steps p.tables e below (s₁.setTop (entryFrame m #[.ref b, .int (Int32.ofNat o), .ref d, .int (Int32.ofNat q), .int (Int32.ofNat len)] 7)) (Tl.setTop (mkF m 31 #[.val (.ref b), .val (.int (Int32.ofNat (o + i))), .val (.ref d), .val (.int (Int32.ofNat (q + i))), .val (.int (Int32.ofNat len)), .val (.int (Int32.ofNat i)), .val (.int (cv A (o + i)))] [.int (lo8 (cv A (o + i))), .int (Int32.ofNat (q + i)), .ref d])) := c5.trans (by
        refine XS.iload Xl.here hexec rfl (hb hbytes d15) rfl ?_
        refine sipushV Xl.here hexec rfl 255 (hb hbytes d17) (by decide) ?_
        refine XS.icmpYes Xl.here hexec rfl (pc0 := 20) rfl (hb hbytes d20) rfl (ii_le_t (hp i (by omega))) (by decide) rfl ?_
        refine XS.aloadN Xl.here hexec rfl (hb hbytes d26) rfl rfl ?_
        refine XS.iloadN Xl.here hexec rfl (hb hbytes d27) rfl ?_
        refine XS.iload Xl.here hexec rfl (hb hbytes d28) rfl ?_
        refine i2b Xl.here hexec rfl (hb hbytes d30) rfl ?_
        exact Steps.refl _)
      obtain ⟨T7, X7, p7, st7⟩ := Xl.aput hexec hBk rfl hlt rfl (fits_lo8 (cv A (o + i))) (g := (mkF m 31 #[.val (.ref b), .val (.int (Int32.ofNat (o + i))), .val (.ref d), .val (.int (Int32.ofNat (q + i))), .val (.int (Int32.ofNat len)), .val (.int (Int32.ofNat i)), .val (.int (cv A (o + i)))] [.int (lo8 (cv A (o + i))), .int (Int32.ofNat (q + i)), .ref d])) rfl (rest := []) rfl (hb hbytes d31)
      have c8 : Steps p.tables e below (s₁.setTop (entryFrame m #[.ref b, .int (Int32.ofNat o), .ref d, .int (Int32.ofNat q), .int (Int32.ofNat len)] 7)) (T7.setTop (mkF m 32 #[.val (.ref b), .val (.int (Int32.ofNat (o + i))), .val (.ref d), .val (.int (Int32.ofNat (q + i))), .val (.int (Int32.ofNat len)), .val (.int (Int32.ofNat i)), .val (.int (cv A (o + i)))] [])) := c6.trans (st7 _ (Steps.refl _))
      have c9 : Steps p.tables e below (s₁.setTop (entryFrame m #[.ref b, .int (Int32.ofNat o), .ref d, .int (Int32.ofNat q), .int (Int32.ofNat len)] 7)) (T7.setTop (mkF m 3 #[.val (.ref b), .val (.int (Int32.ofNat (o + i) + 1)), .val (.ref d), .val (.int (Int32.ofNat (q + i) + 1)), .val (.int (Int32.ofNat len)), .val (.int (Int32.ofNat i + 1)), .val (.int (cv A (o + i)))] [])) := c8.trans (by
        refine iincV X7.here hexec rfl 1 (hb hbytes d32) (by decide) rfl rfl ?_
        refine iincV X7.here hexec rfl 1 (hb hbytes d35) (by decide) rfl rfl ?_
        refine iincV X7.here hexec rfl 1 (hb hbytes d38) (by decide) rfl rfl ?_
        refine XS.goto X7.here hexec rfl (pc0 := 41) rfl (hb hbytes d41) (by decide) rfl ?_
        exact Steps.refl _)
      have c10 : Steps p.tables e below (s₁.setTop (entryFrame m #[.ref b, .int (Int32.ofNat o), .ref d, .int (Int32.ofNat q), .int (Int32.ofNat len)] 7)) (T7.setTop (mkF m 3 #[.val (.ref b), .val (.int (Int32.ofNat (o + (i + 1)))), .val (.ref d), .val (.int (Int32.ofNat (q + (i + 1)))), .val (.int (Int32.ofNat len)), .val (.int (Int32.ofNat (i + 1))), .val (.int (cv A (o + i)))] [])) := by
        have := c9
        rw [succ32, succ32, succ32] at this
        exact this
      exact ih (i + 1) (by omega) _ (Or.inr ⟨_, rfl, rfl⟩) T7 _ (by rw [copyLocs_step, ← List.append_assoc]; exact X7) (pl.trans p7) (fl.step (by omega) hlt (by simp)) c10
  obtain ⟨T9, B9, z9, X9, p9, f9, g9⟩ := loop len 0 (by omega) .unset (Or.inl rfl) s₁ B (by simpa [copyLocs] using X0) ⟨hB0.1, fun _ _ => rfl, rfl⟩ (Laid.zero _ _ _) c2
  have c11 : Steps p.tables e below (s₁.setTop (entryFrame m #[.ref b, .int (Int32.ofNat o), .ref d, .int (Int32.ofNat q), .int (Int32.ofNat len)] 7)) (T9.setTop (mkF m 46 #[.val (.ref b), .val (.int (Int32.ofNat (o + len))), .val (.ref d), .val (.int (Int32.ofNat (q + len))), .val (.int (Int32.ofNat len)), .val (.int (Int32.ofNat len)), z9] [.int (Int32.ofNat len)])) := g9.trans (by
    refine XS.iload X9.here hexec rfl (hb hbytes d3) rfl ?_
    refine XS.iload X9.here hexec rfl (hb hbytes d5) rfl ?_
    refine XS.icmpYes X9.here hexec rfl (pc0 := 7) rfl (hb hbytes d7) rfl (ii_ge_t (nlt32 (by omega) (Nat.le_refl _))) (by decide) rfl ?_
    refine XS.iload X9.here hexec rfl (hb hbytes d44) rfl ?_
    exact Steps.refl _)
  exact ⟨T9, some (.int (Int32.ofNat len)), _, _, _, X9, by simp, rfl, rfl, (fun h => by cases h), ⟨rfl, B9, p9.from hh0, f9⟩, fun fs hl => c11.trans (X9.ireturnOut hexec hret rfl (Or.inl rfl) (hb hbytes d46) hl)⟩
end Cmp5
namespace Cmp3
def yN : MethodName := ⟨"java/lang/StringUTF16", "compress", "([CII)[B"⟩
abbrev yB : ByteArray := jdk_52_method_16_code
theorem d0 : decode yB 0 = .ok (.iload_n 2, 1) := by decide +kernel
theorem d1 : decode yB 1 = .ok (.newarray .byte, 2) := by decide +kernel
theorem d3 : decode yB 3 = .ok (.astore_n 3, 1) := by decide +kernel
theorem d4 : decode yB 4 = .ok (.aload_n 0, 1) := by decide +kernel
theorem d5 : decode yB 5 = .ok (.iload_n 1, 1) := by decide +kernel
theorem d6 : decode yB 6 = .ok (.aload_n 3, 1) := by decide +kernel
theorem d7 : decode yB 7 = .ok (.iconst 0, 1) := by decide +kernel
theorem d8 : decode yB 8 = .ok (.iload_n 2, 1) := by decide +kernel
theorem d9 : decode yB 9 = .ok (.invokestatic 115, 3) := by decide +kernel
theorem d12 : decode yB 12 = .ok (.istore 4, 2) := by decide +kernel
theorem d14 : decode yB 14 = .ok (.iload 4, 2) := by decide +kernel
theorem d16 : decode yB 16 = .ok (.iload_n 2, 1) := by decide +kernel
theorem d17 : decode yB 17 = .ok (.if_icmp (.eq) 40, 3) := by decide +kernel
theorem d57 : decode yB 57 = .ok (.aload_n 3, 1) := by decide +kernel
theorem d58 : decode yB 58 = .ok (.areturn, 1) := by decide +kernel
def site : List Cond := [.arrayClass .byte, Cmp5.tab] ++ staticW U16 115 Cmp5.yN
def tab : Cond := tabOf yN yB 6 (some (.array .byte)) site
def P (b : Addr) (A : Cell) (o len : Nat) (args : Array Value) (s : State) : Prop := args = #[.ref b, .int (Int32.ofNat o), .int (Int32.ofNat len)] ∧ Ch b A s ∧ o + len ≤ A.slots.size ∧ len ≤ 536870912 ∧ ∀ i, i < len → ¬ 255 < cv A (o + i)
def E (b : Addr) (A : Cell) (o len : Nat) (r : Option Value) (s u : State) : Prop := NewArr .byte "[B" len (fun j => .int (lo8 (cv A (o + j)))) r s u ∧ u.heap.size = s.heap.size + 1
/-- no char of the range above 255: a new byte[] of their low bytes -/
theorem law (l : Launch) (b : Addr) (A : Cell) (o len : Nat) : Law l yN 3 3 1 18 yB 6 (some (.array .byte)) site (P b A o len) (E b A o len) [] 1 len := by
  refine Law.of_walk (plainFor_of_name (by decide +kernel)) (by decide +kernel) (by decide +kernel) (by decide) (fun _ _ h => by rw [h.1]; rfl) (fun _ U U' hal hh h => ⟨h.1, h.2.1.mv hal hh, h.2.2⟩) (fun r U U' V V' h1 hal h2 h => ⟨NewArr.mv r U U' V V' h1 hal h2 h.1, by rw [h1, h2]; exact h.2⟩) ?_
  intro p e s m args below meth c s₁ X0 hexec hbytes hml hret hlk hnm hown hh0 W hP
  obtain ⟨rfl, hA, l1, l2, hp⟩ := hP
  have a31 := hA.1.2.2.2
  have c1 : Steps p.tables e below (s₁.setTop (entryFrame m #[.ref b, .int (Int32.ofNat o), .int (Int32.ofNat len)] 6)) (s₁.setTop (mkF m 0 #[.val (.ref b), .val (.int (Int32.ofNat o)), .val (.int (Int32.ofNat len)), .unset, .unset, .unset] [])) := entry rfl
  have c2 : Steps p.tables e below (s₁.setTop (entryFrame m #[.ref b, .int (Int32.ofNat o), .int (Int32.ofNat len)] 6)) (s₁.setTop (mkF m 1 #[.val (.ref b), .val (.int (Int32.ofNat o)), .val (.int (Int32.ofNat len)), .unset, .unset, .unset] [.int (Int32.ofNat len)])) := c1.trans (by
    refine XS.iloadN X0.here hexec rfl (hb hbytes d0) rfl ?_
    exact Steps.refl _)
  obtain ⟨T3, B3, X3, ba3, bs3, bv3, bh3, bf3, st3⟩ := X0.anew hexec (atype := .byte) (wk W (.arrayClass .byte)) rfl (by show len * 1 ≤ _; omega) (by omega) (g := (mkF m 1 #[.val (.ref b), .val (.int (Int32.ofNat o)), .val (.int (Int32.ofNat len)), .unset, .unset, .unset] [.int (Int32.ofNat len)])) rfl (hb hbytes d1) (rest := []) rfl (Nat.le_refl _) (by show 0 + len ≤ len; omega)
  rw [hh0] at ba3 st3
  have kp3 : XT.Kept s T3 := (XT.Kept.of_eq hh0).push bh3
  have hA3 := hA.keep X3.warmed.alike (kp3 _ _ hA.1.1)
  have hne : b ≠ s.heap.size := hA.1.ne
  have c4 : Steps p.tables e below (s₁.setTop (entryFrame m #[.ref b, .int (Int32.ofNat o), .int (Int32.ofNat len)] 6)) (T3.setTop (mkF m 3 #[.val (.ref b), .val (.int (Int32.ofNat o)), .val (.int (Int32.ofNat len)), .unset, .unset, .unset] [.ref s.heap.size])) := c2.trans (st3 _ (Steps.refl _))
  have c5 : Steps p.tables e below (s₁.setTop (entryFrame m #[.ref b, .int (Int32.ofNat o), .int (Int32.ofNat len)] 6)) (T3.setTop (mkF m 9 #[.val (.ref b), .val (.int (Int32.ofNat o)), .val (.int (Int32.ofNat len)), .val (.ref s.heap.size), .unset, .unset] [.int (Int32.ofNat len), .int 0, .ref s.heap.size, .int (Int32.ofNat o), .ref b])) := c4.trans (by
    refine XS.astoreN X3.here hexec rfl (hb hbytes d3) rfl rfl rfl ?_
    refine XS.aloadN X3.here hexec rfl (hb hbytes d4) rfl rfl ?_
    refine XS.iloadN X3.here hexec rfl (hb hbytes d5) rfl ?_
    refine XS.aloadN X3.here hexec rfl (hb hbytes d6) rfl rfl ?_
    refine iconstV X3.here hexec rfl 0 (hb hbytes d7) (by decide) ?_
    refine XS.iloadN X3.here hexec rfl (hb hbytes d8) rfl ?_
    exact Steps.refl _)
  obtain ⟨v6, T6, X6, E6, g6⟩ := X3.callS hexec (Cmp5.law l b A s.heap.size B3 o 0 len) hown (wks W (staticW U16 115 Cmp5.yN)) (wk W Cmp5.tab) (W := 0) (Nat.le_of_ble_eq_true rfl) (Nat.le_of_ble_eq_true rfl) (Nat.le_refl _) (by show 0 + len + 0 ≤ len; omega) (g := (mkF m 9 #[.val (.ref b), .val (.int (Int32.ofNat o)), .val (.int (Int32.ofNat len)), .val (.ref s.heap.size), .unset, .unset] [.int (Int32.ofNat len), .int (Int32.ofNat 0), .ref s.heap.size, .int (Int32.ofNat o), .ref b])) rfl (by rw [hml]; rfl) c5 (argsL := [.ref b, .int (Int32.ofNat o), .ref s.heap.size, .int (Int32.ofNat 0), .int (Int32.ofNat len)]) (rest := []) rfl rfl (by show 2 * 0 + 0 ≤ _; decide) (hb hbytes d9) (⟨rfl, hA3, ba3, hne, l1, by rw [bs3]; simp, hp⟩)
  obtain ⟨rfl, B6, p6, f6⟩ := E6
  have c7 : Steps p.tables e below (s₁.setTop (entryFrame m #[.ref b, .int (Int32.ofNat o), .int (Int32.ofNat len)] 6)) (T6.setTop (mkF m 12 #[.val (.ref b), .val (.int (Int32.ofNat o)), .val (.int (Int32.ofNat len)), .val (.ref s.heap.size), .unset, .unset] [.int (Int32.ofNat len)])) := g6
  have c8 : Steps p.tables e below (s₁.setTop (entryFrame m #[.ref b, .int (Int32.ofNat o), .int (Int32.ofNat len)] 6)) (T6.setTop (mkF m 58 #[.val (.ref b), .val (.int (Int32.ofNat o)), .val (.int (Int32.ofNat len)), .val (.ref s.heap.size), .val (.int (Int32.ofNat len)), .unset] [.ref s.heap.size])) := c7.trans (by
    refine XS.istore X6.here hexec rfl (hb hbytes d12) rfl rfl ?_
    refine XS.iload X6.here hexec rfl (hb hbytes d14) rfl ?_
    refine XS.iloadN X6.here hexec rfl (hb hbytes d16) rfl ?_
    refine XS.icmpYes X6.here hexec rfl (pc0 := 17) rfl (hb hbytes d17) rfl (ii_eq_t rfl) (by decide) rfl ?_
    refine XS.aloadN X6.here hexec rfl (hb hbytes d57) rfl rfl ?_
    exact Steps.refl _)
  have X8 := X6.wide (L' := []) (cells' := 1) (slots' := len) (fun x hx hlt => by
    simp only [List.nil_append, copyLocs, List.mem_map, List.mem_range] at hx
    obtain ⟨i, -, rfl⟩ := hx
    exact absurd hlt (Nat.lt_irrefl _)) (Nat.le_refl _) (by omega)
  exact ⟨T6, some (.ref s.heap.size), _, _, _, X8, rfl, rfl, rfl, (fun h => by cases h), ⟨⟨rfl, B6, ba3.like (X3.warmed.alike.symm.trans X6.warmed.alike) p6.1 f6.1 f6.2.1 f6.2.2.1, f6.2.1.trans bv3, by rw [X6.warmed.alike.findClass, f6.1]; exact bf3, by rw [f6.2.2.1, bs3]; simp, fun j hj => by rw [f6.2.2.2 j, if_pos (by omega)]; rfl, kp3.put p6 (Nat.le_refl _)⟩, by rw [p6.2.2, bh3, hh0]; simp⟩, fun fs hl => c8.trans (X8.areturnOut hexec rfl hret rfl (hb hbytes d58) hl)⟩
end Cmp3
namespace CodL
def yN : MethodName := ⟨"java/lang/StringUTF16", "coderFromArrayLen", "([BI)B"⟩
abbrev yB : ByteArray := jdk_52_method_15_code
theorem d0 : decode yB 0 = .ok (.iload_n 1, 1) := by decide +kernel
theorem d1 : decode yB 1 = .ok (.aload_n 0, 1) := by decide +kernel
theorem d2 : decode yB 2 = .ok (.arraylength, 1) := by decide +kernel
theorem d3 : decode yB 3 = .ok (.isub, 1) := by decide +kernel
theorem d4 : decode yB 4 = .ok (.bipush 31, 2) := by decide +kernel
theorem d6 : decode yB 6 = .ok (.iushr, 1) := by decide +kernel
theorem d7 : decode yB 7 = .ok (.i2b, 1) := by decide +kernel
theorem d8 : decode yB 8 = .ok (.ireturn, 1) := by decide +kernel
def site : List Cond := []
def tab : Cond := tabOf yN yB 2 (some .byte) site
def P (d : Addr) (B : Cell) (args : Array Value) (s : State) : Prop := args = #[.ref d, .int (Int32.ofNat B.slots.size)] ∧ Arr .byte d B s
def E (r : Option Value) (s u : State) : Prop := XT.PureE (some (.int 0)) r s u
/-- an array as long as the number of chars: LATIN1 -/
theorem law (l : Launch) (d : Addr) (B : Cell) : Law l yN 2 2 0 0 yB 2 (some .byte) site (P d B) E [] 0 0 := by
  refine Law.of_walk (plainFor_of_name (by decide +kernel)) (by decide +kernel) (by decide +kernel) (by decide) (fun _ _ h => by rw [h.1]; rfl) (fun _ U U' hal hh h => ⟨h.1, h.2.mv hal hh⟩) (fun r U U' V V' h1 hal h2 h => XT.PureE.mv r U U' V V' h1 hal h2 h) ?_
  intro p e s m args below meth c s₁ X0 hexec hbytes hml hret hlk hnm hown hh0 W hP
  obtain ⟨rfl, hB⟩ := hP
  have hB0 := hB.mv X0.warmed.alike hh0
  have c1 : Steps p.tables e below (s₁.setTop (entryFrame m #[.ref d, .int (Int32.ofNat B.slots.size)] 2)) (s₁.setTop (mkF m 0 #[.val (.ref d), .val (.int (Int32.ofNat B.slots.size))] [])) := entry rfl
  have c2 : Steps p.tables e below (s₁.setTop (entryFrame m #[.ref d, .int (Int32.ofNat B.slots.size)] 2)) (s₁.setTop (mkF m 2 #[.val (.ref d), .val (.int (Int32.ofNat B.slots.size))] [.ref d, .int (Int32.ofNat B.slots.size)])) := c1.trans (by
    refine XS.iloadN X0.here hexec rfl (hb hbytes d0) rfl ?_
    refine XS.aloadN X0.here hexec rfl (hb hbytes d1) rfl rfl ?_
    exact Steps.refl _)
  have c3 : Steps p.tables e below (s₁.setTop (entryFrame m #[.ref d, .int (Int32.ofNat B.slots.size)] 2)) (s₁.setTop (mkF m 8 #[.val (.ref d), .val (.int (Int32.ofNat B.slots.size))] [.int (lo8 (ushr (Int32.ofNat B.slots.size - Int32.ofNat B.slots.size) 31))])) := c2.trans (by
    refine X0.alen hexec hB0 rfl rfl (hb hbytes d2) ?_
    refine XS.isub X0.here hexec rfl (hb hbytes d3) rfl ?_
    refine bipushV X0.here hexec rfl 31 (hb hbytes d4) (by decide) ?_
    refine iushr X0.here hexec rfl (hb hbytes d6) rfl ?_
    refine i2b X0.here hexec rfl (hb hbytes d7) rfl ?_
    exact Steps.refl _)
  have e0 : lo8 (ushr (Int32.ofNat B.slots.size - Int32.ofNat B.slots.size) 31) = 0 := by rw [Int32.sub_self]; decide
  rw [e0] at c3
  exact ⟨s₁, some (.int 0), _, _, _, X0, rfl, rfl, rfl, (fun h => by cases h), ⟨rfl, hh0⟩, fun fs hl => c3.trans (X0.ireturnOut hexec hret rfl (Or.inr (Or.inr (Or.inl rfl))) (hb hbytes d8) hl)⟩
end CodL
/-- the String at a is Latin-1 over a new byte[] (the heap's one new cell): the low bytes of the len chars of A from o on; every cell but a is kept -/
def Got (a : Addr) (D : Cell) (fV fC : Field) (A : Cell) (o len : Nat) (r : Option Value) (s u : State) : Prop := r = none ∧ ∃ D' V : Cell, Blank "java/lang/String" a D' u ∧ Same D D' [fV.slot, fC.slot] ∧ D'.slots[fV.slot]? = some (.ref s.heap.size) ∧ D'.slots[fC.slot]? = some (.int 0) ∧ Arr .byte s.heap.size V u ∧ V.vm = .none ∧ u.vm.findClass "[B" = some V.cls ∧ V.slots.size = len ∧ (∀ j, j < len → V.slots[j]? = some (.int (lo8 (cv A (o + j))))) ∧ (∀ (y : Addr) (c : Cell), y ≠ a → s.heap[y]? = some c → u.heap[y]? = some c) ∧ u.heap.size = s.heap.size + 1
theorem Got.mv {a : Addr} {D A : Cell} {fV fC : Field} {o len : Nat} : ∀ r (U U' V V' : State), U'.heap = U.heap → V.vm.Alike V'.vm → V'.heap = V.heap → Got a D fV fC A o len r U V → Got a D fV fC A o len r U' V' :=
  fun r U U' V V' h1 hal h2 ⟨e0, D', X, a1, a2, a3, a4, a5, a6, a7, a8, a9, a10, a11⟩ => ⟨e0, D', X, a1.mv hal h2, a2, by rw [h1]; exact a3, a4, by rw [h1]; exact a5.mv hal h2, a6, by rw [hal.findClass]; exact a7, a8, a9, by rw [h1, h2]; exact a10, by rw [h1, h2]; exact a11⟩
namespace New4
def yN : MethodName := ⟨"java/lang/String", "<init>", "([CIILjava/lang/Void;)V"⟩
abbrev yB : ByteArray := jdk_42_method_149_code
theorem d0 : decode yB 0 = .ok (.aload_n 0, 1) := by decide +kernel
theorem d1 : decode yB 1 = .ok (.invokespecial 1, 3) := by decide +kernel
theorem d4 : decode yB 4 = .ok (.iload_n 3, 1) := by decide +kernel
theorem d5 : decode yB 5 = .ok (.ifCond (.ne) 22, 3) := by decide +kernel
theorem d27 : decode yB 27 = .ok (.getstatic 38, 3) := by decide +kernel
theorem d30 : decode yB 30 = .ok (.ifCond (.eq) 28, 3) := by decide +kernel
theorem d33 : decode yB 33 = .ok (.aload_n 1, 1) := by decide +kernel
theorem d34 : decode yB 34 = .ok (.iload_n 2, 1) := by decide +kernel
theorem d35 : decode yB 35 = .ok (.iload_n 3, 1) := by decide +kernel
theorem d36 : decode yB 36 = .ok (.invokestatic 177, 3) := by decide +kernel
theorem d39 : decode yB 39 = .ok (.astore 5, 2) := by decide +kernel
theorem d41 : decode yB 41 = .ok (.aload_n 0, 1) := by decide +kernel
theorem d42 : decode yB 42 = .ok (.aload 5, 2) := by decide +kernel
theorem d44 : decode yB 44 = .ok (.iload_n 3, 1) := by decide +kernel
theorem d45 : decode yB 45 = .ok (.invokestatic 47, 3) := by decide +kernel
theorem d48 : decode yB 48 = .ok (.putfield 15, 3) := by decide +kernel
theorem d51 : decode yB 51 = .ok (.aload_n 0, 1) := by decide +kernel
theorem d52 : decode yB 52 = .ok (.aload 5, 2) := by decide +kernel
theorem d54 : decode yB 54 = .ok (.putfield 9, 3) := by decide +kernel
theorem d57 : decode yB 57 = .ok (.return_, 1) := by decide +kernel
def site : List Cond := [.fieldLink "java/lang/String" 38 "java/lang/String" "COMPACT_STRINGS" "Z", Cmp3.tab, CodL.tab, .laysFinal "java/lang/String" "java/lang/String" "value" "[B", .fieldLink "java/lang/String" 9 "java/lang/String" "value" "[B", .laysFinal "java/lang/String" "java/lang/String" "coder" "B", .fieldLink "java/lang/String" 15 "java/lang/String" "coder" "B"] ++ objW "java/lang/String" 1 ++ staticW "java/lang/String" 177 Cmp3.yN ++ staticW "java/lang/String" 47 CodL.yN
def tab : Cond := tabOf yN yB 6 none site
def P (a : Addr) (D : Cell) (fV fC : Field) (b : Addr) (A : Cell) (z : Int32) (o len : Nat) (args : Array Value) (s : State) : Prop := args = #[.ref a, .ref b, .int (Int32.ofNat o), .int (Int32.ofNat len), .null] ∧ Blank "java/lang/String" a D s ∧ Found "java/lang/String" "value" "[B" fV s ∧ Found "java/lang/String" "coder" "B" fC s ∧ Ch b A s ∧ StaticIs s "java/lang/String" "COMPACT_STRINGS" "Z" (.int z) ∧ ¬ z = 0 ∧ 0 < len ∧ o + len ≤ A.slots.size ∧ len ≤ 536870912 ∧ ∀ i, i < len → ¬ 255 < cv A (o + i)
def E (a : Addr) (D : Cell) (fV fC : Field) (A : Cell) (o len : Nat) (r : Option Value) (s u : State) : Prop := Got a D fV fC A o len r s u
/-- len > 0, no char of the range above 255: a Latin-1 String of their low bytes -/
theorem law (l : Launch) (a : Addr) (D : Cell) (fV fC : Field) (b : Addr) (A : Cell) (z : Int32) (o len : Nat) : Law l yN 5 4 2 35 yB 6 none site (P a D fV fC b A z o len) (E a D fV fC A o len) [⟨a, fC.slot⟩, ⟨a, fV.slot⟩] 1 len := by
  refine Law.of_walk (plainFor_of_name (by decide +kernel)) (by decide +kernel) (by decide +kernel) (by decide) (fun _ _ h => by rw [h.1]; rfl) (fun _ U U' hal hh h => ⟨h.1, h.2.1.mv hal hh, h.2.2.1.al hal, h.2.2.2.1.al hal, h.2.2.2.2.1.mv hal hh, h.2.2.2.2.2.1.there hal hh, h.2.2.2.2.2.2⟩) (fun r U U' V V' h1 hal h2 h => Got.mv r U U' V V' h1 hal h2 h) ?_
  intro p e s m args below meth c s₁ X0 hexec hbytes hml hret hlk hnm hown hh0 W hP
  obtain ⟨rfl, hB, f1, f2, hA, s1, hz, l0, l1, l2, hp⟩ := hP
  have a31 := hA.1.2.2.2
  have c1 : Steps p.tables e below (s₁.setTop (entryFrame m #[.ref a, .ref b, .int (Int32.ofNat o), .int (Int32.ofNat len), .null] 6)) (s₁.setTop (mkF m 0 #[.val (.ref a), .val (.ref b), .val (.int (Int32.ofNat o)), .val (.int (Int32.ofNat len)), .val .null, .unset] [])) := entry rfl
  have c2 : Steps p.tables e below (s₁.setTop (entryFrame m #[.ref a, .ref b, .int (Int32.ofNat o), .int (Int32.ofNat len), .null] 6)) (s₁.setTop (mkF m 1 #[.val (.ref a), .val (.ref b), .val (.int (Int32.ofNat o)), .val (.int (Int32.ofNat len)), .val .null, .unset] [.ref a])) := c1.trans (by
    refine XS.aloadN X0.here hexec rfl (hb hbytes d0) rfl rfl ?_
    exact Steps.refl _)
  obtain ⟨T3, X3, q3, st3⟩ := X0.oinit hexec hown (wks W (objW "java/lang/String" 1)) (g := (mkF m 1 #[.val (.ref a), .val (.ref b), .val (.int (Int32.ofNat o)), .val (.int (Int32.ofNat len)), .val .null, .unset] [.ref a])) rfl (by rw [hml]; rfl) (rest := []) rfl (hb hbytes d1) (W := 0) (by show 2 * 0 + 0 ≤ _; decide) (Nat.le_of_ble_eq_true rfl) (Nat.le_of_ble_eq_true rfl)
  have hh3 := q3.trans hh0
  have c4 : Steps p.tables e below (s₁.setTop (entryFrame m #[.ref a, .ref b, .int (Int32.ofNat o), .int (Int32.ofNat len), .null] 6)) (T3.setTop (mkF m 27 #[.val (.ref a), .val (.ref b), .val (.int (Int32.ofNat o)), .val (.int (Int32.ofNat len)), .val .null, .unset] [])) := (c2.trans (st3 _ (Steps.refl _))).trans (by
    refine XS.iloadN X3.here hexec rfl (hb hbytes d4) rfl ?_
    refine XS.ifYes X3.here hexec rfl (pc0 := 5) rfl (hb hbytes d5) rfl (i0_ne_t (nz32 (by omega) l0)) (by decide) rfl ?_
    exact Steps.refl _)
  obtain ⟨T5, X5, q5, st5⟩ := X3.sget hexec hown (wk W (.fieldLink "java/lang/String" 38 "java/lang/String" "COMPACT_STRINGS" "Z")) s1 (fun _ _ h => by rw [hh3]; exact h) (g := (mkF m 27 #[.val (.ref a), .val (.ref b), .val (.int (Int32.ofNat o)), .val (.int (Int32.ofNat len)), .val .null, .unset] [])) rfl (hb hbytes d27)
  have hh5 := q5.trans hh3
  have c6 : Steps p.tables e below (s₁.setTop (entryFrame m #[.ref a, .ref b, .int (Int32.ofNat o), .int (Int32.ofNat len), .null] 6)) (T5.setTop (mkF m 30 #[.val (.ref a), .val (.ref b), .val (.int (Int32.ofNat o)), .val (.int (Int32.ofNat len)), .val .null, .unset] [.int z])) := c4.trans (st5 _ (Steps.refl _))
  have c7 : Steps p.tables e below (s₁.setTop (entryFrame m #[.ref a, .ref b, .int (Int32.ofNat o), .int (Int32.ofNat len), .null] 6)) (T5.setTop (mkF m 36 #[.val (.ref a), .val (.ref b), .val (.int (Int32.ofNat o)), .val (.int (Int32.ofNat len)), .val .null, .unset] [.int (Int32.ofNat len), .int (Int32.ofNat o), .ref b])) := c6.trans (by
    refine XS.ifNo X5.here hexec rfl (hb hbytes d30) rfl (i0_eq_f hz) ?_
    refine XS.aloadN X5.here hexec rfl (hb hbytes d33) rfl rfl ?_
    refine XS.iloadN X5.here hexec rfl (hb hbytes d34) rfl ?_
    refine XS.iloadN X5.here hexec rfl (hb hbytes d35) rfl ?_
    exact Steps.refl _)
  obtain ⟨v8, T8, X8, E8, g8⟩ := X5.callS hexec (Cmp3.law l b A o len) hown (wks W (staticW "java/lang/String" 177 Cmp3.yN)) (wk W Cmp3.tab) (W := 0) (Nat.le_of_ble_eq_true rfl) (Nat.le_of_ble_eq_true rfl) (Nat.le_refl _) (by show 0 + len ≤ len; omega) (g := (mkF m 36 #[.val (.ref a), .val (.ref b), .val (.int (Int32.ofNat o)), .val (.int (Int32.ofNat len)), .val .null, .unset] [.int (Int32.ofNat len), .int (Int32.ofNat o), .ref b])) rfl (by rw [hml]; rfl) c7 (argsL := [.ref b, .int (Int32.ofNat o), .int (Int32.ofNat len)]) (rest := []) rfl rfl (by show 2 * 0 + 0 ≤ _; decide) (hb hbytes d36) (⟨rfl, hA.mv X5.warmed.alike hh5, l1, l2, hp⟩)
  obtain ⟨e8, z8⟩ := E8
  obtain ⟨rfl, N, n1, n2, n3, n4, n5, n6⟩ := NewArr.mv _ T5 s _ _ hh5.symm (Vm.Alike.refl _) rfl e8
  rw [hh5] at z8
  have hB1 := hB.keep X8.warmed.alike (n6 _ _ hB.1)
  have hne : s.heap.size ≠ a := (Nat.ne_of_lt (Array.getElem?_eq_some_iff.mp hB.1).1).symm
  have c9 : Steps p.tables e below (s₁.setTop (entryFrame m #[.ref a, .ref b, .int (Int32.ofNat o), .int (Int32.ofNat len), .null] 6)) (T8.setTop (mkF m 39 #[.val (.ref a), .val (.ref b), .val (.int (Int32.ofNat o)), .val (.int (Int32.ofNat len)), .val .null, .unset] [.ref s.heap.size])) := g8
  have c10 : Steps p.tables e below (s₁.setTop (entryFrame m #[.ref a, .ref b, .int (Int32.ofNat o), .int (Int32.ofNat len), .null] 6)) (T8.setTop (mkF m 45 #[.val (.ref a), .val (.ref b), .val (.int (Int32.ofNat o)), .val (.int (Int32.ofNat len)), .val .null, .val (.ref s.heap.size)] [.int (Int32.ofNat N.slots.size), .ref s.heap.size, .ref a])) := by
    have hc : Steps p.tables e below (s₁.setTop (entryFrame m #[.ref a, .ref b, .int (Int32.ofNat o), .int (Int32.ofNat len), .null] 6)) (T8.setTop (mkF m 45 #[.val (.ref a), .val (.ref b), .val (.int (Int32.ofNat o)), .val (.int (Int32.ofNat len)), .val .null, .val (.ref s.heap.size)] [.int (Int32.ofNat len), .ref s.heap.size, .ref a])) := c9.trans (by
      refine XS.astore X8.here hexec rfl (hb hbytes d39) rfl rfl rfl ?_
      refine XS.aloadN X8.here hexec rfl (hb hbytes d41) rfl rfl ?_
      refine XS.aload X8.here hexec rfl (hb hbytes d42) rfl rfl ?_
      refine XS.iloadN X8.here hexec rfl (hb hbytes d44) rfl ?_
      exact Steps.refl _)
    rw [n4]; exact hc
  obtain ⟨v11, T11, X11, E11, g11⟩ := X8.callS hexec (CodL.law l s.heap.size N) hown (wks W (staticW "java/lang/String" 47 CodL.yN)) (wk W CodL.tab) (W := 1) (Nat.le_of_ble_eq_true rfl) (Nat.le_of_ble_eq_true rfl) (Nat.le_refl _) (by show 0 + len + 0 ≤ len; omega) (g := (mkF m 45 #[.val (.ref a), .val (.ref b), .val (.int (Int32.ofNat o)), .val (.int (Int32.ofNat len)), .val .null, .val (.ref s.heap.size)] [.int (Int32.ofNat N.slots.size), .ref s.heap.size, .ref a])) rfl (by rw [hml]; rfl) c10 (argsL := [.ref s.heap.size, .int (Int32.ofNat N.slots.size)]) (rest := [.ref a]) rfl rfl (by show 2 * 0 + (1 + 0) ≤ _; decide) (hb hbytes d45) (⟨rfl, n1⟩)
  obtain ⟨rfl, q11⟩ := E11
  have hB11 := hB1.mv (X8.warmed.alike.symm.trans X11.warmed.alike) q11
  have c12 : Steps p.tables e below (s₁.setTop (entryFrame m #[.ref a, .ref b, .int (Int32.ofNat o), .int (Int32.ofNat len), .null] 6)) (T11.setTop (mkF m 48 #[.val (.ref a), .val (.ref b), .val (.int (Int32.ofNat o)), .val (.int (Int32.ofNat len)), .val .null, .val (.ref s.heap.size)] [.int 0, .ref a])) := g11
  obtain ⟨T13, X13, p13, bl13, sl13, st13⟩ := X11.finit hexec hown (wk W (.fieldLink "java/lang/String" 15 "java/lang/String" "coder" "B")) (Or.inr ⟨_, (wk W (.laysFinal "java/lang/String" "java/lang/String" "coder" "B"))⟩) (Or.inl ⟨rfl, hnm⟩) f2 (Or.inl rfl) hB11 (t := .byte) (by decide +kernel) rfl (g := (mkF m 48 #[.val (.ref a), .val (.ref b), .val (.int (Int32.ofNat o)), .val (.int (Int32.ofNat len)), .val .null, .val (.ref s.heap.size)] [.int 0, .ref a])) rfl (rest := []) rfl (hb hbytes d48)
  have c14 : Steps p.tables e below (s₁.setTop (entryFrame m #[.ref a, .ref b, .int (Int32.ofNat o), .int (Int32.ofNat len), .null] 6)) (T13.setTop (mkF m 54 #[.val (.ref a), .val (.ref b), .val (.int (Int32.ofNat o)), .val (.int (Int32.ofNat len)), .val .null, .val (.ref s.heap.size)] [.ref s.heap.size, .ref a])) := (c12.trans (st13 _ (Steps.refl _))).trans (by
    refine XS.aloadN X13.here hexec rfl (hb hbytes d51) rfl rfl ?_
    refine XS.aload X13.here hexec rfl (hb hbytes d52) rfl rfl ?_
    exact Steps.refl _)
  obtain ⟨T15, X15, p15, bl15, sl15, st15⟩ := X13.finit hexec hown (wk W (.fieldLink "java/lang/String" 9 "java/lang/String" "value" "[B")) (Or.inr ⟨_, (wk W (.laysFinal "java/lang/String" "java/lang/String" "value" "[B"))⟩) (Or.inl ⟨rfl, hnm⟩) f1 (Or.inl rfl) bl13 (t := (.array .byte)) (by decide +kernel) rfl (g := (mkF m 54 #[.val (.ref a), .val (.ref b), .val (.int (Int32.ofNat o)), .val (.int (Int32.ofNat len)), .val .null, .val (.ref s.heap.size)] [.ref s.heap.size, .ref a])) rfl (rest := []) rfl (hb hbytes d54)
  have c16 : Steps p.tables e below (s₁.setTop (entryFrame m #[.ref a, .ref b, .int (Int32.ofNat o), .int (Int32.ofNat len), .null] 6)) (T15.setTop (mkF m 57 #[.val (.ref a), .val (.ref b), .val (.int (Int32.ofNat o)), .val (.int (Int32.ofNat len)), .val .null, .val (.ref s.heap.size)] [])) := c14.trans (st15 _ (Steps.refl _))
  have ap := apart (Or.inr ⟨_, (wk W (.laysFinal "java/lang/String" "java/lang/String" "value" "[B"))⟩) (Or.inr ⟨_, (wk W (.laysFinal "java/lang/String" "java/lang/String" "coder" "B"))⟩) f1 f2 (t₁ := .array .byte) (t₂ := .byte) (by decide +kernel) (by decide +kernel) (by decide)
  have al := X8.warmed.alike.symm.trans X15.warmed.alike
  have n7 : T11.heap[s.heap.size]? = some N := by rw [q11]; exact n1.1
  exact ⟨T15, none, _, _, _, X15, by simp, rfl, by omega, (fun _ => rfl), ⟨rfl, _, N, bl15, ((Same.refl D _).set _ (by simp)).set _ (by simp), sl15, (Cell.slots_setSlot_ne _ ap).trans sl13, n1.keep al (p15.other hne (p13.other hne n7)), n2, by rw [al.findClass]; exact n3, n4, n5, fun y c h1 h2 => p15.other h1 (p13.other h1 (by rw [q11]; exact n6 y c h2)), by rw [p15.2.2, p13.2.2, q11]; exact z8⟩, fun fs hl => c16.trans (X15.returnOut hexec hret (hb hbytes d57) hl)⟩
end New4
namespace New1
def yN : MethodName := ⟨"java/lang/String", "<init>", "([C)V"⟩
abbrev yB : ByteArray := jdk_42_method_3_code
theorem d0 : decode yB 0 = .ok (.aload_n 0, 1) := by decide +kernel
theorem d1 : decode yB 1 = .ok (.aload_n 1, 1) := by decide +kernel
theorem d2 : decode yB 2 = .ok (.iconst 0, 1) := by decide +kernel
theorem d3 : decode yB 3 = .ok (.aload_n 1, 1) := by decide +kernel
theorem d4 : decode yB 4 = .ok (.arraylength, 1) := by decide +kernel
theorem d5 : decode yB 5 = .ok (.aconst_null, 1) := by decide +kernel
theorem d6 : decode yB 6 = .ok (.invokespecial 27, 3) := by decide +kernel
theorem d9 : decode yB 9 = .ok (.return_, 1) := by decide +kernel
def site : List Cond := [New4.tab] ++ initW "java/lang/String" 27 New4.yN
def tab : Cond := tabOf yN yB 2 none site
def P (a : Addr) (D : Cell) (fV fC : Field) (b : Addr) (A : Cell) (z : Int32) (args : Array Value) (s : State) : Prop := args = #[.ref a, .ref b] ∧ Blank "java/lang/String" a D s ∧ Found "java/lang/String" "value" "[B" fV s ∧ Found "java/lang/String" "coder" "B" fC s ∧ Ch b A s ∧ StaticIs s "java/lang/String" "COMPACT_STRINGS" "Z" (.int z) ∧ ¬ z = 0 ∧ 0 < A.slots.size ∧ A.slots.size ≤ 536870912 ∧ ∀ i, i < A.slots.size → ¬ 255 < cv A i
def E (a : Addr) (D : Cell) (fV fC : Field) (A : Cell) (r : Option Value) (s u : State) : Prop := Got a D fV fC A 0 A.slots.size r s u
/-- new String(chars), not empty, no char above 255: a Latin-1 String of their low bytes -/
theorem law (l : Launch) (a : Addr) (D : Cell) (fV fC : Field) (b : Addr) (A : Cell) (z : Int32) : Law l yN 2 1 3 52 yB 2 none site (P a D fV fC b A z) (E a D fV fC A) [⟨a, fC.slot⟩, ⟨a, fV.slot⟩] 1 A.slots.size := by
  refine Law.of_walk (plainFor_of_name (by decide +kernel)) (by decide +kernel) (by decide +kernel) (by decide) (fun _ _ h => by rw [h.1]; rfl) (fun _ U U' hal hh h => ⟨h.1, h.2.1.mv hal hh, h.2.2.1.al hal, h.2.2.2.1.al hal, h.2.2.2.2.1.mv hal hh, h.2.2.2.2.2.1.there hal hh, h.2.2.2.2.2.2⟩) (fun r U U' V V' h1 hal h2 h => Got.mv r U U' V V' h1 hal h2 h) ?_
  intro p e s m args below meth c s₁ X0 hexec hbytes hml hret hlk hnm hown hh0 W hP
  obtain ⟨rfl, hB, f1, f2, hA, s1, hz, l0, l2, hp⟩ := hP
  have c1 : Steps p.tables e below (s₁.setTop (entryFrame m #[.ref a, .ref b] 2)) (s₁.setTop (mkF m 0 #[.val (.ref a), .val (.ref b)] [])) := entry rfl
  have c2 : Steps p.tables e below (s₁.setTop (entryFrame m #[.ref a, .ref b] 2)) (s₁.setTop (mkF m 6 #[.val (.ref a), .val (.ref b)] [.null, .int (Int32.ofNat A.slots.size), .int 0, .ref b, .ref a])) := c1.trans (by
    refine XS.aloadN X0.here hexec rfl (hb hbytes d0) rfl rfl ?_
    refine XS.aloadN X0.here hexec rfl (hb hbytes d1) rfl rfl ?_
    refine iconstV X0.here hexec rfl 0 (hb hbytes d2) (by decide) ?_
    refine XS.aloadN X0.here hexec rfl (hb hbytes d3) rfl rfl ?_
    refine X0.alen hexec (hA.1.mv X0.warmed.alike hh0) rfl rfl (hb hbytes d4) ?_
    refine XS.aconstNull X0.here hexec rfl (hb hbytes d5) ?_
    exact Steps.refl _)
  obtain ⟨v3, T3, X3, E3, g3⟩ := X0.callN hexec (New4.law l a D fV fC b A z 0 A.slots.size) rfl hown (wks W (initW "java/lang/String" 27 New4.yN)) (W New4.tab (by simp only [site, List.mem_cons, List.mem_append, true_or, or_true])) (W := 0) (Nat.le_of_ble_eq_true rfl) (Nat.le_of_ble_eq_true rfl) (Nat.le_refl _) (by show 0 + A.slots.size ≤ A.slots.size; omega) (g := (mkF m 6 #[.val (.ref a), .val (.ref b)] [.null, .int (Int32.ofNat A.slots.size), .int (Int32.ofNat 0), .ref b, .ref a])) rfl (by rw [hml]; rfl) c2 (argsL := [.ref b, .int (Int32.ofNat 0), .int (Int32.ofNat A.slots.size), .null]) (rest := []) rfl rfl (by show 2 * 0 + 0 ≤ _; decide) (hb hbytes d6) (⟨rfl, hB.mv X0.warmed.alike hh0, f1.al X0.warmed.alike, f2.al X0.warmed.alike, hA.mv X0.warmed.alike hh0, s1.there X0.warmed.alike hh0, hz, l0, by omega, l2, fun i hi => by rw [Nat.zero_add]; exact hp i hi⟩)
  have e0 := Got.mv _ s₁ s _ _ hh0.symm (Vm.Alike.refl _) rfl E3
  obtain rfl := e0.1
  have c4 : Steps p.tables e below (s₁.setTop (entryFrame m #[.ref a, .ref b] 2)) (T3.setTop (mkF m 9 #[.val (.ref a), .val (.ref b)] [])) := g3
  exact ⟨T3, none, _, _, _, X3, by simp, rfl, by omega, (fun _ => rfl), e0, fun fs hl => c4.trans (X3.returnOut hexec hret (hb hbytes d9) hl)⟩
theorem pays {l : Launch} {R : Room} {p : Program} {e : Env} {below : List Frame} {s : State} {sargs : Array Value} {len W : Nat} (a : Addr) (D : Cell) (fV fC : Field) (b : Addr) (A : Cell) (z : Int32) (htab : tab.before sargs s = true) (hfr : 4 ≤ R.frames) (hlo : W + 65 ≤ R.locals) :
    Back l R p e below s sargs yN len W (fun A₁ a₁ => A₁.cells + 1 ≤ R.cells ∧ A₁.slots + A.slots.size ≤ R.slots ∧ P a D fV fC b A z a₁ A₁.U) (fun A₁ _ v₁ B₁ => E a D fV fC A v₁ A₁.U B₁.U ∧ B₁.locs = A₁.locs ++ [⟨a, fC.slot⟩, ⟨a, fV.slot⟩] ∧ B₁.cells = A₁.cells + 1 ∧ B₁.slots = A₁.slots + A.slots.size) :=
  (law l a D fV fC b A z).pays htab hfr (by omega)
end New1
/-- the byte, read back as charAt reads it, is the char -/
theorem lo8_mask {x : Int32} (h0 : ¬ x < 0) (h1 : ¬ 255 < x) : lo8 x &&& 255 = x := by
  have t : ∀ k : Fin 256, lo8 (Int32.ofNat k.val) &&& 255 = Int32.ofNat k.val := by decide +kernel
  rw [Int32.lt_iff_toInt_lt] at h0 h1
  have e0 : (0 : Int32).toInt = 0 := rfl
  have e1 : (255 : Int32).toInt = 255 := rfl
  obtain ⟨k, hk⟩ : ∃ k : Nat, x.toInt = k := ⟨x.toInt.toNat, by omega⟩
  have hx : x = Int32.ofNat k := Int32.toInt_inj.mp (by rw [hk, Int32.toInt_ofNat_small (by omega)])
  rw [hx]
  exact t ⟨k, by omega⟩
end StrChars
namespace StrChars.Road
open Jvm Sem ClassFile Op Lib Jvm.Stand Jvm.Free Jvm.Free.XT
open Jvm.Lib.Cold (StaticIs)
abbrev ST : String := "java/lang/String"
/-- every table word that New1's law asks, flat -/
abbrev words : List Jvm.Cond := [.code New1.yN New1.yB 2 none, .initialized ST, .methodLink ST 27 New4.yN, .instanceMethod New4.yN,
  .code New4.yN New4.yB 6 none, .fieldLink ST 38 ST "COMPACT_STRINGS" "Z", .laysFinal ST ST "value" "[B", .fieldLink ST 9 ST "value" "[B", .laysFinal ST ST "coder" "B", .fieldLink ST 15 ST "coder" "B",
  .methodLink ST 1 Lib.objectInit, .instanceMethod Lib.objectInit, .code Lib.objectInit ⟨#[0xb1]⟩ 1 none, .methodLink ST 177 Cmp3.yN, .static Cmp3.yN, .methodLink ST 47 CodL.yN, .static CodL.yN,
  .code Cmp3.yN Cmp3.yB 6 (some (.array .byte)), .initialized U16, .arrayClass .byte, .methodLink U16 115 Cmp5.yN, .static Cmp5.yN, .code Cmp5.yN Cmp5.yB 7 (some .int), .code CodL.yN CodL.yB 2 (some .byte)]
theorem tab_of {a : Array Value} {s : State} (h : ∀ w ∈ words, w.before a s = true) : New1.tab.before a s = true := by
  have h5 : Cmp5.tab.before a s = true := unparts (wk h (.code Cmp5.yN Cmp5.yB 7 (some .int))) (wks h (.initialized Cmp5.yN.cls :: Cmp5.site))
  have hc : CodL.tab.before a s = true := unparts (wk h (.code CodL.yN CodL.yB 2 (some .byte))) (wks h (.initialized CodL.yN.cls :: CodL.site))
  have q5 : ∀ w ∈ Cmp5.tab :: words, w.before a s = true := fun w hw => (List.mem_cons.mp hw).elim (fun e => e ▸ h5) (h w)
  have h3 : Cmp3.tab.before a s = true := unparts (wk q5 (.code Cmp3.yN Cmp3.yB 6 (some (.array .byte)))) (wks q5 (.initialized Cmp3.yN.cls :: Cmp3.site))
  have q3 : ∀ w ∈ Cmp3.tab :: CodL.tab :: words, w.before a s = true := fun w hw => (List.mem_cons.mp hw).elim (fun e => e ▸ h3) fun hw => (List.mem_cons.mp hw).elim (fun e => e ▸ hc) (h w)
  have h4 : New4.tab.before a s = true := unparts (wk q3 (.code New4.yN New4.yB 6 none)) (wks q3 (.initialized New4.yN.cls :: New4.site))
  have q4 : ∀ w ∈ New4.tab :: words, w.before a s = true := fun w hw => (List.mem_cons.mp hw).elim (fun e => e ▸ h4) (h w)
  exact unparts (wk q4 (.code New1.yN New1.yB 2 none)) (wks q4 (.initialized New1.yN.cls :: New1.site))
/-- the words ride from the start Z to the walk's own state -/
theorem moved {Z s : State} {a0 args : Array Value} (hZ : Z.Warmed39 s.vm) (hw : ∀ d ∈ words, d.before a0 Z = true) : ∀ d ∈ words, d.before args s = true := fun d hd => by
  have q := hw d hd
  have t : ∀ d ∈ words, d = .arrayClass .byte ∨ (d.onTables && d.keepsFace) = true := by decide +kernel
  rcases t d hd with rfl | t
  · exact RoadKit.mvA hZ q
  · exact RoadKit.mv hZ q t
/-- WHAT COMES BACK, over the tables of the start Z: h the heap at the call, h' behind it -/
def Q (Z : State) (x : Addr) (A : Cell) (h : Heap) (v : Option Value) (h' : Heap) (L : List Loc) : Prop := v = none ∧ (∀ y ∈ L, y.base = x) ∧ RoadKit.Keep h h' [x] ∧ h'.size = h.size + 1 ∧ RoadKit.Exa Z h' x ST ∧ RoadKit.Fld Z h' x ST "value" "[B" (.ref h.size) ∧ RoadKit.Fld Z h' x ST "coder" "B" (.int 0) ∧
  (∃ V : Cell, RoadKit.Arr Z h' h.size V .byte ∧ V.vm = .none ∧ Z.vm.findClass "[B" = some V.cls ∧ V.slots.size = A.slots.size ∧ ∀ j, j < A.slots.size → V.slots[j]? = some (.int (lo8 (cv A j)))) ∧
  ∀ (O n d : String) (w : Value), RoadKit.Fld Z h x O n d w → RoadKit.slotOf Z O n d ≠ RoadKit.slotOf Z ST "value" "[B" → RoadKit.slotOf Z O n d ≠ RoadKit.slotOf Z ST "coder" "B" → RoadKit.Fld Z h' x O n d w
/-- **new String(chars) AT A CALL, IN THE ROAD'S FORM**: for specialBack behind newO: x the fresh String, b the char[] with the cell A -/
theorem back {p : Program} {l : Launch} {e : Env} {R : Room} {s : State} {args : Array Value} {below : List Frame} {len W : Nat} {Z : State} {a0 : Array Value} {h : Heap} (hZ : Z.Warmed39 s.vm) (hw : ∀ d ∈ words, d.before a0 Z = true) {kI : Nat} (wi : (Jvm.Cond.instantiable ST kI).before a0 Z = true)
    {x b : Addr} {A : Cell} {z : Int32} {v0 c0 : Value} (E : RoadKit.Exa Z h x ST) (V : RoadKit.Fld Z h x ST "value" "[B" v0) (C : RoadKit.Fld Z h x ST "coder" "B" c0) (K : RoadKit.Arr Z h b A .char) (hty : Typed .char A) (S : RoadKit.Sta Z h ST "COMPACT_STRINGS" "Z" (.int z)) (hz : ¬ z = 0)
    (l0 : 0 < A.slots.size) (l2 : A.slots.size ≤ 536870912) (hp : ∀ i, i < A.slots.size → ¬ 255 < cv A i) (hfr : 4 ≤ R.frames) (hlo : W + 65 ≤ R.locals) :
    Back l R p e below s args New1.yN len W (fun P a => a = #[.ref x, .ref b] ∧ P.U.heap = h ∧ P.cells + 1 ≤ R.cells ∧ P.slots + A.slots.size ≤ R.slots)
      (fun P _ v B => ∃ L, Q Z x A h v B.U.heap L ∧ B.locs = P.locs ++ L ∧ B.cells = P.cells + 1 ∧ B.slots = P.slots + A.slots.size) := by
  intro m meth c P g ig mk a X hg hsize hdg hW hn hp'
  obtain ⟨rfl, rfl, r1, r2⟩ := hp'
  have al : Z.vm.Alike P.U.vm := hZ.alike.trans X.warmed.alike
  obtain ⟨D, cfV, kV, iV, fV, hD, gV, stV, knV, obV, asV, slV⟩ := id V
  obtain ⟨D', cfC, kC, iC, fC, hD', gC, stC, -, -, asC, slC⟩ := id C
  cases hD.symm.trans hD'
  obtain ⟨D2, kD, e1, e2, e3, e4, e5⟩ := id E
  cases hD.symm.trans e1
  obtain ⟨c2, k2, i1, i2, i3, -⟩ := Cond.instantiable_spec wi
  cases e2.symm.trans i1
  cases e3.symm.trans i2
  obtain ⟨kU, u1, u2⟩ := al.2.2 _ _ e3
  have hB : Blank ST x D P.U := ⟨hD, ⟨knV, fun q hq => by rw [hq] at obV; cases obV⟩, by rw [al.findClass]; exact e2, kU, u1, by rw [u2]; exact i3, by rw [u2]; exact e5 i3⟩
  have F1 : Found ST "value" "[B" fV P.U := ⟨SBG.found_only al ⟨cfV, kV, iV, gV⟩, stV⟩
  have F2 : Found ST "coder" "B" fC P.U := ⟨SBG.found_only al ⟨cfC, kC, iC, gC⟩, stC⟩
  have hA : Ch b A P.U := ⟨⟨K.1, State.isArrayOf_alike al K.2.1, K.2.2, by omega⟩, hty⟩
  have hS : StaticIs P.U ST "COMPACT_STRINGS" "Z" (.int z) := by
    obtain ⟨cfS, iS, kS, fS, st, cS, t1, t2, t3, t4, t5, t6, t7⟩ := S
    exact StaticIs.there (s := { Z with heap := P.U.heap }) ⟨cfS, iS, kS, fS, st, cS, t1, t2, t3, t4, t5, (fun q => by rw [q] at t6; cases t6), t7⟩ al rfl
  obtain ⟨v, B, X', ⟨⟨hv, E', V', q1, q2, q3, q4, q5, q6, q7, q8, q9, q10, q11⟩, hl, hc, hs⟩, st⟩ := New1.pays x D fV fC b A z (tab_of (moved hZ hw)) hfr hlo m meth c P g ig mk _ X hg hsize hdg hW hn ⟨r1, r2, rfl, hB, F1, F2, hA, hS, hz, l0, l2, hp⟩
  have al' : Z.vm.Alike B.U.vm := hZ.alike.trans X'.warmed.alike
  have hsz : E'.slots.size = D.slots.size := by
    obtain ⟨-, -, -, kB, w1, w2, w3⟩ := q1
    obtain ⟨kB', y1, y2⟩ := al'.2.2 _ _ e3
    rw [q2.2.1] at w1
    cases w1.symm.trans y1
    rw [w3, e5 i3, y2]
  refine ⟨v, B, X', ⟨_, ⟨hv, ?_, ⟨by omega, fun y cy hy hn' => q10 y cy (by simpa using hn') hy, fun y cy hy => ?_⟩, q11, ⟨E', _, q1.1, by rw [q2.2.1]; exact e2, by rw [q2.2.1]; exact e3, by rw [q2.1]; exact obV, fun _ => by rw [hsz]; exact e5 i3⟩,
    ⟨E', cfV, kV, iV, fV, q1.1, gV, stV, by rw [q2.1]; exact knV, by rw [q2.1]; exact obV, by rw [q2.2.1]; exact asV, q3⟩, ⟨E', cfC, kC, iC, fC, q1.1, gC, stC, by rw [q2.1]; exact knV, by rw [q2.1]; exact obV, by rw [q2.2.1]; exact asC, q4⟩,
    ⟨V', ⟨q5.1, State.isArrayOf_alike al'.symm q5.2.1, q5.2.2.1⟩, q6, by rw [← al'.findClass]; exact q7, q8, fun j hj => by have := q9 j hj; rwa [Nat.zero_add] at this⟩, fun O n d w F n1 n2 => ?_⟩, hl, hc, hs⟩, st⟩
  · intro y hy
    simp only [List.mem_cons, List.not_mem_nil, or_false] at hy
    rcases hy with rfl | rfl <;> rfl
  · by_cases q : y = x
    · subst q
      cases hD.symm.trans hy
      exact ⟨E', q1.1, q2.2.1, q2.1, hsz⟩
    · exact ⟨cy, q10 y cy q hy, rfl, rfl, rfl⟩
  · obtain ⟨D3, cf, k, i, f, g1, g2, g3, g4, g5, g6, g7⟩ := F
    cases hD.symm.trans g1
    simp only [RoadKit.slotOf, g2, gV, gC, Option.map_some, Option.getD_some] at n1 n2
    exact ⟨E', cf, k, i, f, q1.1, g2, g3, by rw [q2.1]; exact g4, by rw [q2.1]; exact g5, by rw [q2.2.1]; exact g6, by rw [q2.2.2 f.slot (by simp [n1, n2])]; exact g7⟩
end StrChars.Road
namespace StrChars.Road
open Jvm Sem ClassFile Op Lib Jvm.Stand Jvm.Free Jvm.Free.XT
/-- WHAT COMES BACK, the byte[] as a list of values -/
def QA (Z : State) (x : Addr) (zn : Int32) (cs : List Int32) (h : Heap) (v : Option Value) (h' : Heap) (L : List Loc) : Prop := v = none ∧ (∀ y ∈ L, y.base = x) ∧ RoadKit.Keep h h' [x] ∧ h'.size = h.size + 1 ∧ RoadKit.Exa Z h' x ST ∧ RoadKit.Fld Z h' x ST "value" "[B" (.ref h.size) ∧ RoadKit.Fld Z h' x ST "coder" "B" (.int 0) ∧
  (∃ kb, Z.vm.findClass "[B" = some kb ∧ RoadKit.Arv Z h' h.size kb .byte zn (cs.map fun c => .int (lo8 c)) (.int 0)) ∧
  ∀ (O n d : String) (w : Value), RoadKit.Fld Z h x O n d w → RoadKit.slotOf Z O n d ≠ RoadKit.slotOf Z ST "value" "[B" → RoadKit.slotOf Z O n d ≠ RoadKit.slotOf Z ST "coder" "B" → RoadKit.Fld Z h' x O n d w
/-- **new String(chars) AT A CALL, THE ARRAYS AS LISTS**: the char[] at b holds cs, not empty, no char above 255 -/
theorem backArv {p : Program} {l : Launch} {e : Env} {R : Room} {s : State} {args : Array Value} {below : List Frame} {len W : Nat} {Z : State} {a0 : Array Value} {h : Heap} (hZ : Z.Warmed39 s.vm) (hw : ∀ d ∈ words, d.before a0 Z = true) {kI : Nat} (wi : (Jvm.Cond.instantiable ST kI).before a0 Z = true)
    {x b : Addr} {k : ClassId} {zn z : Int32} {cs : List Int32} {dv v0 c0 : Value} (E : RoadKit.Exa Z h x ST) (V : RoadKit.Fld Z h x ST "value" "[B" v0) (C : RoadKit.Fld Z h x ST "coder" "B" c0) (K : RoadKit.Arv Z h b k .char zn (cs.map Value.int) dv) (S : RoadKit.Sta Z h ST "COMPACT_STRINGS" "Z" (.int z)) (hz : ¬ z = 0)
    (hlen : zn.toNatClampNeg = cs.length) (h0 : 0 < cs.length) (hbig : cs.length ≤ 536870912) (hall : ∀ c ∈ cs, ¬ 255 < c) (hfr : 4 ≤ R.frames) (hlo : W + 65 ≤ R.locals) :
    Back l R p e below s args New1.yN len W (fun P a => a = #[.ref x, .ref b] ∧ P.U.heap = h ∧ P.cells + 1 ≤ R.cells ∧ P.slots + cs.length ≤ R.slots)
      (fun P _ v B => ∃ L, QA Z x zn cs h v B.U.heap L ∧ B.locs = P.locs ++ L ∧ B.cells = P.cells + 1 ∧ B.slots = P.slots + cs.length) := by
  obtain ⟨A, K1, K2, K3, K4, K5, K6⟩ := K
  have e : A.slots.size = cs.length := K3.trans hlen
  have hat : ∀ (i : Nat) (hi : i < cs.length), A.slots[i]? = some (.int cs[i]) := fun i hi => by rw [K5 i (by omega)]; simp [List.getD_eq_getElem?_getD, hi]
  have hcv : ∀ (i : Nat) (hi : i < cs.length), cv A i = cs[i] := fun i hi => by unfold cv; rw [hat i hi]
  have hty : Typed .char A := fun i v hv => by
    have hi : i < A.slots.size := (Array.getElem?_eq_some_iff.mp hv).1
    have q := K5 i hi
    rw [hv] at q
    rw [Option.some.inj q]
    exact K6 i hi
  refine Back.mono (back hZ hw wi E V C K1 hty S hz (by omega) (by omega) (fun i hi => by rw [hcv i (by omega)]; exact hall _ (List.getElem_mem _)) hfr hlo) (fun P a hp => ⟨hp.1, hp.2.1, hp.2.2.1, by rw [e]; exact hp.2.2.2⟩) (fun P a v B hp hq => ?_)
  obtain ⟨L, ⟨q1, q2, q3, q4, q5, q6, q7, ⟨V', v1, v2, v3, v4, v5⟩, q9⟩, hl, hc, hs⟩ := hq
  refine ⟨L, ⟨q1, q2, q3, q4, q5, q6, q7, ⟨V'.cls, v3, V', v1, rfl, by rw [v4, e, hlen], K4, fun i hi => ?_, fun i hi => ?_⟩, q9⟩, hl, hc, by rw [hs, e]⟩
  · have hi' : i < cs.length := by omega
    rw [v5 i (by omega), hcv i hi']; simp [List.getD_eq_getElem?_getD, hi']
  · have hi' : i < cs.length := by omega
    simp only [List.getD_eq_getElem?_getD, List.getElem?_map, List.getElem?_eq_getElem hi', Option.map_some, Option.getD_some]
    exact fits_lo8 _
end StrChars.Road
namespace StrChars.Road
open Jvm Sem ClassFile Op Lib Jvm.Stand Jvm.Free Jvm.Free.XT
/-- WHAT COMES BACK, in the writer's own shape -/
def QV (Z : State) (x : Addr) (N : Int32) (bs : List Int32) (h : Heap) (n0 : Nat) (v : Option Value) (h' : Heap) (L : List Loc) : Prop := v = none ∧ RoadKit.Fr n0 L ∧ RoadKit.Keep h h' [x] ∧ RoadKit.Exa Z h' x ST ∧ RoadKit.Fld Z h' x ST "coder" "B" (.int 0) ∧
  ∃ (t : Addr) (kb : ClassId), n0 ≤ t ∧ h.size ≤ t ∧ ¬ t = x ∧ RoadKit.Fld Z h' x ST "value" "[B" (.ref t) ∧ RoadKit.Arv Z h' t kb .byte N (bs.map Value.int) (.int 0)
/-- **new String(chars) AT A CALL, FOR THE WRITER**: a char[] of n known ints, each 0 to 255 -/
theorem backV {p : Program} {l : Launch} {e : Env} {R : Room} {s : State} {args : Array Value} {below : List Frame} {len W : Nat} {Z : State} {a0 : Array Value} {h : Heap} (hZ : Z.Warmed39 s.vm) (hw : ∀ d ∈ words, d.before a0 Z = true) {kI : Nat} (wi : (Jvm.Cond.instantiable ST kI).before a0 Z = true)
    {x b : Addr} {kC : ClassId} {cs bs : List Int32} {d v0 c0 : Value} {z N : Int32} {n n0 : Nat} (hx0 : n0 ≤ x) (hh0 : n0 ≤ h.size) (E : RoadKit.Exa Z h x ST) (V : RoadKit.Fld Z h x ST "value" "[B" v0) (C : RoadKit.Fld Z h x ST "coder" "B" c0) (K : RoadKit.Arv Z h b kC .char N (cs.map Value.int) d) (S : RoadKit.Sta Z h ST "COMPACT_STRINGS" "Z" (.int z)) (hz : ¬ z = 0)
    (hn : cs.length = n) (hN : N = Int32.ofNat n) (l0 : 0 < n) (l2 : n ≤ 4000) (hp : ∀ c ∈ cs, ¬ c < 0 ∧ ¬ (255 : Int32) < c) (hb : bs = cs.map (fun c => c.toInt8.toInt32)) (hfr : 4 ≤ R.frames) (hlo : W + 65 ≤ R.locals) :
    Back l R p e below s args (⟨"java/lang/String", "<init>", "([C)V"⟩ : MethodName) len W (fun P a => a = #[.ref x, .ref b] ∧ P.U.heap = h ∧ P.cells + 1 ≤ R.cells ∧ P.slots + n ≤ R.slots)
      (fun P _ v B => ∃ L, QV Z x N bs h n0 v B.U.heap L ∧ B.locs = P.locs ++ L ∧ B.cells = P.cells + 1 ∧ B.slots = P.slots + n) := by
  subst hn hN hb
  refine Back.mono (backArv hZ hw wi E V C K S hz (n32 (by omega)) l0 (by omega) (fun c hc => (hp c hc).2) hfr hlo) (fun P a hp => hp) (fun P a v B hp hq => ?_)
  obtain ⟨L, ⟨q1, q2, q3, q4, q5, q6, q7, ⟨kb, v1, v2⟩, q9⟩, hl, hc, hs⟩ := hq
  exact ⟨L, ⟨q1, fun y hy => by rw [q2 y hy]; exact hx0, q3, q5, q7, h.size, kb, hh0, Nat.le_refl _, Nat.ne_of_gt E.lt, q6, by rw [List.map_map]; exact v2⟩, hl, hc, hs⟩
end StrChars.Road
namespace StrChars
open Jvm Sem ClassFile Op Lib Jvm.Stand Jvm.Free.XT Jvm.Free.ALB Jvm.Free.JM Jvm.Free
open Jvm.Lib.Cold (StaticIs)
def hi8 (x : Int32) : Int32 := lo8 (x >>> ((8 : Int32) &&& 31))
/-- what StringUTF16.getChar makes of two bytes -/
def pairCh (u v : Int32) : Int32 := (((u &&& 255) <<< ((0 : Int32) &&& 31)) ||| ((v &&& 255) <<< ((8 : Int32) &&& 31))).toUInt32.toUInt16.toUInt32.toInt32
theorem lo8_and (x : Int32) : (lo8 x &&& 255).toBitVec.toNat = x.toBitVec.toNat % 256 := by
  have h : (lo8 x).toBitVec = (x.toBitVec.signExtend 8).signExtend 32 := by rw [lo8, Int8.toBitVec_toInt32, Int32.toBitVec_toInt8]
  rw [Int32.toBitVec_and, BitVec.toNat_and, h]
  have e : ((x.toBitVec.signExtend 8).signExtend 32).toNat % 256 = x.toBitVec.toNat % 256 := by
    rw [BitVec.toNat_signExtend]
    have hlt := x.toBitVec.isLt
    simp only [BitVec.toNat_setWidth, BitVec.toNat_signExtend]
    split <;> split <;> omega
  rw [← e]
  exact Nat.and_two_pow_sub_one_eq_mod _ 8
theorem pair_says {c : Int32} (h0 : ¬ c < 0) (h1 : ¬ 65535 < c) : pairCh (lo8 c) (hi8 c) = c := by
  rw [Int32.lt_iff_toInt_lt] at h0 h1
  have e0 : (0 : Int32).toInt = 0 := rfl
  have e1 : (65535 : Int32).toInt = 65535 := rfl
  have hc : c.toInt = c.toBitVec.toNat := by
    have := c.toBitVec.isLt
    have e : c.toInt = c.toBitVec.toInt := rfl
    rw [e] at h0 h1
    rw [e]
    rw [BitVec.toInt_eq_toNat_cond] at h0 h1 ⊢
    split at h0 <;> split <;> omega
  have hn : c.toBitVec.toNat < 65536 := by omega
  have a1 := lo8_and c
  have a2 : (hi8 c &&& 255).toBitVec.toNat = c.toBitVec.toNat / 256 := by
    rw [hi8, lo8_and]
    have e : ((8 : Int32) &&& 31) = 8 := by decide
    rw [e, Int32.toBitVec_shiftRight]
    have e2 : ((8 : Int32).toBitVec.smod 32) = 8#32 := by decide
    rw [e2, BitVec.sshiftRight_eq', BitVec.toNat_sshiftRight_of_msb_false (by rw [BitVec.msb_eq_false_iff_two_mul_lt]; omega)]
    show c.toBitVec.toNat >>> 8 % 256 = _
    rw [Nat.shiftRight_eq_div_pow]
    omega
  unfold pairCh
  apply Int32.toBitVec_inj.mp
  apply BitVec.eq_of_toNat_eq
  have f0 : ((0 : Int32) &&& 31) = 0 := by decide
  have f8 : ((8 : Int32) &&& 31) = 8 := by decide
  rw [f0, f8]
  have g : (((lo8 c &&& 255) <<< (0 : Int32)) ||| ((hi8 c &&& 255) <<< (8 : Int32))).toBitVec.toNat = c.toBitVec.toNat := by
    rw [Int32.toBitVec_or, Int32.toBitVec_shiftLeft, Int32.toBitVec_shiftLeft]
    have s0 : ((0 : Int32).toBitVec.smod 32) = 0#32 := by decide
    have s8 : ((8 : Int32).toBitVec.smod 32) = 8#32 := by decide
    rw [s0, s8, BitVec.toNat_or]
    simp only [BitVec.shiftLeft_eq', BitVec.toNat_shiftLeft, a1, a2]
    show (c.toBitVec.toNat % 256) <<< 0 % 2 ^ 32 ||| (c.toBitVec.toNat / 256) <<< 8 % 2 ^ 32 = _
    rw [Nat.shiftLeft_zero, Nat.mod_eq_of_lt (show c.toBitVec.toNat % 256 < 2 ^ 32 by omega), Nat.mod_eq_of_lt (show (c.toBitVec.toNat / 256) <<< 8 < 2 ^ 32 by rw [Nat.shiftLeft_eq]; omega), Nat.or_comm, ← Nat.shiftLeft_add_eq_or_of_lt (by omega), Nat.shiftLeft_eq]
    omega
  show BitVec.toNat (((((lo8 c &&& 255) <<< (0 : Int32)) ||| ((hi8 c &&& 255) <<< (8 : Int32))).toBitVec.setWidth 16).setWidth 32) = _
  rw [BitVec.toNat_setWidth, BitVec.toNat_setWidth, g]
  omega
end StrChars
namespace StrChars
open Jvm Sem ClassFile Op Lib Jvm.Stand Jvm.Free.XT Jvm.Free.ALB Jvm.Free.JM Jvm.Free
open Jvm.Lib.Cold (StaticIs)
/-- the array's cell V codes the n chars f 0 .. f (n - 1) by the coder cd, as the JDK does: coder 1 just where some char is above 255 -/
def Cod (cd : Int32) (n : Nat) (f : Nat → Int32) (V : Cell) : Prop := (cd = 0 ∧ V.slots.size = n ∧ ∀ j, j < n → V.slots[j]? = some (.int (lo8 (f j))) ∧ ¬ 255 < f j) ∨ (cd = 1 ∧ V.slots.size = 2 * n ∧ (∀ j, j < n → V.slots[2 * j]? = some (.int (lo8 (f j))) ∧ V.slots[2 * j + 1]? = some (.int (hi8 (f j)))) ∧ ∃ j, j < n ∧ 255 < f j)
/-- **x is a String of the n chars f 0 .. f (n - 1)**, Latin-1 or UTF-16; its array at t has the cell V -/
def Txt (x t : Addr) (V : Cell) (cd : Int32) (n : Nat) (f : Nat → Int32) (U : State) : Prop := Exact "java/lang/String" x U ∧ Has x "java/lang/String" "value" "[B" (.ref t) U ∧ Has x "java/lang/String" "coder" "B" (.int cd) U ∧ XT.Arr .byte t V U ∧ Cod cd n f V ∧ ∀ j, j < n → ¬ f j < 0 ∧ ¬ 65535 < f j
theorem Txt.mv {x t : Addr} {V : Cell} {cd : Int32} {n : Nat} {f : Nat → Int32} {U U' : State} (h : Txt x t V cd n f U) (hal : U.vm.Alike U'.vm) (hh : U'.heap = U.heap) : Txt x t V cd n f U' := ⟨h.1.mv hal hh, h.2.1.mv hal hh, h.2.2.1.mv hal hh, h.2.2.2.1.mv hal hh, h.2.2.2.2⟩
end StrChars
namespace StrChars.Road
open Jvm Sem ClassFile Op Lib Jvm.Stand Jvm.Free Jvm.Free.XT
open Jvm.Lib.Cold (StaticIs)
theorem consq {a : Array Value} {s : State} {c : Jvm.Cond} {L : List Jvm.Cond} (h0 : c.before a s = true) (h : ∀ w ∈ L, w.before a s = true) : ∀ w ∈ c :: L, w.before a s = true := fun w hw => (List.mem_cons.mp hw).elim (fun e => e ▸ h0) (h w)
/-- the bytes of the chars cs, low before high -/
def wideBytes : List Int32 → List Value
  | [] => []
  | c :: cs => .int (lo8 c) :: .int (hi8 c) :: wideBytes cs
theorem wide_lo (d : Value) : ∀ (cs : List Int32) (j : Nat), j < cs.length → (wideBytes cs).getD (2 * j) d = .int (lo8 (cs.getD j 0))
  | [], j, h => absurd h (Nat.not_lt_zero j)
  | c :: cs, 0, _ => rfl
  | c :: cs, j + 1, h => by
    have q := wide_lo d cs j (by simpa using h)
    rw [show 2 * (j + 1) = 2 * j + 1 + 1 from by omega]
    simpa [wideBytes] using q
theorem wide_hi (d : Value) : ∀ (cs : List Int32) (j : Nat), j < cs.length → (wideBytes cs).getD (2 * j + 1) d = .int (hi8 (cs.getD j 0))
  | [], j, h => absurd h (Nat.not_lt_zero j)
  | c :: cs, 0, _ => rfl
  | c :: cs, j + 1, h => by
    have q := wide_hi d cs j (by simpa using h)
    rw [show 2 * (j + 1) + 1 = 2 * j + 1 + 1 + 1 from by omega]
    simpa [wideBytes] using q
theorem low_at (d : Value) (cs : List Int32) (j : Nat) (h : j < cs.length) : (cs.map fun c => Value.int (lo8 c)).getD j d = .int (lo8 (cs.getD j 0)) := by
  simp [List.getD_eq_getElem?_getD, h]
/-- an array of N2 bytes vs codes the chars cs by the coder cd -/
def CodA (cs : List Int32) (cd N2 : Int32) (vs : List Value) : Prop := (cd = 0 ∧ N2 = Int32.ofNat cs.length ∧ vs = (cs.map fun c => Value.int (lo8 c)) ∧ ∀ c ∈ cs, ¬ 255 < c) ∨ (cd = 1 ∧ N2 = Int32.ofNat (2 * cs.length) ∧ vs = wideBytes cs ∧ ∃ c ∈ cs, 255 < c)
theorem CodA.cod {cs : List Int32} {cd N2 : Int32} {vs : List Value} {V : Cell} (h : CodA cs cd N2 vs) (hn : 2 * cs.length < 2 ^ 31) (hs : V.slots.size = N2.toNatClampNeg) (hv : RoadKit.Has V vs (.int 0)) : Cod cd cs.length (fun j => cs.getD j 0) V := by
  rcases h with ⟨rfl, rfl, rfl, h⟩ | ⟨rfl, rfl, rfl, c, hc, hw⟩
  · rw [n32 (by omega)] at hs
    exact Or.inl ⟨rfl, hs, fun j hj => ⟨by rw [hv j (by omega), low_at _ _ _ hj], by
      have e : cs.getD j 0 = cs[j] := by simp [List.getD_eq_getElem?_getD, hj]
      show ¬ 255 < cs.getD j 0
      rw [e]; exact h _ (List.getElem_mem _)⟩⟩
  · rw [n32 (by omega)] at hs
    obtain ⟨j, hj, rfl⟩ := List.getElem_of_mem hc
    exact Or.inr ⟨rfl, hs, fun j hj => ⟨by rw [hv _ (by omega), wide_lo _ _ _ hj], by rw [hv _ (by omega), wide_hi _ _ _ hj]⟩, j, hj, by
      have e : cs.getD j 0 = cs[j] := by simp [List.getD_eq_getElem?_getD, hj]
      show 255 < cs.getD j 0
      rw [e]; exact hw⟩
/-- an object of exactly java/lang/String, its two fields found: as the laws ask it -/
theorem strObj {Z U : State} {a0 : Array Value} {kI : Nat} (wi : (Jvm.Cond.instantiable ST kI).before a0 Z = true) (al : Z.vm.Alike U.vm) {x : Addr} {v0 c0 : Value} (E : RoadKit.Exa Z U.heap x ST) (V : RoadKit.Fld Z U.heap x ST "value" "[B" v0) (C : RoadKit.Fld Z U.heap x ST "coder" "B" c0) :
    ∃ (D : Cell) (fV fC : Field), Blank ST x D U ∧ Found ST "value" "[B" fV U ∧ Found ST "coder" "B" fC U ∧ D.slots[fV.slot]? = some v0 ∧ D.slots[fC.slot]? = some c0 ∧ RoadKit.slotOf Z ST "value" "[B" = fV.slot ∧ RoadKit.slotOf Z ST "coder" "B" = fC.slot := by
  obtain ⟨D, cfV, kV, iV, fV, hD, gV, stV, knV, obV, asV, slV⟩ := V
  obtain ⟨D', cfC, kC, iC, fC, hD', gC, stC, -, -, asC, slC⟩ := C
  cases hD.symm.trans hD'
  obtain ⟨D2, kD, e1, e2, e3, e4, e5⟩ := E
  cases hD.symm.trans e1
  obtain ⟨c2, k2, i1, i2, i3, -⟩ := Cond.instantiable_spec wi
  cases e2.symm.trans i1
  cases e3.symm.trans i2
  obtain ⟨kU, u1, u2⟩ := al.2.2 _ _ e3
  exact ⟨D, fV, fC, ⟨hD, ⟨knV, fun q hq => by rw [hq] at obV; cases obV⟩, by rw [al.findClass]; exact e2, kU, u1, by rw [u2]; exact i3, by rw [u2]; exact e5 i3⟩, ⟨SBG.found_only al ⟨cfV, kV, iV, gV⟩, stV⟩, ⟨SBG.found_only al ⟨cfC, kC, iC, gC⟩, stC⟩, slV, slC, by simp [RoadKit.slotOf, gV], by simp [RoadKit.slotOf, gC]⟩
theorem sta_is {Z U : State} (al : Z.vm.Alike U.vm) {C n d : String} {v : Value} (S : RoadKit.Sta Z U.heap C n d v) : StaticIs U C n d v := by
  obtain ⟨cfS, iS, kS, fS, st, cS, t1, t2, t3, t4, t5, t6, t7⟩ := S
  exact StaticIs.there (s := { Z with heap := U.heap }) ⟨cfS, iS, kS, fS, st, cS, t1, t2, t3, t4, t5, (fun q => by rw [q] at t6; cases t6), t7⟩ al rfl
end StrChars.Road
namespace StrChars
open Jvm Sem ClassFile Op Lib Jvm.Stand Jvm.Free.XT Jvm.Free.ALB Jvm.Free.JM Jvm.Free
open Jvm.Lib.Cold (StaticIs)
/-- what place i of a byte[]'s cell holds -/
def yv (A : Cell) (i : Nat) : Int32 := match A.slots[i]? with | some (.int x) => x | _ => 0
theorem yv_get {a : Addr} {A : Cell} {U : State} (h : XT.Arr .byte a A U) (ht : Typed .byte A) {i : Nat} (hi : i < A.slots.size) : A.slots[i]? = some (.int (yv A i)) := by
  have e := Array.getElem?_eq_getElem hi
  have f := ht i _ e
  unfold yv; rw [e]
  generalize A.slots[i] = v at f
  cases v <;> simp [fits] at f ⊢
/-- the two arrays are equal, place for place -/
def EqC (A B : Cell) : Prop := A.slots.size = B.slots.size ∧ ∀ i, i < A.slots.size → yv A i = yv B i
/-- a boolean that says whether p -/
def Says01 (q : Prop) (r : Option Value) (s u : State) : Prop := ∃ v : Int32, r = some (.int v) ∧ u.heap = s.heap ∧ ((v = 1 ∧ q) ∨ (v = 0 ∧ ¬ q))
theorem Says01.mv {q : Prop} : ∀ r (U U' V V' : State), U'.heap = U.heap → V.vm.Alike V'.vm → V'.heap = V.heap → Says01 q r U V → Says01 q r U' V' :=
  fun r U U' V V' h1 _ h2 ⟨v, a, b, c⟩ => ⟨v, a, by rw [h1, h2]; exact b, c⟩
namespace LEq
def yN : MethodName := ⟨"java/lang/StringLatin1", "equals", "([B[B)Z"⟩
abbrev yB : ByteArray := jdk_43_method_13_code
theorem d0 : decode yB 0 = .ok (.aload_n 0, 1) := by decide +kernel
theorem d1 : decode yB 1 = .ok (.arraylength, 1) := by decide +kernel
theorem d2 : decode yB 2 = .ok (.aload_n 1, 1) := by decide +kernel
theorem d3 : decode yB 3 = .ok (.arraylength, 1) := by decide +kernel
theorem d4 : decode yB 4 = .ok (.if_icmp (.ne) 30, 3) := by decide +kernel
theorem d7 : decode yB 7 = .ok (.iconst 0, 1) := by decide +kernel
theorem d8 : decode yB 8 = .ok (.istore_n 2, 1) := by decide +kernel
theorem d9 : decode yB 9 = .ok (.iload_n 2, 1) := by decide +kernel
theorem d10 : decode yB 10 = .ok (.aload_n 0, 1) := by decide +kernel
theorem d11 : decode yB 11 = .ok (.arraylength, 1) := by decide +kernel
theorem d12 : decode yB 12 = .ok (.if_icmp (.ge) 20, 3) := by decide +kernel
theorem d15 : decode yB 15 = .ok (.aload_n 0, 1) := by decide +kernel
theorem d16 : decode yB 16 = .ok (.iload_n 2, 1) := by decide +kernel
theorem d17 : decode yB 17 = .ok (.baload, 1) := by decide +kernel
theorem d18 : decode yB 18 = .ok (.aload_n 1, 1) := by decide +kernel
theorem d19 : decode yB 19 = .ok (.iload_n 2, 1) := by decide +kernel
theorem d20 : decode yB 20 = .ok (.baload, 1) := by decide +kernel
theorem d21 : decode yB 21 = .ok (.if_icmp (.eq) 5, 3) := by decide +kernel
theorem d24 : decode yB 24 = .ok (.iconst 0, 1) := by decide +kernel
theorem d25 : decode yB 25 = .ok (.ireturn, 1) := by decide +kernel
theorem d26 : decode yB 26 = .ok (.iinc 2 1, 3) := by decide +kernel
theorem d29 : decode yB 29 = .ok (.goto (-20), 3) := by decide +kernel
theorem d32 : decode yB 32 = .ok (.iconst 1, 1) := by decide +kernel
theorem d33 : decode yB 33 = .ok (.ireturn, 1) := by decide +kernel
theorem d34 : decode yB 34 = .ok (.iconst 0, 1) := by decide +kernel
theorem d35 : decode yB 35 = .ok (.ireturn, 1) := by decide +kernel
def site : List Cond := []
def tab : Cond := tabOf yN yB 3 (some .boolean) site
def P (a : Addr) (A : Cell) (b : Addr) (B : Cell) (args : Array Value) (s : State) : Prop := args = #[.ref a, .ref b] ∧ XT.Arr .byte a A s ∧ Typed .byte A ∧ XT.Arr .byte b B s ∧ Typed .byte B
/-- whether two byte[] are equal, place for place -/
theorem law (l : Launch) (a : Addr) (A : Cell) (b : Addr) (B : Cell) : Law l yN 2 2 0 0 yB 3 (some .boolean) site (P a A b B) (Says01 (EqC A B)) [] 0 0 := by
  refine Law.of_walk (plainFor_of_name (by decide +kernel)) (by decide +kernel) (by decide +kernel) (by decide) (fun _ _ h => by rw [h.1]; rfl) (fun _ U U' hal hh h => ⟨h.1, h.2.1.mv hal hh, h.2.2.1, h.2.2.2.1.mv hal hh, h.2.2.2.2⟩) (fun r U U' V V' h1 hal h2 h => Says01.mv r U U' V V' h1 hal h2 h) ?_
  intro p e s m args below meth c s₁ X0 hexec hbytes hml hret hlk hnm hown hh0 W hP
  obtain ⟨rfl, hA, tA, hB, tB⟩ := hP
  have a31 := hA.2.2.2
  have b31 := hB.2.2.2
  have hA0 := hA.mv X0.warmed.alike hh0
  have hB0 := hB.mv X0.warmed.alike hh0
  have c1 : Steps p.tables e below (s₁.setTop (entryFrame m #[.ref a, .ref b] 3)) (s₁.setTop (mkF m 0 #[.val (.ref a), .val (.ref b), .unset] [])) := entry rfl
  have c2 : Steps p.tables e below (s₁.setTop (entryFrame m #[.ref a, .ref b] 3)) (s₁.setTop (mkF m 4 #[.val (.ref a), .val (.ref b), .unset] [.int (Int32.ofNat B.slots.size), .int (Int32.ofNat A.slots.size)])) := c1.trans (by
    refine XS.aloadN X0.here hexec rfl (hb hbytes d0) rfl rfl ?_
    refine X0.alen hexec hA0 rfl rfl (hb hbytes d1) ?_
    refine XS.aloadN X0.here hexec rfl (hb hbytes d2) rfl rfl ?_
    refine X0.alen hexec hB0 rfl rfl (hb hbytes d3) ?_
    exact Steps.refl _)
  by_cases hs : A.slots.size = B.slots.size
  · have c3 : Steps p.tables e below (s₁.setTop (entryFrame m #[.ref a, .ref b] 3)) (s₁.setTop (mkF m 9 #[.val (.ref a), .val (.ref b), .val (.int 0)] [])) := c2.trans (by
      refine XS.icmpNo X0.here hexec rfl (hb hbytes d4) rfl (ii_ne_f (by rw [hs])) ?_
      refine iconstV X0.here hexec rfl 0 (hb hbytes d7) (by decide) ?_
      refine XS.istoreN X0.here hexec rfl (hb hbytes d8) rfl rfl ?_
      exact Steps.refl _)
    have loop : ∀ (r i : Nat), i + r = A.slots.size → (∀ j, j < i → yv A j = yv B j) → Steps p.tables e below (s₁.setTop (entryFrame m #[.ref a, .ref b] 3)) (s₁.setTop (mkF m 9 #[.val (.ref a), .val (.ref b), .val (.int (Int32.ofNat i))] [])) → ∃ (pc : Nat) (Ls : Array Slot) (v : Int32), (pc = 25 ∨ pc = 33) ∧ ((v = 1 ∧ EqC A B) ∨ (v = 0 ∧ ¬ EqC A B)) ∧ Steps p.tables e below (s₁.setTop (entryFrame m #[.ref a, .ref b] 3)) (s₁.setTop (mkF m pc Ls [.int v])) := by
      intro r
      induction r with
      | zero =>
        intro i hi he cl
        exact ⟨33, _, 1, Or.inr rfl, Or.inl ⟨rfl, hs, fun j hj => he j (by omega)⟩, cl.trans (by
          refine XS.iloadN X0.here hexec rfl (hb hbytes d9) rfl ?_
          refine XS.aloadN X0.here hexec rfl (hb hbytes d10) rfl rfl ?_
          refine X0.alen hexec hA0 rfl rfl (hb hbytes d11) ?_
          refine XS.icmpYes X0.here hexec rfl (pc0 := 12) rfl (hb hbytes d12) rfl (ii_ge_t (nlt32 (by omega) (by omega))) (by decide) rfl ?_
          refine iconstV X0.here hexec rfl 1 (hb hbytes d32) (by decide) ?_
          exact Steps.refl _)⟩
      | succ r ih =>
        intro i hi he cl
        have c4 : Steps p.tables e below (s₁.setTop (entryFrame m #[.ref a, .ref b] 3)) (s₁.setTop (mkF m 21 #[.val (.ref a), .val (.ref b), .val (.int (Int32.ofNat i))] [.int (yv B i), .int (yv A i)])) := cl.trans (by
          refine XS.iloadN X0.here hexec rfl (hb hbytes d9) rfl ?_
          refine XS.aloadN X0.here hexec rfl (hb hbytes d10) rfl rfl ?_
          refine X0.alen hexec hA0 rfl rfl (hb hbytes d11) ?_
          refine XS.icmpNo X0.here hexec rfl (hb hbytes d12) rfl (ii_ge_f (lt32 (by omega) (by omega))) ?_
          refine XS.aloadN X0.here hexec rfl (hb hbytes d15) rfl rfl ?_
          refine XS.iloadN X0.here hexec rfl (hb hbytes d16) rfl ?_
          refine X0.aget hexec hA0 rfl (yv_get hA tA (i := i) (by omega)) rfl rfl (hb hbytes d17) ?_
          refine XS.aloadN X0.here hexec rfl (hb hbytes d18) rfl rfl ?_
          refine XS.iloadN X0.here hexec rfl (hb hbytes d19) rfl ?_
          refine X0.aget hexec hB0 rfl (yv_get hB tB (i := i) (by omega)) rfl rfl (hb hbytes d20) ?_
          exact Steps.refl _)
        by_cases hv : yv A i = yv B i
        · have c5 : Steps p.tables e below (s₁.setTop (entryFrame m #[.ref a, .ref b] 3)) (s₁.setTop (mkF m 9 #[.val (.ref a), .val (.ref b), .val (.int (Int32.ofNat i + 1))] [])) := c4.trans (by
            refine XS.icmpYes X0.here hexec rfl (pc0 := 21) rfl (hb hbytes d21) rfl (ii_eq_t hv) (by decide) rfl ?_
            refine iincV X0.here hexec rfl 1 (hb hbytes d26) (by decide) rfl rfl ?_
            refine XS.goto X0.here hexec rfl (pc0 := 29) rfl (hb hbytes d29) (by decide) rfl ?_
            exact Steps.refl _)
          rw [succ32] at c5
          exact ih (i + 1) (by omega) (fun j hj => by
            by_cases e : j = i
            · rw [e]; exact hv
            · exact he j (by omega)) c5
        · exact ⟨25, _, 0, Or.inl rfl, Or.inr ⟨rfl, fun q => hv (q.2 i (by omega))⟩, c4.trans (by
            refine XS.icmpNo X0.here hexec rfl (hb hbytes d21) rfl (ii_eq_f hv) ?_
            refine iconstV X0.here hexec rfl 0 (hb hbytes d24) (by decide) ?_
            exact Steps.refl _)⟩
    obtain ⟨pc, Ls, v, hpc, hv, cz⟩ := loop A.slots.size 0 (by omega) (fun j hj => absurd hj (Nat.not_lt_zero j)) c3
    have nv : narrow .boolean (.int v) = .int v := by rcases hv with ⟨rfl, -⟩ | ⟨rfl, -⟩ <;> rfl
    rcases hpc with rfl | rfl
    · exact ⟨s₁, some (.int v), _, _, _, X0, rfl, rfl, rfl, (fun h => by cases h), ⟨v, rfl, hh0, hv⟩, fun fs hl => cz.trans (X0.ireturnOut hexec hret nv (Or.inr (Or.inl rfl)) (hb hbytes d25) hl)⟩
    · exact ⟨s₁, some (.int v), _, _, _, X0, rfl, rfl, rfl, (fun h => by cases h), ⟨v, rfl, hh0, hv⟩, fun fs hl => cz.trans (X0.ireturnOut hexec hret nv (Or.inr (Or.inl rfl)) (hb hbytes d33) hl)⟩
  · have c3 : Steps p.tables e below (s₁.setTop (entryFrame m #[.ref a, .ref b] 3)) (s₁.setTop (mkF m 35 #[.val (.ref a), .val (.ref b), .unset] [.int 0])) := c2.trans (by
      refine XS.icmpYes X0.here hexec rfl (pc0 := 4) rfl (hb hbytes d4) rfl (ii_ne_t (ne32 a31 b31 hs)) (by decide) rfl ?_
      refine iconstV X0.here hexec rfl 0 (hb hbytes d34) (by decide) ?_
      exact Steps.refl _)
    exact ⟨s₁, some (.int 0), _, _, _, X0, rfl, rfl, rfl, (fun h => by cases h), ⟨0, rfl, hh0, Or.inr ⟨rfl, fun q => hs q.1⟩⟩, fun fs hl => c3.trans (X0.ireturnOut hexec hret rfl (Or.inr (Or.inl rfl)) (hb hbytes d35) hl)⟩
end LEq
theorem Cod.ty {cd : Int32} {n : Nat} {f : Nat → Int32} {V : Cell} (h : Cod cd n f V) : Typed .byte V := fun i v hv => by
  have hi : i < V.slots.size := (Array.getElem?_eq_some_iff.mp hv).1
  rcases h with ⟨-, k1, k2⟩ | ⟨-, k1, k2, -⟩
  · rw [(k2 i (by omega)).1] at hv; cases hv; exact fits_lo8 _
  · rcases Nat.mod_two_eq_zero_or_one i with e | e
    · obtain ⟨j, rfl⟩ : ∃ j, i = 2 * j := ⟨i / 2, by omega⟩
      rw [(k2 j (by omega)).1] at hv; cases hv; exact fits_lo8 _
    · obtain ⟨j, rfl⟩ : ∃ j, i = 2 * j + 1 := ⟨i / 2, by omega⟩
      rw [(k2 j (by omega)).2] at hv; cases hv; exact fits_lo8 _
/-- the same text -/
def SameT (n : Nat) (f : Nat → Int32) (k : Nat) (g : Nat → Int32) : Prop := n = k ∧ ∀ j, j < n → f j = g j
theorem lo8_inj {x y : Int32} (h0 : ¬ x < 0) (h1 : ¬ 255 < x) (k0 : ¬ y < 0) (k1 : ¬ 255 < y) (h : lo8 x = lo8 y) : x = y := by
  rw [← lo8_mask h0 h1, ← lo8_mask k0 k1, h]
/-- arrays coded by one coder are equal just where the texts are -/
theorem Cod.eqv {cd : Int32} {n k : Nat} {f g : Nat → Int32} {V V' : Cell} (h : Cod cd n f V) (h' : Cod cd k g V') (hf : ∀ j, j < n → ¬ f j < 0 ∧ ¬ 65535 < f j) (hg : ∀ j, j < k → ¬ g j < 0 ∧ ¬ 65535 < g j) : EqC V V' ↔ SameT n f k g := by
  have yvv : ∀ {W : Cell} {i : Nat} {x : Int32}, W.slots[i]? = some (.int x) → yv W i = x := fun q => by unfold yv; rw [q]
  rcases h with ⟨rfl, k1, k2⟩ | ⟨rfl, k1, k2, -⟩
  · rcases h' with ⟨-, m1, m2⟩ | ⟨e, -⟩
    · constructor
      · rintro ⟨e1, e2⟩
        refine ⟨by omega, fun j hj => ?_⟩
        have q := e2 j (by omega)
        rw [yvv (k2 j hj).1, yvv (m2 j (by omega)).1] at q
        exact lo8_inj (hf j hj).1 (k2 j hj).2 (hg j (by omega)).1 (m2 j (by omega)).2 q
      · rintro ⟨rfl, e2⟩
        refine ⟨by omega, fun j hj => ?_⟩
        rw [yvv (k2 j (by omega)).1, yvv (m2 j (by omega)).1, e2 j (by omega)]
    · exact absurd e (by decide)
  · rcases h' with ⟨e, -⟩ | ⟨-, m1, m2, -⟩
    · exact absurd e (by decide)
    · constructor
      · rintro ⟨e1, e2⟩
        refine ⟨by omega, fun j hj => ?_⟩
        have q1 := e2 (2 * j) (by omega)
        have q2 := e2 (2 * j + 1) (by omega)
        rw [yvv (k2 j hj).1, yvv (m2 j (by omega)).1] at q1
        rw [yvv (k2 j hj).2, yvv (m2 j (by omega)).2] at q2
        rw [← pair_says (hf j hj).1 (hf j hj).2, ← pair_says (hg j (by omega)).1 (hg j (by omega)).2, q1, q2]
      · rintro ⟨rfl, e2⟩
        refine ⟨by omega, fun i hi => ?_⟩
        rcases Nat.mod_two_eq_zero_or_one i with e | e
        · obtain ⟨j, rfl⟩ : ∃ j, i = 2 * j := ⟨i / 2, by omega⟩
          rw [yvv (k2 j (by omega)).1, yvv (m2 j (by omega)).1, e2 j (by omega)]
        · obtain ⟨j, rfl⟩ : ∃ j, i = 2 * j + 1 := ⟨i / 2, by omega⟩
          rw [yvv (k2 j (by omega)).2, yvv (m2 j (by omega)).2, e2 j (by omega)]
/-- two codings differ: so do the texts -/
theorem Cod.dif {cd cd' : Int32} {n k : Nat} {f g : Nat → Int32} {V V' : Cell} (h : Cod cd n f V) (h' : Cod cd' k g V') (hne : ¬ cd = cd') : ¬ SameT n f k g := by
  rintro ⟨rfl, e⟩
  rcases h with ⟨rfl, -, k2⟩ | ⟨rfl, -, -, j, hj, hw⟩
  · rcases h' with ⟨rfl, -⟩ | ⟨-, -, -, j, hj, hw⟩
    · exact hne rfl
    · exact (k2 j hj).2 (by rw [e j hj]; exact hw)
  · rcases h' with ⟨-, -, m2⟩ | ⟨rfl, -⟩
    · exact (m2 j hj).2 (by rw [← e j hj]; exact hw)
    · exact hne rfl
/-- an object of exactly C is an instance of C -/
theorem cinst {p : Program} {l : Launch} {e : Env} {R : Room} {s : State} {m : MethodId} {args : Array Value} {below : List Frame} {meth : Method} {c : Code} {T : State} {locs : List Loc} {cells slots : Nat} (X : Stand p l e R s m args below meth c T locs cells slots) (hexec : p.tables.exec = Jvm.exec) {own C : String} {index : Nat} (hown : s.vm.findClass own = some m.cls) (hlink : (Cond.classLink own index C).before args s = true) {a : Addr} (hE : Exact C a T)
    {g : JFrame} (hg : g.method = m) {rest : List Value} (hstack : g.stack = .ref a :: rest) (hdg : decode c.code g.pc = .ok (.instanceof index, 3)) :
    ∃ T', Stand p l e R s m args below meth c T' locs cells slots ∧ T'.heap = T.heap ∧ ∀ target, Steps p.tables e below (T'.setTop { g with pc := g.pc + 3, stack := .int 1 :: rest }) target → Steps p.tables e below (T.setTop g) target := by
  obtain ⟨cB, h1, D, h2, h3, h4⟩ := hE
  have h1' : s.vm.findClass C = some cB := by rw [← X.warmed.alike.findClass]; exact h1
  obtain ⟨vm', X', st⟩ := X.instanceofYes hexec hown hlink h2 h4 h1' (by rw [h3]; exact Jvm.Free.SB.assignable_self _ _) hg hstack hdg
  exact ⟨_, X', rfl, st⟩
theorem cself {p : Program} {l : Launch} {e : Env} {R : Room} {s : State} {m : MethodId} {args : Array Value} {below : List Frame} {meth : Method} {c : Code} {T : State} {locs : List Loc} {cells slots : Nat} (X : Stand p l e R s m args below meth c T locs cells slots) (hexec : p.tables.exec = Jvm.exec) {own C : String} {index : Nat} (hown : s.vm.findClass own = some m.cls) (hlink : (Cond.classLink own index C).before args s = true) {a : Addr} (hE : Exact C a T)
    {g : JFrame} (hg : g.method = m) {rest : List Value} (hstack : g.stack = .ref a :: rest) (hdg : decode c.code g.pc = .ok (.checkcast index, 3)) :
    ∃ T', Stand p l e R s m args below meth c T' locs cells slots ∧ T'.heap = T.heap ∧ ∀ target, Steps p.tables e below (T'.setTop { g with pc := g.pc + 3, stack := .ref a :: rest }) target → Steps p.tables e below (T.setTop g) target := by
  obtain ⟨cB, h1, D, h2, h3, h4⟩ := hE
  have h1' : s.vm.findClass C = some cB := by rw [← X.warmed.alike.findClass]; exact h1
  obtain ⟨vm', X', st⟩ := X.checkcastYes hexec hown hlink h2 h4 h1' (by rw [h3]; exact Jvm.Free.SB.assignable_self _ _) hg hstack hdg
  exact ⟨_, X', rfl, fun t h => st t (by rw [← hstack] at h; exact h)⟩
namespace SEq
def yN : MethodName := ⟨"java/lang/String", "equals", "(Ljava/lang/Object;)Z"⟩
abbrev yB : ByteArray := jdk_42_method_66_code
theorem d0 : decode yB 0 = .ok (.aload_n 0, 1) := by decide +kernel
theorem d1 : decode yB 1 = .ok (.aload_n 1, 1) := by decide +kernel
theorem d2 : decode yB 2 = .ok (.if_acmp (.ne) 5, 3) := by decide +kernel
theorem d5 : decode yB 5 = .ok (.iconst 1, 1) := by decide +kernel
theorem d6 : decode yB 6 = .ok (.ireturn, 1) := by decide +kernel
theorem d7 : decode yB 7 = .ok (.aload_n 1, 1) := by decide +kernel
theorem d8 : decode yB 8 = .ok (.instanceof 10, 3) := by decide +kernel
theorem d11 : decode yB 11 = .ok (.ifCond (.eq) 43, 3) := by decide +kernel
theorem d14 : decode yB 14 = .ok (.aload_n 1, 1) := by decide +kernel
theorem d15 : decode yB 15 = .ok (.checkcast 10, 3) := by decide +kernel
theorem d18 : decode yB 18 = .ok (.astore_n 2, 1) := by decide +kernel
theorem d19 : decode yB 19 = .ok (.getstatic 38, 3) := by decide +kernel
theorem d22 : decode yB 22 = .ok (.ifCond (.eq) 14, 3) := by decide +kernel
theorem d25 : decode yB 25 = .ok (.aload_n 0, 1) := by decide +kernel
theorem d26 : decode yB 26 = .ok (.getfield 15, 3) := by decide +kernel
theorem d29 : decode yB 29 = .ok (.aload_n 2, 1) := by decide +kernel
theorem d30 : decode yB 30 = .ok (.getfield 15, 3) := by decide +kernel
theorem d33 : decode yB 33 = .ok (.if_icmp (.ne) 21, 3) := by decide +kernel
theorem d36 : decode yB 36 = .ok (.aload_n 0, 1) := by decide +kernel
theorem d37 : decode yB 37 = .ok (.getfield 9, 3) := by decide +kernel
theorem d40 : decode yB 40 = .ok (.aload_n 2, 1) := by decide +kernel
theorem d41 : decode yB 41 = .ok (.getfield 9, 3) := by decide +kernel
theorem d44 : decode yB 44 = .ok (.invokestatic 541, 3) := by decide +kernel
theorem d47 : decode yB 47 = .ok (.ifCond (.eq) 7, 3) := by decide +kernel
theorem d50 : decode yB 50 = .ok (.iconst 1, 1) := by decide +kernel
theorem d51 : decode yB 51 = .ok (.goto 4, 3) := by decide +kernel
theorem d54 : decode yB 54 = .ok (.iconst 0, 1) := by decide +kernel
theorem d55 : decode yB 55 = .ok (.ireturn, 1) := by decide +kernel
def site : List Cond := [.classLink "java/lang/String" 10 "java/lang/String", .fieldLink "java/lang/String" 38 "java/lang/String" "COMPACT_STRINGS" "Z", .fieldLink "java/lang/String" 15 "java/lang/String" "coder" "B", .fieldLink "java/lang/String" 9 "java/lang/String" "value" "[B", LEq.tab] ++ staticW "java/lang/String" 541 LEq.yN
def tab : Cond := tabOf yN yB 3 (some .boolean) site
def P (x t : Addr) (V : Cell) (cd : Int32) (n : Nat) (f : Nat → Int32) (y t' : Addr) (V' : Cell) (cd' : Int32) (k : Nat) (g : Nat → Int32) (z : Int32) (args : Array Value) (s : State) : Prop := args = #[.ref x, .ref y] ∧ Txt x t V cd n f s ∧ Txt y t' V' cd' k g s ∧ StaticIs s "java/lang/String" "COMPACT_STRINGS" "Z" (.int z) ∧ ¬ z = 0
/-- equals(Object) of two Strings: whether the texts are the same -/
theorem law (l : Launch) (x t : Addr) (V : Cell) (cd : Int32) (n : Nat) (f : Nat → Int32) (y t' : Addr) (V' : Cell) (cd' : Int32) (k : Nat) (g : Nat → Int32) (z : Int32) : Law l yN 2 1 1 14 yB 3 (some .boolean) site (P x t V cd n f y t' V' cd' k g z) (Says01 (SameT n f k g)) [] 0 0 := by
  refine Law.of_walk (plainFor_of_name (by decide +kernel)) (by decide +kernel) (by decide +kernel) (by decide) (fun _ _ h => by rw [h.1]; rfl) (fun _ U U' hal hh h => ⟨h.1, h.2.1.mv hal hh, h.2.2.1.mv hal hh, h.2.2.2.1.there hal hh, h.2.2.2.2⟩) (fun r U U' V V' h1 hal h2 h => Says01.mv r U U' V V' h1 hal h2 h) ?_
  intro p e s m args below meth c s₁ X0 hexec hbytes hml hret hlk hnm hown hh0 W hP
  obtain ⟨rfl, hx, hy, s1, hz⟩ := hP
  have c1 : Steps p.tables e below (s₁.setTop (entryFrame m #[.ref x, .ref y] 3)) (s₁.setTop (mkF m 2 #[.val (.ref x), .val (.ref y), .unset] [.ref y, .ref x])) := Steps.trans (entry rfl) (by
    show Steps p.tables e below (s₁.setTop (mkF m 0 #[.val (.ref x), .val (.ref y), .unset] [])) _
    refine XS.aloadN X0.here hexec rfl (hb hbytes d0) rfl rfl ?_
    refine XS.aloadN X0.here hexec rfl (hb hbytes d1) rfl rfl ?_
    exact Steps.refl _)
  by_cases hxy : x = y
  · have c2 : Steps p.tables e below (s₁.setTop (entryFrame m #[.ref x, .ref y] 3)) (s₁.setTop (mkF m 6 #[.val (.ref x), .val (.ref y), .unset] [.int 1])) := c1.trans (by
      refine acmpNo X0.here hexec rfl (hb hbytes d2) rfl rfl rfl (by simp [acmp, hxy]) ?_
      refine iconstV X0.here hexec rfl 1 (hb hbytes d5) (by decide) ?_
      exact Steps.refl _)
    subst hxy
    have ec : cd = cd' := by
      obtain ⟨D, fd, a1, a2, a3⟩ := hx.2.2.1
      obtain ⟨D', fd', b1, b2, b3⟩ := hy.2.2.1
      cases a1.symm.trans b1
      obtain ⟨q1, q2, q3, q4⟩ := a2.1
      obtain ⟨r1, r2, r3, r4⟩ := b2.1
      cases q4.symm.trans r4
      cases a3.symm.trans b3; rfl
    have et : t = t' := by
      obtain ⟨D, fd, a1, a2, a3⟩ := hx.2.1
      obtain ⟨D', fd', b1, b2, b3⟩ := hy.2.1
      cases a1.symm.trans b1
      obtain ⟨q1, q2, q3, q4⟩ := a2.1
      obtain ⟨r1, r2, r3, r4⟩ := b2.1
      cases q4.symm.trans r4
      cases a3.symm.trans b3; rfl
    subst ec et
    have ev : V = V' := by cases hx.2.2.2.1.1.symm.trans hy.2.2.2.1.1; rfl
    subst ev
    have hs : SameT n f k g := (Cod.eqv hx.2.2.2.2.1 hy.2.2.2.2.1 hx.2.2.2.2.2 hy.2.2.2.2.2).mp ⟨rfl, fun _ _ => rfl⟩
    exact ⟨s₁, some (.int 1), _, _, _, X0, rfl, rfl, rfl, (fun h => by cases h), ⟨1, rfl, hh0, Or.inl ⟨rfl, hs⟩⟩, fun fs hl => c2.trans (X0.ireturnOut hexec hret rfl (Or.inr (Or.inl rfl)) (hb hbytes d6) hl)⟩
  · have c2 : Steps p.tables e below (s₁.setTop (entryFrame m #[.ref x, .ref y] 3)) (s₁.setTop (mkF m 8 #[.val (.ref x), .val (.ref y), .unset] [.ref y])) := c1.trans (by
      refine acmpYes X0.here hexec rfl (pc0 := 2) rfl (hb hbytes d2) rfl rfl rfl (by simp [acmp, hxy]) (by decide) rfl ?_
      refine XS.aloadN X0.here hexec rfl (hb hbytes d7) rfl rfl ?_
      exact Steps.refl _)
    obtain ⟨T3, X3, q3, st3⟩ := cinst X0 hexec hown (wk W (.classLink "java/lang/String" 10 "java/lang/String")) (hy.mv X0.warmed.alike hh0).1 (g := (mkF m 8 #[.val (.ref x), .val (.ref y), .unset] [.ref y])) rfl (rest := []) rfl (hb hbytes d8)
    have hh3 := q3.trans hh0
    have c4 : Steps p.tables e below (s₁.setTop (entryFrame m #[.ref x, .ref y] 3)) (T3.setTop (mkF m 15 #[.val (.ref x), .val (.ref y), .unset] [.ref y])) := (c2.trans (st3 _ (Steps.refl _))).trans (by
      refine XS.ifNo X3.here hexec rfl (hb hbytes d11) rfl (i0_eq_f (by decide)) ?_
      refine XS.aloadN X3.here hexec rfl (hb hbytes d14) rfl rfl ?_
      exact Steps.refl _)
    obtain ⟨T5, X5, q5, st5⟩ := cself X3 hexec hown (wk W (.classLink "java/lang/String" 10 "java/lang/String")) (hy.mv X3.warmed.alike hh3).1 (g := (mkF m 15 #[.val (.ref x), .val (.ref y), .unset] [.ref y])) rfl (rest := []) rfl (hb hbytes d15)
    have hh5 := q5.trans hh3
    have c6 : Steps p.tables e below (s₁.setTop (entryFrame m #[.ref x, .ref y] 3)) (T5.setTop (mkF m 19 #[.val (.ref x), .val (.ref y), .val (.ref y)] [])) := (c4.trans (st5 _ (Steps.refl _))).trans (by
      refine XS.astoreN X5.here hexec rfl (hb hbytes d18) rfl rfl rfl ?_
      exact Steps.refl _)
    obtain ⟨T7, X7, q7, st7⟩ := X5.sget hexec hown (wk W (.fieldLink "java/lang/String" 38 "java/lang/String" "COMPACT_STRINGS" "Z")) s1 (fun _ _ h => by rw [hh5]; exact h) (g := (mkF m 19 #[.val (.ref x), .val (.ref y), .val (.ref y)] [])) rfl (hb hbytes d19)
    have hh7 := q7.trans hh5
    have c8 : Steps p.tables e below (s₁.setTop (entryFrame m #[.ref x, .ref y] 3)) (T7.setTop (mkF m 26 #[.val (.ref x), .val (.ref y), .val (.ref y)] [.ref x])) := (c6.trans (st7 _ (Steps.refl _))).trans (by
      refine XS.ifNo X7.here hexec rfl (hb hbytes d22) rfl (i0_eq_f hz) ?_
      refine XS.aloadN X7.here hexec rfl (hb hbytes d25) rfl rfl ?_
      exact Steps.refl _)
    obtain ⟨T9, X9, q9, st9⟩ := X7.hget hexec hown (wk W (.fieldLink "java/lang/String" 15 "java/lang/String" "coder" "B")) (hx.mv X7.warmed.alike hh7).2.2.1 (g := (mkF m 26 #[.val (.ref x), .val (.ref y), .val (.ref y)] [.ref x])) rfl (rest := []) rfl (hb hbytes d26)
    have hh9 := q9.trans hh7
    have c10 : Steps p.tables e below (s₁.setTop (entryFrame m #[.ref x, .ref y] 3)) (T9.setTop (mkF m 30 #[.val (.ref x), .val (.ref y), .val (.ref y)] [.ref y, .int cd])) := (c8.trans (st9 _ (Steps.refl _))).trans (by
      refine XS.aloadN X9.here hexec rfl (hb hbytes d29) rfl rfl ?_
      exact Steps.refl _)
    obtain ⟨T11, X11, q11, st11⟩ := X9.hget hexec hown (wk W (.fieldLink "java/lang/String" 15 "java/lang/String" "coder" "B")) (hy.mv X9.warmed.alike hh9).2.2.1 (g := (mkF m 30 #[.val (.ref x), .val (.ref y), .val (.ref y)] [.ref y, .int cd])) rfl (rest := [.int cd]) rfl (hb hbytes d30)
    have hh11 := q11.trans hh9
    have c12 : Steps p.tables e below (s₁.setTop (entryFrame m #[.ref x, .ref y] 3)) (T11.setTop (mkF m 33 #[.val (.ref x), .val (.ref y), .val (.ref y)] [.int cd', .int cd])) := c10.trans (st11 _ (Steps.refl _))
    by_cases hcd : cd = cd'
    · subst hcd
      have c13 : Steps p.tables e below (s₁.setTop (entryFrame m #[.ref x, .ref y] 3)) (T11.setTop (mkF m 37 #[.val (.ref x), .val (.ref y), .val (.ref y)] [.ref x])) := c12.trans (by
        refine XS.icmpNo X11.here hexec rfl (hb hbytes d33) rfl (ii_ne_f rfl) ?_
        refine XS.aloadN X11.here hexec rfl (hb hbytes d36) rfl rfl ?_
        exact Steps.refl _)
      obtain ⟨T14, X14, q14, st14⟩ := X11.hget hexec hown (wk W (.fieldLink "java/lang/String" 9 "java/lang/String" "value" "[B")) (hx.mv X11.warmed.alike hh11).2.1 (g := (mkF m 37 #[.val (.ref x), .val (.ref y), .val (.ref y)] [.ref x])) rfl (rest := []) rfl (hb hbytes d37)
      have hh14 := q14.trans hh11
      have c15 : Steps p.tables e below (s₁.setTop (entryFrame m #[.ref x, .ref y] 3)) (T14.setTop (mkF m 41 #[.val (.ref x), .val (.ref y), .val (.ref y)] [.ref y, .ref t])) := (c13.trans (st14 _ (Steps.refl _))).trans (by
        refine XS.aloadN X14.here hexec rfl (hb hbytes d40) rfl rfl ?_
        exact Steps.refl _)
      obtain ⟨T16, X16, q16, st16⟩ := X14.hget hexec hown (wk W (.fieldLink "java/lang/String" 9 "java/lang/String" "value" "[B")) (hy.mv X14.warmed.alike hh14).2.1 (g := (mkF m 41 #[.val (.ref x), .val (.ref y), .val (.ref y)] [.ref y, .ref t])) rfl (rest := [.ref t]) rfl (hb hbytes d41)
      have hh16 := q16.trans hh14
      have c17 : Steps p.tables e below (s₁.setTop (entryFrame m #[.ref x, .ref y] 3)) (T16.setTop (mkF m 44 #[.val (.ref x), .val (.ref y), .val (.ref y)] [.ref t', .ref t])) := c15.trans (st16 _ (Steps.refl _))
      obtain ⟨v18, T18, X18, E18, g18⟩ := X16.callS hexec (LEq.law l t V t' V') hown (wks W (staticW "java/lang/String" 541 LEq.yN)) (wk W LEq.tab) (W := 0) (Nat.le_of_ble_eq_true rfl) (Nat.le_of_ble_eq_true rfl) (Nat.le_refl _) (Nat.le_refl _) (g := (mkF m 44 #[.val (.ref x), .val (.ref y), .val (.ref y)] [.ref t', .ref t])) rfl (by rw [hml]; rfl) c17 (argsL := [.ref t, .ref t']) (rest := []) rfl rfl (by show 2 * 0 + 0 ≤ _; decide) (hb hbytes d44) (⟨rfl, hx.2.2.2.1.mv X16.warmed.alike hh16, hx.2.2.2.2.1.ty, hy.2.2.2.1.mv X16.warmed.alike hh16, hy.2.2.2.2.1.ty⟩)
      obtain ⟨v, rfl, q18, hv⟩ := E18
      have iff := Cod.eqv hx.2.2.2.2.1 hy.2.2.2.2.1 hx.2.2.2.2.2 hy.2.2.2.2.2
      rcases hv with ⟨rfl, he⟩ | ⟨rfl, he⟩
      · have c19 : Steps p.tables e below (s₁.setTop (entryFrame m #[.ref x, .ref y] 3)) (T18.setTop (mkF m 55 #[.val (.ref x), .val (.ref y), .val (.ref y)] [.int 1])) := Steps.trans g18 (by
          refine XS.ifNo X18.here hexec rfl (hb hbytes d47) rfl (i0_eq_f (by decide)) ?_
          refine iconstV X18.here hexec rfl 1 (hb hbytes d50) (by decide) ?_
          refine XS.goto X18.here hexec rfl (pc0 := 51) rfl (hb hbytes d51) (by decide) rfl ?_
          exact Steps.refl _)
        exact ⟨T18, some (.int 1), _, _, _, X18, rfl, rfl, rfl, (fun h => by cases h), ⟨1, rfl, q18.trans hh16, Or.inl ⟨rfl, iff.mp he⟩⟩, fun fs hl => c19.trans (X18.ireturnOut hexec hret rfl (Or.inr (Or.inl rfl)) (hb hbytes d55) hl)⟩
      · have c19 : Steps p.tables e below (s₁.setTop (entryFrame m #[.ref x, .ref y] 3)) (T18.setTop (mkF m 55 #[.val (.ref x), .val (.ref y), .val (.ref y)] [.int 0])) := Steps.trans g18 (by
          refine XS.ifYes X18.here hexec rfl (pc0 := 47) rfl (hb hbytes d47) rfl (i0_eq_t rfl) (by decide) rfl ?_
          refine iconstV X18.here hexec rfl 0 (hb hbytes d54) (by decide) ?_
          exact Steps.refl _)
        exact ⟨T18, some (.int 0), _, _, _, X18, rfl, rfl, rfl, (fun h => by cases h), ⟨0, rfl, q18.trans hh16, Or.inr ⟨rfl, fun q => he (iff.mpr q)⟩⟩, fun fs hl => c19.trans (X18.ireturnOut hexec hret rfl (Or.inr (Or.inl rfl)) (hb hbytes d55) hl)⟩
    · have c13 : Steps p.tables e below (s₁.setTop (entryFrame m #[.ref x, .ref y] 3)) (T11.setTop (mkF m 55 #[.val (.ref x), .val (.ref y), .val (.ref y)] [.int 0])) := c12.trans (by
        refine XS.icmpYes X11.here hexec rfl (pc0 := 33) rfl (hb hbytes d33) rfl (ii_ne_t hcd) (by decide) rfl ?_
        refine iconstV X11.here hexec rfl 0 (hb hbytes d54) (by decide) ?_
        exact Steps.refl _)
      exact ⟨T11, some (.int 0), _, _, _, X11, rfl, rfl, rfl, (fun h => by cases h), ⟨0, rfl, hh11, Or.inr ⟨rfl, Cod.dif hx.2.2.2.2.1 hy.2.2.2.2.1 hcd⟩⟩, fun fs hl => c13.trans (X11.ireturnOut hexec hret rfl (Or.inr (Or.inl rfl)) (hb hbytes d55) hl)⟩
theorem pays {l : Launch} {R : Room} {p : Program} {e : Env} {below : List Frame} {s : State} {sargs : Array Value} {len W : Nat} (x t : Addr) (V : Cell) (cd : Int32) (n : Nat) (f : Nat → Int32) (y t' : Addr) (V' : Cell) (cd' : Int32) (k : Nat) (g : Nat → Int32) (z : Int32) (htab : tab.before sargs s = true) (hfr : 2 ≤ R.frames) (hlo : W + 28 ≤ R.locals) :
    Back l R p e below s sargs yN len W (fun A₁ a₁ => A₁.cells + 0 ≤ R.cells ∧ A₁.slots + 0 ≤ R.slots ∧ P x t V cd n f y t' V' cd' k g z a₁ A₁.U) (fun A₁ _ v₁ B₁ => Says01 (SameT n f k g) v₁ A₁.U B₁.U ∧ B₁.locs = A₁.locs ++ [] ∧ B₁.cells = A₁.cells + 0 ∧ B₁.slots = A₁.slots + 0) :=
  (law l x t V cd n f y t' V' cd' k g z).pays htab hfr (by omega)
end SEq
end StrChars
namespace StrChars.Road
open Jvm Sem ClassFile Op Lib Jvm.Stand Jvm.Free Jvm.Free.XT
open Jvm.Lib.Cold (StaticIs)
/-- the words of String.equals(Object) -/
abbrev wordsEq : List Jvm.Cond := [.code SEq.yN SEq.yB 3 (some .boolean), .initialized ST, .classLink ST 10 ST, .fieldLink ST 38 ST "COMPACT_STRINGS" "Z", .fieldLink ST 15 ST "coder" "B", .fieldLink ST 9 ST "value" "[B", .methodLink ST 541 LEq.yN, .static LEq.yN, .code LEq.yN LEq.yB 3 (some .boolean), .initialized "java/lang/StringLatin1"]
theorem tabEq_of {a : Array Value} {s : State} (h : ∀ w ∈ wordsEq, w.before a s = true) : SEq.tab.before a s = true := by
  have hl : LEq.tab.before a s = true := unparts (wk h (.code LEq.yN LEq.yB 3 (some .boolean))) (wks h (.initialized LEq.yN.cls :: LEq.site))
  have q := consq hl h
  exact unparts (wk q (.code SEq.yN SEq.yB 3 (some .boolean))) (wks q (.initialized SEq.yN.cls :: SEq.site))
theorem movedEq {Z s : State} {a0 args : Array Value} (hZ : Z.Warmed39 s.vm) (hw : ∀ d ∈ wordsEq, d.before a0 Z = true) : ∀ d ∈ wordsEq, d.before args s = true := fun d hd => by
  have t : ∀ d ∈ wordsEq, (d.onTables && d.keepsFace) = true := by decide +kernel
  exact RoadKit.mv hZ (hw d hd) (t d hd)
/-- the road's facts of a String, as the laws ask it -/
theorem txt_of {Z U : State} {a0 : Array Value} {kI : Nat} (wi : (Jvm.Cond.instantiable ST kI).before a0 Z = true) (al : Z.vm.Alike U.vm) {x t : Addr} {kb : ClassId} {cs : List Int32} {cd N2 : Int32} {vs : List Value} (E : RoadKit.Exa Z U.heap x ST) (V : RoadKit.Fld Z U.heap x ST "value" "[B" (.ref t)) (C : RoadKit.Fld Z U.heap x ST "coder" "B" (.int cd)) (K : RoadKit.Arv Z U.heap t kb .byte N2 vs (.int 0)) (hc : CodA cs cd N2 vs) (hb : ∀ c ∈ cs, ¬ c < 0 ∧ ¬ (65535 : Int32) < c) (l2 : cs.length ≤ 4000) :
    ∃ A, Txt x t A cd cs.length (fun j => cs.getD j 0) U := by
  obtain ⟨A, K1, K2, K3, K4, K5, K6⟩ := K
  have hcod := hc.cod (by omega) K3 K5
  obtain ⟨D, fV, fC, hB, F1, F2, g1, g2, -, -⟩ := strObj wi al E V C
  exact ⟨A, ⟨_, hB.2.2.1, D, hB.1, rfl, by cases q : D.vm <;> first | rfl | exact absurd q (hB.2.1.2 _)⟩, Has.of hB F1 g1, Has.of hB F2 g2, ⟨K1.1, State.isArrayOf_alike al K1.2.1, K1.2.2, by rcases hcod with ⟨-, q, -⟩ | ⟨-, q, -⟩ <;> omega⟩, hcod, fun j hj => by
    have e : cs.getD j 0 = cs[j] := by simp [List.getD_eq_getElem?_getD, hj]
    show ¬ cs.getD j 0 < 0 ∧ ¬ 65535 < cs.getD j 0
    rw [e]; exact hb _ (List.getElem_mem _)⟩
theorem same_list (cs ds : List Int32) : SameT cs.length (fun j => cs.getD j 0) ds.length (fun j => ds.getD j 0) ↔ cs = ds := by
  constructor
  · rintro ⟨e, q⟩
    refine List.ext_getElem e fun j h1 h2 => ?_
    have := q j h1
    simpa [List.getD_eq_getElem?_getD, h1, h2] using this
  · rintro rfl
    exact ⟨rfl, fun _ _ => rfl⟩
/-- **equals(Object) OF TWO SUCH STRINGS**: 1 just where the chars are the same -/
theorem eqW {p : Program} {l : Launch} {e : Env} {R : Room} {s : State} {args : Array Value} {below : List Frame} {len W : Nat} {Z : State} {a0 : Array Value} {h : Heap} (hZ : Z.Warmed39 s.vm) (hw : ∀ d ∈ wordsEq, d.before a0 Z = true) {kI : Nat} (wi : (Jvm.Cond.instantiable ST kI).before a0 Z = true)
    {x t : Addr} {kb : ClassId} {cs : List Int32} {cd N2 : Int32} {vs : List Value} (E : RoadKit.Exa Z h x ST) (V : RoadKit.Fld Z h x ST "value" "[B" (.ref t)) (C : RoadKit.Fld Z h x ST "coder" "B" (.int cd)) (K : RoadKit.Arv Z h t kb .byte N2 vs (.int 0)) (hc : CodA cs cd N2 vs) (hb : ∀ c ∈ cs, ¬ c < 0 ∧ ¬ (65535 : Int32) < c) (l2 : cs.length ≤ 4000)
    {y t' : Addr} {kb' : ClassId} {ds : List Int32} {cd' N2' : Int32} {vs' : List Value} (E' : RoadKit.Exa Z h y ST) (V' : RoadKit.Fld Z h y ST "value" "[B" (.ref t')) (C' : RoadKit.Fld Z h y ST "coder" "B" (.int cd')) (K' : RoadKit.Arv Z h t' kb' .byte N2' vs' (.int 0)) (hc' : CodA ds cd' N2' vs') (hb' : ∀ c ∈ ds, ¬ c < 0 ∧ ¬ (65535 : Int32) < c) (l2' : ds.length ≤ 4000)
    {z : Int32} (S : RoadKit.Sta Z h ST "COMPACT_STRINGS" "Z" (.int z)) (hz : ¬ z = 0) (hfr : 2 ≤ R.frames) (hlo : W + 28 ≤ R.locals) :
    Back l R p e below s args (⟨"java/lang/String", "equals", "(Ljava/lang/Object;)Z"⟩ : MethodName) len W (fun P a => a = #[.ref x, .ref y] ∧ P.U.heap = h ∧ P.cells + 0 ≤ R.cells ∧ P.slots + 0 ≤ R.slots)
      (fun P _ v B => ∃ L, (((v = some (.int 1) ∧ cs = ds) ∨ (v = some (.int 0) ∧ ¬ cs = ds)) ∧ L = [] ∧ B.U.heap = h) ∧ B.locs = P.locs ++ L ∧ B.cells = P.cells + 0 ∧ B.slots = P.slots + 0) := by
  intro m meth c P g ig mk a X hg hsize hdg hW hn hp'
  obtain ⟨rfl, rfl, r1, r2⟩ := hp'
  have al : Z.vm.Alike P.U.vm := hZ.alike.trans X.warmed.alike
  obtain ⟨A, hx⟩ := txt_of wi al E V C K hc hb l2
  obtain ⟨A', hy⟩ := txt_of wi al E' V' C' K' hc' hb' l2'
  obtain ⟨v, B, X', ⟨⟨w, hv, hh, hq⟩, hl, hk, hs⟩, st⟩ := SEq.pays x t A cd cs.length (fun j => cs.getD j 0) y t' A' cd' ds.length (fun j => ds.getD j 0) z (tabEq_of (movedEq hZ hw)) hfr hlo m meth c P g ig mk _ X hg hsize hdg hW hn ⟨r1, r2, rfl, hx, hy, sta_is al S, hz⟩
  refine ⟨v, B, X', ⟨[], ⟨?_, rfl, hh⟩, hl, hk, hs⟩, st⟩
  rcases hq with ⟨rfl, q⟩ | ⟨rfl, q⟩
  · exact Or.inl ⟨hv, (same_list cs ds).mp q⟩
  · exact Or.inr ⟨hv, fun e => q ((same_list cs ds).mpr e)⟩
end StrChars.Road
namespace StrChars.Road
open Jvm Sem ClassFile Op Lib Jvm.Stand Jvm.Free Jvm.Free.XT
open Jvm.Lib.Cold (StaticIs)
/-- what backV says of its String, as the contracts of this text ask it: cs's low bytes, coder 0 -/
theorem codOf {cs : List Int32} {n : Nat} (hn : cs.length = n) (hb : ∀ c ∈ cs, ¬ 255 < c) : CodA cs 0 (Int32.ofNat n) ((cs.map lo8).map Value.int) := Or.inl ⟨rfl, by rw [hn], by simp [List.map_map, Function.comp_def], hb⟩
end StrChars.Road
end Jvm.Pilot.@@N@@
@@BLOCK:NumsL.lean.txt@@
namespace Jvm.Pilot.@@N@@
open Jvm Jvm.ClassFile Sem Op Lib Jvm.Free Jvm.Stand Jvm.LawKit Jvm.RoadKit Bundle Jvm.Pilot.@@N@@.Jvm.D
theorem own_EW {Z : State} {a0 : Array Value} (hw : ∀ d ∈ tables_1, d.before a0 Z = true) : EW Z a0 consts_1 := (EW.cons (hw _ (List.mem_of_getElem? (i := 37) rfl)) (by decide) EW.nil)
theorem own_wS {Z : State} {a0 : Array Value} (hw : ∀ d ∈ tables_1, d.before a0 Z = true) : ∀ a ∈ Bundle.stringAtoms, a.before a0 Z = true := fun d hd => hw d ((by decide +kernel : ∀ d ∈ Bundle.stringAtoms, d ∈ tables_1) d hd)
theorem own_up (cs : List Int32) (h : ∀ c ∈ cs, ¬ c < 0 ∧ ¬ (255 : Int32) < c) : ∀ c ∈ cs, ¬ c < 0 ∧ ¬ (65535 : Int32) < c := fun c hc => ⟨(h c hc).1, fun q => (h c hc).2 (by rw [Int32.lt_iff_toInt_lt] at q ⊢; have e1 : (65535 : Int32).toInt = 65535 := rfl; have e2 : (255 : Int32).toInt = 255 := rfl; omega)⟩
theorem own_all0 {P : Int32 → Prop} : ∀ c ∈ ([] : List Int32), P c := fun _ h => nomatch h
theorem own_allS {P : Int32 → Prop} {a : Int32} {L : List Int32} (h : P a) (r : ∀ c ∈ L, P c) : ∀ c ∈ a :: L, P c := fun c hc => (List.mem_cons.mp hc).elim (fun e => e ▸ h) (r c)
/-- a String of these chars -/
def OStr (Z : State) (h : Heap) (x : Addr) (cs : List Int32) : Prop := ∃ (t : Addr) (kb : ClassId) (cd N2 : Int32) (vs : List Value), Exa Z h x "java/lang/String" ∧ Fld Z h x "java/lang/String" "value" "[B" (.ref t) ∧ Fld Z h x "java/lang/String" "coder" "B" (.int cd) ∧ Arv Z h t kb .byte N2 vs (.int (0 : Int32)) ∧ StrChars.Road.CodA cs cd N2 vs
theorem own_cod0 : StrChars.Road.CodA [] 0 (0 : Int32) [] := Or.inl ⟨rfl, rfl, rfl, fun _ h => nomatch h⟩
theorem own_and255 (x : Int32) : ¬ ((x &&& (255 : Int32)).toUInt32.toUInt16.toUInt32.toInt32) < 0 ∧ ¬ (255 : Int32) < ((x &&& (255 : Int32)).toUInt32.toUInt16.toUInt32.toInt32) := by
  have t : ∀ k : Fin 256, ¬ ((Int32.ofNat k.val).toUInt32.toUInt16.toUInt32.toInt32) < 0 ∧ ¬ (255 : Int32) < ((Int32.ofNat k.val).toUInt32.toUInt16.toUInt32.toInt32) := by decide +kernel
  have h : (x &&& 255).toBitVec.toNat < 256 := by
    simp only [Int32.toBitVec_and, BitVec.toNat_and]
    exact Nat.lt_succ_of_le Nat.and_le_right
  have e : (x &&& 255) = Int32.ofNat (x &&& 255).toBitVec.toNat := by
    apply Int32.toBitVec_inj.mp
    show _ = BitVec.ofNat 32 _
    rw [BitVec.ofNat_toNat]; simp
  rw [e]
  exact t ⟨_, h⟩
theorem own_and3 (x : Int32) : (x &&& (3 : Int32)) = 0 ∨ (x &&& (3 : Int32)) = 1 ∨ (x &&& (3 : Int32)) = 2 ∨ (x &&& (3 : Int32)) = 3 := by
  have t : ∀ k : Fin 4, (Int32.ofNat k.val) = 0 ∨ (Int32.ofNat k.val) = 1 ∨ (Int32.ofNat k.val) = 2 ∨ (Int32.ofNat k.val) = 3 := by decide +kernel
  have h : (x &&& 3).toBitVec.toNat < 4 := by
    simp only [Int32.toBitVec_and, BitVec.toNat_and]
    exact Nat.lt_succ_of_le Nat.and_le_right
  have e : (x &&& 3) = Int32.ofNat (x &&& 3).toBitVec.toNat := by
    apply Int32.toBitVec_inj.mp
    show _ = BitVec.ofNat 32 _
    rw [BitVec.ofNat_toNat]; simp
  rw [e]
  exact t ⟨_, h⟩
theorem own_narc {x : Int32} (h : ¬ x < 0 ∧ ¬ (255 : Int32) < x) : nar .char x = x := by
  have h1 := h.1
  have h2 := h.2
  rw [Int32.lt_iff_toInt_lt, show (0 : Int32).toInt = 0 from rfl] at h1
  rw [Int32.lt_iff_toInt_lt, show (255 : Int32).toInt = 255 from rfl] at h2
  obtain ⟨k, rfl⟩ : ∃ k : Fin 256, x = Int32.ofNat k.val := ⟨⟨x.toInt.toNat, by omega⟩, by
    rw [← Int32.toInt_inj, Int32.toInt_ofNat_of_lt (by omega)]
    show x.toInt = ((x.toInt.toNat : Nat) : Int)
    omega⟩
  clear h h1 h2
  revert k
  decide +kernel
def own_str (n a b c : Int32) : List Int32 := if n = (0 : Int32) then [] else if n = (1 : Int32) then [a] else if n = (2 : Int32) then [a, b] else [a, b, c]
theorem own_eqstr {t o c0 c1 c2 d0 d1 d2 : Int32} (ht : t = 0 ∨ t = 1 ∨ t = 2 ∨ t = 3) (ho : o = 0 ∨ o = 1 ∨ o = 2 ∨ o = 3) : own_str t c0 c1 c2 = own_str o d0 d1 d2 ↔ (t = o ∧ (t < (1 : Int32) ∨ c0 = d0) ∧ (t < (2 : Int32) ∨ c1 = d1) ∧ (t < (3 : Int32) ∨ c2 = d2)) := by
  rcases ht with rfl | rfl | rfl | rfl <;> rcases ho with rfl | rfl | rfl | rfl <;> simp +decide [own_str]
theorem own_strb {n a b c : Int32} (ha : ¬ a < 0 ∧ ¬ (255 : Int32) < a) (hb : ¬ b < 0 ∧ ¬ (255 : Int32) < b) (hc : ¬ c < 0 ∧ ¬ (255 : Int32) < c) : (∀ x ∈ own_str n a b c, ¬ x < 0 ∧ ¬ (255 : Int32) < x) ∧ (own_str n a b c).length ≤ 4000 := by
  unfold own_str
  split
  · exact ⟨own_all0, by decide⟩
  split
  · exact ⟨own_allS ha own_all0, Nat.le_of_ble_eq_true rfl⟩
  split
  · exact ⟨own_allS ha (own_allS hb own_all0), Nat.le_of_ble_eq_true rfl⟩
  · exact ⟨own_allS ha (own_allS hb (own_allS hc own_all0)), Nat.le_of_ble_eq_true rfl⟩
theorem d3_0 : decode jdk_42_method_149_code 0 = .ok (.aload_n 0, 1) := by decide +kernel
theorem d3_1 : decode jdk_42_method_149_code 1 = .ok (.invokespecial 1, 3) := by decide +kernel
theorem d3_4 : decode jdk_42_method_149_code 4 = .ok (.iload_n 3, 1) := by decide +kernel
theorem d3_5 : decode jdk_42_method_149_code 5 = .ok (.ifCond .ne 22, 3) := by decide +kernel
theorem d3_8 : decode jdk_42_method_149_code 8 = .ok (.aload_n 0, 1) := by decide +kernel
theorem d3_9 : decode jdk_42_method_149_code 9 = .ok (.ldc 7, 2) := by decide +kernel
theorem d3_11 : decode jdk_42_method_149_code 11 = .ok (.getfield 9, 3) := by decide +kernel
theorem d3_14 : decode jdk_42_method_149_code 14 = .ok (.putfield 9, 3) := by decide +kernel
theorem d3_17 : decode jdk_42_method_149_code 17 = .ok (.aload_n 0, 1) := by decide +kernel
theorem d3_18 : decode jdk_42_method_149_code 18 = .ok (.ldc 7, 2) := by decide +kernel
theorem d3_20 : decode jdk_42_method_149_code 20 = .ok (.getfield 15, 3) := by decide +kernel
theorem d3_23 : decode jdk_42_method_149_code 23 = .ok (.putfield 15, 3) := by decide +kernel
theorem d3_26 : decode jdk_42_method_149_code 26 = .ok (.return_, 1) := by decide +kernel
theorem d3_27 : decode jdk_42_method_149_code 27 = .ok (.getstatic 38, 3) := by decide +kernel
theorem d3_30 : decode jdk_42_method_149_code 30 = .ok (.ifCond .eq 28, 3) := by decide +kernel
theorem d3_33 : decode jdk_42_method_149_code 33 = .ok (.aload_n 1, 1) := by decide +kernel
theorem d3_34 : decode jdk_42_method_149_code 34 = .ok (.iload_n 2, 1) := by decide +kernel
theorem d3_35 : decode jdk_42_method_149_code 35 = .ok (.iload_n 3, 1) := by decide +kernel
theorem d3_36 : decode jdk_42_method_149_code 36 = .ok (.invokestatic 177, 3) := by decide +kernel
theorem d3_39 : decode jdk_42_method_149_code 39 = .ok (.astore 5, 2) := by decide +kernel
theorem d3_41 : decode jdk_42_method_149_code 41 = .ok (.aload_n 0, 1) := by decide +kernel
theorem d3_42 : decode jdk_42_method_149_code 42 = .ok (.aload 5, 2) := by decide +kernel
theorem d3_44 : decode jdk_42_method_149_code 44 = .ok (.iload_n 3, 1) := by decide +kernel
theorem d3_45 : decode jdk_42_method_149_code 45 = .ok (.invokestatic 47, 3) := by decide +kernel
theorem d3_48 : decode jdk_42_method_149_code 48 = .ok (.putfield 15, 3) := by decide +kernel
theorem d3_51 : decode jdk_42_method_149_code 51 = .ok (.aload_n 0, 1) := by decide +kernel
theorem d3_52 : decode jdk_42_method_149_code 52 = .ok (.aload 5, 2) := by decide +kernel
theorem d3_54 : decode jdk_42_method_149_code 54 = .ok (.putfield 9, 3) := by decide +kernel
theorem d3_57 : decode jdk_42_method_149_code 57 = .ok (.return_, 1) := by decide +kernel
theorem d3_58 : decode jdk_42_method_149_code 58 = .ok (.aload_n 0, 1) := by decide +kernel
theorem d3_59 : decode jdk_42_method_149_code 59 = .ok (.iconst 1, 1) := by decide +kernel
theorem d3_60 : decode jdk_42_method_149_code 60 = .ok (.putfield 15, 3) := by decide +kernel
theorem d3_63 : decode jdk_42_method_149_code 63 = .ok (.aload_n 0, 1) := by decide +kernel
theorem d3_64 : decode jdk_42_method_149_code 64 = .ok (.aload_n 1, 1) := by decide +kernel
theorem d3_65 : decode jdk_42_method_149_code 65 = .ok (.iload_n 2, 1) := by decide +kernel
theorem d3_66 : decode jdk_42_method_149_code 66 = .ok (.iload_n 3, 1) := by decide +kernel
theorem d3_67 : decode jdk_42_method_149_code 67 = .ok (.invokestatic 180, 3) := by decide +kernel
theorem d3_70 : decode jdk_42_method_149_code 70 = .ok (.putfield 9, 3) := by decide +kernel
theorem d3_73 : decode jdk_42_method_149_code 73 = .ok (.return_, 1) := by decide +kernel
theorem pn_java_lang_String : plainName "java/lang/String" = true := by first | (simp [plainName, overriddenIn]; done) | decide +kernel
def Q_rmE4 (Z : State) (x : Addr) (b : Addr) (h0 : Heap) (n0 : Nat) (v : Option Value) (h : Heap) (L : List Loc) : Prop := v = none ∧ Fr n0 L ∧ Keep h0 h [x] ∧ OStr Z h x []
theorem pd_2829V : parseMethodDescriptor "()V" = some ⟨[], none⟩ := by decide +kernel
theorem pd_285bBI29B : parseMethodDescriptor "([BI)B" = some ⟨[(.array .byte), .int], some .byte⟩ := by decide +kernel
theorem pd_285bCII295bB : parseMethodDescriptor "([CII)[B" = some ⟨[(.array .char), .int, .int], some (.array .byte)⟩ := by decide +kernel
set_option maxRecDepth 65536 in
set_option maxHeartbeats 40000000 in
theorem rmE4 (l : Launch) (Z : State) (a0 : Array Value) (hw : ∀ d ∈ tables_1, d.before a0 Z = true) (ws : List Jvm.Cond) (x : Addr) (b : Addr) (h0 : Heap) (n0 : Nat) (O0 : Old Z n0 h0) (F_value_x : Fld Z h0 x "java/lang/String" "value" "[B" .null) (F_coder_x : Fld Z h0 x "java/lang/String" "coder" "B" (.int (0 : Int32))) (E_x : Exa Z h0 x "java/lang/String") (ge_x : n0 ≤ x) :
    MetFree l (⟨"java/lang/String", "<init>", "([CIILjava/lang/Void;)V"⟩ : MethodName) (head1 (Jvm.Cond.code (⟨"java/lang/String", "<init>", "([CIILjava/lang/Void;)V"⟩ : MethodName) jdk_42_method_149_code 6 none :: ws) ({ frames := 1, cells := 4, slots := 8, locals := 40 } : Room)) (fun ar' U => ar' = #[(.ref x), (.ref b), (.int (0 : Int32)), (.int (0 : Int32)), .null] ∧ Z.Warmed39 U.vm ∧ U.heap = h0 ∧ CHv Z consts_1 U.vm h0) (fun _ _ _ _ _ => True) (fun _ U o U' => ∃ v L, o = .returned v ∧ (Q_rmE4 Z x b h0 n0) v U'.heap L ∧ CHr Z consts_1 U.vm U.heap U'.vm U'.heap ∧ ReturnedEndW U o U' L ({ frames := 1, cells := 4, slots := 8, locals := 40 } : Room).cells ({ frames := 1, cells := 4, slots := 8, locals := 40 } : Room).slots) := by
  refine MetFree.of_bodySF (plainFor_of_name pn_java_lang_String) hisR ?_
  intro p e s m args below meth c s₁ Bd hml0 hP hK
  obtain ⟨rfl, hZ, hh, hCH0⟩ := hP
  have hx := Bd.exec
  have hby := Bd.bytes
  have hlk := BodyLoose.notSynchronized Bd
  have hml : c.maxLocals = 6 := hml0
  have hown : s.vm.findClass "java/lang/String" = some m.cls := findClass_of_methodNamed Bd.named
  have hnm := (name_of_methodNamed Bd.named Bd.method).1
  have X0 : Stand p l e ({ frames := 1, cells := 4, slots := 8, locals := 40 } : Room) (s.setVm s.vm) m #[(.ref x), (.ref b), (.int (0 : Int32)), (.int (0 : Int32)), .null] below meth c s₁ [] 0 0 := Stand.of_body Bd
  have e0 : s₁.heap = h0 := by rw [← hh, Bd.state]; rfl
  have N0 := Fr.nil n0
  have Z0 : n0 ≤ h0.size := O0.1 ▸ O0.2.1
  have hEL : EW Z a0 consts_1 := own_EW hw
  have wS := own_wS hw
  have es : s.heap = h0 := hh
  have hS : s.Since s.vm h0.size := (State.WarmedH.refl s).since _
  have hk : h0.size ≤ h0.size := Nat.le_refl _
  have CR : CHr Z consts_1 s.vm h0 s.vm h0 := CHr.refl hCH0
  show OEndsW p e below s Z consts_1 ({ frames := 1, cells := 4, slots := 8, locals := 40 } : Room).cells ({ frames := 1, cells := 4, slots := 8, locals := 40 } : Room).slots (Q_rmE4 Z x b h0 n0) (s₁.setTop (entryFrame m #[(.ref x), (.ref b), (.int (0 : Int32)), (.int (0 : Int32)), .null] 6))
  refine OEndsW.via (fun _ k => castTop (show entryFrame m #[(.ref x), (.ref b), (.int (0 : Int32)), (.int (0 : Int32)), .null] 6 = (mkF m 0 #[.val (.ref x), .val (.ref b), .val (.int (0 : Int32)), .val (.int (0 : Int32)), .val .null, .unset] []) by first | (simp [entryFrame, mkF, argsToLocals, Value.category, maxLocals]; done) | rfl) k) ?_
  have Od := O0
  have Kp := Keep.refl h0 [x]
  have sf_x : Safe Z consts_1 s.vm h0 x := own_safe_null hZ.alike E_x F_value_x
  show OEndsW p e below s _ _ _ _ _ (s₁.setTop (mkF m 0 #[.val (.ref x), .val (.ref b), .val (.int (0 : Int32)), .val (.int (0 : Int32)), .val .null, .unset] []))
  refine OEndsW.via (fun _ k => XS.aloadN X0.here hx rfl (hb hby d3_0) rfl rfl k) ?_
  show OEndsW p e below s _ _ _ _ _ (s₁.setTop (mkF m 1 #[.val (.ref x), .val (.ref b), .val (.int (0 : Int32)), .val (.int (0 : Int32)), .val .null, .unset] [(.ref x)]))
  obtain ⟨T1, X1, e1, st1⟩ := initO X0 hx hZ hown (hw _ (List.mem_of_getElem? (i := 18) rfl)) (hw _ (List.mem_of_getElem? (i := 19) rfl)) (hw _ (List.mem_of_getElem? (i := 20) rfl)) e0 (g := (mkF m 1 #[.val (.ref x), .val (.ref b), .val (.int (0 : Int32)), .val (.int (0 : Int32)), .val .null, .unset] [(.ref x)])) rfl (by rw [hml]; rfl) rfl (hb hby d3_1) (by decide) (W := 0) (by show 2 * 0 + _ ≤ _; exact Nat.le_of_eq rfl) (by decide)
  refine OEndsW.via (fun _ k => st1 _ k) ?_
  show OEndsW p e below s _ _ _ _ _ (T1.setTop (mkF m 4 #[.val (.ref x), .val (.ref b), .val (.int (0 : Int32)), .val (.int (0 : Int32)), .val .null, .unset] []))
  refine OEndsW.via (fun _ k => XS.iloadN X1.here hx rfl (hb hby d3_4) rfl k) ?_
  show OEndsW p e below s _ _ _ _ _ (T1.setTop (mkF m 5 #[.val (.ref x), .val (.ref b), .val (.int (0 : Int32)), .val (.int (0 : Int32)), .val .null, .unset] [(.int (0 : Int32))]))
  refine OEndsW.via (fun _ k => XS.ifNo X1.here hx rfl (hb hby d3_5) rfl ((if0 _ _).trans (teq (by decide : (0 : Int32) = (0 : Int32))).2) k) ?_
  show OEndsW p e below s _ _ _ _ _ (T1.setTop (mkF m 8 #[.val (.ref x), .val (.ref b), .val (.int (0 : Int32)), .val (.int (0 : Int32)), .val .null, .unset] []))
  refine OEndsW.via (fun _ k => XS.aloadN X1.here hx rfl (hb hby d3_8) rfl rfl k) ?_
  show OEndsW p e below s _ _ _ _ _ (T1.setTop (mkF m 9 #[.val (.ref x), .val (.ref b), .val (.int (0 : Int32)), .val (.int (0 : Int32)), .val .null, .unset] [(.ref x)]))
  obtain ⟨q2, T2, h2, k12, qv2, kq2, X2, e2, E2, hS2, hk2, hZ2, hown2, E_q2, C_q2, V_q2, K_q2, la2, lb2, CH2, Lt2, hsafe2, st2⟩ := ldcCH X1 hx hZ hown (hw _ (List.mem_of_getElem? (i := 37) rfl)) wS e1 hS hk hEL (by decide : ("java/lang/String", 7) ∈ consts_1) CR.1 (vs := []) (z := (0 : Int32)) (by decide) (by decide) (by decide) (g := (mkF m 9 #[.val (.ref x), .val (.ref b), .val (.int (0 : Int32)), .val (.int (0 : Int32)), .val .null, .unset] [(.ref x)])) rfl (hb hby d3_9) (n := 0) (by decide) (by decide) (by decide) (by decide)
  replace sf_x := CH2.safe F_value_x.lt sf_x
  have ne_x_q2 := (hsafe2 _ sf_x).1
  have ne_x_qv2 := (hsafe2 _ sf_x).2
  replace Od := Od.ext E2
  replace Kp := Kp.ext E2
  replace F_value_x := Fld.ext E2 F_value_x
  replace F_coder_x := Fld.ext E2 F_coder_x
  replace E_x := Exa.ext E2 E_x
  replace CR := CR.trans CH2
  replace hS := hS2
  replace hk := hk2
  replace hZ := hZ2
  replace hown := hown2
  refine OEndsW.via (fun _ k => st2 _ k) ?_
  show OEndsW p e below s _ _ _ _ _ (T2.setTop (mkF m 11 #[.val (.ref x), .val (.ref b), .val (.int (0 : Int32)), .val (.int (0 : Int32)), .val .null, .unset] [(.ref q2), (.ref x)]))
  obtain ⟨T3, X3, e3, st3⟩ := getF X2 hx hZ hown (host := "") (Or.inl (hw _ (List.mem_of_getElem? (i := 35) rfl))) Via.refl e2 V_q2 (g := (mkF m 11 #[.val (.ref x), .val (.ref b), .val (.int (0 : Int32)), .val (.int (0 : Int32)), .val .null, .unset] [(.ref q2), (.ref x)])) rfl rfl (hb hby d3_11)
  refine OEndsW.via (fun _ k => st3 _ k) ?_
  show OEndsW p e below s _ _ _ _ _ (T3.setTop (mkF m 14 #[.val (.ref x), .val (.ref b), .val (.int (0 : Int32)), .val (.int (0 : Int32)), .val .null, .unset] [(.ref qv2), (.ref x)]))
  obtain ⟨T4, h4, X4, e4, W4, st4⟩ := putF X3 hx hZ hown (host := "") (Or.inl (hw _ (List.mem_of_getElem? (i := 35) rfl))) Via.refl e3 F_value_x E_x (Or.inr ⟨(hw _ (List.mem_of_getElem? (i := 36) rfl)), rfl, hnm⟩) (hw _ (List.mem_of_getElem? (i := 8) rfl)) (ty := (.array .byte)) (by decide) rfl rfl (g := (mkF m 14 #[.val (.ref x), .val (.ref b), .val (.int (0 : Int32)), .val (.int (0 : Int32)), .val .null, .unset] [(.ref qv2), (.ref x)])) rfl rfl (hb hby d3_14)
  have N4 := Fr.snoc X4 N0 ge_x
  have sfw4 := sf_x
  replace hk := Nat.le_trans hk (Keep.of_wr W4).1
  replace Od := Od.wr W4 ge_x
  replace Kp := Kp.wr W4 (Or.inl (by simp))
  replace F_value_x := Fld.same W4 F_value_x
  replace F_coder_x := Fld.other W4 F_coder_x (Or.inr (slot_ne (Or.inr (hw _ (List.mem_of_getElem? (i := 34) rfl))) (Or.inr (hw _ (List.mem_of_getElem? (i := 36) rfl))) (by decide) (t := .byte) (t' := (.array .byte)) (by decide) (by decide)))
  replace E_x := Exa.wr W4 E_x
  replace sf_x := Safe.wr W4 sfw4 CR.1 sf_x
  replace E_q2 := Exa.wr W4 E_q2
  replace C_q2 := Fld.other W4 C_q2 (Or.inl (Ne.symm ne_x_q2))
  replace V_q2 := Fld.other W4 V_q2 (Or.inl (Ne.symm ne_x_q2))
  replace K_q2 := K_q2.other W4 (Ne.symm ne_x_qv2)
  replace CR := CR.trans (CHr.wr W4 sfw4 CR.1)
  refine OEndsW.via (fun _ k => st4 _ k) ?_
  show OEndsW p e below s _ _ _ _ _ (T4.setTop (mkF m 17 #[.val (.ref x), .val (.ref b), .val (.int (0 : Int32)), .val (.int (0 : Int32)), .val .null, .unset] []))
  refine OEndsW.via (fun _ k => XS.aloadN X4.here hx rfl (hb hby d3_17) rfl rfl k) ?_
  show OEndsW p e below s _ _ _ _ _ (T4.setTop (mkF m 18 #[.val (.ref x), .val (.ref b), .val (.int (0 : Int32)), .val (.int (0 : Int32)), .val .null, .unset] [(.ref x)]))
  obtain ⟨q5, T5, h5, k15, qv5, kq5, X5, e5, E5, hS5, hk5, hZ5, hown5, E_q5, C_q5, V_q5, K_q5, la5, lb5, CH5, Lt5, hsafe5, st5⟩ := ldcCH X4 hx hZ hown (hw _ (List.mem_of_getElem? (i := 37) rfl)) wS e4 hS hk hEL (by decide : ("java/lang/String", 7) ∈ consts_1) CR.1 (vs := []) (z := (0 : Int32)) (by decide) (by decide) (by decide) (g := (mkF m 18 #[.val (.ref x), .val (.ref b), .val (.int (0 : Int32)), .val (.int (0 : Int32)), .val .null, .unset] [(.ref x)])) rfl (hb hby d3_18) (n := 0) (by decide) (by decide) (by decide) (by decide)
  replace sf_x := CH5.safe F_value_x.lt sf_x
  have ne_x_q5 := (hsafe5 _ sf_x).1
  have ne_x_qv5 := (hsafe5 _ sf_x).2
  replace Od := Od.ext E5
  replace Kp := Kp.ext E5
  replace F_value_x := Fld.ext E5 F_value_x
  replace F_coder_x := Fld.ext E5 F_coder_x
  replace E_x := Exa.ext E5 E_x
  replace E_q2 := Exa.ext E5 E_q2
  replace C_q2 := Fld.ext E5 C_q2
  replace V_q2 := Fld.ext E5 V_q2
  replace K_q2 := K_q2.ext E5
  replace CR := CR.trans CH5
  replace hS := hS5
  replace hk := hk5
  replace hZ := hZ5
  replace hown := hown5
  refine OEndsW.via (fun _ k => st5 _ k) ?_
  show OEndsW p e below s _ _ _ _ _ (T5.setTop (mkF m 20 #[.val (.ref x), .val (.ref b), .val (.int (0 : Int32)), .val (.int (0 : Int32)), .val .null, .unset] [(.ref q5), (.ref x)]))
  obtain ⟨T6, X6, e6, st6⟩ := getF X5 hx hZ hown (host := "") (Or.inl (hw _ (List.mem_of_getElem? (i := 33) rfl))) Via.refl e5 C_q5 (g := (mkF m 20 #[.val (.ref x), .val (.ref b), .val (.int (0 : Int32)), .val (.int (0 : Int32)), .val .null, .unset] [(.ref q5), (.ref x)])) rfl rfl (hb hby d3_20)
  refine OEndsW.via (fun _ k => st6 _ k) ?_
  show OEndsW p e below s _ _ _ _ _ (T6.setTop (mkF m 23 #[.val (.ref x), .val (.ref b), .val (.int (0 : Int32)), .val (.int (0 : Int32)), .val .null, .unset] [(.int (0 : Int32)), (.ref x)]))
  obtain ⟨T7, h7, X7, e7, W7, st7⟩ := putFN X6 hx hZ hown (hw _ (List.mem_of_getElem? (i := 33) rfl)) Via.refl e6 F_coder_x E_x (Or.inr ⟨(hw _ (List.mem_of_getElem? (i := 34) rfl)), rfl, hnm⟩) (hw _ (List.mem_of_getElem? (i := 8) rfl)) (ty := .byte) (v' := (.int (0 : Int32))) (by decide) rfl rfl (g := (mkF m 23 #[.val (.ref x), .val (.ref b), .val (.int (0 : Int32)), .val (.int (0 : Int32)), .val .null, .unset] [(.int (0 : Int32)), (.ref x)])) rfl rfl (hb hby d3_23)
  have N7 := Fr.snoc X7 N4 ge_x
  have sfw7 := sf_x
  replace hk := Nat.le_trans hk (Keep.of_wr W7).1
  replace Od := Od.wr W7 ge_x
  replace Kp := Kp.wr W7 (Or.inl (by simp))
  replace F_value_x := Fld.other W7 F_value_x (Or.inr (slot_ne (Or.inr (hw _ (List.mem_of_getElem? (i := 36) rfl))) (Or.inr (hw _ (List.mem_of_getElem? (i := 34) rfl))) (by decide) (t := (.array .byte)) (t' := .byte) (by decide) (by decide)))
  replace F_coder_x := Fld.same W7 F_coder_x
  replace E_x := Exa.wr W7 E_x
  replace sf_x := Safe.wr W7 sfw7 CR.1 sf_x
  replace E_q2 := Exa.wr W7 E_q2
  replace C_q2 := Fld.other W7 C_q2 (Or.inl (Ne.symm ne_x_q2))
  replace V_q2 := Fld.other W7 V_q2 (Or.inl (Ne.symm ne_x_q2))
  replace K_q2 := K_q2.other W7 (Ne.symm ne_x_qv2)
  replace E_q5 := Exa.wr W7 E_q5
  replace C_q5 := Fld.other W7 C_q5 (Or.inl (Ne.symm ne_x_q5))
  replace V_q5 := Fld.other W7 V_q5 (Or.inl (Ne.symm ne_x_q5))
  replace K_q5 := K_q5.other W7 (Ne.symm ne_x_qv5)
  replace CR := CR.trans (CHr.wr W7 sfw7 CR.1)
  refine OEndsW.via (fun _ k => st7 _ k) ?_
  show OEndsW p e below s _ _ _ _ _ (T7.setTop (mkF m 26 #[.val (.ref x), .val (.ref b), .val (.int (0 : Int32)), .val (.int (0 : Int32)), .val .null, .unset] []))
  refine OEndsW.retV X7 hx hlk hS hk hZ hEL e7 es CR Bd.returns (hb hby d3_26) ?_ (by decide) (by decide)
  rw [e7]
  exact ⟨rfl, N7, Kp, ⟨_, _, _, _, _, E_x, F_value_x, F_coder_x, K_q2, own_cod0⟩⟩
theorem d2_0 : decode jdk_42_method_3_code 0 = .ok (.aload_n 0, 1) := by decide +kernel
theorem d2_1 : decode jdk_42_method_3_code 1 = .ok (.aload_n 1, 1) := by decide +kernel
theorem d2_2 : decode jdk_42_method_3_code 2 = .ok (.iconst 0, 1) := by decide +kernel
theorem d2_3 : decode jdk_42_method_3_code 3 = .ok (.aload_n 1, 1) := by decide +kernel
theorem d2_4 : decode jdk_42_method_3_code 4 = .ok (.arraylength, 1) := by decide +kernel
theorem d2_5 : decode jdk_42_method_3_code 5 = .ok (.aconst_null, 1) := by decide +kernel
theorem d2_6 : decode jdk_42_method_3_code 6 = .ok (.invokespecial 27, 3) := by decide +kernel
theorem d2_9 : decode jdk_42_method_3_code 9 = .ok (.return_, 1) := by decide +kernel
def Q_rmE1 (Z : State) (x : Addr) (b : Addr) (kC : ClassId) (dC : Value) (h0 : Heap) (n0 : Nat) (v : Option Value) (h : Heap) (L : List Loc) : Prop := v = none ∧ Fr n0 L ∧ Keep h0 h [x] ∧ OStr Z h x []
theorem pd_285bCIILjava2flang2fVoid3b29V : parseMethodDescriptor "([CIILjava/lang/Void;)V" = some ⟨[(.array .char), .int, .int, (.object "java/lang/Void")], none⟩ := by decide +kernel
set_option maxRecDepth 65536 in
set_option maxHeartbeats 40000000 in
theorem rmE1 (l : Launch) (Z : State) (a0 : Array Value) (hw : ∀ d ∈ tables_1, d.before a0 Z = true) (ws : List Jvm.Cond) (x : Addr) (b : Addr) (kC : ClassId) (dC : Value) (h0 : Heap) (n0 : Nat) (O0 : Old Z n0 h0) (F_value_x : Fld Z h0 x "java/lang/String" "value" "[B" .null) (F_coder_x : Fld Z h0 x "java/lang/String" "coder" "B" (.int (0 : Int32))) (E_x : Exa Z h0 x "java/lang/String") (ge_x : n0 ≤ x) (V_b : Arv Z h0 b kC .char (0 : Int32) [] dC) :
    MetFree l (⟨"java/lang/String", "<init>", "([C)V"⟩ : MethodName) (head1 (Jvm.Cond.code (⟨"java/lang/String", "<init>", "([C)V"⟩ : MethodName) jdk_42_method_3_code 2 none :: ws) ({ frames := 2, cells := 4, slots := 8, locals := 64 } : Room)) (fun ar' U => ar' = #[(.ref x), (.ref b)] ∧ Z.Warmed39 U.vm ∧ U.heap = h0 ∧ CHv Z consts_1 U.vm h0) (fun _ _ _ _ _ => True) (fun _ U o U' => ∃ v L, o = .returned v ∧ (Q_rmE1 Z x b kC dC h0 n0) v U'.heap L ∧ CHr Z consts_1 U.vm U.heap U'.vm U'.heap ∧ ReturnedEndW U o U' L ({ frames := 2, cells := 4, slots := 8, locals := 64 } : Room).cells ({ frames := 2, cells := 4, slots := 8, locals := 64 } : Room).slots) := by
  refine MetFree.of_bodySF (plainFor_of_name pn_java_lang_String) hisR ?_
  intro p e s m args below meth c s₁ Bd hml0 hP hK
  obtain ⟨rfl, hZ, hh, hCH0⟩ := hP
  have hx := Bd.exec
  have hby := Bd.bytes
  have hlk := BodyLoose.notSynchronized Bd
  have hml : c.maxLocals = 2 := hml0
  have hown : s.vm.findClass "java/lang/String" = some m.cls := findClass_of_methodNamed Bd.named
  have hnm := (name_of_methodNamed Bd.named Bd.method).1
  have X0 : Stand p l e ({ frames := 2, cells := 4, slots := 8, locals := 64 } : Room) (s.setVm s.vm) m #[(.ref x), (.ref b)] below meth c s₁ [] 0 0 := Stand.of_body Bd
  have e0 : s₁.heap = h0 := by rw [← hh, Bd.state]; rfl
  have N0 := Fr.nil n0
  have Z0 : n0 ≤ h0.size := O0.1 ▸ O0.2.1
  have hEL : EW Z a0 consts_1 := own_EW hw
  have wS := own_wS hw
  have es : s.heap = h0 := hh
  have hS : s.Since s.vm h0.size := (State.WarmedH.refl s).since _
  have hk : h0.size ≤ h0.size := Nat.le_refl _
  have CR : CHr Z consts_1 s.vm h0 s.vm h0 := CHr.refl hCH0
  show OEndsW p e below s Z consts_1 ({ frames := 2, cells := 4, slots := 8, locals := 64 } : Room).cells ({ frames := 2, cells := 4, slots := 8, locals := 64 } : Room).slots (Q_rmE1 Z x b kC dC h0 n0) (s₁.setTop (entryFrame m #[(.ref x), (.ref b)] 2))
  refine OEndsW.via (fun _ k => castTop (show entryFrame m #[(.ref x), (.ref b)] 2 = (mkF m 0 #[.val (.ref x), .val (.ref b)] []) by first | (simp [entryFrame, mkF, argsToLocals, Value.category, maxLocals]; done) | rfl) k) ?_
  obtain ⟨cl, Ar, qA, Sa, MA, HA, GA⟩ := V_b
  show OEndsW p e below s _ _ _ _ _ (s₁.setTop (mkF m 0 #[.val (.ref x), .val (.ref b)] []))
  refine OEndsW.via (fun _ k => XS.aloadN X0.here hx rfl (hb hby d2_0) rfl rfl k) ?_
  show OEndsW p e below s _ _ _ _ _ (s₁.setTop (mkF m 1 #[.val (.ref x), .val (.ref b)] [(.ref x)]))
  refine OEndsW.via (fun _ k => XS.aloadN X0.here hx rfl (hb hby d2_1) rfl rfl k) ?_
  show OEndsW p e below s _ _ _ _ _ (s₁.setTop (mkF m 2 #[.val (.ref x), .val (.ref b)] [(.ref b), (.ref x)]))
  refine OEndsW.via (fun _ k => XS.iconst X0.here hx rfl (hb hby d2_2) k) ?_
  show OEndsW p e below s _ _ _ _ _ (s₁.setTop (mkF m 3 #[.val (.ref x), .val (.ref b)] [(.int (0 : Int32)), (.ref b), (.ref x)]))
  refine OEndsW.via (fun _ k => XS.aloadN X0.here hx rfl (hb hby d2_3) rfl rfl k) ?_
  show OEndsW p e below s _ _ _ _ _ (s₁.setTop (mkF m 4 #[.val (.ref x), .val (.ref b)] [(.ref b), (.int (0 : Int32)), (.ref b), (.ref x)]))
  refine OEndsW.via (fun _ k => X0.arraylength hx (by rw [e0]; exact Ar.1) (State.isArrayOf_alike hZ.alike Ar.2.1) (g := (mkF m 4 #[.val (.ref x), .val (.ref b)] [(.ref b), (.int (0 : Int32)), (.ref b), (.ref x)])) rfl rfl (hb hby d2_4) _ k) ?_
  rw [len_of Sa MA]
  show OEndsW p e below s _ _ _ _ _ (s₁.setTop (mkF m 5 #[.val (.ref x), .val (.ref b)] [(.int (0 : Int32)), (.int (0 : Int32)), (.ref b), (.ref x)]))
  refine OEndsW.via (fun _ k => XS.aconstNull X0.here hx rfl (hb hby d2_5) k) ?_
  show OEndsW p e below s _ _ _ _ _ (s₁.setTop (mkF m 6 #[.val (.ref x), .val (.ref b)] [.null, (.int (0 : Int32)), (.int (0 : Int32)), (.ref b), (.ref x)]))
  obtain ⟨_, _, ⟨T1, L1, k1, n1⟩, -, X1, S1, G1, ⟨Lc1, hQ1, l1, y1, z1, CH1⟩, st1⟩ := X0.specialBackS hx (y := (⟨"java/lang/String", "<init>", "([CIILjava/lang/Void;)V"⟩ : MethodName)) rfl hown (mvT hZ (hw _ (List.mem_of_getElem? (i := 14) rfl))) (mvT hZ (hw _ (List.mem_of_getElem? (i := 15) rfl))) (mvT hZ (hw _ (List.mem_of_getElem? (i := 17) rfl))) (by decide) (backOfSH (W := 0) (rmE4 l Z a0 hw [] x b h0 n0 O0 F_value_x F_coder_x E_x ge_x) hZ (hw _ (List.mem_of_getElem? (i := 17) rfl)) (hw _ (List.mem_of_getElem? (i := 9) rfl)) (by decide) (by decide) hEL CR.1) (g := (mkF m 6 #[.val (.ref x), .val (.ref b)] [.null, (.int (0 : Int32)), (.int (0 : Int32)), (.ref b), (.ref x)])) rfl (by rw [hml]; rfl) (Steps.refl _) (a := x) (argsL := [(.ref b), (.int (0 : Int32)), (.int (0 : Int32)), .null]) (rest := []) (lenOf pd_285bCIILjava2flang2fVoid3b29V rfl) rfl (by show 2 * 0 + _ ≤ _; exact Nat.le_of_eq rfl) (hb hby d2_6) (fun _ _ => ⟨rfl, e0, Nat.le_of_ble_eq_true rfl, Nat.le_of_ble_eq_true rfl⟩)
  dsimp only [Pt.U, Pt.locs, Pt.cells, Pt.slots] at X1 S1 G1 l1 y1 z1 st1 hQ1 CH1
  subst l1 y1 z1
  obtain ⟨X1, hS, hZ, hown⟩ := rebS hS (by rw [e0]; exact hk) X1 S1 G1 hZ hown
  replace CR := CR.trans CH1
  replace hk := Nat.le_refl T1.heap.size
  obtain ⟨rfl, N1q, K1, O1⟩ := hQ1
  have N1 := Fr.app N0 N1q
  refine OEndsW.via (fun _ k => st1.trans k) ?_
  show OEndsW p e below s _ _ _ _ _ (T1.setTop (mkF m 9 #[.val (.ref x), .val (.ref b)] []))
  refine OEndsW.retV X1 hx hlk hS hk hZ hEL rfl es CR Bd.returns (hb hby d2_9) ?_ (by decide) (by decide)
  exact ⟨rfl, N1, K1, O1⟩
theorem d1_0 : decode method_3_code 0 = .ok (.iload_n 0, 1) := by decide +kernel
theorem d1_1 : decode method_3_code 1 = .ok (.ifCond .ne 14, 3) := by decide +kernel
theorem d1_4 : decode method_3_code 4 = .ok (.new 37, 3) := by decide +kernel
theorem d1_7 : decode method_3_code 7 = .ok (.dup, 1) := by decide +kernel
theorem d1_8 : decode method_3_code 8 = .ok (.iconst 0, 1) := by decide +kernel
theorem d1_9 : decode method_3_code 9 = .ok (.newarray .char, 2) := by decide +kernel
theorem d1_11 : decode method_3_code 11 = .ok (.invokespecial 39, 3) := by decide +kernel
theorem d1_14 : decode method_3_code 14 = .ok (.areturn, 1) := by decide +kernel
theorem d1_15 : decode method_3_code 15 = .ok (.iload_n 0, 1) := by decide +kernel
theorem d1_16 : decode method_3_code 16 = .ok (.iconst 1, 1) := by decide +kernel
theorem d1_17 : decode method_3_code 17 = .ok (.if_icmp .ne 18, 3) := by decide +kernel
theorem d1_20 : decode method_3_code 20 = .ok (.new 37, 3) := by decide +kernel
theorem d1_23 : decode method_3_code 23 = .ok (.dup, 1) := by decide +kernel
theorem d1_24 : decode method_3_code 24 = .ok (.iconst 1, 1) := by decide +kernel
theorem d1_25 : decode method_3_code 25 = .ok (.newarray .char, 2) := by decide +kernel
theorem d1_27 : decode method_3_code 27 = .ok (.dup, 1) := by decide +kernel
theorem d1_28 : decode method_3_code 28 = .ok (.iconst 0, 1) := by decide +kernel
theorem d1_29 : decode method_3_code 29 = .ok (.iload_n 1, 1) := by decide +kernel
theorem d1_30 : decode method_3_code 30 = .ok (.castore, 1) := by decide +kernel
theorem d1_31 : decode method_3_code 31 = .ok (.invokespecial 39, 3) := by decide +kernel
theorem d1_34 : decode method_3_code 34 = .ok (.areturn, 1) := by decide +kernel
theorem d1_35 : decode method_3_code 35 = .ok (.iload_n 0, 1) := by decide +kernel
theorem d1_36 : decode method_3_code 36 = .ok (.iconst 2, 1) := by decide +kernel
theorem d1_37 : decode method_3_code 37 = .ok (.if_icmp .ne 22, 3) := by decide +kernel
theorem d1_40 : decode method_3_code 40 = .ok (.new 37, 3) := by decide +kernel
theorem d1_43 : decode method_3_code 43 = .ok (.dup, 1) := by decide +kernel
theorem d1_44 : decode method_3_code 44 = .ok (.iconst 2, 1) := by decide +kernel
theorem d1_45 : decode method_3_code 45 = .ok (.newarray .char, 2) := by decide +kernel
theorem d1_47 : decode method_3_code 47 = .ok (.dup, 1) := by decide +kernel
theorem d1_48 : decode method_3_code 48 = .ok (.iconst 0, 1) := by decide +kernel
theorem d1_49 : decode method_3_code 49 = .ok (.iload_n 1, 1) := by decide +kernel
theorem d1_50 : decode method_3_code 50 = .ok (.castore, 1) := by decide +kernel
theorem d1_51 : decode method_3_code 51 = .ok (.dup, 1) := by decide +kernel
theorem d1_52 : decode method_3_code 52 = .ok (.iconst 1, 1) := by decide +kernel
theorem d1_53 : decode method_3_code 53 = .ok (.iload_n 2, 1) := by decide +kernel
theorem d1_54 : decode method_3_code 54 = .ok (.castore, 1) := by decide +kernel
theorem d1_55 : decode method_3_code 55 = .ok (.invokespecial 39, 3) := by decide +kernel
theorem d1_58 : decode method_3_code 58 = .ok (.areturn, 1) := by decide +kernel
theorem d1_59 : decode method_3_code 59 = .ok (.new 37, 3) := by decide +kernel
theorem d1_62 : decode method_3_code 62 = .ok (.dup, 1) := by decide +kernel
theorem d1_63 : decode method_3_code 63 = .ok (.iconst 3, 1) := by decide +kernel
theorem d1_64 : decode method_3_code 64 = .ok (.newarray .char, 2) := by decide +kernel
theorem d1_66 : decode method_3_code 66 = .ok (.dup, 1) := by decide +kernel
theorem d1_67 : decode method_3_code 67 = .ok (.iconst 0, 1) := by decide +kernel
theorem d1_68 : decode method_3_code 68 = .ok (.iload_n 1, 1) := by decide +kernel
theorem d1_69 : decode method_3_code 69 = .ok (.castore, 1) := by decide +kernel
theorem d1_70 : decode method_3_code 70 = .ok (.dup, 1) := by decide +kernel
theorem d1_71 : decode method_3_code 71 = .ok (.iconst 1, 1) := by decide +kernel
theorem d1_72 : decode method_3_code 72 = .ok (.iload_n 2, 1) := by decide +kernel
theorem d1_73 : decode method_3_code 73 = .ok (.castore, 1) := by decide +kernel
theorem d1_74 : decode method_3_code 74 = .ok (.dup, 1) := by decide +kernel
theorem d1_75 : decode method_3_code 75 = .ok (.iconst 2, 1) := by decide +kernel
theorem d1_76 : decode method_3_code 76 = .ok (.iload_n 3, 1) := by decide +kernel
theorem d1_77 : decode method_3_code 77 = .ok (.castore, 1) := by decide +kernel
theorem d1_78 : decode method_3_code 78 = .ok (.invokespecial 39, 3) := by decide +kernel
theorem d1_81 : decode method_3_code 81 = .ok (.areturn, 1) := by decide +kernel
theorem pn_com_example_charttop_charttop_query_TokenIsPinLaw : plainName "com/example/charttop/charttop/query/TokenIsPinLaw" = true := by first | (simp [plainName, overriddenIn]; done) | decide +kernel
def Q_rmS (Z : State) (nn : Int32) (ka : Int32) (kb : Int32) (kc : Int32) (G1 : Int32) (h0 : Heap) (n0 : Nat) (v : Option Value) (h : Heap) (L : List Loc) : Prop := ∃ x, v = some (.ref x) ∧ Fr n0 L ∧ Keep h0 h [] ∧ n0 ≤ x ∧ OStr Z h x (own_str nn ka kb kc)
theorem pd_285bC29V : parseMethodDescriptor "([C)V" = some ⟨[(.array .char)], none⟩ := by decide +kernel
set_option maxRecDepth 65536 in
set_option maxHeartbeats 40000000 in
theorem rmS (l : Launch) (Z : State) (a0 : Array Value) (hw : ∀ d ∈ tables_1, d.before a0 Z = true) (ws : List Jvm.Cond) (nn : Int32) (ka : Int32) (kb : Int32) (kc : Int32) (G1 : Int32) (h0 : Heap) (n0 : Nat) (O0 : Old Z n0 h0) (S_CS : Sta Z Z.heap "java/lang/String" "COMPACT_STRINGS" "Z" (.int G1)) (nz_CS : ¬ (G1 = (0 : Int32))) (ha : ¬ ka < 0 ∧ ¬ (255 : Int32) < ka) (hb' : ¬ kb < 0 ∧ ¬ (255 : Int32) < kb) (hc : ¬ kc < 0 ∧ ¬ (255 : Int32) < kc) :
    MetFree l (⟨"com/example/charttop/charttop/query/TokenIsPinLaw", "str", "(ICCC)Ljava/lang/String;"⟩ : MethodName) (head1 (Jvm.Cond.code (⟨"com/example/charttop/charttop/query/TokenIsPinLaw", "str", "(ICCC)Ljava/lang/String;"⟩ : MethodName) method_3_code 4 (some (.object "java/lang/String")) :: ws) ({ frames := 5, cells := 8, slots := 32, locals := 120 } : Room)) (fun ar' U => ar' = #[(.int nn), (.int ka), (.int kb), (.int kc)] ∧ Z.Warmed39 U.vm ∧ U.heap = h0 ∧ CHv Z consts_1 U.vm h0) (fun _ _ _ _ _ => True) (fun _ U o U' => ∃ v L, o = .returned v ∧ (Q_rmS Z nn ka kb kc G1 h0 n0) v U'.heap L ∧ CHr Z consts_1 U.vm U.heap U'.vm U'.heap ∧ ReturnedEndW U o U' L ({ frames := 5, cells := 8, slots := 32, locals := 120 } : Room).cells ({ frames := 5, cells := 8, slots := 32, locals := 120 } : Room).slots) := by
  refine MetFree.of_bodySF (plainFor_of_name pn_com_example_charttop_charttop_query_TokenIsPinLaw) hisR ?_
  intro p e s m args below meth c s₁ Bd hml0 hP hK
  obtain ⟨rfl, hZ, hh, hCH0⟩ := hP
  have hx := Bd.exec
  have hby := Bd.bytes
  have hlk := BodyLoose.notSynchronized Bd
  have hml : c.maxLocals = 4 := hml0
  have hown : s.vm.findClass "com/example/charttop/charttop/query/TokenIsPinLaw" = some m.cls := findClass_of_methodNamed Bd.named
  have hnm := (name_of_methodNamed Bd.named Bd.method).1
  have X0 : Stand p l e ({ frames := 5, cells := 8, slots := 32, locals := 120 } : Room) (s.setVm s.vm) m #[(.int nn), (.int ka), (.int kb), (.int kc)] below meth c s₁ [] 0 0 := Stand.of_body Bd
  have e0 : s₁.heap = h0 := by rw [← hh, Bd.state]; rfl
  have N0 := Fr.nil n0
  have Z0 : n0 ≤ h0.size := O0.1 ▸ O0.2.1
  have hEL : EW Z a0 consts_1 := own_EW hw
  have wS := own_wS hw
  have es : s.heap = h0 := hh
  have hS : s.Since s.vm h0.size := (State.WarmedH.refl s).since _
  have hk : h0.size ≤ h0.size := Nat.le_refl _
  have CR : CHr Z consts_1 s.vm h0 s.vm h0 := CHr.refl hCH0
  show OEndsW p e below s Z consts_1 ({ frames := 5, cells := 8, slots := 32, locals := 120 } : Room).cells ({ frames := 5, cells := 8, slots := 32, locals := 120 } : Room).slots (Q_rmS Z nn ka kb kc G1 h0 n0) (s₁.setTop (entryFrame m #[(.int nn), (.int ka), (.int kb), (.int kc)] 4))
  refine OEndsW.via (fun _ k => castTop (show entryFrame m #[(.int nn), (.int ka), (.int kb), (.int kc)] 4 = (mkF m 0 #[.val (.int nn), .val (.int ka), .val (.int kb), .val (.int kc)] []) by first | (simp [entryFrame, mkF, argsToLocals, Value.category, maxLocals]; done) | rfl) k) ?_
  have hws : ∀ d ∈ StrChars.Road.words, d.before a0 Z = true := fun d hd => hw d ((by decide +kernel : ∀ d ∈ StrChars.Road.words, d ∈ tables_1) d hd)
  have Od := O0
  have Kp := Keep.refl h0 []
  show OEndsW p e below s _ _ _ _ _ (s₁.setTop (mkF m 0 #[.val (.int nn), .val (.int ka), .val (.int kb), .val (.int kc)] []))
  refine OEndsW.via (fun _ k => XS.iloadN X0.here hx rfl (hb hby d1_0) rfl k) ?_
  show OEndsW p e below s _ _ _ _ _ (s₁.setTop (mkF m 1 #[.val (.int nn), .val (.int ka), .val (.int kb), .val (.int kc)] [(.int nn)]))
  by_cases hc1_0 : nn = (0 : Int32)
  · skip
    refine OEndsW.via (fun _ k => XS.ifNo X0.here hx rfl (hb hby d1_1) rfl ((if0 _ _).trans (teq hc1_0).2) k) ?_
    show OEndsW p e below s _ _ _ _ _ (s₁.setTop (mkF m 4 #[.val (.int nn), .val (.int ka), .val (.int kb), .val (.int kc)] []))
    obtain ⟨T2, h2, X2, e2, E2, A2, D2, -, st2⟩ := newO X0 hx hZ hown (hw _ (List.mem_of_getElem? (i := 7) rfl)) (hw _ (List.mem_of_getElem? (i := 8) rfl)) (hw _ (List.mem_of_getElem? (i := 9) rfl)) e0 (g := (mkF m 4 #[.val (.int nn), .val (.int ka), .val (.int kb), .val (.int kc)] [])) rfl (hb hby d1_4) (by decide) (by decide)
    obtain ⟨b2, g2⟩ : ∃ z, z = h0.size := ⟨_, rfl⟩
    have ge_b2 : n0 ≤ b2 := Nat.le_trans (Od.1 ▸ Od.2.1) (Nat.le_of_eq g2.symm)
    have sz_b2 : h0.size ≤ b2 := Nat.le_trans Kp.1 (Nat.le_of_eq g2.symm)
    have sf_b2 : Safe Z consts_1 _ h0 b2 := Safe.new (EL := consts_1) (vm := s.vm) (Nat.le_of_eq g2.symm)
    rw [← g2] at A2 D2 st2
    replace hk := Nat.le_trans hk E2.1
    replace Od := Od.ext E2
    replace Kp := Kp.ext E2
    replace sf_b2 := Safe.ext E2 CR.1 sf_b2
    replace CR := CR.trans (CHr.ext E2 CR.1)
    have E_b2 : Exa Z h2 b2 "java/lang/String" := A2
    have F_coder_b2 : Fld Z h2 b2 "java/lang/String" "coder" "B" (.int (0 : Int32)) := D2 (Or.inr (hw _ (List.mem_of_getElem? (i := 34) rfl))) (ty := .byte) (by decide)
    have F_value_b2 : Fld Z h2 b2 "java/lang/String" "value" "[B" .null := D2 (Or.inr (hw _ (List.mem_of_getElem? (i := 36) rfl))) (ty := (.array .byte)) (by decide)
    refine OEndsW.via (fun _ k => st2 _ k) ?_
    show OEndsW p e below s _ _ _ _ _ (T2.setTop (mkF m 7 #[.val (.int nn), .val (.int ka), .val (.int kb), .val (.int kc)] [(.ref b2)]))
    refine OEndsW.via (fun _ k => XS.dup X2.here hx rfl (hb hby d1_7) rfl rfl k) ?_
    show OEndsW p e below s _ _ _ _ _ (T2.setTop (mkF m 8 #[.val (.int nn), .val (.int ka), .val (.int kb), .val (.int kc)] [(.ref b2), (.ref b2)]))
    refine OEndsW.via (fun _ k => XS.iconst X2.here hx rfl (hb hby d1_8) k) ?_
    show OEndsW p e below s _ _ _ _ _ (T2.setTop (mkF m 9 #[.val (.int nn), .val (.int ka), .val (.int kb), .val (.int kc)] [(.int (0 : Int32)), (.ref b2), (.ref b2)]))
    obtain ⟨T3, h3, k3, X3, e3, E3, A3, st3⟩ := newP X2 hx hZ (hw _ (List.mem_of_getElem? (i := 10) rfl)) e2 (g := (mkF m 9 #[.val (.int nn), .val (.int ka), .val (.int kb), .val (.int kc)] [(.int (0 : Int32)), (.ref b2), (.ref b2)])) rfl (hb hby d1_9) rfl (by decide) (cap := 0) (by decide) (by decide) (by decide) (by decide)
    obtain ⟨b3, g3⟩ : ∃ z, z = h2.size := ⟨_, rfl⟩
    have ne_b2_b3 : b2 ≠ b3 := Nat.ne_of_lt (Nat.lt_of_lt_of_le E_b2.lt (Nat.le_of_eq g3.symm))
    have ge_b3 : n0 ≤ b3 := Nat.le_trans (Od.1 ▸ Od.2.1) (Nat.le_of_eq g3.symm)
    have sz_b3 : h0.size ≤ b3 := Nat.le_trans Kp.1 (Nat.le_of_eq g3.symm)
    have sf_b3 : Safe Z consts_1 _ h2 b3 := Safe.new (EL := consts_1) (vm := s.vm) (Nat.le_of_eq g3.symm)
    rw [← g3] at A3 st3
    replace hk := Nat.le_trans hk E3.1
    replace Od := Od.ext E3
    replace Kp := Kp.ext E3
    replace sf_b2 := Safe.ext E3 CR.1 sf_b2
    replace E_b2 := Exa.ext E3 E_b2
    replace F_coder_b2 := Fld.ext E3 F_coder_b2
    replace F_value_b2 := Fld.ext E3 F_value_b2
    replace sf_b3 := Safe.ext E3 CR.1 sf_b3
    replace CR := CR.trans (CHr.ext E3 CR.1)
    have V_b3 : Arv Z h3 b3 k3 .char (0 : Int32) [] (.int (0 : Int32)) := (Arv.new A3 (by decide)).pad (pad_rep [] (.int (0 : Int32)) 0)
    refine OEndsW.via (fun _ k => st3 _ k) ?_
    show OEndsW p e below s _ _ _ _ _ (T3.setTop (mkF m 11 #[.val (.int nn), .val (.int ka), .val (.int kb), .val (.int kc)] [(.ref b3), (.ref b2), (.ref b2)]))
    obtain ⟨_, _, ⟨T4, L4, k4, n4⟩, -, X4, S4, G4, ⟨Lc4, hQ4, l4, y4, z4, CH4⟩, st4⟩ := X3.specialBackS hx (y := (⟨"java/lang/String", "<init>", "([C)V"⟩ : MethodName)) rfl hown (mvT hZ (hw _ (List.mem_of_getElem? (i := 11) rfl))) (mvT hZ (hw _ (List.mem_of_getElem? (i := 12) rfl))) (mvT hZ (hw _ (List.mem_of_getElem? (i := 13) rfl))) (by decide) (backOfSH (W := 1) (rmE1 l Z a0 hw [] b2 b3 k3 (.int (0 : Int32)) h3 n0 Od F_value_b2 F_coder_b2 E_b2 ge_b2 V_b3) hZ (hw _ (List.mem_of_getElem? (i := 13) rfl)) (hw _ (List.mem_of_getElem? (i := 9) rfl)) (by decide) (by decide) hEL CR.1) (g := (mkF m 11 #[.val (.int nn), .val (.int ka), .val (.int kb), .val (.int kc)] [(.ref b3), (.ref b2), (.ref b2)])) rfl (by rw [hml]; rfl) (Steps.refl _) (a := b2) (argsL := [(.ref b3)]) (rest := [(.ref b2)]) (lenOf pd_285bC29V rfl) rfl (by show 2 * 0 + _ ≤ _; exact Nat.le_of_eq rfl) (hb hby d1_11) (fun _ _ => ⟨rfl, e3, Nat.le_of_ble_eq_true rfl, Nat.le_of_ble_eq_true rfl⟩)
    dsimp only [Pt.U, Pt.locs, Pt.cells, Pt.slots] at X4 S4 G4 l4 y4 z4 st4 hQ4 CH4
    subst l4 y4 z4
    replace sf_b2 := CH4.safe E_b2.lt sf_b2
    replace sf_b3 := CH4.safe V_b3.lt sf_b3
    obtain ⟨X4, hS, hZ, hown⟩ := rebS hS (by rw [e3]; exact hk) X4 S4 G4 hZ hown
    replace CR := CR.trans CH4
    replace hk := Nat.le_refl T4.heap.size
    obtain ⟨rfl, N4q, K4, O4⟩ := hQ4
    have N4 := Fr.app N0 N4q
    replace Od := Od.keep K4 (allS ge_b2 all0)
    replace Kp := Kp.trans K4 (allS (Or.inr sz_b2) all0)
    replace E_b2 := E_b2.keep K4
    replace V_b3 := V_b3.keep K4 (ninS (Ne.symm ne_b2_b3) nin0)
    obtain ⟨t_b2, kb_b2, cd_b2, nn_b2, vs_b2, E_b2, V_b2, C_b2, K_b2, hcd_b2⟩ := O4
    refine OEndsW.via (fun _ k => st4.trans k) ?_
    show OEndsW p e below s _ _ _ _ _ (T4.setTop (mkF m 14 #[.val (.int nn), .val (.int ka), .val (.int kb), .val (.int kc)] [(.ref b2)]))
    refine OEndsW.retR X4 hx hlk hS hk hZ hEL rfl es CR Bd.returns rfl rfl (hb hby d1_14) ?_ (by decide) (by decide)
    refine ⟨_, rfl, N4, Kp, ge_b2, ?_⟩
    simp only [own_str, if_pos hc1_0]
    exact ⟨_, _, _, _, _, E_b2, V_b2, C_b2, K_b2, hcd_b2⟩
  · skip
    refine OEndsW.via (fun _ k => XS.ifYes X0.here hx rfl (pc0 := 1) (pc' := 15) rfl (hb hby d1_1) rfl ((if0 _ _).trans (feq hc1_0).2) (by decide) (by decide) k) ?_
    show OEndsW p e below s _ _ _ _ _ (s₁.setTop (mkF m 15 #[.val (.int nn), .val (.int ka), .val (.int kb), .val (.int kc)] []))
    refine OEndsW.via (fun _ k => XS.iloadN X0.here hx rfl (hb hby d1_15) rfl k) ?_
    show OEndsW p e below s _ _ _ _ _ (s₁.setTop (mkF m 16 #[.val (.int nn), .val (.int ka), .val (.int kb), .val (.int kc)] [(.int nn)]))
    refine OEndsW.via (fun _ k => XS.iconst X0.here hx rfl (hb hby d1_16) k) ?_
    show OEndsW p e below s _ _ _ _ _ (s₁.setTop (mkF m 17 #[.val (.int nn), .val (.int ka), .val (.int kb), .val (.int kc)] [(.int (1 : Int32)), (.int nn)]))
    by_cases hc17_4 : nn = (1 : Int32)
    · skip
      refine OEndsW.via (fun _ k => XS.icmpNo X0.here hx rfl (hb hby d1_17) rfl (teq hc17_4).2 k) ?_
      show OEndsW p e below s _ _ _ _ _ (s₁.setTop (mkF m 20 #[.val (.int nn), .val (.int ka), .val (.int kb), .val (.int kc)] []))
      obtain ⟨T6, h6, X6, e6, E6, A6, D6, -, st6⟩ := newO X0 hx hZ hown (hw _ (List.mem_of_getElem? (i := 7) rfl)) (hw _ (List.mem_of_getElem? (i := 8) rfl)) (hw _ (List.mem_of_getElem? (i := 9) rfl)) e0 (g := (mkF m 20 #[.val (.int nn), .val (.int ka), .val (.int kb), .val (.int kc)] [])) rfl (hb hby d1_20) (by decide) (by decide)
      obtain ⟨b6, g6⟩ : ∃ z, z = h0.size := ⟨_, rfl⟩
      have ge_b6 : n0 ≤ b6 := Nat.le_trans (Od.1 ▸ Od.2.1) (Nat.le_of_eq g6.symm)
      have sz_b6 : h0.size ≤ b6 := Nat.le_trans Kp.1 (Nat.le_of_eq g6.symm)
      have sf_b6 : Safe Z consts_1 _ h0 b6 := Safe.new (EL := consts_1) (vm := s.vm) (Nat.le_of_eq g6.symm)
      rw [← g6] at A6 D6 st6
      replace hk := Nat.le_trans hk E6.1
      replace Od := Od.ext E6
      replace Kp := Kp.ext E6
      replace sf_b6 := Safe.ext E6 CR.1 sf_b6
      replace CR := CR.trans (CHr.ext E6 CR.1)
      have E_b6 : Exa Z h6 b6 "java/lang/String" := A6
      have F_coder_b6 : Fld Z h6 b6 "java/lang/String" "coder" "B" (.int (0 : Int32)) := D6 (Or.inr (hw _ (List.mem_of_getElem? (i := 34) rfl))) (ty := .byte) (by decide)
      have F_value_b6 : Fld Z h6 b6 "java/lang/String" "value" "[B" .null := D6 (Or.inr (hw _ (List.mem_of_getElem? (i := 36) rfl))) (ty := (.array .byte)) (by decide)
      refine OEndsW.via (fun _ k => st6 _ k) ?_
      show OEndsW p e below s _ _ _ _ _ (T6.setTop (mkF m 23 #[.val (.int nn), .val (.int ka), .val (.int kb), .val (.int kc)] [(.ref b6)]))
      refine OEndsW.via (fun _ k => XS.dup X6.here hx rfl (hb hby d1_23) rfl rfl k) ?_
      show OEndsW p e below s _ _ _ _ _ (T6.setTop (mkF m 24 #[.val (.int nn), .val (.int ka), .val (.int kb), .val (.int kc)] [(.ref b6), (.ref b6)]))
      refine OEndsW.via (fun _ k => XS.iconst X6.here hx rfl (hb hby d1_24) k) ?_
      show OEndsW p e below s _ _ _ _ _ (T6.setTop (mkF m 25 #[.val (.int nn), .val (.int ka), .val (.int kb), .val (.int kc)] [(.int (1 : Int32)), (.ref b6), (.ref b6)]))
      obtain ⟨T7, h7, k7, X7, e7, E7, A7, st7⟩ := newP X6 hx hZ (hw _ (List.mem_of_getElem? (i := 10) rfl)) e6 (g := (mkF m 25 #[.val (.int nn), .val (.int ka), .val (.int kb), .val (.int kc)] [(.int (1 : Int32)), (.ref b6), (.ref b6)])) rfl (hb hby d1_25) rfl (by decide) (cap := 1) (by decide) (by decide) (by decide) (by decide)
      obtain ⟨b7, g7⟩ : ∃ z, z = h6.size := ⟨_, rfl⟩
      have ne_b6_b7 : b6 ≠ b7 := Nat.ne_of_lt (Nat.lt_of_lt_of_le E_b6.lt (Nat.le_of_eq g7.symm))
      have ge_b7 : n0 ≤ b7 := Nat.le_trans (Od.1 ▸ Od.2.1) (Nat.le_of_eq g7.symm)
      have sz_b7 : h0.size ≤ b7 := Nat.le_trans Kp.1 (Nat.le_of_eq g7.symm)
      have sf_b7 : Safe Z consts_1 _ h6 b7 := Safe.new (EL := consts_1) (vm := s.vm) (Nat.le_of_eq g7.symm)
      rw [← g7] at A7 st7
      replace hk := Nat.le_trans hk E7.1
      replace Od := Od.ext E7
      replace Kp := Kp.ext E7
      replace sf_b6 := Safe.ext E7 CR.1 sf_b6
      replace E_b6 := Exa.ext E7 E_b6
      replace F_coder_b6 := Fld.ext E7 F_coder_b6
      replace F_value_b6 := Fld.ext E7 F_value_b6
      replace sf_b7 := Safe.ext E7 CR.1 sf_b7
      replace CR := CR.trans (CHr.ext E7 CR.1)
      have V_b7 : Arv Z h7 b7 k7 .char (1 : Int32) [(.int (0 : Int32))] (.int (0 : Int32)) := (Arv.new A7 (by decide)).pad (pad_rep [] (.int (0 : Int32)) 1)
      refine OEndsW.via (fun _ k => st7 _ k) ?_
      show OEndsW p e below s _ _ _ _ _ (T7.setTop (mkF m 27 #[.val (.int nn), .val (.int ka), .val (.int kb), .val (.int kc)] [(.ref b7), (.ref b6), (.ref b6)]))
      refine OEndsW.via (fun _ k => XS.dup X7.here hx rfl (hb hby d1_27) rfl rfl k) ?_
      show OEndsW p e below s _ _ _ _ _ (T7.setTop (mkF m 28 #[.val (.int nn), .val (.int ka), .val (.int kb), .val (.int kc)] [(.ref b7), (.ref b7), (.ref b6), (.ref b6)]))
      refine OEndsW.via (fun _ k => XS.iconst X7.here hx rfl (hb hby d1_28) k) ?_
      show OEndsW p e below s _ _ _ _ _ (T7.setTop (mkF m 29 #[.val (.int nn), .val (.int ka), .val (.int kb), .val (.int kc)] [(.int (0 : Int32)), (.ref b7), (.ref b7), (.ref b6), (.ref b6)]))
      refine OEndsW.via (fun _ k => XS.iloadN X7.here hx rfl (hb hby d1_29) rfl k) ?_
      show OEndsW p e below s _ _ _ _ _ (T7.setTop (mkF m 30 #[.val (.int nn), .val (.int ka), .val (.int kb), .val (.int kc)] [(.int ka), (.int (0 : Int32)), (.ref b7), (.ref b7), (.ref b6), (.ref b6)]))
      obtain ⟨cl8, Ar8, q8, S8, M8, H8, G8⟩ := V_b7
      obtain ⟨T8, h8, X8, e8, W8, st8⟩ := stC X7 hx hZ e7 Ar8 (j := (0 : Int32)) (inb_of S8 ⟨by decide, by decide⟩) (g := (mkF m 30 #[.val (.int nn), .val (.int ka), .val (.int kb), .val (.int kc)] [(.int ka), (.int (0 : Int32)), (.ref b7), (.ref b7), (.ref b6), (.ref b6)])) rfl rfl (hb hby d1_30)
      have V_b7 : Arv Z h8 b7 k7 .char (1 : Int32) [(.int (nar .char ka))] (.int (0 : Int32)) := Arv.set Ar8 q8 S8 M8 H8 G8 (fits_nar_char _) W8 0 rfl (Nat.le_of_ble_eq_true rfl)
      have N8 := Fr.snoc X8 N0 ge_b7
      have sfw8 := (Safe.arr (EL := consts_1) hZ.alike Ar8 (by decide))
      replace hk := Nat.le_trans hk (Keep.of_wr W8).1
      replace Od := Od.wr W8 ge_b7
      replace Kp := Kp.wr W8 (Or.inr sz_b7)
      replace sf_b6 := Safe.wr W8 sfw8 CR.1 sf_b6
      replace E_b6 := Exa.wr W8 E_b6
      replace F_coder_b6 := Fld.other W8 F_coder_b6 (Or.inl ne_b6_b7)
      replace F_value_b6 := Fld.other W8 F_value_b6 (Or.inl ne_b6_b7)
      replace sf_b7 := Safe.wr W8 sfw8 CR.1 sf_b7
      replace CR := CR.trans (CHr.wr W8 sfw8 CR.1)
      refine OEndsW.via (fun _ k => st8 _ k) ?_
      show OEndsW p e below s _ _ _ _ _ (T8.setTop (mkF m 31 #[.val (.int nn), .val (.int ka), .val (.int kb), .val (.int kc)] [(.ref b7), (.ref b6), (.ref b6)]))
      rw [own_narc ha] at V_b7
      obtain ⟨cs_b6, hcs_b6⟩ : ∃ cs : List Int32, cs = [ka] := ⟨_, rfl⟩
      have hp_b6 : ∀ c ∈ cs_b6, ¬ c < 0 ∧ ¬ (255 : Int32) < c := (by rw [hcs_b6]; exact (own_allS ha own_all0))
      have hl_b6 : cs_b6.length = 1 := by rw [hcs_b6]; rfl
      have Kc_b6 : Arv Z h8 b7 k7 .char (1 : Int32) (cs_b6.map Value.int) (.int (0 : Int32)) := by rw [hcs_b6]; exact V_b7
      obtain ⟨_, _, ⟨T9, L9, k9, n9⟩, -, X9, ⟨Lc9, hQ9, l9, y9, z9⟩, st9⟩ := X8.specialBack hx (y := (⟨"java/lang/String", "<init>", "([C)V"⟩ : MethodName)) rfl hown (mvT hZ (hw _ (List.mem_of_getElem? (i := 11) rfl))) (mvT hZ (hw _ (List.mem_of_getElem? (i := 12) rfl))) (mvT hZ (hw _ (List.mem_of_getElem? (i := 13) rfl))) (by decide) (StrChars.Road.backV (W := 1) hZ hws (kI := 4) (hw _ (List.mem_of_getElem? (i := 8) rfl)) (cs := cs_b6) (bs := cs_b6.map (fun c => c.toInt8.toInt32)) (n := 1) ge_b6 (Od.1 ▸ Od.2.1) E_b6 F_value_b6 F_coder_b6 Kc_b6 (Sta.ext Od.2 S_CS) nz_CS hl_b6 rfl (by decide) (by decide) hp_b6 rfl (by decide) (by decide)) (g := (mkF m 31 #[.val (.int nn), .val (.int ka), .val (.int kb), .val (.int kc)] [(.ref b7), (.ref b6), (.ref b6)])) rfl (by rw [hml]; rfl) (Steps.refl _) (a := b6) (argsL := [(.ref b7)]) (rest := [(.ref b6)]) (lenOf pd_285bC29V rfl) rfl (by show 2 * 0 + _ ≤ _; exact Nat.le_of_eq rfl) (hb hby d1_31) (fun _ _ => ⟨rfl, e8, Nat.le_of_ble_eq_true rfl, Nat.le_of_ble_eq_true rfl⟩)
      dsimp only [Pt.U, Pt.locs, Pt.cells, Pt.slots] at X9 l9 y9 z9 st9 hQ9
      subst l9 y9 z9
      obtain ⟨rfl, N9q, K9, -, C_b6, t_b6, kb_b6, ge_t_b6, sz_t_b6, ntx_b6, V_b6, K_b6⟩ := hQ9
      have ne_b6_t_b6 : b6 ≠ t_b6 := Nat.ne_of_lt (Nat.lt_of_lt_of_le E_b6.lt sz_t_b6)
      have ne_b7_t_b6 : b7 ≠ t_b6 := Nat.ne_of_lt (Nat.lt_of_lt_of_le V_b7.lt sz_t_b6)
      have szz_t_b6 : h0.size ≤ t_b6 := Nat.le_trans Kp.1 sz_t_b6
      have N9 := Fr.app N8 N9q
      have sfk9 : ∀ x ∈ ([b6] : List Addr), Safe Z consts_1 s.vm h8 x := (allS sf_b6 all0)
      replace hk := Nat.le_trans hk K9.1
      replace Od := Od.keep K9 (allS ge_b6 all0)
      replace Kp := Kp.trans K9 (allS (Or.inr sz_b6) all0)
      replace sf_b6 := Safe.keep K9 sfk9 CR.1 sf_b6
      replace E_b6 := E_b6.keep K9
      replace sf_b7 := Safe.keep K9 sfk9 CR.1 sf_b7
      replace V_b7 := V_b7.keep K9 (ninS (Ne.symm ne_b6_b7) nin0)
      replace CR := CR.trans (CHr.keep K9 sfk9 CR.1)
      have hcd_b6 : StrChars.Road.CodA cs_b6 0 (1 : Int32) ((cs_b6.map (fun c => c.toInt8.toInt32)).map Value.int) := StrChars.Road.codOf (n := 1) hl_b6 (fun c hc => (hp_b6 c hc).2)
      have hbd_b6 := own_up _ hp_b6
      refine OEndsW.via (fun _ k => st9.trans k) ?_
      show OEndsW p e below s _ _ _ _ _ (T9.setTop (mkF m 34 #[.val (.int nn), .val (.int ka), .val (.int kb), .val (.int kc)] [(.ref b6)]))
      refine OEndsW.retR X9 hx hlk hS hk hZ hEL rfl es CR Bd.returns rfl rfl (hb hby d1_34) ?_ (by decide) (by decide)
      refine ⟨_, rfl, N9, Kp, ge_b6, ?_⟩
      simp only [own_str, if_neg hc1_0, if_pos hc17_4]
      rw [← hcs_b6]
      exact ⟨_, _, _, _, _, E_b6, V_b6, C_b6, K_b6, hcd_b6⟩
    · skip
      refine OEndsW.via (fun _ k => XS.icmpYes X0.here hx rfl (pc0 := 17) (pc' := 35) rfl (hb hby d1_17) rfl (feq hc17_4).2 (by decide) (by decide) k) ?_
      show OEndsW p e below s _ _ _ _ _ (s₁.setTop (mkF m 35 #[.val (.int nn), .val (.int ka), .val (.int kb), .val (.int kc)] []))
      refine OEndsW.via (fun _ k => XS.iloadN X0.here hx rfl (hb hby d1_35) rfl k) ?_
      show OEndsW p e below s _ _ _ _ _ (s₁.setTop (mkF m 36 #[.val (.int nn), .val (.int ka), .val (.int kb), .val (.int kc)] [(.int nn)]))
      refine OEndsW.via (fun _ k => XS.iconst X0.here hx rfl (hb hby d1_36) k) ?_
      show OEndsW p e below s _ _ _ _ _ (s₁.setTop (mkF m 37 #[.val (.int nn), .val (.int ka), .val (.int kb), .val (.int kc)] [(.int (2 : Int32)), (.int nn)]))
      by_cases hc37_9 : nn = (2 : Int32)
      · skip
        refine OEndsW.via (fun _ k => XS.icmpNo X0.here hx rfl (hb hby d1_37) rfl (teq hc37_9).2 k) ?_
        show OEndsW p e below s _ _ _ _ _ (s₁.setTop (mkF m 40 #[.val (.int nn), .val (.int ka), .val (.int kb), .val (.int kc)] []))
        obtain ⟨T11, h11, X11, e11, E11, A11, D11, -, st11⟩ := newO X0 hx hZ hown (hw _ (List.mem_of_getElem? (i := 7) rfl)) (hw _ (List.mem_of_getElem? (i := 8) rfl)) (hw _ (List.mem_of_getElem? (i := 9) rfl)) e0 (g := (mkF m 40 #[.val (.int nn), .val (.int ka), .val (.int kb), .val (.int kc)] [])) rfl (hb hby d1_40) (by decide) (by decide)
        obtain ⟨b11, g11⟩ : ∃ z, z = h0.size := ⟨_, rfl⟩
        have ge_b11 : n0 ≤ b11 := Nat.le_trans (Od.1 ▸ Od.2.1) (Nat.le_of_eq g11.symm)
        have sz_b11 : h0.size ≤ b11 := Nat.le_trans Kp.1 (Nat.le_of_eq g11.symm)
        have sf_b11 : Safe Z consts_1 _ h0 b11 := Safe.new (EL := consts_1) (vm := s.vm) (Nat.le_of_eq g11.symm)
        rw [← g11] at A11 D11 st11
        replace hk := Nat.le_trans hk E11.1
        replace Od := Od.ext E11
        replace Kp := Kp.ext E11
        replace sf_b11 := Safe.ext E11 CR.1 sf_b11
        replace CR := CR.trans (CHr.ext E11 CR.1)
        have E_b11 : Exa Z h11 b11 "java/lang/String" := A11
        have F_coder_b11 : Fld Z h11 b11 "java/lang/String" "coder" "B" (.int (0 : Int32)) := D11 (Or.inr (hw _ (List.mem_of_getElem? (i := 34) rfl))) (ty := .byte) (by decide)
        have F_value_b11 : Fld Z h11 b11 "java/lang/String" "value" "[B" .null := D11 (Or.inr (hw _ (List.mem_of_getElem? (i := 36) rfl))) (ty := (.array .byte)) (by decide)
        refine OEndsW.via (fun _ k => st11 _ k) ?_
        show OEndsW p e below s _ _ _ _ _ (T11.setTop (mkF m 43 #[.val (.int nn), .val (.int ka), .val (.int kb), .val (.int kc)] [(.ref b11)]))
        refine OEndsW.via (fun _ k => XS.dup X11.here hx rfl (hb hby d1_43) rfl rfl k) ?_
        show OEndsW p e below s _ _ _ _ _ (T11.setTop (mkF m 44 #[.val (.int nn), .val (.int ka), .val (.int kb), .val (.int kc)] [(.ref b11), (.ref b11)]))
        refine OEndsW.via (fun _ k => XS.iconst X11.here hx rfl (hb hby d1_44) k) ?_
        show OEndsW p e below s _ _ _ _ _ (T11.setTop (mkF m 45 #[.val (.int nn), .val (.int ka), .val (.int kb), .val (.int kc)] [(.int (2 : Int32)), (.ref b11), (.ref b11)]))
        obtain ⟨T12, h12, k12, X12, e12, E12, A12, st12⟩ := newP X11 hx hZ (hw _ (List.mem_of_getElem? (i := 10) rfl)) e11 (g := (mkF m 45 #[.val (.int nn), .val (.int ka), .val (.int kb), .val (.int kc)] [(.int (2 : Int32)), (.ref b11), (.ref b11)])) rfl (hb hby d1_45) rfl (by decide) (cap := 2) (by decide) (by decide) (by decide) (by decide)
        obtain ⟨b12, g12⟩ : ∃ z, z = h11.size := ⟨_, rfl⟩
        have ne_b11_b12 : b11 ≠ b12 := Nat.ne_of_lt (Nat.lt_of_lt_of_le E_b11.lt (Nat.le_of_eq g12.symm))
        have ge_b12 : n0 ≤ b12 := Nat.le_trans (Od.1 ▸ Od.2.1) (Nat.le_of_eq g12.symm)
        have sz_b12 : h0.size ≤ b12 := Nat.le_trans Kp.1 (Nat.le_of_eq g12.symm)
        have sf_b12 : Safe Z consts_1 _ h11 b12 := Safe.new (EL := consts_1) (vm := s.vm) (Nat.le_of_eq g12.symm)
        rw [← g12] at A12 st12
        replace hk := Nat.le_trans hk E12.1
        replace Od := Od.ext E12
        replace Kp := Kp.ext E12
        replace sf_b11 := Safe.ext E12 CR.1 sf_b11
        replace E_b11 := Exa.ext E12 E_b11
        replace F_coder_b11 := Fld.ext E12 F_coder_b11
        replace F_value_b11 := Fld.ext E12 F_value_b11
        replace sf_b12 := Safe.ext E12 CR.1 sf_b12
        replace CR := CR.trans (CHr.ext E12 CR.1)
        have V_b12 : Arv Z h12 b12 k12 .char (2 : Int32) [(.int (0 : Int32)), (.int (0 : Int32))] (.int (0 : Int32)) := (Arv.new A12 (by decide)).pad (pad_rep [] (.int (0 : Int32)) 2)
        refine OEndsW.via (fun _ k => st12 _ k) ?_
        show OEndsW p e below s _ _ _ _ _ (T12.setTop (mkF m 47 #[.val (.int nn), .val (.int ka), .val (.int kb), .val (.int kc)] [(.ref b12), (.ref b11), (.ref b11)]))
        refine OEndsW.via (fun _ k => XS.dup X12.here hx rfl (hb hby d1_47) rfl rfl k) ?_
        show OEndsW p e below s _ _ _ _ _ (T12.setTop (mkF m 48 #[.val (.int nn), .val (.int ka), .val (.int kb), .val (.int kc)] [(.ref b12), (.ref b12), (.ref b11), (.ref b11)]))
        refine OEndsW.via (fun _ k => XS.iconst X12.here hx rfl (hb hby d1_48) k) ?_
        show OEndsW p e below s _ _ _ _ _ (T12.setTop (mkF m 49 #[.val (.int nn), .val (.int ka), .val (.int kb), .val (.int kc)] [(.int (0 : Int32)), (.ref b12), (.ref b12), (.ref b11), (.ref b11)]))
        refine OEndsW.via (fun _ k => XS.iloadN X12.here hx rfl (hb hby d1_49) rfl k) ?_
        show OEndsW p e below s _ _ _ _ _ (T12.setTop (mkF m 50 #[.val (.int nn), .val (.int ka), .val (.int kb), .val (.int kc)] [(.int ka), (.int (0 : Int32)), (.ref b12), (.ref b12), (.ref b11), (.ref b11)]))
        obtain ⟨cl13, Ar13, q13, S13, M13, H13, G13⟩ := V_b12
        obtain ⟨T13, h13, X13, e13, W13, st13⟩ := stC X12 hx hZ e12 Ar13 (j := (0 : Int32)) (inb_of S13 ⟨by decide, by decide⟩) (g := (mkF m 50 #[.val (.int nn), .val (.int ka), .val (.int kb), .val (.int kc)] [(.int ka), (.int (0 : Int32)), (.ref b12), (.ref b12), (.ref b11), (.ref b11)])) rfl rfl (hb hby d1_50)
        have V_b12 : Arv Z h13 b12 k12 .char (2 : Int32) [(.int (nar .char ka)), (.int (0 : Int32))] (.int (0 : Int32)) := Arv.set Ar13 q13 S13 M13 H13 G13 (fits_nar_char _) W13 0 rfl (Nat.le_of_ble_eq_true rfl)
        have N13 := Fr.snoc X13 N0 ge_b12
        have sfw13 := (Safe.arr (EL := consts_1) hZ.alike Ar13 (by decide))
        replace hk := Nat.le_trans hk (Keep.of_wr W13).1
        replace Od := Od.wr W13 ge_b12
        replace Kp := Kp.wr W13 (Or.inr sz_b12)
        replace sf_b11 := Safe.wr W13 sfw13 CR.1 sf_b11
        replace E_b11 := Exa.wr W13 E_b11
        replace F_coder_b11 := Fld.other W13 F_coder_b11 (Or.inl ne_b11_b12)
        replace F_value_b11 := Fld.other W13 F_value_b11 (Or.inl ne_b11_b12)
        replace sf_b12 := Safe.wr W13 sfw13 CR.1 sf_b12
        replace CR := CR.trans (CHr.wr W13 sfw13 CR.1)
        refine OEndsW.via (fun _ k => st13 _ k) ?_
        show OEndsW p e below s _ _ _ _ _ (T13.setTop (mkF m 51 #[.val (.int nn), .val (.int ka), .val (.int kb), .val (.int kc)] [(.ref b12), (.ref b11), (.ref b11)]))
        refine OEndsW.via (fun _ k => XS.dup X13.here hx rfl (hb hby d1_51) rfl rfl k) ?_
        show OEndsW p e below s _ _ _ _ _ (T13.setTop (mkF m 52 #[.val (.int nn), .val (.int ka), .val (.int kb), .val (.int kc)] [(.ref b12), (.ref b12), (.ref b11), (.ref b11)]))
        refine OEndsW.via (fun _ k => XS.iconst X13.here hx rfl (hb hby d1_52) k) ?_
        show OEndsW p e below s _ _ _ _ _ (T13.setTop (mkF m 53 #[.val (.int nn), .val (.int ka), .val (.int kb), .val (.int kc)] [(.int (1 : Int32)), (.ref b12), (.ref b12), (.ref b11), (.ref b11)]))
        refine OEndsW.via (fun _ k => XS.iloadN X13.here hx rfl (hb hby d1_53) rfl k) ?_
        show OEndsW p e below s _ _ _ _ _ (T13.setTop (mkF m 54 #[.val (.int nn), .val (.int ka), .val (.int kb), .val (.int kc)] [(.int kb), (.int (1 : Int32)), (.ref b12), (.ref b12), (.ref b11), (.ref b11)]))
        obtain ⟨cl14, Ar14, q14, S14, M14, H14, G14⟩ := V_b12
        obtain ⟨T14, h14, X14, e14, W14, st14⟩ := stC X13 hx hZ e13 Ar14 (j := (1 : Int32)) (inb_of S14 ⟨by decide, by decide⟩) (g := (mkF m 54 #[.val (.int nn), .val (.int ka), .val (.int kb), .val (.int kc)] [(.int kb), (.int (1 : Int32)), (.ref b12), (.ref b12), (.ref b11), (.ref b11)])) rfl rfl (hb hby d1_54)
        have V_b12 : Arv Z h14 b12 k12 .char (2 : Int32) [(.int (nar .char ka)), (.int (nar .char kb))] (.int (0 : Int32)) := Arv.set Ar14 q14 S14 M14 H14 G14 (fits_nar_char _) W14 1 rfl (Nat.le_of_ble_eq_true rfl)
        have N14 := Fr.snoc X14 N13 ge_b12
        have sfw14 := (Safe.arr (EL := consts_1) hZ.alike Ar14 (by decide))
        replace hk := Nat.le_trans hk (Keep.of_wr W14).1
        replace Od := Od.wr W14 ge_b12
        replace Kp := Kp.wr W14 (Or.inr sz_b12)
        replace sf_b11 := Safe.wr W14 sfw14 CR.1 sf_b11
        replace E_b11 := Exa.wr W14 E_b11
        replace F_coder_b11 := Fld.other W14 F_coder_b11 (Or.inl ne_b11_b12)
        replace F_value_b11 := Fld.other W14 F_value_b11 (Or.inl ne_b11_b12)
        replace sf_b12 := Safe.wr W14 sfw14 CR.1 sf_b12
        replace CR := CR.trans (CHr.wr W14 sfw14 CR.1)
        refine OEndsW.via (fun _ k => st14 _ k) ?_
        show OEndsW p e below s _ _ _ _ _ (T14.setTop (mkF m 55 #[.val (.int nn), .val (.int ka), .val (.int kb), .val (.int kc)] [(.ref b12), (.ref b11), (.ref b11)]))
        rw [own_narc ha] at V_b12
        rw [own_narc hb'] at V_b12
        obtain ⟨cs_b11, hcs_b11⟩ : ∃ cs : List Int32, cs = [ka, kb] := ⟨_, rfl⟩
        have hp_b11 : ∀ c ∈ cs_b11, ¬ c < 0 ∧ ¬ (255 : Int32) < c := (by rw [hcs_b11]; exact (own_allS ha (own_allS hb' own_all0)))
        have hl_b11 : cs_b11.length = 2 := by rw [hcs_b11]; rfl
        have Kc_b11 : Arv Z h14 b12 k12 .char (2 : Int32) (cs_b11.map Value.int) (.int (0 : Int32)) := by rw [hcs_b11]; exact V_b12
        obtain ⟨_, _, ⟨T15, L15, k15, n15⟩, -, X15, ⟨Lc15, hQ15, l15, y15, z15⟩, st15⟩ := X14.specialBack hx (y := (⟨"java/lang/String", "<init>", "([C)V"⟩ : MethodName)) rfl hown (mvT hZ (hw _ (List.mem_of_getElem? (i := 11) rfl))) (mvT hZ (hw _ (List.mem_of_getElem? (i := 12) rfl))) (mvT hZ (hw _ (List.mem_of_getElem? (i := 13) rfl))) (by decide) (StrChars.Road.backV (W := 1) hZ hws (kI := 4) (hw _ (List.mem_of_getElem? (i := 8) rfl)) (cs := cs_b11) (bs := cs_b11.map (fun c => c.toInt8.toInt32)) (n := 2) ge_b11 (Od.1 ▸ Od.2.1) E_b11 F_value_b11 F_coder_b11 Kc_b11 (Sta.ext Od.2 S_CS) nz_CS hl_b11 rfl (by decide) (by decide) hp_b11 rfl (by decide) (by decide)) (g := (mkF m 55 #[.val (.int nn), .val (.int ka), .val (.int kb), .val (.int kc)] [(.ref b12), (.ref b11), (.ref b11)])) rfl (by rw [hml]; rfl) (Steps.refl _) (a := b11) (argsL := [(.ref b12)]) (rest := [(.ref b11)]) (lenOf pd_285bC29V rfl) rfl (by show 2 * 0 + _ ≤ _; exact Nat.le_of_eq rfl) (hb hby d1_55) (fun _ _ => ⟨rfl, e14, Nat.le_of_ble_eq_true rfl, Nat.le_of_ble_eq_true rfl⟩)
        dsimp only [Pt.U, Pt.locs, Pt.cells, Pt.slots] at X15 l15 y15 z15 st15 hQ15
        subst l15 y15 z15
        obtain ⟨rfl, N15q, K15, -, C_b11, t_b11, kb_b11, ge_t_b11, sz_t_b11, ntx_b11, V_b11, K_b11⟩ := hQ15
        have ne_b11_t_b11 : b11 ≠ t_b11 := Nat.ne_of_lt (Nat.lt_of_lt_of_le E_b11.lt sz_t_b11)
        have ne_b12_t_b11 : b12 ≠ t_b11 := Nat.ne_of_lt (Nat.lt_of_lt_of_le V_b12.lt sz_t_b11)
        have szz_t_b11 : h0.size ≤ t_b11 := Nat.le_trans Kp.1 sz_t_b11
        have N15 := Fr.app N14 N15q
        have sfk15 : ∀ x ∈ ([b11] : List Addr), Safe Z consts_1 s.vm h14 x := (allS sf_b11 all0)
        replace hk := Nat.le_trans hk K15.1
        replace Od := Od.keep K15 (allS ge_b11 all0)
        replace Kp := Kp.trans K15 (allS (Or.inr sz_b11) all0)
        replace sf_b11 := Safe.keep K15 sfk15 CR.1 sf_b11
        replace E_b11 := E_b11.keep K15
        replace sf_b12 := Safe.keep K15 sfk15 CR.1 sf_b12
        replace V_b12 := V_b12.keep K15 (ninS (Ne.symm ne_b11_b12) nin0)
        replace CR := CR.trans (CHr.keep K15 sfk15 CR.1)
        have hcd_b11 : StrChars.Road.CodA cs_b11 0 (2 : Int32) ((cs_b11.map (fun c => c.toInt8.toInt32)).map Value.int) := StrChars.Road.codOf (n := 2) hl_b11 (fun c hc => (hp_b11 c hc).2)
        have hbd_b11 := own_up _ hp_b11
        refine OEndsW.via (fun _ k => st15.trans k) ?_
        show OEndsW p e below s _ _ _ _ _ (T15.setTop (mkF m 58 #[.val (.int nn), .val (.int ka), .val (.int kb), .val (.int kc)] [(.ref b11)]))
        refine OEndsW.retR X15 hx hlk hS hk hZ hEL rfl es CR Bd.returns rfl rfl (hb hby d1_58) ?_ (by decide) (by decide)
        refine ⟨_, rfl, N15, Kp, ge_b11, ?_⟩
        simp only [own_str, if_neg hc1_0, if_neg hc17_4, if_pos hc37_9]
        rw [← hcs_b11]
        exact ⟨_, _, _, _, _, E_b11, V_b11, C_b11, K_b11, hcd_b11⟩
      · skip
        refine OEndsW.via (fun _ k => XS.icmpYes X0.here hx rfl (pc0 := 37) (pc' := 59) rfl (hb hby d1_37) rfl (feq hc37_9).2 (by decide) (by decide) k) ?_
        show OEndsW p e below s _ _ _ _ _ (s₁.setTop (mkF m 59 #[.val (.int nn), .val (.int ka), .val (.int kb), .val (.int kc)] []))
        obtain ⟨T16, h16, X16, e16, E16, A16, D16, -, st16⟩ := newO X0 hx hZ hown (hw _ (List.mem_of_getElem? (i := 7) rfl)) (hw _ (List.mem_of_getElem? (i := 8) rfl)) (hw _ (List.mem_of_getElem? (i := 9) rfl)) e0 (g := (mkF m 59 #[.val (.int nn), .val (.int ka), .val (.int kb), .val (.int kc)] [])) rfl (hb hby d1_59) (by decide) (by decide)
        obtain ⟨b16, g16⟩ : ∃ z, z = h0.size := ⟨_, rfl⟩
        have ge_b16 : n0 ≤ b16 := Nat.le_trans (Od.1 ▸ Od.2.1) (Nat.le_of_eq g16.symm)
        have sz_b16 : h0.size ≤ b16 := Nat.le_trans Kp.1 (Nat.le_of_eq g16.symm)
        have sf_b16 : Safe Z consts_1 _ h0 b16 := Safe.new (EL := consts_1) (vm := s.vm) (Nat.le_of_eq g16.symm)
        rw [← g16] at A16 D16 st16
        replace hk := Nat.le_trans hk E16.1
        replace Od := Od.ext E16
        replace Kp := Kp.ext E16
        replace sf_b16 := Safe.ext E16 CR.1 sf_b16
        replace CR := CR.trans (CHr.ext E16 CR.1)
        have E_b16 : Exa Z h16 b16 "java/lang/String" := A16
        have F_coder_b16 : Fld Z h16 b16 "java/lang/String" "coder" "B" (.int (0 : Int32)) := D16 (Or.inr (hw _ (List.mem_of_getElem? (i := 34) rfl))) (ty := .byte) (by decide)
        have F_value_b16 : Fld Z h16 b16 "java/lang/String" "value" "[B" .null := D16 (Or.inr (hw _ (List.mem_of_getElem? (i := 36) rfl))) (ty := (.array .byte)) (by decide)
        refine OEndsW.via (fun _ k => st16 _ k) ?_
        show OEndsW p e below s _ _ _ _ _ (T16.setTop (mkF m 62 #[.val (.int nn), .val (.int ka), .val (.int kb), .val (.int kc)] [(.ref b16)]))
        refine OEndsW.via (fun _ k => XS.dup X16.here hx rfl (hb hby d1_62) rfl rfl k) ?_
        show OEndsW p e below s _ _ _ _ _ (T16.setTop (mkF m 63 #[.val (.int nn), .val (.int ka), .val (.int kb), .val (.int kc)] [(.ref b16), (.ref b16)]))
        refine OEndsW.via (fun _ k => XS.iconst X16.here hx rfl (hb hby d1_63) k) ?_
        show OEndsW p e below s _ _ _ _ _ (T16.setTop (mkF m 64 #[.val (.int nn), .val (.int ka), .val (.int kb), .val (.int kc)] [(.int (3 : Int32)), (.ref b16), (.ref b16)]))
        obtain ⟨T17, h17, k17, X17, e17, E17, A17, st17⟩ := newP X16 hx hZ (hw _ (List.mem_of_getElem? (i := 10) rfl)) e16 (g := (mkF m 64 #[.val (.int nn), .val (.int ka), .val (.int kb), .val (.int kc)] [(.int (3 : Int32)), (.ref b16), (.ref b16)])) rfl (hb hby d1_64) rfl (by decide) (cap := 3) (by decide) (by decide) (by decide) (by decide)
        obtain ⟨b17, g17⟩ : ∃ z, z = h16.size := ⟨_, rfl⟩
        have ne_b16_b17 : b16 ≠ b17 := Nat.ne_of_lt (Nat.lt_of_lt_of_le E_b16.lt (Nat.le_of_eq g17.symm))
        have ge_b17 : n0 ≤ b17 := Nat.le_trans (Od.1 ▸ Od.2.1) (Nat.le_of_eq g17.symm)
        have sz_b17 : h0.size ≤ b17 := Nat.le_trans Kp.1 (Nat.le_of_eq g17.symm)
        have sf_b17 : Safe Z consts_1 _ h16 b17 := Safe.new (EL := consts_1) (vm := s.vm) (Nat.le_of_eq g17.symm)
        rw [← g17] at A17 st17
        replace hk := Nat.le_trans hk E17.1
        replace Od := Od.ext E17
        replace Kp := Kp.ext E17
        replace sf_b16 := Safe.ext E17 CR.1 sf_b16
        replace E_b16 := Exa.ext E17 E_b16
        replace F_coder_b16 := Fld.ext E17 F_coder_b16
        replace F_value_b16 := Fld.ext E17 F_value_b16
        replace sf_b17 := Safe.ext E17 CR.1 sf_b17
        replace CR := CR.trans (CHr.ext E17 CR.1)
        have V_b17 : Arv Z h17 b17 k17 .char (3 : Int32) [(.int (0 : Int32)), (.int (0 : Int32)), (.int (0 : Int32))] (.int (0 : Int32)) := (Arv.new A17 (by decide)).pad (pad_rep [] (.int (0 : Int32)) 3)
        refine OEndsW.via (fun _ k => st17 _ k) ?_
        show OEndsW p e below s _ _ _ _ _ (T17.setTop (mkF m 66 #[.val (.int nn), .val (.int ka), .val (.int kb), .val (.int kc)] [(.ref b17), (.ref b16), (.ref b16)]))
        refine OEndsW.via (fun _ k => XS.dup X17.here hx rfl (hb hby d1_66) rfl rfl k) ?_
        show OEndsW p e below s _ _ _ _ _ (T17.setTop (mkF m 67 #[.val (.int nn), .val (.int ka), .val (.int kb), .val (.int kc)] [(.ref b17), (.ref b17), (.ref b16), (.ref b16)]))
        refine OEndsW.via (fun _ k => XS.iconst X17.here hx rfl (hb hby d1_67) k) ?_
        show OEndsW p e below s _ _ _ _ _ (T17.setTop (mkF m 68 #[.val (.int nn), .val (.int ka), .val (.int kb), .val (.int kc)] [(.int (0 : Int32)), (.ref b17), (.ref b17), (.ref b16), (.ref b16)]))
        refine OEndsW.via (fun _ k => XS.iloadN X17.here hx rfl (hb hby d1_68) rfl k) ?_
        show OEndsW p e below s _ _ _ _ _ (T17.setTop (mkF m 69 #[.val (.int nn), .val (.int ka), .val (.int kb), .val (.int kc)] [(.int ka), (.int (0 : Int32)), (.ref b17), (.ref b17), (.ref b16), (.ref b16)]))
        obtain ⟨cl18, Ar18, q18, S18, M18, H18, G18⟩ := V_b17
        obtain ⟨T18, h18, X18, e18, W18, st18⟩ := stC X17 hx hZ e17 Ar18 (j := (0 : Int32)) (inb_of S18 ⟨by decide, by decide⟩) (g := (mkF m 69 #[.val (.int nn), .val (.int ka), .val (.int kb), .val (.int kc)] [(.int ka), (.int (0 : Int32)), (.ref b17), (.ref b17), (.ref b16), (.ref b16)])) rfl rfl (hb hby d1_69)
        have V_b17 : Arv Z h18 b17 k17 .char (3 : Int32) [(.int (nar .char ka)), (.int (0 : Int32)), (.int (0 : Int32))] (.int (0 : Int32)) := Arv.set Ar18 q18 S18 M18 H18 G18 (fits_nar_char _) W18 0 rfl (Nat.le_of_ble_eq_true rfl)
        have N18 := Fr.snoc X18 N0 ge_b17
        have sfw18 := (Safe.arr (EL := consts_1) hZ.alike Ar18 (by decide))
        replace hk := Nat.le_trans hk (Keep.of_wr W18).1
        replace Od := Od.wr W18 ge_b17
        replace Kp := Kp.wr W18 (Or.inr sz_b17)
        replace sf_b16 := Safe.wr W18 sfw18 CR.1 sf_b16
        replace E_b16 := Exa.wr W18 E_b16
        replace F_coder_b16 := Fld.other W18 F_coder_b16 (Or.inl ne_b16_b17)
        replace F_value_b16 := Fld.other W18 F_value_b16 (Or.inl ne_b16_b17)
        replace sf_b17 := Safe.wr W18 sfw18 CR.1 sf_b17
        replace CR := CR.trans (CHr.wr W18 sfw18 CR.1)
        refine OEndsW.via (fun _ k => st18 _ k) ?_
        show OEndsW p e below s _ _ _ _ _ (T18.setTop (mkF m 70 #[.val (.int nn), .val (.int ka), .val (.int kb), .val (.int kc)] [(.ref b17), (.ref b16), (.ref b16)]))
        refine OEndsW.via (fun _ k => XS.dup X18.here hx rfl (hb hby d1_70) rfl rfl k) ?_
        show OEndsW p e below s _ _ _ _ _ (T18.setTop (mkF m 71 #[.val (.int nn), .val (.int ka), .val (.int kb), .val (.int kc)] [(.ref b17), (.ref b17), (.ref b16), (.ref b16)]))
        refine OEndsW.via (fun _ k => XS.iconst X18.here hx rfl (hb hby d1_71) k) ?_
        show OEndsW p e below s _ _ _ _ _ (T18.setTop (mkF m 72 #[.val (.int nn), .val (.int ka), .val (.int kb), .val (.int kc)] [(.int (1 : Int32)), (.ref b17), (.ref b17), (.ref b16), (.ref b16)]))
        refine OEndsW.via (fun _ k => XS.iloadN X18.here hx rfl (hb hby d1_72) rfl k) ?_
        show OEndsW p e below s _ _ _ _ _ (T18.setTop (mkF m 73 #[.val (.int nn), .val (.int ka), .val (.int kb), .val (.int kc)] [(.int kb), (.int (1 : Int32)), (.ref b17), (.ref b17), (.ref b16), (.ref b16)]))
        obtain ⟨cl19, Ar19, q19, S19, M19, H19, G19⟩ := V_b17
        obtain ⟨T19, h19, X19, e19, W19, st19⟩ := stC X18 hx hZ e18 Ar19 (j := (1 : Int32)) (inb_of S19 ⟨by decide, by decide⟩) (g := (mkF m 73 #[.val (.int nn), .val (.int ka), .val (.int kb), .val (.int kc)] [(.int kb), (.int (1 : Int32)), (.ref b17), (.ref b17), (.ref b16), (.ref b16)])) rfl rfl (hb hby d1_73)
        have V_b17 : Arv Z h19 b17 k17 .char (3 : Int32) [(.int (nar .char ka)), (.int (nar .char kb)), (.int (0 : Int32))] (.int (0 : Int32)) := Arv.set Ar19 q19 S19 M19 H19 G19 (fits_nar_char _) W19 1 rfl (Nat.le_of_ble_eq_true rfl)
        have N19 := Fr.snoc X19 N18 ge_b17
        have sfw19 := (Safe.arr (EL := consts_1) hZ.alike Ar19 (by decide))
        replace hk := Nat.le_trans hk (Keep.of_wr W19).1
        replace Od := Od.wr W19 ge_b17
        replace Kp := Kp.wr W19 (Or.inr sz_b17)
        replace sf_b16 := Safe.wr W19 sfw19 CR.1 sf_b16
        replace E_b16 := Exa.wr W19 E_b16
        replace F_coder_b16 := Fld.other W19 F_coder_b16 (Or.inl ne_b16_b17)
        replace F_value_b16 := Fld.other W19 F_value_b16 (Or.inl ne_b16_b17)
        replace sf_b17 := Safe.wr W19 sfw19 CR.1 sf_b17
        replace CR := CR.trans (CHr.wr W19 sfw19 CR.1)
        refine OEndsW.via (fun _ k => st19 _ k) ?_
        show OEndsW p e below s _ _ _ _ _ (T19.setTop (mkF m 74 #[.val (.int nn), .val (.int ka), .val (.int kb), .val (.int kc)] [(.ref b17), (.ref b16), (.ref b16)]))
        refine OEndsW.via (fun _ k => XS.dup X19.here hx rfl (hb hby d1_74) rfl rfl k) ?_
        show OEndsW p e below s _ _ _ _ _ (T19.setTop (mkF m 75 #[.val (.int nn), .val (.int ka), .val (.int kb), .val (.int kc)] [(.ref b17), (.ref b17), (.ref b16), (.ref b16)]))
        refine OEndsW.via (fun _ k => XS.iconst X19.here hx rfl (hb hby d1_75) k) ?_
        show OEndsW p e below s _ _ _ _ _ (T19.setTop (mkF m 76 #[.val (.int nn), .val (.int ka), .val (.int kb), .val (.int kc)] [(.int (2 : Int32)), (.ref b17), (.ref b17), (.ref b16), (.ref b16)]))
        refine OEndsW.via (fun _ k => XS.iloadN X19.here hx rfl (hb hby d1_76) rfl k) ?_
        show OEndsW p e below s _ _ _ _ _ (T19.setTop (mkF m 77 #[.val (.int nn), .val (.int ka), .val (.int kb), .val (.int kc)] [(.int kc), (.int (2 : Int32)), (.ref b17), (.ref b17), (.ref b16), (.ref b16)]))
        obtain ⟨cl20, Ar20, q20, S20, M20, H20, G20⟩ := V_b17
        obtain ⟨T20, h20, X20, e20, W20, st20⟩ := stC X19 hx hZ e19 Ar20 (j := (2 : Int32)) (inb_of S20 ⟨by decide, by decide⟩) (g := (mkF m 77 #[.val (.int nn), .val (.int ka), .val (.int kb), .val (.int kc)] [(.int kc), (.int (2 : Int32)), (.ref b17), (.ref b17), (.ref b16), (.ref b16)])) rfl rfl (hb hby d1_77)
        have V_b17 : Arv Z h20 b17 k17 .char (3 : Int32) [(.int (nar .char ka)), (.int (nar .char kb)), (.int (nar .char kc))] (.int (0 : Int32)) := Arv.set Ar20 q20 S20 M20 H20 G20 (fits_nar_char _) W20 2 rfl (Nat.le_of_ble_eq_true rfl)
        have N20 := Fr.snoc X20 N19 ge_b17
        have sfw20 := (Safe.arr (EL := consts_1) hZ.alike Ar20 (by decide))
        replace hk := Nat.le_trans hk (Keep.of_wr W20).1
        replace Od := Od.wr W20 ge_b17
        replace Kp := Kp.wr W20 (Or.inr sz_b17)
        replace sf_b16 := Safe.wr W20 sfw20 CR.1 sf_b16
        replace E_b16 := Exa.wr W20 E_b16
        replace F_coder_b16 := Fld.other W20 F_coder_b16 (Or.inl ne_b16_b17)
        replace F_value_b16 := Fld.other W20 F_value_b16 (Or.inl ne_b16_b17)
        replace sf_b17 := Safe.wr W20 sfw20 CR.1 sf_b17
        replace CR := CR.trans (CHr.wr W20 sfw20 CR.1)
        refine OEndsW.via (fun _ k => st20 _ k) ?_
        show OEndsW p e below s _ _ _ _ _ (T20.setTop (mkF m 78 #[.val (.int nn), .val (.int ka), .val (.int kb), .val (.int kc)] [(.ref b17), (.ref b16), (.ref b16)]))
        rw [own_narc ha] at V_b17
        rw [own_narc hb'] at V_b17
        rw [own_narc hc] at V_b17
        obtain ⟨cs_b16, hcs_b16⟩ : ∃ cs : List Int32, cs = [ka, kb, kc] := ⟨_, rfl⟩
        have hp_b16 : ∀ c ∈ cs_b16, ¬ c < 0 ∧ ¬ (255 : Int32) < c := (by rw [hcs_b16]; exact (own_allS ha (own_allS hb' (own_allS hc own_all0))))
        have hl_b16 : cs_b16.length = 3 := by rw [hcs_b16]; rfl
        have Kc_b16 : Arv Z h20 b17 k17 .char (3 : Int32) (cs_b16.map Value.int) (.int (0 : Int32)) := by rw [hcs_b16]; exact V_b17
        obtain ⟨_, _, ⟨T21, L21, k21, n21⟩, -, X21, ⟨Lc21, hQ21, l21, y21, z21⟩, st21⟩ := X20.specialBack hx (y := (⟨"java/lang/String", "<init>", "([C)V"⟩ : MethodName)) rfl hown (mvT hZ (hw _ (List.mem_of_getElem? (i := 11) rfl))) (mvT hZ (hw _ (List.mem_of_getElem? (i := 12) rfl))) (mvT hZ (hw _ (List.mem_of_getElem? (i := 13) rfl))) (by decide) (StrChars.Road.backV (W := 1) hZ hws (kI := 4) (hw _ (List.mem_of_getElem? (i := 8) rfl)) (cs := cs_b16) (bs := cs_b16.map (fun c => c.toInt8.toInt32)) (n := 3) ge_b16 (Od.1 ▸ Od.2.1) E_b16 F_value_b16 F_coder_b16 Kc_b16 (Sta.ext Od.2 S_CS) nz_CS hl_b16 rfl (by decide) (by decide) hp_b16 rfl (by decide) (by decide)) (g := (mkF m 78 #[.val (.int nn), .val (.int ka), .val (.int kb), .val (.int kc)] [(.ref b17), (.ref b16), (.ref b16)])) rfl (by rw [hml]; rfl) (Steps.refl _) (a := b16) (argsL := [(.ref b17)]) (rest := [(.ref b16)]) (lenOf pd_285bC29V rfl) rfl (by show 2 * 0 + _ ≤ _; exact Nat.le_of_eq rfl) (hb hby d1_78) (fun _ _ => ⟨rfl, e20, Nat.le_of_ble_eq_true rfl, Nat.le_of_ble_eq_true rfl⟩)
        dsimp only [Pt.U, Pt.locs, Pt.cells, Pt.slots] at X21 l21 y21 z21 st21 hQ21
        subst l21 y21 z21
        obtain ⟨rfl, N21q, K21, -, C_b16, t_b16, kb_b16, ge_t_b16, sz_t_b16, ntx_b16, V_b16, K_b16⟩ := hQ21
        have ne_b16_t_b16 : b16 ≠ t_b16 := Nat.ne_of_lt (Nat.lt_of_lt_of_le E_b16.lt sz_t_b16)
        have ne_b17_t_b16 : b17 ≠ t_b16 := Nat.ne_of_lt (Nat.lt_of_lt_of_le V_b17.lt sz_t_b16)
        have szz_t_b16 : h0.size ≤ t_b16 := Nat.le_trans Kp.1 sz_t_b16
        have N21 := Fr.app N20 N21q
        have sfk21 : ∀ x ∈ ([b16] : List Addr), Safe Z consts_1 s.vm h20 x := (allS sf_b16 all0)
        replace hk := Nat.le_trans hk K21.1
        replace Od := Od.keep K21 (allS ge_b16 all0)
        replace Kp := Kp.trans K21 (allS (Or.inr sz_b16) all0)
        replace sf_b16 := Safe.keep K21 sfk21 CR.1 sf_b16
        replace E_b16 := E_b16.keep K21
        replace sf_b17 := Safe.keep K21 sfk21 CR.1 sf_b17
        replace V_b17 := V_b17.keep K21 (ninS (Ne.symm ne_b16_b17) nin0)
        replace CR := CR.trans (CHr.keep K21 sfk21 CR.1)
        have hcd_b16 : StrChars.Road.CodA cs_b16 0 (3 : Int32) ((cs_b16.map (fun c => c.toInt8.toInt32)).map Value.int) := StrChars.Road.codOf (n := 3) hl_b16 (fun c hc => (hp_b16 c hc).2)
        have hbd_b16 := own_up _ hp_b16
        refine OEndsW.via (fun _ k => st21.trans k) ?_
        show OEndsW p e below s _ _ _ _ _ (T21.setTop (mkF m 81 #[.val (.int nn), .val (.int ka), .val (.int kb), .val (.int kc)] [(.ref b16)]))
        refine OEndsW.retR X21 hx hlk hS hk hZ hEL rfl es CR Bd.returns rfl rfl (hb hby d1_81) ?_ (by decide) (by decide)
        refine ⟨_, rfl, N21, Kp, ge_b16, ?_⟩
        simp only [own_str, if_neg hc1_0, if_neg hc17_4, if_neg hc37_9]
        rw [← hcs_b16]
        exact ⟨_, _, _, _, _, E_b16, V_b16, C_b16, K_b16, hcd_b16⟩
theorem d9_0 : decode jdk_30_method_1_code 0 = .ok (.aload_n 0, 1) := by decide +kernel
theorem d9_1 : decode jdk_30_method_1_code 1 = .ok (.invokespecial 1, 3) := by decide +kernel
theorem d9_4 : decode jdk_30_method_1_code 4 = .ok (.return_, 1) := by decide +kernel
theorem pn_java_lang_Record : plainName "java/lang/Record" = true := by first | (simp [plainName, overriddenIn]; done) | decide +kernel
set_option maxRecDepth 65536 in
set_option maxHeartbeats 40000000 in
theorem rmRec (l : Launch) (Z : State) (a0 : Array Value) (hw : ∀ d ∈ tables_1, d.before a0 Z = true) (ws : List Jvm.Cond) (r : Addr) (h0 : Heap) (n0 : Nat) (O0 : Old Z n0 h0) :
    MetFree l (⟨"java/lang/Record", "<init>", "()V"⟩ : MethodName) (head1 (Jvm.Cond.code (⟨"java/lang/Record", "<init>", "()V"⟩ : MethodName) jdk_30_method_1_code 1 none :: ws) ({ frames := 1, cells := 0, slots := 0, locals := 12 } : Room)) (fun ar' U => ar' = #[(.ref r)] ∧ Z.Warmed39 U.vm ∧ U.heap = h0) (fun _ _ _ _ _ => True) (fun _ U o U' => ∃ v L, o = .returned v ∧ (QA none h0 n0) v U'.heap L ∧ FrameEnd U o U' L ({ frames := 1, cells := 0, slots := 0, locals := 12 } : Room).cells ({ frames := 1, cells := 0, slots := 0, locals := 12 } : Room).slots) := by
  refine MetFree.of_bodySF (plainFor_of_name pn_java_lang_Record) hisR ?_
  intro p e s m args below meth c s₁ Bd hml0 hP hK
  obtain ⟨rfl, hZ, hh⟩ := hP
  have hx := Bd.exec
  have hby := Bd.bytes
  have hlk := BodyLoose.notSynchronized Bd
  have hml : c.maxLocals = 1 := hml0
  have hown : s.vm.findClass "java/lang/Record" = some m.cls := findClass_of_methodNamed Bd.named
  have hnm := (name_of_methodNamed Bd.named Bd.method).1
  have X0 : Stand p l e ({ frames := 1, cells := 0, slots := 0, locals := 12 } : Room) s m #[(.ref r)] below meth c s₁ [] 0 0 := Stand.of_body Bd
  have e0 : s₁.heap = h0 := by rw [← hh, Bd.state]; rfl
  have N0 := Fr.nil n0
  have Z0 : n0 ≤ h0.size := O0.1 ▸ O0.2.1
  show OEnds p e below s ({ frames := 1, cells := 0, slots := 0, locals := 12 } : Room).cells ({ frames := 1, cells := 0, slots := 0, locals := 12 } : Room).slots (QA none h0 n0) (s₁.setTop (entryFrame m #[(.ref r)] 1))
  refine OEnds.via (fun _ k => castTop (show entryFrame m #[(.ref r)] 1 = (mkF m 0 #[.val (.ref r)] []) by first | (simp [entryFrame, mkF, argsToLocals, Value.category, maxLocals]; done) | rfl) k) ?_
  refine OEnds.via (fun _ k => XS.aloadN X0.here hx rfl (hb hby d9_0) rfl rfl k) ?_
  show OEnds p e below s _ _ _ (s₁.setTop (mkF m 1 #[.val (.ref r)] [(.ref r)]))
  obtain ⟨T1, X1, e1, st1⟩ := initO X0 hx hZ hown (hw _ (List.mem_of_getElem? (i := 51) rfl)) (hw _ (List.mem_of_getElem? (i := 19) rfl)) (hw _ (List.mem_of_getElem? (i := 20) rfl)) e0 (g := (mkF m 1 #[.val (.ref r)] [(.ref r)])) rfl (by rw [hml]; rfl) rfl (hb hby d9_1) (by decide) (W := 0) (by show 2 * 0 + _ ≤ _; exact Nat.le_of_eq rfl) (by decide)
  refine OEnds.via (fun _ k => st1 _ k) ?_
  show OEnds p e below s _ _ _ (T1.setTop (mkF m 4 #[.val (.ref r)] []))
  refine OEnds.retV X1 hx hlk Bd.returns (hb hby d9_4) ?_ (by decide) (by decide)
  exact ⟨rfl, N0, e1⟩
theorem d8_0 : decode prog_51_method_1_code 0 = .ok (.aload_n 0, 1) := by decide +kernel
theorem d8_1 : decode prog_51_method_1_code 1 = .ok (.invokespecial 1, 3) := by decide +kernel
theorem d8_4 : decode prog_51_method_1_code 4 = .ok (.aload_n 0, 1) := by decide +kernel
theorem d8_5 : decode prog_51_method_1_code 5 = .ok (.aload_n 1, 1) := by decide +kernel
theorem d8_6 : decode prog_51_method_1_code 6 = .ok (.putfield 7, 3) := by decide +kernel
theorem d8_9 : decode prog_51_method_1_code 9 = .ok (.aload_n 0, 1) := by decide +kernel
theorem d8_10 : decode prog_51_method_1_code 10 = .ok (.aload_n 2, 1) := by decide +kernel
theorem d8_11 : decode prog_51_method_1_code 11 = .ok (.putfield 13, 3) := by decide +kernel
theorem d8_14 : decode prog_51_method_1_code 14 = .ok (.aload_n 0, 1) := by decide +kernel
theorem d8_15 : decode prog_51_method_1_code 15 = .ok (.iload_n 3, 1) := by decide +kernel
theorem d8_16 : decode prog_51_method_1_code 16 = .ok (.putfield 17, 3) := by decide +kernel
theorem d8_19 : decode prog_51_method_1_code 19 = .ok (.aload_n 0, 1) := by decide +kernel
theorem d8_20 : decode prog_51_method_1_code 20 = .ok (.iload 4, 2) := by decide +kernel
theorem d8_22 : decode prog_51_method_1_code 22 = .ok (.putfield 21, 3) := by decide +kernel
theorem d8_25 : decode prog_51_method_1_code 25 = .ok (.return_, 1) := by decide +kernel
theorem pn_com_example_charttop_charttop_query_Token : plainName "com/example/charttop/charttop/query/Token" = true := by first | (simp [plainName, overriddenIn]; done) | decide +kernel
def Q_rmI (Z : State) (r : Addr) (ty : Addr) (x : Addr) (sl : Int32) (at' : Int32) (h0 : Heap) (n0 : Nat) (v : Option Value) (h : Heap) (L : List Loc) : Prop := v = none ∧ Fr n0 L ∧ Keep h0 h [r] ∧ Fld Z h r "com/example/charttop/charttop/query/Token" "type" "Lcom/example/charttop/charttop/query/Token$Type;" (.ref ty) ∧ Fld Z h r "com/example/charttop/charttop/query/Token" "text" "Ljava/lang/String;" (.ref x)
set_option maxRecDepth 65536 in
set_option maxHeartbeats 40000000 in
theorem rmI (l : Launch) (Z : State) (a0 : Array Value) (hw : ∀ d ∈ tables_1, d.before a0 Z = true) (ws : List Jvm.Cond) (r : Addr) (ty : Addr) (x : Addr) (sl : Int32) (at' : Int32) (h0 : Heap) (n0 : Nat) (O0 : Old Z n0 h0) (F_type_r : Fld Z h0 r "com/example/charttop/charttop/query/Token" "type" "Lcom/example/charttop/charttop/query/Token$Type;" .null) (F_text_r : Fld Z h0 r "com/example/charttop/charttop/query/Token" "text" "Ljava/lang/String;" .null) (F_slop_r : Fld Z h0 r "com/example/charttop/charttop/query/Token" "slop" "I" (.int (0 : Int32))) (F_at_r : Fld Z h0 r "com/example/charttop/charttop/query/Token" "at" "I" (.int (0 : Int32))) (E_r : Exa Z h0 r "com/example/charttop/charttop/query/Token") (ge_r : n0 ≤ r) :
    MetFree l (⟨"com/example/charttop/charttop/query/Token", "<init>", "(Lcom/example/charttop/charttop/query/Token$Type;Ljava/lang/String;II)V"⟩ : MethodName) (head1 (Jvm.Cond.code (⟨"com/example/charttop/charttop/query/Token", "<init>", "(Lcom/example/charttop/charttop/query/Token$Type;Ljava/lang/String;II)V"⟩ : MethodName) prog_51_method_1_code 5 none :: ws) ({ frames := 2, cells := 0, slots := 0, locals := 30 } : Room)) (fun ar' U => ar' = #[(.ref r), (.ref ty), (.ref x), (.int sl), (.int at')] ∧ Z.Warmed39 U.vm ∧ U.heap = h0) (fun _ _ _ _ _ => True) (fun _ U o U' => ∃ v L, o = .returned v ∧ (Q_rmI Z r ty x sl at' h0 n0) v U'.heap L ∧ FrameEnd U o U' L ({ frames := 2, cells := 0, slots := 0, locals := 30 } : Room).cells ({ frames := 2, cells := 0, slots := 0, locals := 30 } : Room).slots) := by
  refine MetFree.of_bodySF (plainFor_of_name pn_com_example_charttop_charttop_query_Token) hisR ?_
  intro p e s m args below meth c s₁ Bd hml0 hP hK
  obtain ⟨rfl, hZ, hh⟩ := hP
  have hx := Bd.exec
  have hby := Bd.bytes
  have hlk := BodyLoose.notSynchronized Bd
  have hml : c.maxLocals = 5 := hml0
  have hown : s.vm.findClass "com/example/charttop/charttop/query/Token" = some m.cls := findClass_of_methodNamed Bd.named
  have hnm := (name_of_methodNamed Bd.named Bd.method).1
  have X0 : Stand p l e ({ frames := 2, cells := 0, slots := 0, locals := 30 } : Room) s m #[(.ref r), (.ref ty), (.ref x), (.int sl), (.int at')] below meth c s₁ [] 0 0 := Stand.of_body Bd
  have e0 : s₁.heap = h0 := by rw [← hh, Bd.state]; rfl
  have N0 := Fr.nil n0
  have Z0 : n0 ≤ h0.size := O0.1 ▸ O0.2.1
  show OEnds p e below s ({ frames := 2, cells := 0, slots := 0, locals := 30 } : Room).cells ({ frames := 2, cells := 0, slots := 0, locals := 30 } : Room).slots (Q_rmI Z r ty x sl at' h0 n0) (s₁.setTop (entryFrame m #[(.ref r), (.ref ty), (.ref x), (.int sl), (.int at')] 5))
  refine OEnds.via (fun _ k => castTop (show entryFrame m #[(.ref r), (.ref ty), (.ref x), (.int sl), (.int at')] 5 = (mkF m 0 #[.val (.ref r), .val (.ref ty), .val (.ref x), .val (.int sl), .val (.int at')] []) by first | (simp [entryFrame, mkF, argsToLocals, Value.category, maxLocals]; done) | rfl) k) ?_
  have Kp := Keep.refl h0 [r]
  show OEnds p e below s _ _ _ (s₁.setTop (mkF m 0 #[.val (.ref r), .val (.ref ty), .val (.ref x), .val (.int sl), .val (.int at')] []))
  refine OEnds.via (fun _ k => XS.aloadN X0.here hx rfl (hb hby d8_0) rfl rfl k) ?_
  show OEnds p e below s _ _ _ (s₁.setTop (mkF m 1 #[.val (.ref r), .val (.ref ty), .val (.ref x), .val (.int sl), .val (.int at')] [(.ref r)]))
  obtain ⟨_, _, ⟨T1, L1, k1, n1⟩, -, X1, ⟨Lc1, hQ1, l1, y1, z1⟩, st1⟩ := X0.specialBack hx (y := (⟨"java/lang/Record", "<init>", "()V"⟩ : MethodName)) rfl hown (mvT hZ (hw _ (List.mem_of_getElem? (i := 46) rfl))) (mvT hZ (hw _ (List.mem_of_getElem? (i := 47) rfl))) (mvT hZ (hw _ (List.mem_of_getElem? (i := 50) rfl))) (by decide) (backOf (W := 0) (rmRec l Z a0 hw [] r h0 n0 O0 ) hZ (hw _ (List.mem_of_getElem? (i := 50) rfl)) (hw _ (List.mem_of_getElem? (i := 49) rfl)) (by decide) (by decide)) (g := (mkF m 1 #[.val (.ref r), .val (.ref ty), .val (.ref x), .val (.int sl), .val (.int at')] [(.ref r)])) rfl (by rw [hml]; rfl) (Steps.refl _) (a := r) (argsL := []) (rest := []) (lenOf pd_2829V rfl) rfl (by show 2 * 0 + _ ≤ _; exact Nat.le_of_eq rfl) (hb hby d8_1) (fun _ _ => ⟨rfl, e0, Nat.le_of_ble_eq_true rfl, Nat.le_of_ble_eq_true rfl⟩)
  dsimp only [Pt.U, Pt.locs, Pt.cells, Pt.slots] at X1 l1 y1 z1 st1 hQ1
  subst l1 y1 z1
  obtain ⟨rfl, N1q, e1⟩ := hQ1
  have N1 := Fr.app N0 N1q
  refine OEnds.via (fun _ k => st1.trans k) ?_
  show OEnds p e below s _ _ _ (T1.setTop (mkF m 4 #[.val (.ref r), .val (.ref ty), .val (.ref x), .val (.int sl), .val (.int at')] []))
  refine OEnds.via (fun _ k => XS.aloadN X1.here hx rfl (hb hby d8_4) rfl rfl k) ?_
  show OEnds p e below s _ _ _ (T1.setTop (mkF m 5 #[.val (.ref r), .val (.ref ty), .val (.ref x), .val (.int sl), .val (.int at')] [(.ref r)]))
  refine OEnds.via (fun _ k => XS.aloadN X1.here hx rfl (hb hby d8_5) rfl rfl k) ?_
  show OEnds p e below s _ _ _ (T1.setTop (mkF m 6 #[.val (.ref r), .val (.ref ty), .val (.ref x), .val (.int sl), .val (.int at')] [(.ref ty), (.ref r)]))
  obtain ⟨T2, h2, X2, e2, W2, st2⟩ := putF X1 hx hZ hown (host := "") (Or.inl (hw _ (List.mem_of_getElem? (i := 52) rfl))) Via.refl e1 F_type_r E_r (Or.inr ⟨(hw _ (List.mem_of_getElem? (i := 53) rfl)), rfl, hnm⟩) (hw _ (List.mem_of_getElem? (i := 41) rfl)) (ty := (.object "com/example/charttop/charttop/query/Token$Type")) (by decide) rfl rfl (g := (mkF m 6 #[.val (.ref r), .val (.ref ty), .val (.ref x), .val (.int sl), .val (.int at')] [(.ref ty), (.ref r)])) rfl rfl (hb hby d8_6)
  have N2 := Fr.snoc X2 N1 ge_r
  replace F_type_r := Fld.same W2 F_type_r
  replace F_text_r := Fld.other W2 F_text_r (Or.inr (slot_ne (Or.inr (hw _ (List.mem_of_getElem? (i := 55) rfl))) (Or.inr (hw _ (List.mem_of_getElem? (i := 53) rfl))) (by decide) (t := (.object "java/lang/String")) (t' := (.object "com/example/charttop/charttop/query/Token$Type")) (by decide) (by decide)))
  replace F_slop_r := Fld.other W2 F_slop_r (Or.inr (slot_ne (Or.inr (hw _ (List.mem_of_getElem? (i := 57) rfl))) (Or.inr (hw _ (List.mem_of_getElem? (i := 53) rfl))) (by decide) (t := .int) (t' := (.object "com/example/charttop/charttop/query/Token$Type")) (by decide) (by decide)))
  replace F_at_r := Fld.other W2 F_at_r (Or.inr (slot_ne (Or.inr (hw _ (List.mem_of_getElem? (i := 59) rfl))) (Or.inr (hw _ (List.mem_of_getElem? (i := 53) rfl))) (by decide) (t := .int) (t' := (.object "com/example/charttop/charttop/query/Token$Type")) (by decide) (by decide)))
  replace E_r := Exa.wr W2 E_r
  replace Kp := Kp.wr W2 (Or.inl (by simp))
  refine OEnds.via (fun _ k => st2 _ k) ?_
  show OEnds p e below s _ _ _ (T2.setTop (mkF m 9 #[.val (.ref r), .val (.ref ty), .val (.ref x), .val (.int sl), .val (.int at')] []))
  refine OEnds.via (fun _ k => XS.aloadN X2.here hx rfl (hb hby d8_9) rfl rfl k) ?_
  show OEnds p e below s _ _ _ (T2.setTop (mkF m 10 #[.val (.ref r), .val (.ref ty), .val (.ref x), .val (.int sl), .val (.int at')] [(.ref r)]))
  refine OEnds.via (fun _ k => XS.aloadN X2.here hx rfl (hb hby d8_10) rfl rfl k) ?_
  show OEnds p e below s _ _ _ (T2.setTop (mkF m 11 #[.val (.ref r), .val (.ref ty), .val (.ref x), .val (.int sl), .val (.int at')] [(.ref x), (.ref r)]))
  obtain ⟨T3, h3, X3, e3, W3, st3⟩ := putF X2 hx hZ hown (host := "") (Or.inl (hw _ (List.mem_of_getElem? (i := 54) rfl))) Via.refl e2 F_text_r E_r (Or.inr ⟨(hw _ (List.mem_of_getElem? (i := 55) rfl)), rfl, hnm⟩) (hw _ (List.mem_of_getElem? (i := 41) rfl)) (ty := (.object "java/lang/String")) (by decide) rfl rfl (g := (mkF m 11 #[.val (.ref r), .val (.ref ty), .val (.ref x), .val (.int sl), .val (.int at')] [(.ref x), (.ref r)])) rfl rfl (hb hby d8_11)
  have N3 := Fr.snoc X3 N2 ge_r
  replace F_type_r := Fld.other W3 F_type_r (Or.inr (slot_ne (Or.inr (hw _ (List.mem_of_getElem? (i := 53) rfl))) (Or.inr (hw _ (List.mem_of_getElem? (i := 55) rfl))) (by decide) (t := (.object "com/example/charttop/charttop/query/Token$Type")) (t' := (.object "java/lang/String")) (by decide) (by decide)))
  replace F_text_r := Fld.same W3 F_text_r
  replace F_slop_r := Fld.other W3 F_slop_r (Or.inr (slot_ne (Or.inr (hw _ (List.mem_of_getElem? (i := 57) rfl))) (Or.inr (hw _ (List.mem_of_getElem? (i := 55) rfl))) (by decide) (t := .int) (t' := (.object "java/lang/String")) (by decide) (by decide)))
  replace F_at_r := Fld.other W3 F_at_r (Or.inr (slot_ne (Or.inr (hw _ (List.mem_of_getElem? (i := 59) rfl))) (Or.inr (hw _ (List.mem_of_getElem? (i := 55) rfl))) (by decide) (t := .int) (t' := (.object "java/lang/String")) (by decide) (by decide)))
  replace E_r := Exa.wr W3 E_r
  replace Kp := Kp.wr W3 (Or.inl (by simp))
  refine OEnds.via (fun _ k => st3 _ k) ?_
  show OEnds p e below s _ _ _ (T3.setTop (mkF m 14 #[.val (.ref r), .val (.ref ty), .val (.ref x), .val (.int sl), .val (.int at')] []))
  refine OEnds.via (fun _ k => XS.aloadN X3.here hx rfl (hb hby d8_14) rfl rfl k) ?_
  show OEnds p e below s _ _ _ (T3.setTop (mkF m 15 #[.val (.ref r), .val (.ref ty), .val (.ref x), .val (.int sl), .val (.int at')] [(.ref r)]))
  refine OEnds.via (fun _ k => XS.iloadN X3.here hx rfl (hb hby d8_15) rfl k) ?_
  show OEnds p e below s _ _ _ (T3.setTop (mkF m 16 #[.val (.ref r), .val (.ref ty), .val (.ref x), .val (.int sl), .val (.int at')] [(.int sl), (.ref r)]))
  obtain ⟨T4, h4, X4, e4, W4, st4⟩ := putF X3 hx hZ hown (host := "") (Or.inl (hw _ (List.mem_of_getElem? (i := 56) rfl))) Via.refl e3 F_slop_r E_r (Or.inr ⟨(hw _ (List.mem_of_getElem? (i := 57) rfl)), rfl, hnm⟩) (hw _ (List.mem_of_getElem? (i := 41) rfl)) (ty := .int) (by decide) rfl rfl (g := (mkF m 16 #[.val (.ref r), .val (.ref ty), .val (.ref x), .val (.int sl), .val (.int at')] [(.int sl), (.ref r)])) rfl rfl (hb hby d8_16)
  have N4 := Fr.snoc X4 N3 ge_r
  replace F_type_r := Fld.other W4 F_type_r (Or.inr (slot_ne (Or.inr (hw _ (List.mem_of_getElem? (i := 53) rfl))) (Or.inr (hw _ (List.mem_of_getElem? (i := 57) rfl))) (by decide) (t := (.object "com/example/charttop/charttop/query/Token$Type")) (t' := .int) (by decide) (by decide)))
  replace F_text_r := Fld.other W4 F_text_r (Or.inr (slot_ne (Or.inr (hw _ (List.mem_of_getElem? (i := 55) rfl))) (Or.inr (hw _ (List.mem_of_getElem? (i := 57) rfl))) (by decide) (t := (.object "java/lang/String")) (t' := .int) (by decide) (by decide)))
  replace F_slop_r := Fld.same W4 F_slop_r
  replace F_at_r := Fld.other W4 F_at_r (Or.inr (slot_ne (Or.inr (hw _ (List.mem_of_getElem? (i := 59) rfl))) (Or.inr (hw _ (List.mem_of_getElem? (i := 57) rfl))) (by decide) (t := .int) (t' := .int) (by decide) (by decide)))
  replace E_r := Exa.wr W4 E_r
  replace Kp := Kp.wr W4 (Or.inl (by simp))
  refine OEnds.via (fun _ k => st4 _ k) ?_
  show OEnds p e below s _ _ _ (T4.setTop (mkF m 19 #[.val (.ref r), .val (.ref ty), .val (.ref x), .val (.int sl), .val (.int at')] []))
  refine OEnds.via (fun _ k => XS.aloadN X4.here hx rfl (hb hby d8_19) rfl rfl k) ?_
  show OEnds p e below s _ _ _ (T4.setTop (mkF m 20 #[.val (.ref r), .val (.ref ty), .val (.ref x), .val (.int sl), .val (.int at')] [(.ref r)]))
  refine OEnds.via (fun _ k => XS.iload X4.here hx rfl (hb hby d8_20) rfl k) ?_
  show OEnds p e below s _ _ _ (T4.setTop (mkF m 22 #[.val (.ref r), .val (.ref ty), .val (.ref x), .val (.int sl), .val (.int at')] [(.int at'), (.ref r)]))
  obtain ⟨T5, h5, X5, e5, W5, st5⟩ := putF X4 hx hZ hown (host := "") (Or.inl (hw _ (List.mem_of_getElem? (i := 58) rfl))) Via.refl e4 F_at_r E_r (Or.inr ⟨(hw _ (List.mem_of_getElem? (i := 59) rfl)), rfl, hnm⟩) (hw _ (List.mem_of_getElem? (i := 41) rfl)) (ty := .int) (by decide) rfl rfl (g := (mkF m 22 #[.val (.ref r), .val (.ref ty), .val (.ref x), .val (.int sl), .val (.int at')] [(.int at'), (.ref r)])) rfl rfl (hb hby d8_22)
  have N5 := Fr.snoc X5 N4 ge_r
  replace F_type_r := Fld.other W5 F_type_r (Or.inr (slot_ne (Or.inr (hw _ (List.mem_of_getElem? (i := 53) rfl))) (Or.inr (hw _ (List.mem_of_getElem? (i := 59) rfl))) (by decide) (t := (.object "com/example/charttop/charttop/query/Token$Type")) (t' := .int) (by decide) (by decide)))
  replace F_text_r := Fld.other W5 F_text_r (Or.inr (slot_ne (Or.inr (hw _ (List.mem_of_getElem? (i := 55) rfl))) (Or.inr (hw _ (List.mem_of_getElem? (i := 59) rfl))) (by decide) (t := (.object "java/lang/String")) (t' := .int) (by decide) (by decide)))
  replace F_slop_r := Fld.other W5 F_slop_r (Or.inr (slot_ne (Or.inr (hw _ (List.mem_of_getElem? (i := 57) rfl))) (Or.inr (hw _ (List.mem_of_getElem? (i := 59) rfl))) (by decide) (t := .int) (t' := .int) (by decide) (by decide)))
  replace F_at_r := Fld.same W5 F_at_r
  replace E_r := Exa.wr W5 E_r
  replace Kp := Kp.wr W5 (Or.inl (by simp))
  refine OEnds.via (fun _ k => st5 _ k) ?_
  show OEnds p e below s _ _ _ (T5.setTop (mkF m 25 #[.val (.ref r), .val (.ref ty), .val (.ref x), .val (.int sl), .val (.int at')] []))
  refine OEnds.retV X5 hx hlk Bd.returns (hb hby d8_25) ?_ (by decide) (by decide)
  rw [e5]
  exact ⟨rfl, N5, Kp, F_type_r, F_text_r⟩
theorem d10_0 : decode prog_51_method_2_code 0 = .ok (.aload_n 0, 1) := by decide +kernel
theorem d10_1 : decode prog_51_method_2_code 1 = .ok (.getfield 7, 3) := by decide +kernel
theorem d10_4 : decode prog_51_method_2_code 4 = .ok (.getstatic 24, 3) := by decide +kernel
theorem d10_7 : decode prog_51_method_2_code 7 = .ok (.if_acmp .ne 18, 3) := by decide +kernel
theorem d10_10 : decode prog_51_method_2_code 10 = .ok (.aload_n 0, 1) := by decide +kernel
theorem d10_11 : decode prog_51_method_2_code 11 = .ok (.getfield 13, 3) := by decide +kernel
theorem d10_14 : decode prog_51_method_2_code 14 = .ok (.aload_n 1, 1) := by decide +kernel
theorem d10_15 : decode prog_51_method_2_code 15 = .ok (.invokevirtual 29, 3) := by decide +kernel
theorem d10_18 : decode prog_51_method_2_code 18 = .ok (.ifCond .eq 7, 3) := by decide +kernel
theorem d10_21 : decode prog_51_method_2_code 21 = .ok (.iconst 1, 1) := by decide +kernel
theorem d10_22 : decode prog_51_method_2_code 22 = .ok (.goto 4, 3) := by decide +kernel
theorem d10_25 : decode prog_51_method_2_code 25 = .ok (.iconst 0, 1) := by decide +kernel
theorem d10_26 : decode prog_51_method_2_code 26 = .ok (.ireturn, 1) := by decide +kernel
theorem pd_28Ljava2flang2fObject3b29Z : parseMethodDescriptor "(Ljava/lang/Object;)Z" = some ⟨[(.object "java/lang/Object")], some .boolean⟩ := by decide +kernel
set_option maxRecDepth 65536 in
set_option maxHeartbeats 40000000 in
theorem rmT (l : Launch) (Z : State) (a0 : Array Value) (hw : ∀ d ∈ tables_1, d.before a0 Z = true) (ws : List Jvm.Cond) (r : Addr) (ty : Addr) (aW : Addr) (G1 : Int32) (cs : List Int32) (ds : List Int32) (res : Int32) (x : Addr) (t_x : Addr) (kb_x : ClassId) (cd_x : Int32) (nn_x : Int32) (vs_x : List Value) (y : Addr) (t_y : Addr) (kb_y : ClassId) (cd_y : Int32) (nn_y : Int32) (vs_y : List Value) (h0 : Heap) (n0 : Nat) (O0 : Old Z n0 h0) (S_CS : Sta Z Z.heap "java/lang/String" "COMPACT_STRINGS" "Z" (.int G1)) (nz_CS : ¬ (G1 = (0 : Int32))) (S_W : Sta Z Z.heap "com/example/charttop/charttop/query/Token$Type" "WORD" "Lcom/example/charttop/charttop/query/Token$Type;" (.ref aW)) (F_type : Fld Z h0 r "com/example/charttop/charttop/query/Token" "type" "Lcom/example/charttop/charttop/query/Token$Type;" (.ref ty)) (F_text : Fld Z h0 r "com/example/charttop/charttop/query/Token" "text" "Ljava/lang/String;" (.ref x)) (E_x : Exa Z h0 x "java/lang/String") (V_x : Fld Z h0 x "java/lang/String" "value" "[B" (.ref t_x)) (C_x : Fld Z h0 x "java/lang/String" "coder" "B" (.int cd_x)) (K_x : Arv Z h0 t_x kb_x .byte nn_x vs_x (.int (0 : Int32))) (hcd_x : StrChars.Road.CodA cs cd_x nn_x vs_x) (hbd_x : ∀ c ∈ cs, ¬ c < 0 ∧ ¬ (65535 : Int32) < c) (le_x : cs.length ≤ 4000) (E_y : Exa Z h0 y "java/lang/String") (V_y : Fld Z h0 y "java/lang/String" "value" "[B" (.ref t_y)) (C_y : Fld Z h0 y "java/lang/String" "coder" "B" (.int cd_y)) (K_y : Arv Z h0 t_y kb_y .byte nn_y vs_y (.int (0 : Int32))) (hcd_y : StrChars.Road.CodA ds cd_y nn_y vs_y) (hbd_y : ∀ c ∈ ds, ¬ c < 0 ∧ ¬ (65535 : Int32) < c) (le_y : ds.length ≤ 4000) (hr : (ty = aW ∧ ((cs = ds ∧ res = 1) ∨ (¬ cs = ds ∧ res = 0))) ∨ (ty ≠ aW ∧ res = 0)) :
    MetFree l (⟨"com/example/charttop/charttop/query/Token", "is", "(Ljava/lang/String;)Z"⟩ : MethodName) (head1 (Jvm.Cond.code (⟨"com/example/charttop/charttop/query/Token", "is", "(Ljava/lang/String;)Z"⟩ : MethodName) prog_51_method_2_code 2 (some .boolean) :: ws) ({ frames := 3, cells := 0, slots := 0, locals := 60 } : Room)) (fun ar' U => ar' = #[(.ref r), (.ref y)] ∧ Z.Warmed39 U.vm ∧ U.heap = h0) (fun _ _ _ _ _ => True) (fun _ U o U' => ∃ v L, o = .returned v ∧ (QA (some (.int res)) h0 n0) v U'.heap L ∧ FrameEnd U o U' L ({ frames := 3, cells := 0, slots := 0, locals := 60 } : Room).cells ({ frames := 3, cells := 0, slots := 0, locals := 60 } : Room).slots) := by
  refine MetFree.of_bodySF (plainFor_of_name pn_com_example_charttop_charttop_query_Token) hisR ?_
  intro p e s m args below meth c s₁ Bd hml0 hP hK
  obtain ⟨rfl, hZ, hh⟩ := hP
  have hx := Bd.exec
  have hby := Bd.bytes
  have hlk := BodyLoose.notSynchronized Bd
  have hml : c.maxLocals = 2 := hml0
  have hown : s.vm.findClass "com/example/charttop/charttop/query/Token" = some m.cls := findClass_of_methodNamed Bd.named
  have hnm := (name_of_methodNamed Bd.named Bd.method).1
  have X0 : Stand p l e ({ frames := 3, cells := 0, slots := 0, locals := 60 } : Room) s m #[(.ref r), (.ref y)] below meth c s₁ [] 0 0 := Stand.of_body Bd
  have e0 : s₁.heap = h0 := by rw [← hh, Bd.state]; rfl
  have N0 := Fr.nil n0
  have Z0 : n0 ≤ h0.size := O0.1 ▸ O0.2.1
  show OEnds p e below s ({ frames := 3, cells := 0, slots := 0, locals := 60 } : Room).cells ({ frames := 3, cells := 0, slots := 0, locals := 60 } : Room).slots (QA (some (.int res)) h0 n0) (s₁.setTop (entryFrame m #[(.ref r), (.ref y)] 2))
  refine OEnds.via (fun _ k => castTop (show entryFrame m #[(.ref r), (.ref y)] 2 = (mkF m 0 #[.val (.ref r), .val (.ref y)] []) by first | (simp [entryFrame, mkF, argsToLocals, Value.category, maxLocals]; done) | rfl) k) ?_
  have heq : ∀ d ∈ StrChars.Road.wordsEq, d.before a0 Z = true := fun d hd => hw d ((by decide +kernel : ∀ d ∈ StrChars.Road.wordsEq, d ∈ tables_1) d hd)
  have Od := O0
  rcases hr with ⟨rfl, hr⟩ | ⟨hne, rfl⟩
  · rcases hr with ⟨hq, rfl⟩ | ⟨hq, rfl⟩
    · skip
      show OEnds p e below s _ _ _ (s₁.setTop (mkF m 0 #[.val (.ref r), .val (.ref y)] []))
      refine OEnds.via (fun _ k => XS.aloadN X0.here hx rfl (hb hby d10_0) rfl rfl k) ?_
      show OEnds p e below s _ _ _ (s₁.setTop (mkF m 1 #[.val (.ref r), .val (.ref y)] [(.ref r)]))
      obtain ⟨T1, X1, e1, st1⟩ := getF X0 hx hZ hown (host := "") (Or.inl (hw _ (List.mem_of_getElem? (i := 52) rfl))) Via.refl e0 F_type (g := (mkF m 1 #[.val (.ref r), .val (.ref y)] [(.ref r)])) rfl rfl (hb hby d10_1)
      refine OEnds.via (fun _ k => st1 _ k) ?_
      show OEnds p e below s _ _ _ (T1.setTop (mkF m 4 #[.val (.ref r), .val (.ref y)] [(.ref ty)]))
      obtain ⟨T2, X2, e2, st2⟩ := getS2 X1 hx hZ hown (host := "") (Or.inl (hw _ (List.mem_of_getElem? (i := 65) rfl))) Via.refl e1 (Sta.ext O0.2 S_W) (g := (mkF m 4 #[.val (.ref r), .val (.ref y)] [(.ref ty)])) rfl (hb hby d10_4)
      refine OEnds.via (fun _ k => st2 _ k) ?_
      show OEnds p e below s _ _ _ (T2.setTop (mkF m 7 #[.val (.ref r), .val (.ref y)] [(.ref ty), (.ref ty)]))
      refine OEnds.via (fun _ k => Jvm.RoadKit.acmp (g := (mkF m 7 #[.val (.ref r), .val (.ref y)] [(.ref ty), (.ref ty)])) X2 hx rfl rfl rfl (pc0 := 7) (pc' := 10) (same := true) rfl (hb hby d10_7) rfl (decide_eq_true rfl) (by decide) (by decide) k) ?_
      show OEnds p e below s _ _ _ (T2.setTop (mkF m 10 #[.val (.ref r), .val (.ref y)] []))
      refine OEnds.via (fun _ k => XS.aloadN X2.here hx rfl (hb hby d10_10) rfl rfl k) ?_
      show OEnds p e below s _ _ _ (T2.setTop (mkF m 11 #[.val (.ref r), .val (.ref y)] [(.ref r)]))
      obtain ⟨T3, X3, e3, st3⟩ := getF X2 hx hZ hown (host := "") (Or.inl (hw _ (List.mem_of_getElem? (i := 54) rfl))) Via.refl e2 F_text (g := (mkF m 11 #[.val (.ref r), .val (.ref y)] [(.ref r)])) rfl rfl (hb hby d10_11)
      refine OEnds.via (fun _ k => st3 _ k) ?_
      show OEnds p e below s _ _ _ (T3.setTop (mkF m 14 #[.val (.ref r), .val (.ref y)] [(.ref x)]))
      refine OEnds.via (fun _ k => XS.aloadN X3.here hx rfl (hb hby d10_14) rfl rfl k) ?_
      show OEnds p e below s _ _ _ (T3.setTop (mkF m 15 #[.val (.ref r), .val (.ref y)] [(.ref y), (.ref x)]))
      obtain ⟨cq4, kq4, q4a, q4b, q4c⟩ := isOf hZ e3 E_x
      obtain ⟨_, _, ⟨T4, L4, k4, n4⟩, -, X4, ⟨Lc4, hQ4, l4, y4, z4⟩, st4⟩ := X3.virtualBack hx (y := (⟨"java/lang/String", "equals", "(Ljava/lang/Object;)Z"⟩ : MethodName)) (z := (⟨"java/lang/String", "equals", "(Ljava/lang/Object;)Z"⟩ : MethodName)) hown (mvT hZ (hw _ (List.mem_of_getElem? (i := 70) rfl))) (mvT hZ (hw _ (List.mem_of_getElem? (i := 71) rfl))) (notFace_of_selects (args := #[]) (mvT hZ (hw _ (List.mem_of_getElem? (i := 73) rfl)))) (mvT hZ (hw _ (List.mem_of_getElem? (i := 73) rfl))) (mvT hZ (hw _ (List.mem_of_getElem? (i := 72) rfl))) (by decide) (StrChars.Road.eqW (W := 0) hZ heq (kI := 4) (hw _ (List.mem_of_getElem? (i := 8) rfl)) E_x V_x C_x K_x hcd_x hbd_x le_x E_y V_y C_y K_y hcd_y hbd_y le_y (Sta.ext Od.2 S_CS) nz_CS (by decide) (by decide)) q4a q4c (g := (mkF m 15 #[.val (.ref r), .val (.ref y)] [(.ref y), (.ref x)])) rfl (by rw [hml]; rfl) (Steps.refl _) (argsL := [(.ref y)]) (rest := []) (lenOf pd_28Ljava2flang2fObject3b29Z rfl) rfl (by show 2 * 0 + _ ≤ _; exact Nat.le_of_eq rfl) (hb hby d10_15) (fun _ _ => ⟨rfl, e3, Nat.le_of_ble_eq_true rfl, Nat.le_of_ble_eq_true rfl⟩)
      dsimp only [Pt.U, Pt.locs, Pt.cells, Pt.slots] at X4 l4 y4 z4 st4 hQ4
      subst l4 y4 z4
      obtain ⟨hcase4, rfl, e4⟩ := hQ4
      have N4 := Fr.app N0 (Fr.nil n0)
      have hv4 : _ = some (Value.int 1) := hcase4.elim (fun q => q.1) (fun q => absurd hq q.2)
      subst hv4
      refine OEnds.via (fun _ k => st4.trans k) ?_
      show OEnds p e below s _ _ _ (T4.setTop (mkF m 18 #[.val (.ref r), .val (.ref y)] [(.int (1 : Int32))]))
      refine OEnds.via (fun _ k => XS.ifNo X4.here hx rfl (hb hby d10_18) rfl ((if0 _ _).trans (feq (by decide : ¬ ((1 : Int32) = (0 : Int32)))).1) k) ?_
      show OEnds p e below s _ _ _ (T4.setTop (mkF m 21 #[.val (.ref r), .val (.ref y)] []))
      refine OEnds.via (fun _ k => XS.iconst X4.here hx rfl (hb hby d10_21) k) ?_
      show OEnds p e below s _ _ _ (T4.setTop (mkF m 22 #[.val (.ref r), .val (.ref y)] [(.int (1 : Int32))]))
      refine OEnds.via (fun _ k => XS.goto X4.here hx rfl (pc0 := 22) (pc' := 26) rfl (hb hby d10_22) (by decide) (by decide) k) ?_
      show OEnds p e below s _ _ _ (T4.setTop (mkF m 26 #[.val (.ref r), .val (.ref y)] [(.int (1 : Int32))]))
      refine OEnds.retN X4 hx hlk (t := .boolean) Bd.returns (by simp) (hb hby d10_26) ?_ (by decide) (by decide)
      exact ⟨rfl, N4, e4⟩
    · skip
      show OEnds p e below s _ _ _ (s₁.setTop (mkF m 0 #[.val (.ref r), .val (.ref y)] []))
      refine OEnds.via (fun _ k => XS.aloadN X0.here hx rfl (hb hby d10_0) rfl rfl k) ?_
      show OEnds p e below s _ _ _ (s₁.setTop (mkF m 1 #[.val (.ref r), .val (.ref y)] [(.ref r)]))
      obtain ⟨T5, X5, e5, st5⟩ := getF X0 hx hZ hown (host := "") (Or.inl (hw _ (List.mem_of_getElem? (i := 52) rfl))) Via.refl e0 F_type (g := (mkF m 1 #[.val (.ref r), .val (.ref y)] [(.ref r)])) rfl rfl (hb hby d10_1)
      refine OEnds.via (fun _ k => st5 _ k) ?_
      show OEnds p e below s _ _ _ (T5.setTop (mkF m 4 #[.val (.ref r), .val (.ref y)] [(.ref ty)]))
      obtain ⟨T6, X6, e6, st6⟩ := getS2 X5 hx hZ hown (host := "") (Or.inl (hw _ (List.mem_of_getElem? (i := 65) rfl))) Via.refl e5 (Sta.ext O0.2 S_W) (g := (mkF m 4 #[.val (.ref r), .val (.ref y)] [(.ref ty)])) rfl (hb hby d10_4)
      refine OEnds.via (fun _ k => st6 _ k) ?_
      show OEnds p e below s _ _ _ (T6.setTop (mkF m 7 #[.val (.ref r), .val (.ref y)] [(.ref ty), (.ref ty)]))
      refine OEnds.via (fun _ k => Jvm.RoadKit.acmp (g := (mkF m 7 #[.val (.ref r), .val (.ref y)] [(.ref ty), (.ref ty)])) X6 hx rfl rfl rfl (pc0 := 7) (pc' := 10) (same := true) rfl (hb hby d10_7) rfl (decide_eq_true rfl) (by decide) (by decide) k) ?_
      show OEnds p e below s _ _ _ (T6.setTop (mkF m 10 #[.val (.ref r), .val (.ref y)] []))
      refine OEnds.via (fun _ k => XS.aloadN X6.here hx rfl (hb hby d10_10) rfl rfl k) ?_
      show OEnds p e below s _ _ _ (T6.setTop (mkF m 11 #[.val (.ref r), .val (.ref y)] [(.ref r)]))
      obtain ⟨T7, X7, e7, st7⟩ := getF X6 hx hZ hown (host := "") (Or.inl (hw _ (List.mem_of_getElem? (i := 54) rfl))) Via.refl e6 F_text (g := (mkF m 11 #[.val (.ref r), .val (.ref y)] [(.ref r)])) rfl rfl (hb hby d10_11)
      refine OEnds.via (fun _ k => st7 _ k) ?_
      show OEnds p e below s _ _ _ (T7.setTop (mkF m 14 #[.val (.ref r), .val (.ref y)] [(.ref x)]))
      refine OEnds.via (fun _ k => XS.aloadN X7.here hx rfl (hb hby d10_14) rfl rfl k) ?_
      show OEnds p e below s _ _ _ (T7.setTop (mkF m 15 #[.val (.ref r), .val (.ref y)] [(.ref y), (.ref x)]))
      obtain ⟨cq8, kq8, q8a, q8b, q8c⟩ := isOf hZ e7 E_x
      obtain ⟨_, _, ⟨T8, L8, k8, n8⟩, -, X8, ⟨Lc8, hQ8, l8, y8, z8⟩, st8⟩ := X7.virtualBack hx (y := (⟨"java/lang/String", "equals", "(Ljava/lang/Object;)Z"⟩ : MethodName)) (z := (⟨"java/lang/String", "equals", "(Ljava/lang/Object;)Z"⟩ : MethodName)) hown (mvT hZ (hw _ (List.mem_of_getElem? (i := 70) rfl))) (mvT hZ (hw _ (List.mem_of_getElem? (i := 71) rfl))) (notFace_of_selects (args := #[]) (mvT hZ (hw _ (List.mem_of_getElem? (i := 73) rfl)))) (mvT hZ (hw _ (List.mem_of_getElem? (i := 73) rfl))) (mvT hZ (hw _ (List.mem_of_getElem? (i := 72) rfl))) (by decide) (StrChars.Road.eqW (W := 0) hZ heq (kI := 4) (hw _ (List.mem_of_getElem? (i := 8) rfl)) E_x V_x C_x K_x hcd_x hbd_x le_x E_y V_y C_y K_y hcd_y hbd_y le_y (Sta.ext Od.2 S_CS) nz_CS (by decide) (by decide)) q8a q8c (g := (mkF m 15 #[.val (.ref r), .val (.ref y)] [(.ref y), (.ref x)])) rfl (by rw [hml]; rfl) (Steps.refl _) (argsL := [(.ref y)]) (rest := []) (lenOf pd_28Ljava2flang2fObject3b29Z rfl) rfl (by show 2 * 0 + _ ≤ _; exact Nat.le_of_eq rfl) (hb hby d10_15) (fun _ _ => ⟨rfl, e7, Nat.le_of_ble_eq_true rfl, Nat.le_of_ble_eq_true rfl⟩)
      dsimp only [Pt.U, Pt.locs, Pt.cells, Pt.slots] at X8 l8 y8 z8 st8 hQ8
      subst l8 y8 z8
      obtain ⟨hcase8, rfl, e8⟩ := hQ8
      have N8 := Fr.app N0 (Fr.nil n0)
      have hv8 : _ = some (Value.int 0) := hcase8.elim (fun q => absurd q.2 hq) (fun q => q.1)
      subst hv8
      refine OEnds.via (fun _ k => st8.trans k) ?_
      show OEnds p e below s _ _ _ (T8.setTop (mkF m 18 #[.val (.ref r), .val (.ref y)] [(.int (0 : Int32))]))
      refine OEnds.via (fun _ k => XS.ifYes X8.here hx rfl (pc0 := 18) (pc' := 25) rfl (hb hby d10_18) rfl ((if0 _ _).trans (teq (by decide : (0 : Int32) = (0 : Int32))).1) (by decide) (by decide) k) ?_
      show OEnds p e below s _ _ _ (T8.setTop (mkF m 25 #[.val (.ref r), .val (.ref y)] []))
      refine OEnds.via (fun _ k => XS.iconst X8.here hx rfl (hb hby d10_25) k) ?_
      show OEnds p e below s _ _ _ (T8.setTop (mkF m 26 #[.val (.ref r), .val (.ref y)] [(.int (0 : Int32))]))
      refine OEnds.retN X8 hx hlk (t := .boolean) Bd.returns (by simp) (hb hby d10_26) ?_ (by decide) (by decide)
      exact ⟨rfl, N8, e8⟩
  · skip
    show OEnds p e below s _ _ _ (s₁.setTop (mkF m 0 #[.val (.ref r), .val (.ref y)] []))
    refine OEnds.via (fun _ k => XS.aloadN X0.here hx rfl (hb hby d10_0) rfl rfl k) ?_
    show OEnds p e below s _ _ _ (s₁.setTop (mkF m 1 #[.val (.ref r), .val (.ref y)] [(.ref r)]))
    obtain ⟨T9, X9, e9, st9⟩ := getF X0 hx hZ hown (host := "") (Or.inl (hw _ (List.mem_of_getElem? (i := 52) rfl))) Via.refl e0 F_type (g := (mkF m 1 #[.val (.ref r), .val (.ref y)] [(.ref r)])) rfl rfl (hb hby d10_1)
    refine OEnds.via (fun _ k => st9 _ k) ?_
    show OEnds p e below s _ _ _ (T9.setTop (mkF m 4 #[.val (.ref r), .val (.ref y)] [(.ref ty)]))
    obtain ⟨T10, X10, e10, st10⟩ := getS2 X9 hx hZ hown (host := "") (Or.inl (hw _ (List.mem_of_getElem? (i := 65) rfl))) Via.refl e9 (Sta.ext O0.2 S_W) (g := (mkF m 4 #[.val (.ref r), .val (.ref y)] [(.ref ty)])) rfl (hb hby d10_4)
    refine OEnds.via (fun _ k => st10 _ k) ?_
    show OEnds p e below s _ _ _ (T10.setTop (mkF m 7 #[.val (.ref r), .val (.ref y)] [(.ref aW), (.ref ty)]))
    refine OEnds.via (fun _ k => Jvm.RoadKit.acmp (g := (mkF m 7 #[.val (.ref r), .val (.ref y)] [(.ref aW), (.ref ty)])) X10 hx rfl rfl rfl (pc0 := 7) (pc' := 25) (same := false) rfl (hb hby d10_7) rfl (decide_eq_false fun q => hne (Value.ref.inj q)) (by decide) (by decide) k) ?_
    show OEnds p e below s _ _ _ (T10.setTop (mkF m 25 #[.val (.ref r), .val (.ref y)] []))
    refine OEnds.via (fun _ k => XS.iconst X10.here hx rfl (hb hby d10_25) k) ?_
    show OEnds p e below s _ _ _ (T10.setTop (mkF m 26 #[.val (.ref r), .val (.ref y)] [(.int (0 : Int32))]))
    refine OEnds.retN X10 hx hlk (t := .boolean) Bd.returns (by simp) (hb hby d10_26) ?_ (by decide) (by decide)
    exact ⟨rfl, N0, e10⟩
theorem pd_28ICCC29Ljava2flang2fString3b : parseMethodDescriptor "(ICCC)Ljava/lang/String;" = some ⟨[.int, .char, .char, .char], some (.object "java/lang/String")⟩ := by decide +kernel
theorem pd_28Lcom2fexample2fcharttop2fcharttop2fquery2fToken24Type3bLjava2flang2fString3bII29V : parseMethodDescriptor "(Lcom/example/charttop/charttop/query/Token$Type;Ljava/lang/String;II)V" = some ⟨[(.object "com/example/charttop/charttop/query/Token$Type"), (.object "java/lang/String"), .int, .int], none⟩ := by decide +kernel
theorem pd_28Ljava2flang2fString3b29Z : parseMethodDescriptor "(Ljava/lang/String;)Z" = some ⟨[(.object "java/lang/String")], some .boolean⟩ := by decide +kernel
set_option maxRecDepth 65536 in
set_option maxHeartbeats 40000000 in
theorem rm0 (l : Launch) (Z : State) (a0 : Array Value) (hw : ∀ d ∈ tables_1, d.before a0 Z = true) (ws : List Jvm.Cond) (p0 : Int32) (p1 : Int32) (p2 : Int32) (p3 : Int32) (p4 : Int32) (p5 : Int32) (G1 : Int32) (a_OPEN : Addr) (a_CLOSE : Addr) (a_PHRASE : Addr) (a_WORD : Addr) (h0 : Heap) (n0 : Nat) (O0 : Old Z n0 h0) (S_CS : Sta Z Z.heap "java/lang/String" "COMPACT_STRINGS" "Z" (.int G1)) (nz_CS : ¬ (G1 = (0 : Int32))) (S_OPEN : Sta Z Z.heap "com/example/charttop/charttop/query/Token$Type" "OPEN" "Lcom/example/charttop/charttop/query/Token$Type;" (.ref a_OPEN)) (S_CLOSE : Sta Z Z.heap "com/example/charttop/charttop/query/Token$Type" "CLOSE" "Lcom/example/charttop/charttop/query/Token$Type;" (.ref a_CLOSE)) (S_PHRASE : Sta Z Z.heap "com/example/charttop/charttop/query/Token$Type" "PHRASE" "Lcom/example/charttop/charttop/query/Token$Type;" (.ref a_PHRASE)) (S_WORD : Sta Z Z.heap "com/example/charttop/charttop/query/Token$Type" "WORD" "Lcom/example/charttop/charttop/query/Token$Type;" (.ref a_WORD)) (ne_OPEN : a_OPEN ≠ a_WORD) (ne_CLOSE : a_CLOSE ≠ a_WORD) (ne_PHRASE : a_PHRASE ≠ a_WORD) :
    MetFree l x (head1 (Jvm.Cond.code x code maxLocals ret :: ws) room_1) (fun ar' U => ar' = #[(.int p0), (.int p1), (.int p2), (.int p3), (.int p4), (.int p5)] ∧ Z.Warmed39 U.vm ∧ U.heap = h0 ∧ CHv Z consts_1 U.vm h0) (fun _ _ _ _ _ => True) (fun _ U o U' => ∃ v L, o = .returned v ∧ (QL n0) v U'.heap L ∧ CHr Z consts_1 U.vm U.heap U'.vm U'.heap ∧ ReturnedEndW U o U' L 24 1152) := by
  refine MetFree.of_bodySF (plainFor_of_name pn_com_example_charttop_charttop_query_TokenIsPinLaw) hisR ?_
  intro p e s m args below meth c s₁ Bd hml0 hP hK
  obtain ⟨rfl, hZ, hh, hCH0⟩ := hP
  have hx := Bd.exec
  have hby := Bd.bytes
  have hlk := BodyLoose.notSynchronized Bd
  have hml : c.maxLocals = 21 := hml0
  have hown : s.vm.findClass "com/example/charttop/charttop/query/TokenIsPinLaw" = some m.cls := findClass_of_methodNamed Bd.named
  have hnm := (name_of_methodNamed Bd.named Bd.method).1
  have X0 : Stand p l e room_1 (s.setVm s.vm) m #[(.int p0), (.int p1), (.int p2), (.int p3), (.int p4), (.int p5)] below meth c s₁ [] 0 0 := Stand.of_body Bd
  have e0 : s₁.heap = h0 := by rw [← hh, Bd.state]; rfl
  have N0 := Fr.nil n0
  have Z0 : n0 ≤ h0.size := O0.1 ▸ O0.2.1
  have hEL : EW Z a0 consts_1 := own_EW hw
  have wS := own_wS hw
  have es : s.heap = h0 := hh
  have hS : s.Since s.vm h0.size := (State.WarmedH.refl s).since _
  have hk : h0.size ≤ h0.size := Nat.le_refl _
  have CR : CHr Z consts_1 s.vm h0 s.vm h0 := CHr.refl hCH0
  show OEndsW p e below s Z consts_1 24 1152 (QL n0) (s₁.setTop (entryFrame m #[(.int p0), (.int p1), (.int p2), (.int p3), (.int p4), (.int p5)] maxLocals))
  refine OEndsW.via (fun _ k => castTop (show entryFrame m #[(.int p0), (.int p1), (.int p2), (.int p3), (.int p4), (.int p5)] maxLocals = (mkF m 0 #[.val (.int p0), .val (.int p1), .val (.int p2), .val (.int p3), .val (.int p4), .val (.int p5), .unset, .unset, .unset, .unset, .unset, .unset, .unset, .unset, .unset, .unset, .unset, .unset, .unset, .unset, .unset] []) by first | (simp [entryFrame, mkF, argsToLocals, Value.category, maxLocals]; done) | rfl) k) ?_
  have hws : ∀ d ∈ StrChars.Road.words, d.before a0 Z = true := fun d hd => hw d ((by decide +kernel : ∀ d ∈ StrChars.Road.words, d ∈ tables_1) d hd)
  have heq : ∀ d ∈ StrChars.Road.wordsEq, d.before a0 Z = true := fun d hd => hw d ((by decide +kernel : ∀ d ∈ StrChars.Road.wordsEq, d ∈ tables_1) d hd)
  have Od := O0
  show OEndsW p e below s _ _ _ _ _ (s₁.setTop (mkF m 0 #[.val (.int p0), .val (.int p1), .val (.int p2), .val (.int p3), .val (.int p4), .val (.int p5), .unset, .unset, .unset, .unset, .unset, .unset, .unset, .unset, .unset, .unset, .unset, .unset, .unset, .unset, .unset] []))
  refine OEndsW.via (fun _ k => XS.iloadN X0.here hx rfl (hb hby at_0) rfl k) ?_
  show OEndsW p e below s _ _ _ _ _ (s₁.setTop (mkF m 1 #[.val (.int p0), .val (.int p1), .val (.int p2), .val (.int p3), .val (.int p4), .val (.int p5), .unset, .unset, .unset, .unset, .unset, .unset, .unset, .unset, .unset, .unset, .unset, .unset, .unset, .unset, .unset] [(.int p0)]))
  refine OEndsW.via (fun _ k => XS.iconst X0.here hx rfl (hb hby at_1) k) ?_
  show OEndsW p e below s _ _ _ _ _ (s₁.setTop (mkF m 2 #[.val (.int p0), .val (.int p1), .val (.int p2), .val (.int p3), .val (.int p4), .val (.int p5), .unset, .unset, .unset, .unset, .unset, .unset, .unset, .unset, .unset, .unset, .unset, .unset, .unset, .unset, .unset] [(.int (3 : Int32)), (.int p0)]))
  refine OEndsW.via (fun _ k => XS.iand X0.here hx rfl (hb hby at_2) rfl k) ?_
  show OEndsW p e below s _ _ _ _ _ (s₁.setTop (mkF m 3 #[.val (.int p0), .val (.int p1), .val (.int p2), .val (.int p3), .val (.int p4), .val (.int p5), .unset, .unset, .unset, .unset, .unset, .unset, .unset, .unset, .unset, .unset, .unset, .unset, .unset, .unset, .unset] [(.int (p0 &&& (3 : Int32)))]))
  refine OEndsW.via (fun _ k => XS.istore X0.here hx rfl (hb hby at_3) rfl (l' := #[.val (.int p0), .val (.int p1), .val (.int p2), .val (.int p3), .val (.int p4), .val (.int p5), .val (.int (p0 &&& (3 : Int32))), .unset, .unset, .unset, .unset, .unset, .unset, .unset, .unset, .unset, .unset, .unset, .unset, .unset, .unset]) rfl k) ?_
  show OEndsW p e below s _ _ _ _ _ (s₁.setTop (mkF m 5 #[.val (.int p0), .val (.int p1), .val (.int p2), .val (.int p3), .val (.int p4), .val (.int p5), .val (.int (p0 &&& (3 : Int32))), .unset, .unset, .unset, .unset, .unset, .unset, .unset, .unset, .unset, .unset, .unset, .unset, .unset, .unset] []))
  refine OEndsW.via (fun _ k => XS.iload X0.here hx rfl (hb hby at_5) rfl k) ?_
  show OEndsW p e below s _ _ _ _ _ (s₁.setTop (mkF m 7 #[.val (.int p0), .val (.int p1), .val (.int p2), .val (.int p3), .val (.int p4), .val (.int p5), .val (.int (p0 &&& (3 : Int32))), .unset, .unset, .unset, .unset, .unset, .unset, .unset, .unset, .unset, .unset, .unset, .unset, .unset, .unset] [(.int (p0 &&& (3 : Int32)))]))
  have J1 : ∀ (U1 : State) (XU1 : Stand p l e room_1 (s.setVm s.vm) m #[(.int p0), (.int p1), (.int p2), (.int p3), (.int p4), (.int p5)] below meth c U1 [] 0 0) (eU1 : U1.heap = h0) (ty : Addr) (hty : ((p0 &&& (3 : Int32)) = (3 : Int32) ∧ ty = a_WORD) ∨ (¬ ((p0 &&& (3 : Int32)) = (3 : Int32)) ∧ ty ≠ a_WORD)), OEndsW p e below s Z consts_1 24 1152 (QL n0) (U1.setTop (mkF m 43 #[.val (.int p0), .val (.int p1), .val (.int p2), .val (.int p3), .val (.int p4), .val (.int p5), .val (.int (p0 &&& (3 : Int32))), .unset, .unset, .unset, .unset, .unset, .unset, .unset, .unset, .unset, .unset, .unset, .unset, .unset, .unset] [(.ref ty)])) := by
    intro U1 XU1 eU1 ty hty
    refine OEndsW.via (fun _ k => XS.astore XU1.here hx rfl (hb hby at_43) rfl rfl (l' := #[.val (.int p0), .val (.int p1), .val (.int p2), .val (.int p3), .val (.int p4), .val (.int p5), .val (.int (p0 &&& (3 : Int32))), .val (.ref ty), .unset, .unset, .unset, .unset, .unset, .unset, .unset, .unset, .unset, .unset, .unset, .unset, .unset]) rfl k) ?_
    show OEndsW p e below s _ _ _ _ _ (U1.setTop (mkF m 45 #[.val (.int p0), .val (.int p1), .val (.int p2), .val (.int p3), .val (.int p4), .val (.int p5), .val (.int (p0 &&& (3 : Int32))), .val (.ref ty), .unset, .unset, .unset, .unset, .unset, .unset, .unset, .unset, .unset, .unset, .unset, .unset, .unset] []))
    refine OEndsW.via (fun _ k => XS.iloadN XU1.here hx rfl (hb hby at_45) rfl k) ?_
    show OEndsW p e below s _ _ _ _ _ (U1.setTop (mkF m 46 #[.val (.int p0), .val (.int p1), .val (.int p2), .val (.int p3), .val (.int p4), .val (.int p5), .val (.int (p0 &&& (3 : Int32))), .val (.ref ty), .unset, .unset, .unset, .unset, .unset, .unset, .unset, .unset, .unset, .unset, .unset, .unset, .unset] [(.int p3)]))
    refine OEndsW.via (fun _ k => XS.iconst XU1.here hx rfl (hb hby at_46) k) ?_
    show OEndsW p e below s _ _ _ _ _ (U1.setTop (mkF m 47 #[.val (.int p0), .val (.int p1), .val (.int p2), .val (.int p3), .val (.int p4), .val (.int p5), .val (.int (p0 &&& (3 : Int32))), .val (.ref ty), .unset, .unset, .unset, .unset, .unset, .unset, .unset, .unset, .unset, .unset, .unset, .unset, .unset] [(.int (3 : Int32)), (.int p3)]))
    refine OEndsW.via (fun _ k => XS.iand XU1.here hx rfl (hb hby at_47) rfl k) ?_
    show OEndsW p e below s _ _ _ _ _ (U1.setTop (mkF m 48 #[.val (.int p0), .val (.int p1), .val (.int p2), .val (.int p3), .val (.int p4), .val (.int p5), .val (.int (p0 &&& (3 : Int32))), .val (.ref ty), .unset, .unset, .unset, .unset, .unset, .unset, .unset, .unset, .unset, .unset, .unset, .unset, .unset] [(.int (p3 &&& (3 : Int32)))]))
    refine OEndsW.via (fun _ k => XS.istore XU1.here hx rfl (hb hby at_48) rfl (l' := #[.val (.int p0), .val (.int p1), .val (.int p2), .val (.int p3), .val (.int p4), .val (.int p5), .val (.int (p0 &&& (3 : Int32))), .val (.ref ty), .val (.int (p3 &&& (3 : Int32))), .unset, .unset, .unset, .unset, .unset, .unset, .unset, .unset, .unset, .unset, .unset, .unset]) rfl k) ?_
    show OEndsW p e below s _ _ _ _ _ (U1.setTop (mkF m 50 #[.val (.int p0), .val (.int p1), .val (.int p2), .val (.int p3), .val (.int p4), .val (.int p5), .val (.int (p0 &&& (3 : Int32))), .val (.ref ty), .val (.int (p3 &&& (3 : Int32))), .unset, .unset, .unset, .unset, .unset, .unset, .unset, .unset, .unset, .unset, .unset, .unset] []))
    refine OEndsW.via (fun _ k => XS.iloadN XU1.here hx rfl (hb hby at_50) rfl k) ?_
    show OEndsW p e below s _ _ _ _ _ (U1.setTop (mkF m 51 #[.val (.int p0), .val (.int p1), .val (.int p2), .val (.int p3), .val (.int p4), .val (.int p5), .val (.int (p0 &&& (3 : Int32))), .val (.ref ty), .val (.int (p3 &&& (3 : Int32))), .unset, .unset, .unset, .unset, .unset, .unset, .unset, .unset, .unset, .unset, .unset, .unset] [(.int p3)]))
    refine OEndsW.via (fun _ k => XS.bipush XU1.here hx rfl (hb hby at_51) k) ?_
    show OEndsW p e below s _ _ _ _ _ (U1.setTop (mkF m 53 #[.val (.int p0), .val (.int p1), .val (.int p2), .val (.int p3), .val (.int p4), .val (.int p5), .val (.int (p0 &&& (3 : Int32))), .val (.ref ty), .val (.int (p3 &&& (3 : Int32))), .unset, .unset, .unset, .unset, .unset, .unset, .unset, .unset, .unset, .unset, .unset, .unset] [(.int (7 : Int32)), (.int p3)]))
    refine OEndsW.via (fun _ k => XS.iushr XU1.here hx rfl (hb hby at_53) rfl k) ?_
    show OEndsW p e below s _ _ _ _ _ (U1.setTop (mkF m 54 #[.val (.int p0), .val (.int p1), .val (.int p2), .val (.int p3), .val (.int p4), .val (.int p5), .val (.int (p0 &&& (3 : Int32))), .val (.ref ty), .val (.int (p3 &&& (3 : Int32))), .unset, .unset, .unset, .unset, .unset, .unset, .unset, .unset, .unset, .unset, .unset, .unset] [(.int ((p3.toUInt32 >>> ((7 : Int32) &&& 31).toUInt32).toInt32))]))
    refine OEndsW.via (fun _ k => XS.iconst XU1.here hx rfl (hb hby at_54) k) ?_
    show OEndsW p e below s _ _ _ _ _ (U1.setTop (mkF m 55 #[.val (.int p0), .val (.int p1), .val (.int p2), .val (.int p3), .val (.int p4), .val (.int p5), .val (.int (p0 &&& (3 : Int32))), .val (.ref ty), .val (.int (p3 &&& (3 : Int32))), .unset, .unset, .unset, .unset, .unset, .unset, .unset, .unset, .unset, .unset, .unset, .unset] [(.int (1 : Int32)), (.int ((p3.toUInt32 >>> ((7 : Int32) &&& 31).toUInt32).toInt32))]))
    refine OEndsW.via (fun _ k => XS.iand XU1.here hx rfl (hb hby at_55) rfl k) ?_
    show OEndsW p e below s _ _ _ _ _ (U1.setTop (mkF m 56 #[.val (.int p0), .val (.int p1), .val (.int p2), .val (.int p3), .val (.int p4), .val (.int p5), .val (.int (p0 &&& (3 : Int32))), .val (.ref ty), .val (.int (p3 &&& (3 : Int32))), .unset, .unset, .unset, .unset, .unset, .unset, .unset, .unset, .unset, .unset, .unset, .unset] [(.int (((p3.toUInt32 >>> ((7 : Int32) &&& 31).toUInt32).toInt32) &&& (1 : Int32)))]))
    have J2 : ∀ (o : Int32) (ho : o = 0 ∨ o = 1 ∨ o = 2 ∨ o = 3), OEndsW p e below s Z consts_1 24 1152 (QL n0) (U1.setTop (mkF m 69 #[.val (.int p0), .val (.int p1), .val (.int p2), .val (.int p3), .val (.int p4), .val (.int p5), .val (.int (p0 &&& (3 : Int32))), .val (.ref ty), .val (.int (p3 &&& (3 : Int32))), .unset, .unset, .unset, .unset, .unset, .unset, .unset, .unset, .unset, .unset, .unset, .unset] [(.int o)])) := by
      intro o ho
      refine OEndsW.via (fun _ k => XS.istore XU1.here hx rfl (hb hby at_69) rfl (l' := #[.val (.int p0), .val (.int p1), .val (.int p2), .val (.int p3), .val (.int p4), .val (.int p5), .val (.int (p0 &&& (3 : Int32))), .val (.ref ty), .val (.int (p3 &&& (3 : Int32))), .val (.int o), .unset, .unset, .unset, .unset, .unset, .unset, .unset, .unset, .unset, .unset, .unset]) rfl k) ?_
      show OEndsW p e below s _ _ _ _ _ (U1.setTop (mkF m 71 #[.val (.int p0), .val (.int p1), .val (.int p2), .val (.int p3), .val (.int p4), .val (.int p5), .val (.int (p0 &&& (3 : Int32))), .val (.ref ty), .val (.int (p3 &&& (3 : Int32))), .val (.int o), .unset, .unset, .unset, .unset, .unset, .unset, .unset, .unset, .unset, .unset, .unset] []))
      refine OEndsW.via (fun _ k => XS.iloadN XU1.here hx rfl (hb hby at_71) rfl k) ?_
      show OEndsW p e below s _ _ _ _ _ (U1.setTop (mkF m 72 #[.val (.int p0), .val (.int p1), .val (.int p2), .val (.int p3), .val (.int p4), .val (.int p5), .val (.int (p0 &&& (3 : Int32))), .val (.ref ty), .val (.int (p3 &&& (3 : Int32))), .val (.int o), .unset, .unset, .unset, .unset, .unset, .unset, .unset, .unset, .unset, .unset, .unset] [(.int p1)]))
      refine OEndsW.via (fun _ k => XS.sipush XU1.here hx rfl (hb hby at_72) k) ?_
      show OEndsW p e below s _ _ _ _ _ (U1.setTop (mkF m 75 #[.val (.int p0), .val (.int p1), .val (.int p2), .val (.int p3), .val (.int p4), .val (.int p5), .val (.int (p0 &&& (3 : Int32))), .val (.ref ty), .val (.int (p3 &&& (3 : Int32))), .val (.int o), .unset, .unset, .unset, .unset, .unset, .unset, .unset, .unset, .unset, .unset, .unset] [(.int (255 : Int32)), (.int p1)]))
      refine OEndsW.via (fun _ k => XS.iand XU1.here hx rfl (hb hby at_75) rfl k) ?_
      show OEndsW p e below s _ _ _ _ _ (U1.setTop (mkF m 76 #[.val (.int p0), .val (.int p1), .val (.int p2), .val (.int p3), .val (.int p4), .val (.int p5), .val (.int (p0 &&& (3 : Int32))), .val (.ref ty), .val (.int (p3 &&& (3 : Int32))), .val (.int o), .unset, .unset, .unset, .unset, .unset, .unset, .unset, .unset, .unset, .unset, .unset] [(.int (p1 &&& (255 : Int32)))]))
      refine OEndsW.via (fun _ k => XS.i2c XU1.here hx rfl (hb hby at_76) rfl k) ?_
      show OEndsW p e below s _ _ _ _ _ (U1.setTop (mkF m 77 #[.val (.int p0), .val (.int p1), .val (.int p2), .val (.int p3), .val (.int p4), .val (.int p5), .val (.int (p0 &&& (3 : Int32))), .val (.ref ty), .val (.int (p3 &&& (3 : Int32))), .val (.int o), .unset, .unset, .unset, .unset, .unset, .unset, .unset, .unset, .unset, .unset, .unset] [(.int ((p1 &&& (255 : Int32)).toUInt32.toUInt16.toUInt32.toInt32))]))
      refine OEndsW.via (fun _ k => XS.istore XU1.here hx rfl (hb hby at_77) rfl (l' := #[.val (.int p0), .val (.int p1), .val (.int p2), .val (.int p3), .val (.int p4), .val (.int p5), .val (.int (p0 &&& (3 : Int32))), .val (.ref ty), .val (.int (p3 &&& (3 : Int32))), .val (.int o), .val (.int ((p1 &&& (255 : Int32)).toUInt32.toUInt16.toUInt32.toInt32)), .unset, .unset, .unset, .unset, .unset, .unset, .unset, .unset, .unset, .unset]) rfl k) ?_
      show OEndsW p e below s _ _ _ _ _ (U1.setTop (mkF m 79 #[.val (.int p0), .val (.int p1), .val (.int p2), .val (.int p3), .val (.int p4), .val (.int p5), .val (.int (p0 &&& (3 : Int32))), .val (.ref ty), .val (.int (p3 &&& (3 : Int32))), .val (.int o), .val (.int ((p1 &&& (255 : Int32)).toUInt32.toUInt16.toUInt32.toInt32)), .unset, .unset, .unset, .unset, .unset, .unset, .unset, .unset, .unset, .unset] []))
      refine OEndsW.via (fun _ k => XS.iloadN XU1.here hx rfl (hb hby at_79) rfl k) ?_
      show OEndsW p e below s _ _ _ _ _ (U1.setTop (mkF m 80 #[.val (.int p0), .val (.int p1), .val (.int p2), .val (.int p3), .val (.int p4), .val (.int p5), .val (.int (p0 &&& (3 : Int32))), .val (.ref ty), .val (.int (p3 &&& (3 : Int32))), .val (.int o), .val (.int ((p1 &&& (255 : Int32)).toUInt32.toUInt16.toUInt32.toInt32)), .unset, .unset, .unset, .unset, .unset, .unset, .unset, .unset, .unset, .unset] [(.int p1)]))
      refine OEndsW.via (fun _ k => XS.bipush XU1.here hx rfl (hb hby at_80) k) ?_
      show OEndsW p e below s _ _ _ _ _ (U1.setTop (mkF m 82 #[.val (.int p0), .val (.int p1), .val (.int p2), .val (.int p3), .val (.int p4), .val (.int p5), .val (.int (p0 &&& (3 : Int32))), .val (.ref ty), .val (.int (p3 &&& (3 : Int32))), .val (.int o), .val (.int ((p1 &&& (255 : Int32)).toUInt32.toUInt16.toUInt32.toInt32)), .unset, .unset, .unset, .unset, .unset, .unset, .unset, .unset, .unset, .unset] [(.int (8 : Int32)), (.int p1)]))
      refine OEndsW.via (fun _ k => XS.iushr XU1.here hx rfl (hb hby at_82) rfl k) ?_
      show OEndsW p e below s _ _ _ _ _ (U1.setTop (mkF m 83 #[.val (.int p0), .val (.int p1), .val (.int p2), .val (.int p3), .val (.int p4), .val (.int p5), .val (.int (p0 &&& (3 : Int32))), .val (.ref ty), .val (.int (p3 &&& (3 : Int32))), .val (.int o), .val (.int ((p1 &&& (255 : Int32)).toUInt32.toUInt16.toUInt32.toInt32)), .unset, .unset, .unset, .unset, .unset, .unset, .unset, .unset, .unset, .unset] [(.int ((p1.toUInt32 >>> ((8 : Int32) &&& 31).toUInt32).toInt32))]))
      refine OEndsW.via (fun _ k => XS.sipush XU1.here hx rfl (hb hby at_83) k) ?_
      show OEndsW p e below s _ _ _ _ _ (U1.setTop (mkF m 86 #[.val (.int p0), .val (.int p1), .val (.int p2), .val (.int p3), .val (.int p4), .val (.int p5), .val (.int (p0 &&& (3 : Int32))), .val (.ref ty), .val (.int (p3 &&& (3 : Int32))), .val (.int o), .val (.int ((p1 &&& (255 : Int32)).toUInt32.toUInt16.toUInt32.toInt32)), .unset, .unset, .unset, .unset, .unset, .unset, .unset, .unset, .unset, .unset] [(.int (255 : Int32)), (.int ((p1.toUInt32 >>> ((8 : Int32) &&& 31).toUInt32).toInt32))]))
      refine OEndsW.via (fun _ k => XS.iand XU1.here hx rfl (hb hby at_86) rfl k) ?_
      show OEndsW p e below s _ _ _ _ _ (U1.setTop (mkF m 87 #[.val (.int p0), .val (.int p1), .val (.int p2), .val (.int p3), .val (.int p4), .val (.int p5), .val (.int (p0 &&& (3 : Int32))), .val (.ref ty), .val (.int (p3 &&& (3 : Int32))), .val (.int o), .val (.int ((p1 &&& (255 : Int32)).toUInt32.toUInt16.toUInt32.toInt32)), .unset, .unset, .unset, .unset, .unset, .unset, .unset, .unset, .unset, .unset] [(.int (((p1.toUInt32 >>> ((8 : Int32) &&& 31).toUInt32).toInt32) &&& (255 : Int32)))]))
      refine OEndsW.via (fun _ k => XS.i2c XU1.here hx rfl (hb hby at_87) rfl k) ?_
      show OEndsW p e below s _ _ _ _ _ (U1.setTop (mkF m 88 #[.val (.int p0), .val (.int p1), .val (.int p2), .val (.int p3), .val (.int p4), .val (.int p5), .val (.int (p0 &&& (3 : Int32))), .val (.ref ty), .val (.int (p3 &&& (3 : Int32))), .val (.int o), .val (.int ((p1 &&& (255 : Int32)).toUInt32.toUInt16.toUInt32.toInt32)), .unset, .unset, .unset, .unset, .unset, .unset, .unset, .unset, .unset, .unset] [(.int ((((p1.toUInt32 >>> ((8 : Int32) &&& 31).toUInt32).toInt32) &&& (255 : Int32)).toUInt32.toUInt16.toUInt32.toInt32))]))
      refine OEndsW.via (fun _ k => XS.istore XU1.here hx rfl (hb hby at_88) rfl (l' := #[.val (.int p0), .val (.int p1), .val (.int p2), .val (.int p3), .val (.int p4), .val (.int p5), .val (.int (p0 &&& (3 : Int32))), .val (.ref ty), .val (.int (p3 &&& (3 : Int32))), .val (.int o), .val (.int ((p1 &&& (255 : Int32)).toUInt32.toUInt16.toUInt32.toInt32)), .val (.int ((((p1.toUInt32 >>> ((8 : Int32) &&& 31).toUInt32).toInt32) &&& (255 : Int32)).toUInt32.toUInt16.toUInt32.toInt32)), .unset, .unset, .unset, .unset, .unset, .unset, .unset, .unset, .unset]) rfl k) ?_
      show OEndsW p e below s _ _ _ _ _ (U1.setTop (mkF m 90 #[.val (.int p0), .val (.int p1), .val (.int p2), .val (.int p3), .val (.int p4), .val (.int p5), .val (.int (p0 &&& (3 : Int32))), .val (.ref ty), .val (.int (p3 &&& (3 : Int32))), .val (.int o), .val (.int ((p1 &&& (255 : Int32)).toUInt32.toUInt16.toUInt32.toInt32)), .val (.int ((((p1.toUInt32 >>> ((8 : Int32) &&& 31).toUInt32).toInt32) &&& (255 : Int32)).toUInt32.toUInt16.toUInt32.toInt32)), .unset, .unset, .unset, .unset, .unset, .unset, .unset, .unset, .unset] []))
      refine OEndsW.via (fun _ k => XS.iloadN XU1.here hx rfl (hb hby at_90) rfl k) ?_
      show OEndsW p e below s _ _ _ _ _ (U1.setTop (mkF m 91 #[.val (.int p0), .val (.int p1), .val (.int p2), .val (.int p3), .val (.int p4), .val (.int p5), .val (.int (p0 &&& (3 : Int32))), .val (.ref ty), .val (.int (p3 &&& (3 : Int32))), .val (.int o), .val (.int ((p1 &&& (255 : Int32)).toUInt32.toUInt16.toUInt32.toInt32)), .val (.int ((((p1.toUInt32 >>> ((8 : Int32) &&& 31).toUInt32).toInt32) &&& (255 : Int32)).toUInt32.toUInt16.toUInt32.toInt32)), .unset, .unset, .unset, .unset, .unset, .unset, .unset, .unset, .unset] [(.int p1)]))
      refine OEndsW.via (fun _ k => XS.bipush XU1.here hx rfl (hb hby at_91) k) ?_
      show OEndsW p e below s _ _ _ _ _ (U1.setTop (mkF m 93 #[.val (.int p0), .val (.int p1), .val (.int p2), .val (.int p3), .val (.int p4), .val (.int p5), .val (.int (p0 &&& (3 : Int32))), .val (.ref ty), .val (.int (p3 &&& (3 : Int32))), .val (.int o), .val (.int ((p1 &&& (255 : Int32)).toUInt32.toUInt16.toUInt32.toInt32)), .val (.int ((((p1.toUInt32 >>> ((8 : Int32) &&& 31).toUInt32).toInt32) &&& (255 : Int32)).toUInt32.toUInt16.toUInt32.toInt32)), .unset, .unset, .unset, .unset, .unset, .unset, .unset, .unset, .unset] [(.int (16 : Int32)), (.int p1)]))
      refine OEndsW.via (fun _ k => XS.iushr XU1.here hx rfl (hb hby at_93) rfl k) ?_
      show OEndsW p e below s _ _ _ _ _ (U1.setTop (mkF m 94 #[.val (.int p0), .val (.int p1), .val (.int p2), .val (.int p3), .val (.int p4), .val (.int p5), .val (.int (p0 &&& (3 : Int32))), .val (.ref ty), .val (.int (p3 &&& (3 : Int32))), .val (.int o), .val (.int ((p1 &&& (255 : Int32)).toUInt32.toUInt16.toUInt32.toInt32)), .val (.int ((((p1.toUInt32 >>> ((8 : Int32) &&& 31).toUInt32).toInt32) &&& (255 : Int32)).toUInt32.toUInt16.toUInt32.toInt32)), .unset, .unset, .unset, .unset, .unset, .unset, .unset, .unset, .unset] [(.int ((p1.toUInt32 >>> ((16 : Int32) &&& 31).toUInt32).toInt32))]))
      refine OEndsW.via (fun _ k => XS.sipush XU1.here hx rfl (hb hby at_94) k) ?_
      show OEndsW p e below s _ _ _ _ _ (U1.setTop (mkF m 97 #[.val (.int p0), .val (.int p1), .val (.int p2), .val (.int p3), .val (.int p4), .val (.int p5), .val (.int (p0 &&& (3 : Int32))), .val (.ref ty), .val (.int (p3 &&& (3 : Int32))), .val (.int o), .val (.int ((p1 &&& (255 : Int32)).toUInt32.toUInt16.toUInt32.toInt32)), .val (.int ((((p1.toUInt32 >>> ((8 : Int32) &&& 31).toUInt32).toInt32) &&& (255 : Int32)).toUInt32.toUInt16.toUInt32.toInt32)), .unset, .unset, .unset, .unset, .unset, .unset, .unset, .unset, .unset] [(.int (255 : Int32)), (.int ((p1.toUInt32 >>> ((16 : Int32) &&& 31).toUInt32).toInt32))]))
      refine OEndsW.via (fun _ k => XS.iand XU1.here hx rfl (hb hby at_97) rfl k) ?_
      show OEndsW p e below s _ _ _ _ _ (U1.setTop (mkF m 98 #[.val (.int p0), .val (.int p1), .val (.int p2), .val (.int p3), .val (.int p4), .val (.int p5), .val (.int (p0 &&& (3 : Int32))), .val (.ref ty), .val (.int (p3 &&& (3 : Int32))), .val (.int o), .val (.int ((p1 &&& (255 : Int32)).toUInt32.toUInt16.toUInt32.toInt32)), .val (.int ((((p1.toUInt32 >>> ((8 : Int32) &&& 31).toUInt32).toInt32) &&& (255 : Int32)).toUInt32.toUInt16.toUInt32.toInt32)), .unset, .unset, .unset, .unset, .unset, .unset, .unset, .unset, .unset] [(.int (((p1.toUInt32 >>> ((16 : Int32) &&& 31).toUInt32).toInt32) &&& (255 : Int32)))]))
      refine OEndsW.via (fun _ k => XS.i2c XU1.here hx rfl (hb hby at_98) rfl k) ?_
      show OEndsW p e below s _ _ _ _ _ (U1.setTop (mkF m 99 #[.val (.int p0), .val (.int p1), .val (.int p2), .val (.int p3), .val (.int p4), .val (.int p5), .val (.int (p0 &&& (3 : Int32))), .val (.ref ty), .val (.int (p3 &&& (3 : Int32))), .val (.int o), .val (.int ((p1 &&& (255 : Int32)).toUInt32.toUInt16.toUInt32.toInt32)), .val (.int ((((p1.toUInt32 >>> ((8 : Int32) &&& 31).toUInt32).toInt32) &&& (255 : Int32)).toUInt32.toUInt16.toUInt32.toInt32)), .unset, .unset, .unset, .unset, .unset, .unset, .unset, .unset, .unset] [(.int ((((p1.toUInt32 >>> ((16 : Int32) &&& 31).toUInt32).toInt32) &&& (255 : Int32)).toUInt32.toUInt16.toUInt32.toInt32))]))
      refine OEndsW.via (fun _ k => XS.istore XU1.here hx rfl (hb hby at_99) rfl (l' := #[.val (.int p0), .val (.int p1), .val (.int p2), .val (.int p3), .val (.int p4), .val (.int p5), .val (.int (p0 &&& (3 : Int32))), .val (.ref ty), .val (.int (p3 &&& (3 : Int32))), .val (.int o), .val (.int ((p1 &&& (255 : Int32)).toUInt32.toUInt16.toUInt32.toInt32)), .val (.int ((((p1.toUInt32 >>> ((8 : Int32) &&& 31).toUInt32).toInt32) &&& (255 : Int32)).toUInt32.toUInt16.toUInt32.toInt32)), .val (.int ((((p1.toUInt32 >>> ((16 : Int32) &&& 31).toUInt32).toInt32) &&& (255 : Int32)).toUInt32.toUInt16.toUInt32.toInt32)), .unset, .unset, .unset, .unset, .unset, .unset, .unset, .unset]) rfl k) ?_
      show OEndsW p e below s _ _ _ _ _ (U1.setTop (mkF m 101 #[.val (.int p0), .val (.int p1), .val (.int p2), .val (.int p3), .val (.int p4), .val (.int p5), .val (.int (p0 &&& (3 : Int32))), .val (.ref ty), .val (.int (p3 &&& (3 : Int32))), .val (.int o), .val (.int ((p1 &&& (255 : Int32)).toUInt32.toUInt16.toUInt32.toInt32)), .val (.int ((((p1.toUInt32 >>> ((8 : Int32) &&& 31).toUInt32).toInt32) &&& (255 : Int32)).toUInt32.toUInt16.toUInt32.toInt32)), .val (.int ((((p1.toUInt32 >>> ((16 : Int32) &&& 31).toUInt32).toInt32) &&& (255 : Int32)).toUInt32.toUInt16.toUInt32.toInt32)), .unset, .unset, .unset, .unset, .unset, .unset, .unset, .unset] []))
      have hc0 := own_and255 p1
      generalize ((p1 &&& (255 : Int32)).toUInt32.toUInt16.toUInt32.toInt32) = c0 at hc0 ⊢
      have hc1 := own_and255 ((p1.toUInt32 >>> ((8 : Int32) &&& 31).toUInt32).toInt32)
      generalize ((((p1.toUInt32 >>> ((8 : Int32) &&& 31).toUInt32).toInt32) &&& (255 : Int32)).toUInt32.toUInt16.toUInt32.toInt32) = c1 at hc1 ⊢
      have hc2 := own_and255 ((p1.toUInt32 >>> ((16 : Int32) &&& 31).toUInt32).toInt32)
      generalize ((((p1.toUInt32 >>> ((16 : Int32) &&& 31).toUInt32).toInt32) &&& (255 : Int32)).toUInt32.toUInt16.toUInt32.toInt32) = c2 at hc2 ⊢
      show OEndsW p e below s _ _ _ _ _ (U1.setTop (mkF m 101 #[.val (.int p0), .val (.int p1), .val (.int p2), .val (.int p3), .val (.int p4), .val (.int p5), .val (.int (p0 &&& (3 : Int32))), .val (.ref ty), .val (.int (p3 &&& (3 : Int32))), .val (.int o), .val (.int c0), .val (.int c1), .val (.int c2), .unset, .unset, .unset, .unset, .unset, .unset, .unset, .unset] []))
      refine OEndsW.via (fun _ k => XS.iloadN XU1.here hx rfl (hb hby at_101) rfl k) ?_
      show OEndsW p e below s _ _ _ _ _ (U1.setTop (mkF m 102 #[.val (.int p0), .val (.int p1), .val (.int p2), .val (.int p3), .val (.int p4), .val (.int p5), .val (.int (p0 &&& (3 : Int32))), .val (.ref ty), .val (.int (p3 &&& (3 : Int32))), .val (.int o), .val (.int c0), .val (.int c1), .val (.int c2), .unset, .unset, .unset, .unset, .unset, .unset, .unset, .unset] [(.int p3)]))
      refine OEndsW.via (fun _ k => XS.iconst XU1.here hx rfl (hb hby at_102) k) ?_
      show OEndsW p e below s _ _ _ _ _ (U1.setTop (mkF m 103 #[.val (.int p0), .val (.int p1), .val (.int p2), .val (.int p3), .val (.int p4), .val (.int p5), .val (.int (p0 &&& (3 : Int32))), .val (.ref ty), .val (.int (p3 &&& (3 : Int32))), .val (.int o), .val (.int c0), .val (.int c1), .val (.int c2), .unset, .unset, .unset, .unset, .unset, .unset, .unset, .unset] [(.int (4 : Int32)), (.int p3)]))
      refine OEndsW.via (fun _ k => XS.iushr XU1.here hx rfl (hb hby at_103) rfl k) ?_
      show OEndsW p e below s _ _ _ _ _ (U1.setTop (mkF m 104 #[.val (.int p0), .val (.int p1), .val (.int p2), .val (.int p3), .val (.int p4), .val (.int p5), .val (.int (p0 &&& (3 : Int32))), .val (.ref ty), .val (.int (p3 &&& (3 : Int32))), .val (.int o), .val (.int c0), .val (.int c1), .val (.int c2), .unset, .unset, .unset, .unset, .unset, .unset, .unset, .unset] [(.int ((p3.toUInt32 >>> ((4 : Int32) &&& 31).toUInt32).toInt32))]))
      refine OEndsW.via (fun _ k => XS.iconst XU1.here hx rfl (hb hby at_104) k) ?_
      show OEndsW p e below s _ _ _ _ _ (U1.setTop (mkF m 105 #[.val (.int p0), .val (.int p1), .val (.int p2), .val (.int p3), .val (.int p4), .val (.int p5), .val (.int (p0 &&& (3 : Int32))), .val (.ref ty), .val (.int (p3 &&& (3 : Int32))), .val (.int o), .val (.int c0), .val (.int c1), .val (.int c2), .unset, .unset, .unset, .unset, .unset, .unset, .unset, .unset] [(.int (1 : Int32)), (.int ((p3.toUInt32 >>> ((4 : Int32) &&& 31).toUInt32).toInt32))]))
      refine OEndsW.via (fun _ k => XS.iand XU1.here hx rfl (hb hby at_105) rfl k) ?_
      show OEndsW p e below s _ _ _ _ _ (U1.setTop (mkF m 106 #[.val (.int p0), .val (.int p1), .val (.int p2), .val (.int p3), .val (.int p4), .val (.int p5), .val (.int (p0 &&& (3 : Int32))), .val (.ref ty), .val (.int (p3 &&& (3 : Int32))), .val (.int o), .val (.int c0), .val (.int c1), .val (.int c2), .unset, .unset, .unset, .unset, .unset, .unset, .unset, .unset] [(.int (((p3.toUInt32 >>> ((4 : Int32) &&& 31).toUInt32).toInt32) &&& (1 : Int32)))]))
      have J3 : ∀ (d0 : Int32) (hd0 : ¬ d0 < 0 ∧ ¬ (255 : Int32) < d0), OEndsW p e below s Z consts_1 24 1152 (QL n0) (U1.setTop (mkF m 120 #[.val (.int p0), .val (.int p1), .val (.int p2), .val (.int p3), .val (.int p4), .val (.int p5), .val (.int (p0 &&& (3 : Int32))), .val (.ref ty), .val (.int (p3 &&& (3 : Int32))), .val (.int o), .val (.int c0), .val (.int c1), .val (.int c2), .unset, .unset, .unset, .unset, .unset, .unset, .unset, .unset] [(.int d0)])) := by
        intro d0 hd0
        refine OEndsW.via (fun _ k => XS.istore XU1.here hx rfl (hb hby at_120) rfl (l' := #[.val (.int p0), .val (.int p1), .val (.int p2), .val (.int p3), .val (.int p4), .val (.int p5), .val (.int (p0 &&& (3 : Int32))), .val (.ref ty), .val (.int (p3 &&& (3 : Int32))), .val (.int o), .val (.int c0), .val (.int c1), .val (.int c2), .val (.int d0), .unset, .unset, .unset, .unset, .unset, .unset, .unset]) rfl k) ?_
        show OEndsW p e below s _ _ _ _ _ (U1.setTop (mkF m 122 #[.val (.int p0), .val (.int p1), .val (.int p2), .val (.int p3), .val (.int p4), .val (.int p5), .val (.int (p0 &&& (3 : Int32))), .val (.ref ty), .val (.int (p3 &&& (3 : Int32))), .val (.int o), .val (.int c0), .val (.int c1), .val (.int c2), .val (.int d0), .unset, .unset, .unset, .unset, .unset, .unset, .unset] []))
        refine OEndsW.via (fun _ k => XS.iloadN XU1.here hx rfl (hb hby at_122) rfl k) ?_
        show OEndsW p e below s _ _ _ _ _ (U1.setTop (mkF m 123 #[.val (.int p0), .val (.int p1), .val (.int p2), .val (.int p3), .val (.int p4), .val (.int p5), .val (.int (p0 &&& (3 : Int32))), .val (.ref ty), .val (.int (p3 &&& (3 : Int32))), .val (.int o), .val (.int c0), .val (.int c1), .val (.int c2), .val (.int d0), .unset, .unset, .unset, .unset, .unset, .unset, .unset] [(.int p3)]))
        refine OEndsW.via (fun _ k => XS.iconst XU1.here hx rfl (hb hby at_123) k) ?_
        show OEndsW p e below s _ _ _ _ _ (U1.setTop (mkF m 124 #[.val (.int p0), .val (.int p1), .val (.int p2), .val (.int p3), .val (.int p4), .val (.int p5), .val (.int (p0 &&& (3 : Int32))), .val (.ref ty), .val (.int (p3 &&& (3 : Int32))), .val (.int o), .val (.int c0), .val (.int c1), .val (.int c2), .val (.int d0), .unset, .unset, .unset, .unset, .unset, .unset, .unset] [(.int (5 : Int32)), (.int p3)]))
        refine OEndsW.via (fun _ k => XS.iushr XU1.here hx rfl (hb hby at_124) rfl k) ?_
        show OEndsW p e below s _ _ _ _ _ (U1.setTop (mkF m 125 #[.val (.int p0), .val (.int p1), .val (.int p2), .val (.int p3), .val (.int p4), .val (.int p5), .val (.int (p0 &&& (3 : Int32))), .val (.ref ty), .val (.int (p3 &&& (3 : Int32))), .val (.int o), .val (.int c0), .val (.int c1), .val (.int c2), .val (.int d0), .unset, .unset, .unset, .unset, .unset, .unset, .unset] [(.int ((p3.toUInt32 >>> ((5 : Int32) &&& 31).toUInt32).toInt32))]))
        refine OEndsW.via (fun _ k => XS.iconst XU1.here hx rfl (hb hby at_125) k) ?_
        show OEndsW p e below s _ _ _ _ _ (U1.setTop (mkF m 126 #[.val (.int p0), .val (.int p1), .val (.int p2), .val (.int p3), .val (.int p4), .val (.int p5), .val (.int (p0 &&& (3 : Int32))), .val (.ref ty), .val (.int (p3 &&& (3 : Int32))), .val (.int o), .val (.int c0), .val (.int c1), .val (.int c2), .val (.int d0), .unset, .unset, .unset, .unset, .unset, .unset, .unset] [(.int (1 : Int32)), (.int ((p3.toUInt32 >>> ((5 : Int32) &&& 31).toUInt32).toInt32))]))
        refine OEndsW.via (fun _ k => XS.iand XU1.here hx rfl (hb hby at_126) rfl k) ?_
        show OEndsW p e below s _ _ _ _ _ (U1.setTop (mkF m 127 #[.val (.int p0), .val (.int p1), .val (.int p2), .val (.int p3), .val (.int p4), .val (.int p5), .val (.int (p0 &&& (3 : Int32))), .val (.ref ty), .val (.int (p3 &&& (3 : Int32))), .val (.int o), .val (.int c0), .val (.int c1), .val (.int c2), .val (.int d0), .unset, .unset, .unset, .unset, .unset, .unset, .unset] [(.int (((p3.toUInt32 >>> ((5 : Int32) &&& 31).toUInt32).toInt32) &&& (1 : Int32)))]))
        have J4 : ∀ (d1 : Int32) (hd1 : ¬ d1 < 0 ∧ ¬ (255 : Int32) < d1), OEndsW p e below s Z consts_1 24 1152 (QL n0) (U1.setTop (mkF m 144 #[.val (.int p0), .val (.int p1), .val (.int p2), .val (.int p3), .val (.int p4), .val (.int p5), .val (.int (p0 &&& (3 : Int32))), .val (.ref ty), .val (.int (p3 &&& (3 : Int32))), .val (.int o), .val (.int c0), .val (.int c1), .val (.int c2), .val (.int d0), .unset, .unset, .unset, .unset, .unset, .unset, .unset] [(.int d1)])) := by
          intro d1 hd1
          refine OEndsW.via (fun _ k => XS.istore XU1.here hx rfl (hb hby at_144) rfl (l' := #[.val (.int p0), .val (.int p1), .val (.int p2), .val (.int p3), .val (.int p4), .val (.int p5), .val (.int (p0 &&& (3 : Int32))), .val (.ref ty), .val (.int (p3 &&& (3 : Int32))), .val (.int o), .val (.int c0), .val (.int c1), .val (.int c2), .val (.int d0), .val (.int d1), .unset, .unset, .unset, .unset, .unset, .unset]) rfl k) ?_
          show OEndsW p e below s _ _ _ _ _ (U1.setTop (mkF m 146 #[.val (.int p0), .val (.int p1), .val (.int p2), .val (.int p3), .val (.int p4), .val (.int p5), .val (.int (p0 &&& (3 : Int32))), .val (.ref ty), .val (.int (p3 &&& (3 : Int32))), .val (.int o), .val (.int c0), .val (.int c1), .val (.int c2), .val (.int d0), .val (.int d1), .unset, .unset, .unset, .unset, .unset, .unset] []))
          refine OEndsW.via (fun _ k => XS.iloadN XU1.here hx rfl (hb hby at_146) rfl k) ?_
          show OEndsW p e below s _ _ _ _ _ (U1.setTop (mkF m 147 #[.val (.int p0), .val (.int p1), .val (.int p2), .val (.int p3), .val (.int p4), .val (.int p5), .val (.int (p0 &&& (3 : Int32))), .val (.ref ty), .val (.int (p3 &&& (3 : Int32))), .val (.int o), .val (.int c0), .val (.int c1), .val (.int c2), .val (.int d0), .val (.int d1), .unset, .unset, .unset, .unset, .unset, .unset] [(.int p3)]))
          refine OEndsW.via (fun _ k => XS.bipush XU1.here hx rfl (hb hby at_147) k) ?_
          show OEndsW p e below s _ _ _ _ _ (U1.setTop (mkF m 149 #[.val (.int p0), .val (.int p1), .val (.int p2), .val (.int p3), .val (.int p4), .val (.int p5), .val (.int (p0 &&& (3 : Int32))), .val (.ref ty), .val (.int (p3 &&& (3 : Int32))), .val (.int o), .val (.int c0), .val (.int c1), .val (.int c2), .val (.int d0), .val (.int d1), .unset, .unset, .unset, .unset, .unset, .unset] [(.int (6 : Int32)), (.int p3)]))
          refine OEndsW.via (fun _ k => XS.iushr XU1.here hx rfl (hb hby at_149) rfl k) ?_
          show OEndsW p e below s _ _ _ _ _ (U1.setTop (mkF m 150 #[.val (.int p0), .val (.int p1), .val (.int p2), .val (.int p3), .val (.int p4), .val (.int p5), .val (.int (p0 &&& (3 : Int32))), .val (.ref ty), .val (.int (p3 &&& (3 : Int32))), .val (.int o), .val (.int c0), .val (.int c1), .val (.int c2), .val (.int d0), .val (.int d1), .unset, .unset, .unset, .unset, .unset, .unset] [(.int ((p3.toUInt32 >>> ((6 : Int32) &&& 31).toUInt32).toInt32))]))
          refine OEndsW.via (fun _ k => XS.iconst XU1.here hx rfl (hb hby at_150) k) ?_
          show OEndsW p e below s _ _ _ _ _ (U1.setTop (mkF m 151 #[.val (.int p0), .val (.int p1), .val (.int p2), .val (.int p3), .val (.int p4), .val (.int p5), .val (.int (p0 &&& (3 : Int32))), .val (.ref ty), .val (.int (p3 &&& (3 : Int32))), .val (.int o), .val (.int c0), .val (.int c1), .val (.int c2), .val (.int d0), .val (.int d1), .unset, .unset, .unset, .unset, .unset, .unset] [(.int (1 : Int32)), (.int ((p3.toUInt32 >>> ((6 : Int32) &&& 31).toUInt32).toInt32))]))
          refine OEndsW.via (fun _ k => XS.iand XU1.here hx rfl (hb hby at_151) rfl k) ?_
          show OEndsW p e below s _ _ _ _ _ (U1.setTop (mkF m 152 #[.val (.int p0), .val (.int p1), .val (.int p2), .val (.int p3), .val (.int p4), .val (.int p5), .val (.int (p0 &&& (3 : Int32))), .val (.ref ty), .val (.int (p3 &&& (3 : Int32))), .val (.int o), .val (.int c0), .val (.int c1), .val (.int c2), .val (.int d0), .val (.int d1), .unset, .unset, .unset, .unset, .unset, .unset] [(.int (((p3.toUInt32 >>> ((6 : Int32) &&& 31).toUInt32).toInt32) &&& (1 : Int32)))]))
          have J5 : ∀ (d2 : Int32) (hd2 : ¬ d2 < 0 ∧ ¬ (255 : Int32) < d2), OEndsW p e below s Z consts_1 24 1152 (QL n0) (U1.setTop (mkF m 169 #[.val (.int p0), .val (.int p1), .val (.int p2), .val (.int p3), .val (.int p4), .val (.int p5), .val (.int (p0 &&& (3 : Int32))), .val (.ref ty), .val (.int (p3 &&& (3 : Int32))), .val (.int o), .val (.int c0), .val (.int c1), .val (.int c2), .val (.int d0), .val (.int d1), .unset, .unset, .unset, .unset, .unset, .unset] [(.int d2)])) := by
            intro d2 hd2
            refine OEndsW.via (fun _ k => XS.istore XU1.here hx rfl (hb hby at_169) rfl (l' := #[.val (.int p0), .val (.int p1), .val (.int p2), .val (.int p3), .val (.int p4), .val (.int p5), .val (.int (p0 &&& (3 : Int32))), .val (.ref ty), .val (.int (p3 &&& (3 : Int32))), .val (.int o), .val (.int c0), .val (.int c1), .val (.int c2), .val (.int d0), .val (.int d1), .val (.int d2), .unset, .unset, .unset, .unset, .unset]) rfl k) ?_
            show OEndsW p e below s _ _ _ _ _ (U1.setTop (mkF m 171 #[.val (.int p0), .val (.int p1), .val (.int p2), .val (.int p3), .val (.int p4), .val (.int p5), .val (.int (p0 &&& (3 : Int32))), .val (.ref ty), .val (.int (p3 &&& (3 : Int32))), .val (.int o), .val (.int c0), .val (.int c1), .val (.int c2), .val (.int d0), .val (.int d1), .val (.int d2), .unset, .unset, .unset, .unset, .unset] []))
            refine OEndsW.via (fun _ k => XS.iload XU1.here hx rfl (hb hby at_171) rfl k) ?_
            show OEndsW p e below s _ _ _ _ _ (U1.setTop (mkF m 173 #[.val (.int p0), .val (.int p1), .val (.int p2), .val (.int p3), .val (.int p4), .val (.int p5), .val (.int (p0 &&& (3 : Int32))), .val (.ref ty), .val (.int (p3 &&& (3 : Int32))), .val (.int o), .val (.int c0), .val (.int c1), .val (.int c2), .val (.int d0), .val (.int d1), .val (.int d2), .unset, .unset, .unset, .unset, .unset] [(.int (p3 &&& (3 : Int32)))]))
            refine OEndsW.via (fun _ k => XS.iload XU1.here hx rfl (hb hby at_173) rfl k) ?_
            show OEndsW p e below s _ _ _ _ _ (U1.setTop (mkF m 175 #[.val (.int p0), .val (.int p1), .val (.int p2), .val (.int p3), .val (.int p4), .val (.int p5), .val (.int (p0 &&& (3 : Int32))), .val (.ref ty), .val (.int (p3 &&& (3 : Int32))), .val (.int o), .val (.int c0), .val (.int c1), .val (.int c2), .val (.int d0), .val (.int d1), .val (.int d2), .unset, .unset, .unset, .unset, .unset] [(.int c0), (.int (p3 &&& (3 : Int32)))]))
            refine OEndsW.via (fun _ k => XS.iload XU1.here hx rfl (hb hby at_175) rfl k) ?_
            show OEndsW p e below s _ _ _ _ _ (U1.setTop (mkF m 177 #[.val (.int p0), .val (.int p1), .val (.int p2), .val (.int p3), .val (.int p4), .val (.int p5), .val (.int (p0 &&& (3 : Int32))), .val (.ref ty), .val (.int (p3 &&& (3 : Int32))), .val (.int o), .val (.int c0), .val (.int c1), .val (.int c2), .val (.int d0), .val (.int d1), .val (.int d2), .unset, .unset, .unset, .unset, .unset] [(.int c1), (.int c0), (.int (p3 &&& (3 : Int32)))]))
            refine OEndsW.via (fun _ k => XS.iload XU1.here hx rfl (hb hby at_177) rfl k) ?_
            show OEndsW p e below s _ _ _ _ _ (U1.setTop (mkF m 179 #[.val (.int p0), .val (.int p1), .val (.int p2), .val (.int p3), .val (.int p4), .val (.int p5), .val (.int (p0 &&& (3 : Int32))), .val (.ref ty), .val (.int (p3 &&& (3 : Int32))), .val (.int o), .val (.int c0), .val (.int c1), .val (.int c2), .val (.int d0), .val (.int d1), .val (.int d2), .unset, .unset, .unset, .unset, .unset] [(.int c2), (.int c1), (.int c0), (.int (p3 &&& (3 : Int32)))]))
            obtain ⟨_, _, ⟨T6, L6, k6, n6⟩, -, X6, S6, G6, ⟨Lc6, hQ6, l6, y6, z6, CH6⟩, st6⟩ := callSS XU1 hx (y := (⟨"com/example/charttop/charttop/query/TokenIsPinLaw", "str", "(ICCC)Ljava/lang/String;"⟩ : MethodName)) hown (mvT hZ (hw _ (List.mem_of_getElem? (i := 3) rfl))) (mvT hZ (hw _ (List.mem_of_getElem? (i := 4) rfl))) (mvT hZ (hw _ (List.mem_of_getElem? (i := 5) rfl))) (mvT hZ (hw _ (List.mem_of_getElem? (i := 6) rfl))) (by decide) (backOfSH (W := 0) (rmS l Z a0 hw [] (p3 &&& (3 : Int32)) c0 c1 c2 G1 h0 n0 Od S_CS nz_CS hc0 hc1 hc2) hZ (hw _ (List.mem_of_getElem? (i := 6) rfl)) (hw _ (List.mem_of_getElem? (i := 5) rfl)) (by decide) (by decide) hEL CR.1) (g := (mkF m 179 #[.val (.int p0), .val (.int p1), .val (.int p2), .val (.int p3), .val (.int p4), .val (.int p5), .val (.int (p0 &&& (3 : Int32))), .val (.ref ty), .val (.int (p3 &&& (3 : Int32))), .val (.int o), .val (.int c0), .val (.int c1), .val (.int c2), .val (.int d0), .val (.int d1), .val (.int d2), .unset, .unset, .unset, .unset, .unset] [(.int c2), (.int c1), (.int c0), (.int (p3 &&& (3 : Int32)))])) rfl (by rw [hml]; rfl) (argsL := [(.int (p3 &&& (3 : Int32))), (.int c0), (.int c1), (.int c2)]) (rest := []) (lenOf pd_28ICCC29Ljava2flang2fString3b rfl) rfl (by show 2 * 0 + _ ≤ _; exact Nat.le_of_eq rfl) (hb hby at_179) (fun _ _ => ⟨rfl, eU1, Nat.le_of_ble_eq_true rfl, Nat.le_of_ble_eq_true rfl⟩)
            dsimp only [Pt.U, Pt.locs, Pt.cells, Pt.slots] at X6 S6 G6 l6 y6 z6 st6 hQ6 CH6
            subst l6 y6 z6
            obtain ⟨X6, hS, hZ, hown⟩ := rebS hS (by rw [eU1]; exact hk) X6 S6 G6 hZ hown
            replace CR := CR.trans CH6
            replace hk := Nat.le_refl T6.heap.size
            obtain ⟨x6, rfl, N6q, K6, ge6, O6⟩ := hQ6
            have N6 := Fr.app N0 N6q
            replace Od := Od.keep K6 all0
            obtain ⟨t_x6, kb_x6, cd_x6, nn_x6, vs_x6, E_x6, V_x6, C_x6, K_x6, hcd_x6⟩ := O6
            refine OEndsW.via (fun _ k => st6.trans k) ?_
            show OEndsW p e below s _ _ _ _ _ (T6.setTop (mkF m 182 #[.val (.int p0), .val (.int p1), .val (.int p2), .val (.int p3), .val (.int p4), .val (.int p5), .val (.int (p0 &&& (3 : Int32))), .val (.ref ty), .val (.int (p3 &&& (3 : Int32))), .val (.int o), .val (.int c0), .val (.int c1), .val (.int c2), .val (.int d0), .val (.int d1), .val (.int d2), .unset, .unset, .unset, .unset, .unset] [(.ref x6)]))
            refine OEndsW.via (fun _ k => XS.astore X6.here hx rfl (hb hby at_182) rfl rfl (l' := #[.val (.int p0), .val (.int p1), .val (.int p2), .val (.int p3), .val (.int p4), .val (.int p5), .val (.int (p0 &&& (3 : Int32))), .val (.ref ty), .val (.int (p3 &&& (3 : Int32))), .val (.int o), .val (.int c0), .val (.int c1), .val (.int c2), .val (.int d0), .val (.int d1), .val (.int d2), .val (.ref x6), .unset, .unset, .unset, .unset]) rfl k) ?_
            show OEndsW p e below s _ _ _ _ _ (T6.setTop (mkF m 184 #[.val (.int p0), .val (.int p1), .val (.int p2), .val (.int p3), .val (.int p4), .val (.int p5), .val (.int (p0 &&& (3 : Int32))), .val (.ref ty), .val (.int (p3 &&& (3 : Int32))), .val (.int o), .val (.int c0), .val (.int c1), .val (.int c2), .val (.int d0), .val (.int d1), .val (.int d2), .val (.ref x6), .unset, .unset, .unset, .unset] []))
            refine OEndsW.via (fun _ k => XS.iload X6.here hx rfl (hb hby at_184) rfl k) ?_
            show OEndsW p e below s _ _ _ _ _ (T6.setTop (mkF m 186 #[.val (.int p0), .val (.int p1), .val (.int p2), .val (.int p3), .val (.int p4), .val (.int p5), .val (.int (p0 &&& (3 : Int32))), .val (.ref ty), .val (.int (p3 &&& (3 : Int32))), .val (.int o), .val (.int c0), .val (.int c1), .val (.int c2), .val (.int d0), .val (.int d1), .val (.int d2), .val (.ref x6), .unset, .unset, .unset, .unset] [(.int o)]))
            refine OEndsW.via (fun _ k => XS.iload X6.here hx rfl (hb hby at_186) rfl k) ?_
            show OEndsW p e below s _ _ _ _ _ (T6.setTop (mkF m 188 #[.val (.int p0), .val (.int p1), .val (.int p2), .val (.int p3), .val (.int p4), .val (.int p5), .val (.int (p0 &&& (3 : Int32))), .val (.ref ty), .val (.int (p3 &&& (3 : Int32))), .val (.int o), .val (.int c0), .val (.int c1), .val (.int c2), .val (.int d0), .val (.int d1), .val (.int d2), .val (.ref x6), .unset, .unset, .unset, .unset] [(.int d0), (.int o)]))
            refine OEndsW.via (fun _ k => XS.iload X6.here hx rfl (hb hby at_188) rfl k) ?_
            show OEndsW p e below s _ _ _ _ _ (T6.setTop (mkF m 190 #[.val (.int p0), .val (.int p1), .val (.int p2), .val (.int p3), .val (.int p4), .val (.int p5), .val (.int (p0 &&& (3 : Int32))), .val (.ref ty), .val (.int (p3 &&& (3 : Int32))), .val (.int o), .val (.int c0), .val (.int c1), .val (.int c2), .val (.int d0), .val (.int d1), .val (.int d2), .val (.ref x6), .unset, .unset, .unset, .unset] [(.int d1), (.int d0), (.int o)]))
            refine OEndsW.via (fun _ k => XS.iload X6.here hx rfl (hb hby at_190) rfl k) ?_
            show OEndsW p e below s _ _ _ _ _ (T6.setTop (mkF m 192 #[.val (.int p0), .val (.int p1), .val (.int p2), .val (.int p3), .val (.int p4), .val (.int p5), .val (.int (p0 &&& (3 : Int32))), .val (.ref ty), .val (.int (p3 &&& (3 : Int32))), .val (.int o), .val (.int c0), .val (.int c1), .val (.int c2), .val (.int d0), .val (.int d1), .val (.int d2), .val (.ref x6), .unset, .unset, .unset, .unset] [(.int d2), (.int d1), (.int d0), (.int o)]))
            obtain ⟨_, _, ⟨T7, L7, k7, n7⟩, -, X7, S7, G7, ⟨Lc7, hQ7, l7, y7, z7, CH7⟩, st7⟩ := callSS X6 hx (y := (⟨"com/example/charttop/charttop/query/TokenIsPinLaw", "str", "(ICCC)Ljava/lang/String;"⟩ : MethodName)) hown (mvT hZ (hw _ (List.mem_of_getElem? (i := 3) rfl))) (mvT hZ (hw _ (List.mem_of_getElem? (i := 4) rfl))) (mvT hZ (hw _ (List.mem_of_getElem? (i := 5) rfl))) (mvT hZ (hw _ (List.mem_of_getElem? (i := 6) rfl))) (by decide) (backOfSH (W := 0) (rmS l Z a0 hw [] o d0 d1 d2 G1 T6.heap n0 Od S_CS nz_CS hd0 hd1 hd2) hZ (hw _ (List.mem_of_getElem? (i := 6) rfl)) (hw _ (List.mem_of_getElem? (i := 5) rfl)) (by decide) (by decide) hEL CR.1) (g := (mkF m 192 #[.val (.int p0), .val (.int p1), .val (.int p2), .val (.int p3), .val (.int p4), .val (.int p5), .val (.int (p0 &&& (3 : Int32))), .val (.ref ty), .val (.int (p3 &&& (3 : Int32))), .val (.int o), .val (.int c0), .val (.int c1), .val (.int c2), .val (.int d0), .val (.int d1), .val (.int d2), .val (.ref x6), .unset, .unset, .unset, .unset] [(.int d2), (.int d1), (.int d0), (.int o)])) rfl (by rw [hml]; rfl) (argsL := [(.int o), (.int d0), (.int d1), (.int d2)]) (rest := []) (lenOf pd_28ICCC29Ljava2flang2fString3b rfl) rfl (by show 2 * 0 + _ ≤ _; exact Nat.le_of_eq rfl) (hb hby at_192) (fun _ _ => ⟨rfl, rfl, Nat.le_of_ble_eq_true rfl, Nat.le_of_ble_eq_true rfl⟩)
            dsimp only [Pt.U, Pt.locs, Pt.cells, Pt.slots] at X7 S7 G7 l7 y7 z7 st7 hQ7 CH7
            subst l7 y7 z7
            obtain ⟨X7, hS, hZ, hown⟩ := rebS hS hk X7 S7 G7 hZ hown
            replace CR := CR.trans CH7
            replace hk := Nat.le_refl T7.heap.size
            obtain ⟨x7, rfl, N7q, K7, ge7, O7⟩ := hQ7
            have N7 := Fr.app N6 N7q
            replace Od := Od.keep K7 all0
            replace E_x6 := E_x6.keep K7
            replace V_x6 := V_x6.keep K7 nin0
            replace C_x6 := C_x6.keep K7 nin0
            replace K_x6 := K_x6.keep K7 nin0
            obtain ⟨t_x7, kb_x7, cd_x7, nn_x7, vs_x7, E_x7, V_x7, C_x7, K_x7, hcd_x7⟩ := O7
            refine OEndsW.via (fun _ k => st7.trans k) ?_
            show OEndsW p e below s _ _ _ _ _ (T7.setTop (mkF m 195 #[.val (.int p0), .val (.int p1), .val (.int p2), .val (.int p3), .val (.int p4), .val (.int p5), .val (.int (p0 &&& (3 : Int32))), .val (.ref ty), .val (.int (p3 &&& (3 : Int32))), .val (.int o), .val (.int c0), .val (.int c1), .val (.int c2), .val (.int d0), .val (.int d1), .val (.int d2), .val (.ref x6), .unset, .unset, .unset, .unset] [(.ref x7)]))
            refine OEndsW.via (fun _ k => XS.astore X7.here hx rfl (hb hby at_195) rfl rfl (l' := #[.val (.int p0), .val (.int p1), .val (.int p2), .val (.int p3), .val (.int p4), .val (.int p5), .val (.int (p0 &&& (3 : Int32))), .val (.ref ty), .val (.int (p3 &&& (3 : Int32))), .val (.int o), .val (.int c0), .val (.int c1), .val (.int c2), .val (.int d0), .val (.int d1), .val (.int d2), .val (.ref x6), .val (.ref x7), .unset, .unset, .unset]) rfl k) ?_
            show OEndsW p e below s _ _ _ _ _ (T7.setTop (mkF m 197 #[.val (.int p0), .val (.int p1), .val (.int p2), .val (.int p3), .val (.int p4), .val (.int p5), .val (.int (p0 &&& (3 : Int32))), .val (.ref ty), .val (.int (p3 &&& (3 : Int32))), .val (.int o), .val (.int c0), .val (.int c1), .val (.int c2), .val (.int d0), .val (.int d1), .val (.int d2), .val (.ref x6), .val (.ref x7), .unset, .unset, .unset] []))
            obtain ⟨T8, h8, X8, e8, E8, A8, D8, -, st8⟩ := newO X7 hx hZ hown (hw _ (List.mem_of_getElem? (i := 40) rfl)) (hw _ (List.mem_of_getElem? (i := 41) rfl)) (hw _ (List.mem_of_getElem? (i := 42) rfl)) rfl (g := (mkF m 197 #[.val (.int p0), .val (.int p1), .val (.int p2), .val (.int p3), .val (.int p4), .val (.int p5), .val (.int (p0 &&& (3 : Int32))), .val (.ref ty), .val (.int (p3 &&& (3 : Int32))), .val (.int o), .val (.int c0), .val (.int c1), .val (.int c2), .val (.int d0), .val (.int d1), .val (.int d2), .val (.ref x6), .val (.ref x7), .unset, .unset, .unset] [])) rfl (hb hby at_197) (by decide) (by decide)
            obtain ⟨b8, g8⟩ : ∃ z, z = T7.heap.size := ⟨_, rfl⟩
            have ne_x6_b8 : x6 ≠ b8 := Nat.ne_of_lt (Nat.lt_of_lt_of_le E_x6.lt (Nat.le_of_eq g8.symm))
            have ne_t_x6_b8 : t_x6 ≠ b8 := Nat.ne_of_lt (Nat.lt_of_lt_of_le K_x6.lt (Nat.le_of_eq g8.symm))
            have ne_x7_b8 : x7 ≠ b8 := Nat.ne_of_lt (Nat.lt_of_lt_of_le E_x7.lt (Nat.le_of_eq g8.symm))
            have ne_t_x7_b8 : t_x7 ≠ b8 := Nat.ne_of_lt (Nat.lt_of_lt_of_le K_x7.lt (Nat.le_of_eq g8.symm))
            have ge_b8 : n0 ≤ b8 := Nat.le_trans (Od.1 ▸ Od.2.1) (Nat.le_of_eq g8.symm)
            have sf_b8 : Safe Z consts_1 _ T7.heap b8 := Safe.new (EL := consts_1) (vm := T7.vm) (Nat.le_of_eq g8.symm)
            rw [← g8] at A8 D8 st8
            replace hk := Nat.le_trans hk E8.1
            replace Od := Od.ext E8
            replace E_x6 := Exa.ext E8 E_x6
            replace V_x6 := Fld.ext E8 V_x6
            replace C_x6 := Fld.ext E8 C_x6
            replace K_x6 := K_x6.ext E8
            replace E_x7 := Exa.ext E8 E_x7
            replace V_x7 := Fld.ext E8 V_x7
            replace C_x7 := Fld.ext E8 C_x7
            replace K_x7 := K_x7.ext E8
            replace sf_b8 := Safe.ext E8 CR.1 sf_b8
            replace CR := CR.trans (CHr.ext E8 CR.1)
            have E_b8 : Exa Z h8 b8 "com/example/charttop/charttop/query/Token" := A8
            have F_type_b8 : Fld Z h8 b8 "com/example/charttop/charttop/query/Token" "type" "Lcom/example/charttop/charttop/query/Token$Type;" .null := D8 (Or.inr (hw _ (List.mem_of_getElem? (i := 53) rfl))) (ty := (.object "com/example/charttop/charttop/query/Token$Type")) (by decide)
            have F_text_b8 : Fld Z h8 b8 "com/example/charttop/charttop/query/Token" "text" "Ljava/lang/String;" .null := D8 (Or.inr (hw _ (List.mem_of_getElem? (i := 55) rfl))) (ty := (.object "java/lang/String")) (by decide)
            have F_slop_b8 : Fld Z h8 b8 "com/example/charttop/charttop/query/Token" "slop" "I" (.int (0 : Int32)) := D8 (Or.inr (hw _ (List.mem_of_getElem? (i := 57) rfl))) (ty := .int) (by decide)
            have F_at_b8 : Fld Z h8 b8 "com/example/charttop/charttop/query/Token" "at" "I" (.int (0 : Int32)) := D8 (Or.inr (hw _ (List.mem_of_getElem? (i := 59) rfl))) (ty := .int) (by decide)
            refine OEndsW.via (fun _ k => st8 _ k) ?_
            show OEndsW p e below s _ _ _ _ _ (T8.setTop (mkF m 200 #[.val (.int p0), .val (.int p1), .val (.int p2), .val (.int p3), .val (.int p4), .val (.int p5), .val (.int (p0 &&& (3 : Int32))), .val (.ref ty), .val (.int (p3 &&& (3 : Int32))), .val (.int o), .val (.int c0), .val (.int c1), .val (.int c2), .val (.int d0), .val (.int d1), .val (.int d2), .val (.ref x6), .val (.ref x7), .unset, .unset, .unset] [(.ref b8)]))
            refine OEndsW.via (fun _ k => XS.dup X8.here hx rfl (hb hby at_200) rfl rfl k) ?_
            show OEndsW p e below s _ _ _ _ _ (T8.setTop (mkF m 201 #[.val (.int p0), .val (.int p1), .val (.int p2), .val (.int p3), .val (.int p4), .val (.int p5), .val (.int (p0 &&& (3 : Int32))), .val (.ref ty), .val (.int (p3 &&& (3 : Int32))), .val (.int o), .val (.int c0), .val (.int c1), .val (.int c2), .val (.int d0), .val (.int d1), .val (.int d2), .val (.ref x6), .val (.ref x7), .unset, .unset, .unset] [(.ref b8), (.ref b8)]))
            refine OEndsW.via (fun _ k => XS.aload X8.here hx rfl (hb hby at_201) rfl rfl k) ?_
            show OEndsW p e below s _ _ _ _ _ (T8.setTop (mkF m 203 #[.val (.int p0), .val (.int p1), .val (.int p2), .val (.int p3), .val (.int p4), .val (.int p5), .val (.int (p0 &&& (3 : Int32))), .val (.ref ty), .val (.int (p3 &&& (3 : Int32))), .val (.int o), .val (.int c0), .val (.int c1), .val (.int c2), .val (.int d0), .val (.int d1), .val (.int d2), .val (.ref x6), .val (.ref x7), .unset, .unset, .unset] [(.ref ty), (.ref b8), (.ref b8)]))
            refine OEndsW.via (fun _ k => XS.aload X8.here hx rfl (hb hby at_203) rfl rfl k) ?_
            show OEndsW p e below s _ _ _ _ _ (T8.setTop (mkF m 205 #[.val (.int p0), .val (.int p1), .val (.int p2), .val (.int p3), .val (.int p4), .val (.int p5), .val (.int (p0 &&& (3 : Int32))), .val (.ref ty), .val (.int (p3 &&& (3 : Int32))), .val (.int o), .val (.int c0), .val (.int c1), .val (.int c2), .val (.int d0), .val (.int d1), .val (.int d2), .val (.ref x6), .val (.ref x7), .unset, .unset, .unset] [(.ref x6), (.ref ty), (.ref b8), (.ref b8)]))
            refine OEndsW.via (fun _ k => XS.iload X8.here hx rfl (hb hby at_205) rfl k) ?_
            show OEndsW p e below s _ _ _ _ _ (T8.setTop (mkF m 207 #[.val (.int p0), .val (.int p1), .val (.int p2), .val (.int p3), .val (.int p4), .val (.int p5), .val (.int (p0 &&& (3 : Int32))), .val (.ref ty), .val (.int (p3 &&& (3 : Int32))), .val (.int o), .val (.int c0), .val (.int c1), .val (.int c2), .val (.int d0), .val (.int d1), .val (.int d2), .val (.ref x6), .val (.ref x7), .unset, .unset, .unset] [(.int p4), (.ref x6), (.ref ty), (.ref b8), (.ref b8)]))
            refine OEndsW.via (fun _ k => XS.iload X8.here hx rfl (hb hby at_207) rfl k) ?_
            show OEndsW p e below s _ _ _ _ _ (T8.setTop (mkF m 209 #[.val (.int p0), .val (.int p1), .val (.int p2), .val (.int p3), .val (.int p4), .val (.int p5), .val (.int (p0 &&& (3 : Int32))), .val (.ref ty), .val (.int (p3 &&& (3 : Int32))), .val (.int o), .val (.int c0), .val (.int c1), .val (.int c2), .val (.int d0), .val (.int d1), .val (.int d2), .val (.ref x6), .val (.ref x7), .unset, .unset, .unset] [(.int p5), (.int p4), (.ref x6), (.ref ty), (.ref b8), (.ref b8)]))
            obtain ⟨_, _, ⟨T9, L9, k9, n9⟩, -, X9, ⟨Lc9, hQ9, l9, y9, z9⟩, st9⟩ := X8.specialBack hx (y := (⟨"com/example/charttop/charttop/query/Token", "<init>", "(Lcom/example/charttop/charttop/query/Token$Type;Ljava/lang/String;II)V"⟩ : MethodName)) rfl hown (mvT hZ (hw _ (List.mem_of_getElem? (i := 43) rfl))) (mvT hZ (hw _ (List.mem_of_getElem? (i := 44) rfl))) (mvT hZ (hw _ (List.mem_of_getElem? (i := 45) rfl))) (by decide) (backOf (W := 1) (rmI l Z a0 hw [] b8 ty x6 p4 p5 h8 n0 Od F_type_b8 F_text_b8 F_slop_b8 F_at_b8 E_b8 ge_b8) hZ (hw _ (List.mem_of_getElem? (i := 45) rfl)) (hw _ (List.mem_of_getElem? (i := 42) rfl)) (by decide) (by decide)) (g := (mkF m 209 #[.val (.int p0), .val (.int p1), .val (.int p2), .val (.int p3), .val (.int p4), .val (.int p5), .val (.int (p0 &&& (3 : Int32))), .val (.ref ty), .val (.int (p3 &&& (3 : Int32))), .val (.int o), .val (.int c0), .val (.int c1), .val (.int c2), .val (.int d0), .val (.int d1), .val (.int d2), .val (.ref x6), .val (.ref x7), .unset, .unset, .unset] [(.int p5), (.int p4), (.ref x6), (.ref ty), (.ref b8), (.ref b8)])) rfl (by rw [hml]; rfl) (Steps.refl _) (a := b8) (argsL := [(.ref ty), (.ref x6), (.int p4), (.int p5)]) (rest := [(.ref b8)]) (lenOf pd_28Lcom2fexample2fcharttop2fcharttop2fquery2fToken24Type3bLjava2flang2fString3bII29V rfl) rfl (by show 2 * 0 + _ ≤ _; exact Nat.le_of_eq rfl) (hb hby at_209) (fun _ _ => ⟨rfl, e8, Nat.le_of_ble_eq_true rfl, Nat.le_of_ble_eq_true rfl⟩)
            dsimp only [Pt.U, Pt.locs, Pt.cells, Pt.slots] at X9 l9 y9 z9 st9 hQ9
            subst l9 y9 z9
            obtain ⟨rfl, N9q, K9, G_type, G_text⟩ := hQ9
            have N9 := Fr.app N7 N9q
            have sfk9 : ∀ x ∈ ([b8] : List Addr), Safe Z consts_1 T7.vm h8 x := (allS sf_b8 all0)
            replace hk := Nat.le_trans hk K9.1
            replace Od := Od.keep K9 (allS ge_b8 all0)
            replace E_x6 := E_x6.keep K9
            replace V_x6 := V_x6.keep K9 (ninS ne_x6_b8 nin0)
            replace C_x6 := C_x6.keep K9 (ninS ne_x6_b8 nin0)
            replace K_x6 := K_x6.keep K9 (ninS ne_t_x6_b8 nin0)
            replace E_x7 := E_x7.keep K9
            replace V_x7 := V_x7.keep K9 (ninS ne_x7_b8 nin0)
            replace C_x7 := C_x7.keep K9 (ninS ne_x7_b8 nin0)
            replace K_x7 := K_x7.keep K9 (ninS ne_t_x7_b8 nin0)
            replace sf_b8 := Safe.keep K9 sfk9 CR.1 sf_b8
            replace E_b8 := E_b8.keep K9
            replace CR := CR.trans (CHr.keep K9 sfk9 CR.1)
            refine OEndsW.via (fun _ k => st9.trans k) ?_
            show OEndsW p e below s _ _ _ _ _ (T9.setTop (mkF m 212 #[.val (.int p0), .val (.int p1), .val (.int p2), .val (.int p3), .val (.int p4), .val (.int p5), .val (.int (p0 &&& (3 : Int32))), .val (.ref ty), .val (.int (p3 &&& (3 : Int32))), .val (.int o), .val (.int c0), .val (.int c1), .val (.int c2), .val (.int d0), .val (.int d1), .val (.int d2), .val (.ref x6), .val (.ref x7), .unset, .unset, .unset] [(.ref b8)]))
            refine OEndsW.via (fun _ k => XS.astore X9.here hx rfl (hb hby at_212) rfl rfl (l' := #[.val (.int p0), .val (.int p1), .val (.int p2), .val (.int p3), .val (.int p4), .val (.int p5), .val (.int (p0 &&& (3 : Int32))), .val (.ref ty), .val (.int (p3 &&& (3 : Int32))), .val (.int o), .val (.int c0), .val (.int c1), .val (.int c2), .val (.int d0), .val (.int d1), .val (.int d2), .val (.ref x6), .val (.ref x7), .val (.ref b8), .unset, .unset]) rfl k) ?_
            show OEndsW p e below s _ _ _ _ _ (T9.setTop (mkF m 214 #[.val (.int p0), .val (.int p1), .val (.int p2), .val (.int p3), .val (.int p4), .val (.int p5), .val (.int (p0 &&& (3 : Int32))), .val (.ref ty), .val (.int (p3 &&& (3 : Int32))), .val (.int o), .val (.int c0), .val (.int c1), .val (.int c2), .val (.int d0), .val (.int d1), .val (.int d2), .val (.ref x6), .val (.ref x7), .val (.ref b8), .unset, .unset] []))
            refine OEndsW.via (fun _ k => XS.iload X9.here hx rfl (hb hby at_214) rfl k) ?_
            show OEndsW p e below s _ _ _ _ _ (T9.setTop (mkF m 216 #[.val (.int p0), .val (.int p1), .val (.int p2), .val (.int p3), .val (.int p4), .val (.int p5), .val (.int (p0 &&& (3 : Int32))), .val (.ref ty), .val (.int (p3 &&& (3 : Int32))), .val (.int o), .val (.int c0), .val (.int c1), .val (.int c2), .val (.int d0), .val (.int d1), .val (.int d2), .val (.ref x6), .val (.ref x7), .val (.ref b8), .unset, .unset] [(.int (p3 &&& (3 : Int32)))]))
            refine OEndsW.via (fun _ k => XS.iload X9.here hx rfl (hb hby at_216) rfl k) ?_
            show OEndsW p e below s _ _ _ _ _ (T9.setTop (mkF m 218 #[.val (.int p0), .val (.int p1), .val (.int p2), .val (.int p3), .val (.int p4), .val (.int p5), .val (.int (p0 &&& (3 : Int32))), .val (.ref ty), .val (.int (p3 &&& (3 : Int32))), .val (.int o), .val (.int c0), .val (.int c1), .val (.int c2), .val (.int d0), .val (.int d1), .val (.int d2), .val (.ref x6), .val (.ref x7), .val (.ref b8), .unset, .unset] [(.int o), (.int (p3 &&& (3 : Int32)))]))
            have J10 : ∀ (bs : Int32) (hbs : (bs = 1 ∧ own_str (p3 &&& (3 : Int32)) c0 c1 c2 = own_str o d0 d1 d2) ∨ (bs = 0 ∧ ¬ own_str (p3 &&& (3 : Int32)) c0 c1 c2 = own_str o d0 d1 d2)), OEndsW p e below s Z consts_1 24 1152 (QL n0) (T9.setTop (mkF m 265 #[.val (.int p0), .val (.int p1), .val (.int p2), .val (.int p3), .val (.int p4), .val (.int p5), .val (.int (p0 &&& (3 : Int32))), .val (.ref ty), .val (.int (p3 &&& (3 : Int32))), .val (.int o), .val (.int c0), .val (.int c1), .val (.int c2), .val (.int d0), .val (.int d1), .val (.int d2), .val (.ref x6), .val (.ref x7), .val (.ref b8), .unset, .unset] [(.int bs)])) := by
              intro bs hbs
              refine OEndsW.via (fun _ k => XS.istore X9.here hx rfl (hb hby at_265) rfl (l' := #[.val (.int p0), .val (.int p1), .val (.int p2), .val (.int p3), .val (.int p4), .val (.int p5), .val (.int (p0 &&& (3 : Int32))), .val (.ref ty), .val (.int (p3 &&& (3 : Int32))), .val (.int o), .val (.int c0), .val (.int c1), .val (.int c2), .val (.int d0), .val (.int d1), .val (.int d2), .val (.ref x6), .val (.ref x7), .val (.ref b8), .val (.int bs), .unset]) rfl k) ?_
              show OEndsW p e below s _ _ _ _ _ (T9.setTop (mkF m 267 #[.val (.int p0), .val (.int p1), .val (.int p2), .val (.int p3), .val (.int p4), .val (.int p5), .val (.int (p0 &&& (3 : Int32))), .val (.ref ty), .val (.int (p3 &&& (3 : Int32))), .val (.int o), .val (.int c0), .val (.int c1), .val (.int c2), .val (.int d0), .val (.int d1), .val (.int d2), .val (.ref x6), .val (.ref x7), .val (.ref b8), .val (.int bs), .unset] []))
              refine OEndsW.via (fun _ k => XS.iload X9.here hx rfl (hb hby at_267) rfl k) ?_
              show OEndsW p e below s _ _ _ _ _ (T9.setTop (mkF m 269 #[.val (.int p0), .val (.int p1), .val (.int p2), .val (.int p3), .val (.int p4), .val (.int p5), .val (.int (p0 &&& (3 : Int32))), .val (.ref ty), .val (.int (p3 &&& (3 : Int32))), .val (.int o), .val (.int c0), .val (.int c1), .val (.int c2), .val (.int d0), .val (.int d1), .val (.int d2), .val (.ref x6), .val (.ref x7), .val (.ref b8), .val (.int bs), .unset] [(.int (p0 &&& (3 : Int32)))]))
              refine OEndsW.via (fun _ k => XS.iconst X9.here hx rfl (hb hby at_269) k) ?_
              show OEndsW p e below s _ _ _ _ _ (T9.setTop (mkF m 270 #[.val (.int p0), .val (.int p1), .val (.int p2), .val (.int p3), .val (.int p4), .val (.int p5), .val (.int (p0 &&& (3 : Int32))), .val (.ref ty), .val (.int (p3 &&& (3 : Int32))), .val (.int o), .val (.int c0), .val (.int c1), .val (.int c2), .val (.int d0), .val (.int d1), .val (.int d2), .val (.ref x6), .val (.ref x7), .val (.ref b8), .val (.int bs), .unset] [(.int (3 : Int32)), (.int (p0 &&& (3 : Int32)))]))
              by_cases hc270_10 : (p0 &&& (3 : Int32)) = (3 : Int32)
              · skip
                refine OEndsW.via (fun _ k => XS.icmpNo X9.here hx rfl (hb hby at_270) rfl (teq hc270_10).2 k) ?_
                show OEndsW p e below s _ _ _ _ _ (T9.setTop (mkF m 273 #[.val (.int p0), .val (.int p1), .val (.int p2), .val (.int p3), .val (.int p4), .val (.int p5), .val (.int (p0 &&& (3 : Int32))), .val (.ref ty), .val (.int (p3 &&& (3 : Int32))), .val (.int o), .val (.int c0), .val (.int c1), .val (.int c2), .val (.int d0), .val (.int d1), .val (.int d2), .val (.ref x6), .val (.ref x7), .val (.ref b8), .val (.int bs), .unset] []))
                refine OEndsW.via (fun _ k => XS.iload X9.here hx rfl (hb hby at_273) rfl k) ?_
                show OEndsW p e below s _ _ _ _ _ (T9.setTop (mkF m 275 #[.val (.int p0), .val (.int p1), .val (.int p2), .val (.int p3), .val (.int p4), .val (.int p5), .val (.int (p0 &&& (3 : Int32))), .val (.ref ty), .val (.int (p3 &&& (3 : Int32))), .val (.int o), .val (.int c0), .val (.int c1), .val (.int c2), .val (.int d0), .val (.int d1), .val (.int d2), .val (.ref x6), .val (.ref x7), .val (.ref b8), .val (.int bs), .unset] [(.int bs)]))
                by_cases hc275_11 : bs = (0 : Int32)
                · skip
                  refine OEndsW.via (fun _ k => XS.ifYes X9.here hx rfl (pc0 := 275) (pc' := 282) rfl (hb hby at_275) rfl ((if0 _ _).trans (teq hc275_11).1) (by decide) (by decide) k) ?_
                  show OEndsW p e below s _ _ _ _ _ (T9.setTop (mkF m 282 #[.val (.int p0), .val (.int p1), .val (.int p2), .val (.int p3), .val (.int p4), .val (.int p5), .val (.int (p0 &&& (3 : Int32))), .val (.ref ty), .val (.int (p3 &&& (3 : Int32))), .val (.int o), .val (.int c0), .val (.int c1), .val (.int c2), .val (.int d0), .val (.int d1), .val (.int d2), .val (.ref x6), .val (.ref x7), .val (.ref b8), .val (.int bs), .unset] []))
                  refine OEndsW.via (fun _ k => XS.iconst X9.here hx rfl (hb hby at_282) k) ?_
                  show OEndsW p e below s _ _ _ _ _ (T9.setTop (mkF m 283 #[.val (.int p0), .val (.int p1), .val (.int p2), .val (.int p3), .val (.int p4), .val (.int p5), .val (.int (p0 &&& (3 : Int32))), .val (.ref ty), .val (.int (p3 &&& (3 : Int32))), .val (.int o), .val (.int c0), .val (.int c1), .val (.int c2), .val (.int d0), .val (.int d1), .val (.int d2), .val (.ref x6), .val (.ref x7), .val (.ref b8), .val (.int bs), .unset] [(.int (0 : Int32))]))
                  refine OEndsW.via (fun _ k => XS.istore X9.here hx rfl (hb hby at_283) rfl (l' := #[.val (.int p0), .val (.int p1), .val (.int p2), .val (.int p3), .val (.int p4), .val (.int p5), .val (.int (p0 &&& (3 : Int32))), .val (.ref ty), .val (.int (p3 &&& (3 : Int32))), .val (.int o), .val (.int c0), .val (.int c1), .val (.int c2), .val (.int d0), .val (.int d1), .val (.int d2), .val (.ref x6), .val (.ref x7), .val (.ref b8), .val (.int bs), .val (.int (0 : Int32))]) rfl k) ?_
                  show OEndsW p e below s _ _ _ _ _ (T9.setTop (mkF m 285 #[.val (.int p0), .val (.int p1), .val (.int p2), .val (.int p3), .val (.int p4), .val (.int p5), .val (.int (p0 &&& (3 : Int32))), .val (.ref ty), .val (.int (p3 &&& (3 : Int32))), .val (.int o), .val (.int c0), .val (.int c1), .val (.int c2), .val (.int d0), .val (.int d1), .val (.int d2), .val (.ref x6), .val (.ref x7), .val (.ref b8), .val (.int bs), .val (.int (0 : Int32))] []))
                  refine OEndsW.via (fun _ k => XS.aload X9.here hx rfl (hb hby at_285) rfl rfl k) ?_
                  show OEndsW p e below s _ _ _ _ _ (T9.setTop (mkF m 287 #[.val (.int p0), .val (.int p1), .val (.int p2), .val (.int p3), .val (.int p4), .val (.int p5), .val (.int (p0 &&& (3 : Int32))), .val (.ref ty), .val (.int (p3 &&& (3 : Int32))), .val (.int o), .val (.int c0), .val (.int c1), .val (.int c2), .val (.int d0), .val (.int d1), .val (.int d2), .val (.ref x6), .val (.ref x7), .val (.ref b8), .val (.int bs), .val (.int (0 : Int32))] [(.ref b8)]))
                  refine OEndsW.via (fun _ k => XS.aload X9.here hx rfl (hb hby at_287) rfl rfl k) ?_
                  show OEndsW p e below s _ _ _ _ _ (T9.setTop (mkF m 289 #[.val (.int p0), .val (.int p1), .val (.int p2), .val (.int p3), .val (.int p4), .val (.int p5), .val (.int (p0 &&& (3 : Int32))), .val (.ref ty), .val (.int (p3 &&& (3 : Int32))), .val (.int o), .val (.int c0), .val (.int c1), .val (.int c2), .val (.int d0), .val (.int d1), .val (.int d2), .val (.ref x6), .val (.ref x7), .val (.ref b8), .val (.int bs), .val (.int (0 : Int32))] [(.ref x7), (.ref b8)]))
                  obtain ⟨cq13, kq13, q13a, q13b, q13c⟩ := isOf hZ rfl E_b8
                  obtain ⟨_, _, ⟨T13, L13, k13, n13⟩, -, X13, ⟨Lc13, hQ13, l13, y13, z13⟩, st13⟩ := X9.virtualBack hx (y := (⟨"com/example/charttop/charttop/query/Token", "is", "(Ljava/lang/String;)Z"⟩ : MethodName)) (z := (⟨"com/example/charttop/charttop/query/Token", "is", "(Ljava/lang/String;)Z"⟩ : MethodName)) hown (mvT hZ (hw _ (List.mem_of_getElem? (i := 60) rfl))) (mvT hZ (hw _ (List.mem_of_getElem? (i := 61) rfl))) (notFace_of_selects (args := #[]) (mvT hZ (hw _ (List.mem_of_getElem? (i := 63) rfl)))) (mvT hZ (hw _ (List.mem_of_getElem? (i := 63) rfl))) (mvT hZ (hw _ (List.mem_of_getElem? (i := 62) rfl))) (by decide) (backOf (W := 0) (rmT l Z a0 hw [] b8 ty a_WORD G1 (own_str (p3 &&& (3 : Int32)) c0 c1 c2) (own_str o d0 d1 d2) (0 : Int32) x6 t_x6 kb_x6 cd_x6 nn_x6 vs_x6 x7 t_x7 kb_x7 cd_x7 nn_x7 vs_x7 T9.heap n0 Od S_CS nz_CS S_WORD G_type G_text E_x6 V_x6 C_x6 K_x6 hcd_x6 (own_up _ (own_strb hc0 hc1 hc2).1) (own_strb hc0 hc1 hc2).2 E_x7 V_x7 C_x7 K_x7 hcd_x7 (own_up _ (own_strb hd0 hd1 hd2).1) (own_strb hd0 hd1 hd2).2 (Or.inl ⟨(hty.elim (fun q => q.2) (fun q => absurd hc270_10 q.1)), Or.inr ⟨hbs.elim (fun q => absurd (q.1.symm.trans hc275_11) (by decide)) (fun q => q.2), rfl⟩⟩)) hZ (hw _ (List.mem_of_getElem? (i := 64) rfl)) (hw _ (List.mem_of_getElem? (i := 42) rfl)) (by decide) (by decide)) q13a q13c (g := (mkF m 289 #[.val (.int p0), .val (.int p1), .val (.int p2), .val (.int p3), .val (.int p4), .val (.int p5), .val (.int (p0 &&& (3 : Int32))), .val (.ref ty), .val (.int (p3 &&& (3 : Int32))), .val (.int o), .val (.int c0), .val (.int c1), .val (.int c2), .val (.int d0), .val (.int d1), .val (.int d2), .val (.ref x6), .val (.ref x7), .val (.ref b8), .val (.int bs), .val (.int (0 : Int32))] [(.ref x7), (.ref b8)])) rfl (by rw [hml]; rfl) (Steps.refl _) (argsL := [(.ref x7)]) (rest := []) (lenOf pd_28Ljava2flang2fString3b29Z rfl) rfl (by show 2 * 0 + _ ≤ _; exact Nat.le_of_eq rfl) (hb hby at_289) (fun _ _ => ⟨rfl, rfl, Nat.le_of_ble_eq_true rfl, Nat.le_of_ble_eq_true rfl⟩)
                  dsimp only [Pt.U, Pt.locs, Pt.cells, Pt.slots] at X13 l13 y13 z13 st13 hQ13
                  subst l13 y13 z13
                  obtain ⟨rfl, N13q, e13⟩ := hQ13
                  have N13 := Fr.app N9 N13q
                  refine OEndsW.via (fun _ k => st13.trans k) ?_
                  show OEndsW p e below s _ _ _ _ _ (T13.setTop (mkF m 292 #[.val (.int p0), .val (.int p1), .val (.int p2), .val (.int p3), .val (.int p4), .val (.int p5), .val (.int (p0 &&& (3 : Int32))), .val (.ref ty), .val (.int (p3 &&& (3 : Int32))), .val (.int o), .val (.int c0), .val (.int c1), .val (.int c2), .val (.int d0), .val (.int d1), .val (.int d2), .val (.ref x6), .val (.ref x7), .val (.ref b8), .val (.int bs), .val (.int (0 : Int32))] [(.int (0 : Int32))]))
                  refine OEndsW.via (fun _ k => XS.iload X13.here hx rfl (hb hby at_292) rfl k) ?_
                  show OEndsW p e below s _ _ _ _ _ (T13.setTop (mkF m 294 #[.val (.int p0), .val (.int p1), .val (.int p2), .val (.int p3), .val (.int p4), .val (.int p5), .val (.int (p0 &&& (3 : Int32))), .val (.ref ty), .val (.int (p3 &&& (3 : Int32))), .val (.int o), .val (.int c0), .val (.int c1), .val (.int c2), .val (.int d0), .val (.int d1), .val (.int d2), .val (.ref x6), .val (.ref x7), .val (.ref b8), .val (.int bs), .val (.int (0 : Int32))] [(.int (0 : Int32)), (.int (0 : Int32))]))
                  refine OEndsW.via (fun _ k => XS.icmpNo X13.here hx rfl (hb hby at_294) rfl (teq (by decide : (0 : Int32) = (0 : Int32))).2 k) ?_
                  show OEndsW p e below s _ _ _ _ _ (T13.setTop (mkF m 297 #[.val (.int p0), .val (.int p1), .val (.int p2), .val (.int p3), .val (.int p4), .val (.int p5), .val (.int (p0 &&& (3 : Int32))), .val (.ref ty), .val (.int (p3 &&& (3 : Int32))), .val (.int o), .val (.int c0), .val (.int c1), .val (.int c2), .val (.int d0), .val (.int d1), .val (.int d2), .val (.ref x6), .val (.ref x7), .val (.ref b8), .val (.int bs), .val (.int (0 : Int32))] []))
                  refine OEndsW.via (fun _ k => XS.iconst X13.here hx rfl (hb hby at_297) k) ?_
                  show OEndsW p e below s _ _ _ _ _ (T13.setTop (mkF m 298 #[.val (.int p0), .val (.int p1), .val (.int p2), .val (.int p3), .val (.int p4), .val (.int p5), .val (.int (p0 &&& (3 : Int32))), .val (.ref ty), .val (.int (p3 &&& (3 : Int32))), .val (.int o), .val (.int c0), .val (.int c1), .val (.int c2), .val (.int d0), .val (.int d1), .val (.int d2), .val (.ref x6), .val (.ref x7), .val (.ref b8), .val (.int bs), .val (.int (0 : Int32))] [(.int (1 : Int32))]))
                  refine OEndsW.via (fun _ k => XS.goto X13.here hx rfl (pc0 := 298) (pc' := 302) rfl (hb hby at_298) (by decide) (by decide) k) ?_
                  show OEndsW p e below s _ _ _ _ _ (T13.setTop (mkF m 302 #[.val (.int p0), .val (.int p1), .val (.int p2), .val (.int p3), .val (.int p4), .val (.int p5), .val (.int (p0 &&& (3 : Int32))), .val (.ref ty), .val (.int (p3 &&& (3 : Int32))), .val (.int o), .val (.int c0), .val (.int c1), .val (.int c2), .val (.int d0), .val (.int d1), .val (.int d2), .val (.ref x6), .val (.ref x7), .val (.ref b8), .val (.int bs), .val (.int (0 : Int32))] [(.int (1 : Int32))]))
                  refine OEndsW.retN X13 hx hlk hS hk hZ hEL e13 es CR (t := .boolean) Bd.returns (by simp) (hb hby at_302) ?_ (by decide) (by decide)
                  exact ⟨rfl, N13⟩
                · skip
                  refine OEndsW.via (fun _ k => XS.ifNo X9.here hx rfl (hb hby at_275) rfl ((if0 _ _).trans (feq hc275_11).1) k) ?_
                  show OEndsW p e below s _ _ _ _ _ (T9.setTop (mkF m 278 #[.val (.int p0), .val (.int p1), .val (.int p2), .val (.int p3), .val (.int p4), .val (.int p5), .val (.int (p0 &&& (3 : Int32))), .val (.ref ty), .val (.int (p3 &&& (3 : Int32))), .val (.int o), .val (.int c0), .val (.int c1), .val (.int c2), .val (.int d0), .val (.int d1), .val (.int d2), .val (.ref x6), .val (.ref x7), .val (.ref b8), .val (.int bs), .unset] []))
                  refine OEndsW.via (fun _ k => XS.iconst X9.here hx rfl (hb hby at_278) k) ?_
                  show OEndsW p e below s _ _ _ _ _ (T9.setTop (mkF m 279 #[.val (.int p0), .val (.int p1), .val (.int p2), .val (.int p3), .val (.int p4), .val (.int p5), .val (.int (p0 &&& (3 : Int32))), .val (.ref ty), .val (.int (p3 &&& (3 : Int32))), .val (.int o), .val (.int c0), .val (.int c1), .val (.int c2), .val (.int d0), .val (.int d1), .val (.int d2), .val (.ref x6), .val (.ref x7), .val (.ref b8), .val (.int bs), .unset] [(.int (1 : Int32))]))
                  refine OEndsW.via (fun _ k => XS.goto X9.here hx rfl (pc0 := 279) (pc' := 283) rfl (hb hby at_279) (by decide) (by decide) k) ?_
                  show OEndsW p e below s _ _ _ _ _ (T9.setTop (mkF m 283 #[.val (.int p0), .val (.int p1), .val (.int p2), .val (.int p3), .val (.int p4), .val (.int p5), .val (.int (p0 &&& (3 : Int32))), .val (.ref ty), .val (.int (p3 &&& (3 : Int32))), .val (.int o), .val (.int c0), .val (.int c1), .val (.int c2), .val (.int d0), .val (.int d1), .val (.int d2), .val (.ref x6), .val (.ref x7), .val (.ref b8), .val (.int bs), .unset] [(.int (1 : Int32))]))
                  refine OEndsW.via (fun _ k => XS.istore X9.here hx rfl (hb hby at_283) rfl (l' := #[.val (.int p0), .val (.int p1), .val (.int p2), .val (.int p3), .val (.int p4), .val (.int p5), .val (.int (p0 &&& (3 : Int32))), .val (.ref ty), .val (.int (p3 &&& (3 : Int32))), .val (.int o), .val (.int c0), .val (.int c1), .val (.int c2), .val (.int d0), .val (.int d1), .val (.int d2), .val (.ref x6), .val (.ref x7), .val (.ref b8), .val (.int bs), .val (.int (1 : Int32))]) rfl k) ?_
                  show OEndsW p e below s _ _ _ _ _ (T9.setTop (mkF m 285 #[.val (.int p0), .val (.int p1), .val (.int p2), .val (.int p3), .val (.int p4), .val (.int p5), .val (.int (p0 &&& (3 : Int32))), .val (.ref ty), .val (.int (p3 &&& (3 : Int32))), .val (.int o), .val (.int c0), .val (.int c1), .val (.int c2), .val (.int d0), .val (.int d1), .val (.int d2), .val (.ref x6), .val (.ref x7), .val (.ref b8), .val (.int bs), .val (.int (1 : Int32))] []))
                  refine OEndsW.via (fun _ k => XS.aload X9.here hx rfl (hb hby at_285) rfl rfl k) ?_
                  show OEndsW p e below s _ _ _ _ _ (T9.setTop (mkF m 287 #[.val (.int p0), .val (.int p1), .val (.int p2), .val (.int p3), .val (.int p4), .val (.int p5), .val (.int (p0 &&& (3 : Int32))), .val (.ref ty), .val (.int (p3 &&& (3 : Int32))), .val (.int o), .val (.int c0), .val (.int c1), .val (.int c2), .val (.int d0), .val (.int d1), .val (.int d2), .val (.ref x6), .val (.ref x7), .val (.ref b8), .val (.int bs), .val (.int (1 : Int32))] [(.ref b8)]))
                  refine OEndsW.via (fun _ k => XS.aload X9.here hx rfl (hb hby at_287) rfl rfl k) ?_
                  show OEndsW p e below s _ _ _ _ _ (T9.setTop (mkF m 289 #[.val (.int p0), .val (.int p1), .val (.int p2), .val (.int p3), .val (.int p4), .val (.int p5), .val (.int (p0 &&& (3 : Int32))), .val (.ref ty), .val (.int (p3 &&& (3 : Int32))), .val (.int o), .val (.int c0), .val (.int c1), .val (.int c2), .val (.int d0), .val (.int d1), .val (.int d2), .val (.ref x6), .val (.ref x7), .val (.ref b8), .val (.int bs), .val (.int (1 : Int32))] [(.ref x7), (.ref b8)]))
                  obtain ⟨cq14, kq14, q14a, q14b, q14c⟩ := isOf hZ rfl E_b8
                  obtain ⟨_, _, ⟨T14, L14, k14, n14⟩, -, X14, ⟨Lc14, hQ14, l14, y14, z14⟩, st14⟩ := X9.virtualBack hx (y := (⟨"com/example/charttop/charttop/query/Token", "is", "(Ljava/lang/String;)Z"⟩ : MethodName)) (z := (⟨"com/example/charttop/charttop/query/Token", "is", "(Ljava/lang/String;)Z"⟩ : MethodName)) hown (mvT hZ (hw _ (List.mem_of_getElem? (i := 60) rfl))) (mvT hZ (hw _ (List.mem_of_getElem? (i := 61) rfl))) (notFace_of_selects (args := #[]) (mvT hZ (hw _ (List.mem_of_getElem? (i := 63) rfl)))) (mvT hZ (hw _ (List.mem_of_getElem? (i := 63) rfl))) (mvT hZ (hw _ (List.mem_of_getElem? (i := 62) rfl))) (by decide) (backOf (W := 0) (rmT l Z a0 hw [] b8 ty a_WORD G1 (own_str (p3 &&& (3 : Int32)) c0 c1 c2) (own_str o d0 d1 d2) (1 : Int32) x6 t_x6 kb_x6 cd_x6 nn_x6 vs_x6 x7 t_x7 kb_x7 cd_x7 nn_x7 vs_x7 T9.heap n0 Od S_CS nz_CS S_WORD G_type G_text E_x6 V_x6 C_x6 K_x6 hcd_x6 (own_up _ (own_strb hc0 hc1 hc2).1) (own_strb hc0 hc1 hc2).2 E_x7 V_x7 C_x7 K_x7 hcd_x7 (own_up _ (own_strb hd0 hd1 hd2).1) (own_strb hd0 hd1 hd2).2 (Or.inl ⟨(hty.elim (fun q => q.2) (fun q => absurd hc270_10 q.1)), Or.inl ⟨hbs.elim (fun q => q.2) (fun q => absurd q.1 hc275_11), rfl⟩⟩)) hZ (hw _ (List.mem_of_getElem? (i := 64) rfl)) (hw _ (List.mem_of_getElem? (i := 42) rfl)) (by decide) (by decide)) q14a q14c (g := (mkF m 289 #[.val (.int p0), .val (.int p1), .val (.int p2), .val (.int p3), .val (.int p4), .val (.int p5), .val (.int (p0 &&& (3 : Int32))), .val (.ref ty), .val (.int (p3 &&& (3 : Int32))), .val (.int o), .val (.int c0), .val (.int c1), .val (.int c2), .val (.int d0), .val (.int d1), .val (.int d2), .val (.ref x6), .val (.ref x7), .val (.ref b8), .val (.int bs), .val (.int (1 : Int32))] [(.ref x7), (.ref b8)])) rfl (by rw [hml]; rfl) (Steps.refl _) (argsL := [(.ref x7)]) (rest := []) (lenOf pd_28Ljava2flang2fString3b29Z rfl) rfl (by show 2 * 0 + _ ≤ _; exact Nat.le_of_eq rfl) (hb hby at_289) (fun _ _ => ⟨rfl, rfl, Nat.le_of_ble_eq_true rfl, Nat.le_of_ble_eq_true rfl⟩)
                  dsimp only [Pt.U, Pt.locs, Pt.cells, Pt.slots] at X14 l14 y14 z14 st14 hQ14
                  subst l14 y14 z14
                  obtain ⟨rfl, N14q, e14⟩ := hQ14
                  have N14 := Fr.app N9 N14q
                  refine OEndsW.via (fun _ k => st14.trans k) ?_
                  show OEndsW p e below s _ _ _ _ _ (T14.setTop (mkF m 292 #[.val (.int p0), .val (.int p1), .val (.int p2), .val (.int p3), .val (.int p4), .val (.int p5), .val (.int (p0 &&& (3 : Int32))), .val (.ref ty), .val (.int (p3 &&& (3 : Int32))), .val (.int o), .val (.int c0), .val (.int c1), .val (.int c2), .val (.int d0), .val (.int d1), .val (.int d2), .val (.ref x6), .val (.ref x7), .val (.ref b8), .val (.int bs), .val (.int (1 : Int32))] [(.int (1 : Int32))]))
                  refine OEndsW.via (fun _ k => XS.iload X14.here hx rfl (hb hby at_292) rfl k) ?_
                  show OEndsW p e below s _ _ _ _ _ (T14.setTop (mkF m 294 #[.val (.int p0), .val (.int p1), .val (.int p2), .val (.int p3), .val (.int p4), .val (.int p5), .val (.int (p0 &&& (3 : Int32))), .val (.ref ty), .val (.int (p3 &&& (3 : Int32))), .val (.int o), .val (.int c0), .val (.int c1), .val (.int c2), .val (.int d0), .val (.int d1), .val (.int d2), .val (.ref x6), .val (.ref x7), .val (.ref b8), .val (.int bs), .val (.int (1 : Int32))] [(.int (1 : Int32)), (.int (1 : Int32))]))
                  refine OEndsW.via (fun _ k => XS.icmpNo X14.here hx rfl (hb hby at_294) rfl (teq (by decide : (1 : Int32) = (1 : Int32))).2 k) ?_
                  show OEndsW p e below s _ _ _ _ _ (T14.setTop (mkF m 297 #[.val (.int p0), .val (.int p1), .val (.int p2), .val (.int p3), .val (.int p4), .val (.int p5), .val (.int (p0 &&& (3 : Int32))), .val (.ref ty), .val (.int (p3 &&& (3 : Int32))), .val (.int o), .val (.int c0), .val (.int c1), .val (.int c2), .val (.int d0), .val (.int d1), .val (.int d2), .val (.ref x6), .val (.ref x7), .val (.ref b8), .val (.int bs), .val (.int (1 : Int32))] []))
                  refine OEndsW.via (fun _ k => XS.iconst X14.here hx rfl (hb hby at_297) k) ?_
                  show OEndsW p e below s _ _ _ _ _ (T14.setTop (mkF m 298 #[.val (.int p0), .val (.int p1), .val (.int p2), .val (.int p3), .val (.int p4), .val (.int p5), .val (.int (p0 &&& (3 : Int32))), .val (.ref ty), .val (.int (p3 &&& (3 : Int32))), .val (.int o), .val (.int c0), .val (.int c1), .val (.int c2), .val (.int d0), .val (.int d1), .val (.int d2), .val (.ref x6), .val (.ref x7), .val (.ref b8), .val (.int bs), .val (.int (1 : Int32))] [(.int (1 : Int32))]))
                  refine OEndsW.via (fun _ k => XS.goto X14.here hx rfl (pc0 := 298) (pc' := 302) rfl (hb hby at_298) (by decide) (by decide) k) ?_
                  show OEndsW p e below s _ _ _ _ _ (T14.setTop (mkF m 302 #[.val (.int p0), .val (.int p1), .val (.int p2), .val (.int p3), .val (.int p4), .val (.int p5), .val (.int (p0 &&& (3 : Int32))), .val (.ref ty), .val (.int (p3 &&& (3 : Int32))), .val (.int o), .val (.int c0), .val (.int c1), .val (.int c2), .val (.int d0), .val (.int d1), .val (.int d2), .val (.ref x6), .val (.ref x7), .val (.ref b8), .val (.int bs), .val (.int (1 : Int32))] [(.int (1 : Int32))]))
                  refine OEndsW.retN X14 hx hlk hS hk hZ hEL e14 es CR (t := .boolean) Bd.returns (by simp) (hb hby at_302) ?_ (by decide) (by decide)
                  exact ⟨rfl, N14⟩
              · skip
                refine OEndsW.via (fun _ k => XS.icmpYes X9.here hx rfl (pc0 := 270) (pc' := 282) rfl (hb hby at_270) rfl (feq hc270_10).2 (by decide) (by decide) k) ?_
                show OEndsW p e below s _ _ _ _ _ (T9.setTop (mkF m 282 #[.val (.int p0), .val (.int p1), .val (.int p2), .val (.int p3), .val (.int p4), .val (.int p5), .val (.int (p0 &&& (3 : Int32))), .val (.ref ty), .val (.int (p3 &&& (3 : Int32))), .val (.int o), .val (.int c0), .val (.int c1), .val (.int c2), .val (.int d0), .val (.int d1), .val (.int d2), .val (.ref x6), .val (.ref x7), .val (.ref b8), .val (.int bs), .unset] []))
                refine OEndsW.via (fun _ k => XS.iconst X9.here hx rfl (hb hby at_282) k) ?_
                show OEndsW p e below s _ _ _ _ _ (T9.setTop (mkF m 283 #[.val (.int p0), .val (.int p1), .val (.int p2), .val (.int p3), .val (.int p4), .val (.int p5), .val (.int (p0 &&& (3 : Int32))), .val (.ref ty), .val (.int (p3 &&& (3 : Int32))), .val (.int o), .val (.int c0), .val (.int c1), .val (.int c2), .val (.int d0), .val (.int d1), .val (.int d2), .val (.ref x6), .val (.ref x7), .val (.ref b8), .val (.int bs), .unset] [(.int (0 : Int32))]))
                refine OEndsW.via (fun _ k => XS.istore X9.here hx rfl (hb hby at_283) rfl (l' := #[.val (.int p0), .val (.int p1), .val (.int p2), .val (.int p3), .val (.int p4), .val (.int p5), .val (.int (p0 &&& (3 : Int32))), .val (.ref ty), .val (.int (p3 &&& (3 : Int32))), .val (.int o), .val (.int c0), .val (.int c1), .val (.int c2), .val (.int d0), .val (.int d1), .val (.int d2), .val (.ref x6), .val (.ref x7), .val (.ref b8), .val (.int bs), .val (.int (0 : Int32))]) rfl k) ?_
                show OEndsW p e below s _ _ _ _ _ (T9.setTop (mkF m 285 #[.val (.int p0), .val (.int p1), .val (.int p2), .val (.int p3), .val (.int p4), .val (.int p5), .val (.int (p0 &&& (3 : Int32))), .val (.ref ty), .val (.int (p3 &&& (3 : Int32))), .val (.int o), .val (.int c0), .val (.int c1), .val (.int c2), .val (.int d0), .val (.int d1), .val (.int d2), .val (.ref x6), .val (.ref x7), .val (.ref b8), .val (.int bs), .val (.int (0 : Int32))] []))
                refine OEndsW.via (fun _ k => XS.aload X9.here hx rfl (hb hby at_285) rfl rfl k) ?_
                show OEndsW p e below s _ _ _ _ _ (T9.setTop (mkF m 287 #[.val (.int p0), .val (.int p1), .val (.int p2), .val (.int p3), .val (.int p4), .val (.int p5), .val (.int (p0 &&& (3 : Int32))), .val (.ref ty), .val (.int (p3 &&& (3 : Int32))), .val (.int o), .val (.int c0), .val (.int c1), .val (.int c2), .val (.int d0), .val (.int d1), .val (.int d2), .val (.ref x6), .val (.ref x7), .val (.ref b8), .val (.int bs), .val (.int (0 : Int32))] [(.ref b8)]))
                refine OEndsW.via (fun _ k => XS.aload X9.here hx rfl (hb hby at_287) rfl rfl k) ?_
                show OEndsW p e below s _ _ _ _ _ (T9.setTop (mkF m 289 #[.val (.int p0), .val (.int p1), .val (.int p2), .val (.int p3), .val (.int p4), .val (.int p5), .val (.int (p0 &&& (3 : Int32))), .val (.ref ty), .val (.int (p3 &&& (3 : Int32))), .val (.int o), .val (.int c0), .val (.int c1), .val (.int c2), .val (.int d0), .val (.int d1), .val (.int d2), .val (.ref x6), .val (.ref x7), .val (.ref b8), .val (.int bs), .val (.int (0 : Int32))] [(.ref x7), (.ref b8)]))
                obtain ⟨cq15, kq15, q15a, q15b, q15c⟩ := isOf hZ rfl E_b8
                obtain ⟨_, _, ⟨T15, L15, k15, n15⟩, -, X15, ⟨Lc15, hQ15, l15, y15, z15⟩, st15⟩ := X9.virtualBack hx (y := (⟨"com/example/charttop/charttop/query/Token", "is", "(Ljava/lang/String;)Z"⟩ : MethodName)) (z := (⟨"com/example/charttop/charttop/query/Token", "is", "(Ljava/lang/String;)Z"⟩ : MethodName)) hown (mvT hZ (hw _ (List.mem_of_getElem? (i := 60) rfl))) (mvT hZ (hw _ (List.mem_of_getElem? (i := 61) rfl))) (notFace_of_selects (args := #[]) (mvT hZ (hw _ (List.mem_of_getElem? (i := 63) rfl)))) (mvT hZ (hw _ (List.mem_of_getElem? (i := 63) rfl))) (mvT hZ (hw _ (List.mem_of_getElem? (i := 62) rfl))) (by decide) (backOf (W := 0) (rmT l Z a0 hw [] b8 ty a_WORD G1 (own_str (p3 &&& (3 : Int32)) c0 c1 c2) (own_str o d0 d1 d2) (0 : Int32) x6 t_x6 kb_x6 cd_x6 nn_x6 vs_x6 x7 t_x7 kb_x7 cd_x7 nn_x7 vs_x7 T9.heap n0 Od S_CS nz_CS S_WORD G_type G_text E_x6 V_x6 C_x6 K_x6 hcd_x6 (own_up _ (own_strb hc0 hc1 hc2).1) (own_strb hc0 hc1 hc2).2 E_x7 V_x7 C_x7 K_x7 hcd_x7 (own_up _ (own_strb hd0 hd1 hd2).1) (own_strb hd0 hd1 hd2).2 (Or.inr ⟨hty.elim (fun q => absurd q.1 hc270_10) (fun q => q.2), rfl⟩)) hZ (hw _ (List.mem_of_getElem? (i := 64) rfl)) (hw _ (List.mem_of_getElem? (i := 42) rfl)) (by decide) (by decide)) q15a q15c (g := (mkF m 289 #[.val (.int p0), .val (.int p1), .val (.int p2), .val (.int p3), .val (.int p4), .val (.int p5), .val (.int (p0 &&& (3 : Int32))), .val (.ref ty), .val (.int (p3 &&& (3 : Int32))), .val (.int o), .val (.int c0), .val (.int c1), .val (.int c2), .val (.int d0), .val (.int d1), .val (.int d2), .val (.ref x6), .val (.ref x7), .val (.ref b8), .val (.int bs), .val (.int (0 : Int32))] [(.ref x7), (.ref b8)])) rfl (by rw [hml]; rfl) (Steps.refl _) (argsL := [(.ref x7)]) (rest := []) (lenOf pd_28Ljava2flang2fString3b29Z rfl) rfl (by show 2 * 0 + _ ≤ _; exact Nat.le_of_eq rfl) (hb hby at_289) (fun _ _ => ⟨rfl, rfl, Nat.le_of_ble_eq_true rfl, Nat.le_of_ble_eq_true rfl⟩)
                dsimp only [Pt.U, Pt.locs, Pt.cells, Pt.slots] at X15 l15 y15 z15 st15 hQ15
                subst l15 y15 z15
                obtain ⟨rfl, N15q, e15⟩ := hQ15
                have N15 := Fr.app N9 N15q
                refine OEndsW.via (fun _ k => st15.trans k) ?_
                show OEndsW p e below s _ _ _ _ _ (T15.setTop (mkF m 292 #[.val (.int p0), .val (.int p1), .val (.int p2), .val (.int p3), .val (.int p4), .val (.int p5), .val (.int (p0 &&& (3 : Int32))), .val (.ref ty), .val (.int (p3 &&& (3 : Int32))), .val (.int o), .val (.int c0), .val (.int c1), .val (.int c2), .val (.int d0), .val (.int d1), .val (.int d2), .val (.ref x6), .val (.ref x7), .val (.ref b8), .val (.int bs), .val (.int (0 : Int32))] [(.int (0 : Int32))]))
                refine OEndsW.via (fun _ k => XS.iload X15.here hx rfl (hb hby at_292) rfl k) ?_
                show OEndsW p e below s _ _ _ _ _ (T15.setTop (mkF m 294 #[.val (.int p0), .val (.int p1), .val (.int p2), .val (.int p3), .val (.int p4), .val (.int p5), .val (.int (p0 &&& (3 : Int32))), .val (.ref ty), .val (.int (p3 &&& (3 : Int32))), .val (.int o), .val (.int c0), .val (.int c1), .val (.int c2), .val (.int d0), .val (.int d1), .val (.int d2), .val (.ref x6), .val (.ref x7), .val (.ref b8), .val (.int bs), .val (.int (0 : Int32))] [(.int (0 : Int32)), (.int (0 : Int32))]))
                refine OEndsW.via (fun _ k => XS.icmpNo X15.here hx rfl (hb hby at_294) rfl (teq (by decide : (0 : Int32) = (0 : Int32))).2 k) ?_
                show OEndsW p e below s _ _ _ _ _ (T15.setTop (mkF m 297 #[.val (.int p0), .val (.int p1), .val (.int p2), .val (.int p3), .val (.int p4), .val (.int p5), .val (.int (p0 &&& (3 : Int32))), .val (.ref ty), .val (.int (p3 &&& (3 : Int32))), .val (.int o), .val (.int c0), .val (.int c1), .val (.int c2), .val (.int d0), .val (.int d1), .val (.int d2), .val (.ref x6), .val (.ref x7), .val (.ref b8), .val (.int bs), .val (.int (0 : Int32))] []))
                refine OEndsW.via (fun _ k => XS.iconst X15.here hx rfl (hb hby at_297) k) ?_
                show OEndsW p e below s _ _ _ _ _ (T15.setTop (mkF m 298 #[.val (.int p0), .val (.int p1), .val (.int p2), .val (.int p3), .val (.int p4), .val (.int p5), .val (.int (p0 &&& (3 : Int32))), .val (.ref ty), .val (.int (p3 &&& (3 : Int32))), .val (.int o), .val (.int c0), .val (.int c1), .val (.int c2), .val (.int d0), .val (.int d1), .val (.int d2), .val (.ref x6), .val (.ref x7), .val (.ref b8), .val (.int bs), .val (.int (0 : Int32))] [(.int (1 : Int32))]))
                refine OEndsW.via (fun _ k => XS.goto X15.here hx rfl (pc0 := 298) (pc' := 302) rfl (hb hby at_298) (by decide) (by decide) k) ?_
                show OEndsW p e below s _ _ _ _ _ (T15.setTop (mkF m 302 #[.val (.int p0), .val (.int p1), .val (.int p2), .val (.int p3), .val (.int p4), .val (.int p5), .val (.int (p0 &&& (3 : Int32))), .val (.ref ty), .val (.int (p3 &&& (3 : Int32))), .val (.int o), .val (.int c0), .val (.int c1), .val (.int c2), .val (.int d0), .val (.int d1), .val (.int d2), .val (.ref x6), .val (.ref x7), .val (.ref b8), .val (.int bs), .val (.int (0 : Int32))] [(.int (1 : Int32))]))
                refine OEndsW.retN X15 hx hlk hS hk hZ hEL e15 es CR (t := .boolean) Bd.returns (by simp) (hb hby at_302) ?_ (by decide) (by decide)
                exact ⟨rfl, N15⟩
            by_cases hc218_15 : (p3 &&& (3 : Int32)) = o
            · skip
              refine OEndsW.via (fun _ k => XS.icmpNo X9.here hx rfl (hb hby at_218) rfl (teq hc218_15).2 k) ?_
              show OEndsW p e below s _ _ _ _ _ (T9.setTop (mkF m 221 #[.val (.int p0), .val (.int p1), .val (.int p2), .val (.int p3), .val (.int p4), .val (.int p5), .val (.int (p0 &&& (3 : Int32))), .val (.ref ty), .val (.int (p3 &&& (3 : Int32))), .val (.int o), .val (.int c0), .val (.int c1), .val (.int c2), .val (.int d0), .val (.int d1), .val (.int d2), .val (.ref x6), .val (.ref x7), .val (.ref b8), .unset, .unset] []))
              refine OEndsW.via (fun _ k => XS.iload X9.here hx rfl (hb hby at_221) rfl k) ?_
              show OEndsW p e below s _ _ _ _ _ (T9.setTop (mkF m 223 #[.val (.int p0), .val (.int p1), .val (.int p2), .val (.int p3), .val (.int p4), .val (.int p5), .val (.int (p0 &&& (3 : Int32))), .val (.ref ty), .val (.int (p3 &&& (3 : Int32))), .val (.int o), .val (.int c0), .val (.int c1), .val (.int c2), .val (.int d0), .val (.int d1), .val (.int d2), .val (.ref x6), .val (.ref x7), .val (.ref b8), .unset, .unset] [(.int (p3 &&& (3 : Int32)))]))
              refine OEndsW.via (fun _ k => XS.iconst X9.here hx rfl (hb hby at_223) k) ?_
              show OEndsW p e below s _ _ _ _ _ (T9.setTop (mkF m 224 #[.val (.int p0), .val (.int p1), .val (.int p2), .val (.int p3), .val (.int p4), .val (.int p5), .val (.int (p0 &&& (3 : Int32))), .val (.ref ty), .val (.int (p3 &&& (3 : Int32))), .val (.int o), .val (.int c0), .val (.int c1), .val (.int c2), .val (.int d0), .val (.int d1), .val (.int d2), .val (.ref x6), .val (.ref x7), .val (.ref b8), .unset, .unset] [(.int (1 : Int32)), (.int (p3 &&& (3 : Int32)))]))
              by_cases hc224_16 : (p3 &&& (3 : Int32)) < (1 : Int32)
              · skip
                refine OEndsW.via (fun _ k => XS.icmpYes X9.here hx rfl (pc0 := 224) (pc' := 234) rfl (hb hby at_224) rfl (tlt hc224_16).1 (by decide) (by decide) k) ?_
                show OEndsW p e below s _ _ _ _ _ (T9.setTop (mkF m 234 #[.val (.int p0), .val (.int p1), .val (.int p2), .val (.int p3), .val (.int p4), .val (.int p5), .val (.int (p0 &&& (3 : Int32))), .val (.ref ty), .val (.int (p3 &&& (3 : Int32))), .val (.int o), .val (.int c0), .val (.int c1), .val (.int c2), .val (.int d0), .val (.int d1), .val (.int d2), .val (.ref x6), .val (.ref x7), .val (.ref b8), .unset, .unset] []))
                refine OEndsW.via (fun _ k => XS.iload X9.here hx rfl (hb hby at_234) rfl k) ?_
                show OEndsW p e below s _ _ _ _ _ (T9.setTop (mkF m 236 #[.val (.int p0), .val (.int p1), .val (.int p2), .val (.int p3), .val (.int p4), .val (.int p5), .val (.int (p0 &&& (3 : Int32))), .val (.ref ty), .val (.int (p3 &&& (3 : Int32))), .val (.int o), .val (.int c0), .val (.int c1), .val (.int c2), .val (.int d0), .val (.int d1), .val (.int d2), .val (.ref x6), .val (.ref x7), .val (.ref b8), .unset, .unset] [(.int (p3 &&& (3 : Int32)))]))
                refine OEndsW.via (fun _ k => XS.iconst X9.here hx rfl (hb hby at_236) k) ?_
                show OEndsW p e below s _ _ _ _ _ (T9.setTop (mkF m 237 #[.val (.int p0), .val (.int p1), .val (.int p2), .val (.int p3), .val (.int p4), .val (.int p5), .val (.int (p0 &&& (3 : Int32))), .val (.ref ty), .val (.int (p3 &&& (3 : Int32))), .val (.int o), .val (.int c0), .val (.int c1), .val (.int c2), .val (.int d0), .val (.int d1), .val (.int d2), .val (.ref x6), .val (.ref x7), .val (.ref b8), .unset, .unset] [(.int (2 : Int32)), (.int (p3 &&& (3 : Int32)))]))
                by_cases hc237_17 : (p3 &&& (3 : Int32)) < (2 : Int32)
                · skip
                  refine OEndsW.via (fun _ k => XS.icmpYes X9.here hx rfl (pc0 := 237) (pc' := 247) rfl (hb hby at_237) rfl (tlt hc237_17).1 (by decide) (by decide) k) ?_
                  show OEndsW p e below s _ _ _ _ _ (T9.setTop (mkF m 247 #[.val (.int p0), .val (.int p1), .val (.int p2), .val (.int p3), .val (.int p4), .val (.int p5), .val (.int (p0 &&& (3 : Int32))), .val (.ref ty), .val (.int (p3 &&& (3 : Int32))), .val (.int o), .val (.int c0), .val (.int c1), .val (.int c2), .val (.int d0), .val (.int d1), .val (.int d2), .val (.ref x6), .val (.ref x7), .val (.ref b8), .unset, .unset] []))
                  refine OEndsW.via (fun _ k => XS.iload X9.here hx rfl (hb hby at_247) rfl k) ?_
                  show OEndsW p e below s _ _ _ _ _ (T9.setTop (mkF m 249 #[.val (.int p0), .val (.int p1), .val (.int p2), .val (.int p3), .val (.int p4), .val (.int p5), .val (.int (p0 &&& (3 : Int32))), .val (.ref ty), .val (.int (p3 &&& (3 : Int32))), .val (.int o), .val (.int c0), .val (.int c1), .val (.int c2), .val (.int d0), .val (.int d1), .val (.int d2), .val (.ref x6), .val (.ref x7), .val (.ref b8), .unset, .unset] [(.int (p3 &&& (3 : Int32)))]))
                  refine OEndsW.via (fun _ k => XS.iconst X9.here hx rfl (hb hby at_249) k) ?_
                  show OEndsW p e below s _ _ _ _ _ (T9.setTop (mkF m 250 #[.val (.int p0), .val (.int p1), .val (.int p2), .val (.int p3), .val (.int p4), .val (.int p5), .val (.int (p0 &&& (3 : Int32))), .val (.ref ty), .val (.int (p3 &&& (3 : Int32))), .val (.int o), .val (.int c0), .val (.int c1), .val (.int c2), .val (.int d0), .val (.int d1), .val (.int d2), .val (.ref x6), .val (.ref x7), .val (.ref b8), .unset, .unset] [(.int (3 : Int32)), (.int (p3 &&& (3 : Int32)))]))
                  by_cases hc250_18 : (p3 &&& (3 : Int32)) < (3 : Int32)
                  · skip
                    refine OEndsW.via (fun _ k => XS.icmpYes X9.here hx rfl (pc0 := 250) (pc' := 260) rfl (hb hby at_250) rfl (tlt hc250_18).1 (by decide) (by decide) k) ?_
                    show OEndsW p e below s _ _ _ _ _ (T9.setTop (mkF m 260 #[.val (.int p0), .val (.int p1), .val (.int p2), .val (.int p3), .val (.int p4), .val (.int p5), .val (.int (p0 &&& (3 : Int32))), .val (.ref ty), .val (.int (p3 &&& (3 : Int32))), .val (.int o), .val (.int c0), .val (.int c1), .val (.int c2), .val (.int d0), .val (.int d1), .val (.int d2), .val (.ref x6), .val (.ref x7), .val (.ref b8), .unset, .unset] []))
                    refine OEndsW.via (fun _ k => XS.iconst X9.here hx rfl (hb hby at_260) k) ?_
                    show OEndsW p e below s _ _ _ _ _ (T9.setTop (mkF m 261 #[.val (.int p0), .val (.int p1), .val (.int p2), .val (.int p3), .val (.int p4), .val (.int p5), .val (.int (p0 &&& (3 : Int32))), .val (.ref ty), .val (.int (p3 &&& (3 : Int32))), .val (.int o), .val (.int c0), .val (.int c1), .val (.int c2), .val (.int d0), .val (.int d1), .val (.int d2), .val (.ref x6), .val (.ref x7), .val (.ref b8), .unset, .unset] [(.int (1 : Int32))]))
                    refine OEndsW.via (fun _ k => XS.goto X9.here hx rfl (pc0 := 261) (pc' := 265) rfl (hb hby at_261) (by decide) (by decide) k) ?_
                    show OEndsW p e below s _ _ _ _ _ (T9.setTop (mkF m 265 #[.val (.int p0), .val (.int p1), .val (.int p2), .val (.int p3), .val (.int p4), .val (.int p5), .val (.int (p0 &&& (3 : Int32))), .val (.ref ty), .val (.int (p3 &&& (3 : Int32))), .val (.int o), .val (.int c0), .val (.int c1), .val (.int c2), .val (.int d0), .val (.int d1), .val (.int d2), .val (.ref x6), .val (.ref x7), .val (.ref b8), .unset, .unset] [(.int (1 : Int32))]))
                    exact J10 (1 : Int32) (Or.inl ⟨rfl, (own_eqstr (own_and3 p3) ho).mpr ⟨hc218_15, Or.inl hc224_16, Or.inl hc237_17, Or.inl hc250_18⟩⟩)
                  · skip
                    refine OEndsW.via (fun _ k => XS.icmpNo X9.here hx rfl (hb hby at_250) rfl (flt hc250_18).1 k) ?_
                    show OEndsW p e below s _ _ _ _ _ (T9.setTop (mkF m 253 #[.val (.int p0), .val (.int p1), .val (.int p2), .val (.int p3), .val (.int p4), .val (.int p5), .val (.int (p0 &&& (3 : Int32))), .val (.ref ty), .val (.int (p3 &&& (3 : Int32))), .val (.int o), .val (.int c0), .val (.int c1), .val (.int c2), .val (.int d0), .val (.int d1), .val (.int d2), .val (.ref x6), .val (.ref x7), .val (.ref b8), .unset, .unset] []))
                    refine OEndsW.via (fun _ k => XS.iload X9.here hx rfl (hb hby at_253) rfl k) ?_
                    show OEndsW p e below s _ _ _ _ _ (T9.setTop (mkF m 255 #[.val (.int p0), .val (.int p1), .val (.int p2), .val (.int p3), .val (.int p4), .val (.int p5), .val (.int (p0 &&& (3 : Int32))), .val (.ref ty), .val (.int (p3 &&& (3 : Int32))), .val (.int o), .val (.int c0), .val (.int c1), .val (.int c2), .val (.int d0), .val (.int d1), .val (.int d2), .val (.ref x6), .val (.ref x7), .val (.ref b8), .unset, .unset] [(.int c2)]))
                    refine OEndsW.via (fun _ k => XS.iload X9.here hx rfl (hb hby at_255) rfl k) ?_
                    show OEndsW p e below s _ _ _ _ _ (T9.setTop (mkF m 257 #[.val (.int p0), .val (.int p1), .val (.int p2), .val (.int p3), .val (.int p4), .val (.int p5), .val (.int (p0 &&& (3 : Int32))), .val (.ref ty), .val (.int (p3 &&& (3 : Int32))), .val (.int o), .val (.int c0), .val (.int c1), .val (.int c2), .val (.int d0), .val (.int d1), .val (.int d2), .val (.ref x6), .val (.ref x7), .val (.ref b8), .unset, .unset] [(.int d2), (.int c2)]))
                    by_cases hc257_19 : c2 = d2
                    · skip
                      refine OEndsW.via (fun _ k => XS.icmpNo X9.here hx rfl (hb hby at_257) rfl (teq hc257_19).2 k) ?_
                      show OEndsW p e below s _ _ _ _ _ (T9.setTop (mkF m 260 #[.val (.int p0), .val (.int p1), .val (.int p2), .val (.int p3), .val (.int p4), .val (.int p5), .val (.int (p0 &&& (3 : Int32))), .val (.ref ty), .val (.int (p3 &&& (3 : Int32))), .val (.int o), .val (.int c0), .val (.int c1), .val (.int c2), .val (.int d0), .val (.int d1), .val (.int d2), .val (.ref x6), .val (.ref x7), .val (.ref b8), .unset, .unset] []))
                      refine OEndsW.via (fun _ k => XS.iconst X9.here hx rfl (hb hby at_260) k) ?_
                      show OEndsW p e below s _ _ _ _ _ (T9.setTop (mkF m 261 #[.val (.int p0), .val (.int p1), .val (.int p2), .val (.int p3), .val (.int p4), .val (.int p5), .val (.int (p0 &&& (3 : Int32))), .val (.ref ty), .val (.int (p3 &&& (3 : Int32))), .val (.int o), .val (.int c0), .val (.int c1), .val (.int c2), .val (.int d0), .val (.int d1), .val (.int d2), .val (.ref x6), .val (.ref x7), .val (.ref b8), .unset, .unset] [(.int (1 : Int32))]))
                      refine OEndsW.via (fun _ k => XS.goto X9.here hx rfl (pc0 := 261) (pc' := 265) rfl (hb hby at_261) (by decide) (by decide) k) ?_
                      show OEndsW p e below s _ _ _ _ _ (T9.setTop (mkF m 265 #[.val (.int p0), .val (.int p1), .val (.int p2), .val (.int p3), .val (.int p4), .val (.int p5), .val (.int (p0 &&& (3 : Int32))), .val (.ref ty), .val (.int (p3 &&& (3 : Int32))), .val (.int o), .val (.int c0), .val (.int c1), .val (.int c2), .val (.int d0), .val (.int d1), .val (.int d2), .val (.ref x6), .val (.ref x7), .val (.ref b8), .unset, .unset] [(.int (1 : Int32))]))
                      exact J10 (1 : Int32) (Or.inl ⟨rfl, (own_eqstr (own_and3 p3) ho).mpr ⟨hc218_15, Or.inl hc224_16, Or.inl hc237_17, Or.inr hc257_19⟩⟩)
                    · skip
                      refine OEndsW.via (fun _ k => XS.icmpYes X9.here hx rfl (pc0 := 257) (pc' := 264) rfl (hb hby at_257) rfl (feq hc257_19).2 (by decide) (by decide) k) ?_
                      show OEndsW p e below s _ _ _ _ _ (T9.setTop (mkF m 264 #[.val (.int p0), .val (.int p1), .val (.int p2), .val (.int p3), .val (.int p4), .val (.int p5), .val (.int (p0 &&& (3 : Int32))), .val (.ref ty), .val (.int (p3 &&& (3 : Int32))), .val (.int o), .val (.int c0), .val (.int c1), .val (.int c2), .val (.int d0), .val (.int d1), .val (.int d2), .val (.ref x6), .val (.ref x7), .val (.ref b8), .unset, .unset] []))
                      refine OEndsW.via (fun _ k => XS.iconst X9.here hx rfl (hb hby at_264) k) ?_
                      show OEndsW p e below s _ _ _ _ _ (T9.setTop (mkF m 265 #[.val (.int p0), .val (.int p1), .val (.int p2), .val (.int p3), .val (.int p4), .val (.int p5), .val (.int (p0 &&& (3 : Int32))), .val (.ref ty), .val (.int (p3 &&& (3 : Int32))), .val (.int o), .val (.int c0), .val (.int c1), .val (.int c2), .val (.int d0), .val (.int d1), .val (.int d2), .val (.ref x6), .val (.ref x7), .val (.ref b8), .unset, .unset] [(.int (0 : Int32))]))
                      exact J10 (0 : Int32) (Or.inr ⟨rfl, fun q => ((own_eqstr (own_and3 p3) ho).mp q).2.2.2.elim hc250_18 hc257_19⟩)
                · skip
                  refine OEndsW.via (fun _ k => XS.icmpNo X9.here hx rfl (hb hby at_237) rfl (flt hc237_17).1 k) ?_
                  show OEndsW p e below s _ _ _ _ _ (T9.setTop (mkF m 240 #[.val (.int p0), .val (.int p1), .val (.int p2), .val (.int p3), .val (.int p4), .val (.int p5), .val (.int (p0 &&& (3 : Int32))), .val (.ref ty), .val (.int (p3 &&& (3 : Int32))), .val (.int o), .val (.int c0), .val (.int c1), .val (.int c2), .val (.int d0), .val (.int d1), .val (.int d2), .val (.ref x6), .val (.ref x7), .val (.ref b8), .unset, .unset] []))
                  refine OEndsW.via (fun _ k => XS.iload X9.here hx rfl (hb hby at_240) rfl k) ?_
                  show OEndsW p e below s _ _ _ _ _ (T9.setTop (mkF m 242 #[.val (.int p0), .val (.int p1), .val (.int p2), .val (.int p3), .val (.int p4), .val (.int p5), .val (.int (p0 &&& (3 : Int32))), .val (.ref ty), .val (.int (p3 &&& (3 : Int32))), .val (.int o), .val (.int c0), .val (.int c1), .val (.int c2), .val (.int d0), .val (.int d1), .val (.int d2), .val (.ref x6), .val (.ref x7), .val (.ref b8), .unset, .unset] [(.int c1)]))
                  refine OEndsW.via (fun _ k => XS.iload X9.here hx rfl (hb hby at_242) rfl k) ?_
                  show OEndsW p e below s _ _ _ _ _ (T9.setTop (mkF m 244 #[.val (.int p0), .val (.int p1), .val (.int p2), .val (.int p3), .val (.int p4), .val (.int p5), .val (.int (p0 &&& (3 : Int32))), .val (.ref ty), .val (.int (p3 &&& (3 : Int32))), .val (.int o), .val (.int c0), .val (.int c1), .val (.int c2), .val (.int d0), .val (.int d1), .val (.int d2), .val (.ref x6), .val (.ref x7), .val (.ref b8), .unset, .unset] [(.int d1), (.int c1)]))
                  by_cases hc244_20 : c1 = d1
                  · skip
                    refine OEndsW.via (fun _ k => XS.icmpNo X9.here hx rfl (hb hby at_244) rfl (teq hc244_20).2 k) ?_
                    show OEndsW p e below s _ _ _ _ _ (T9.setTop (mkF m 247 #[.val (.int p0), .val (.int p1), .val (.int p2), .val (.int p3), .val (.int p4), .val (.int p5), .val (.int (p0 &&& (3 : Int32))), .val (.ref ty), .val (.int (p3 &&& (3 : Int32))), .val (.int o), .val (.int c0), .val (.int c1), .val (.int c2), .val (.int d0), .val (.int d1), .val (.int d2), .val (.ref x6), .val (.ref x7), .val (.ref b8), .unset, .unset] []))
                    refine OEndsW.via (fun _ k => XS.iload X9.here hx rfl (hb hby at_247) rfl k) ?_
                    show OEndsW p e below s _ _ _ _ _ (T9.setTop (mkF m 249 #[.val (.int p0), .val (.int p1), .val (.int p2), .val (.int p3), .val (.int p4), .val (.int p5), .val (.int (p0 &&& (3 : Int32))), .val (.ref ty), .val (.int (p3 &&& (3 : Int32))), .val (.int o), .val (.int c0), .val (.int c1), .val (.int c2), .val (.int d0), .val (.int d1), .val (.int d2), .val (.ref x6), .val (.ref x7), .val (.ref b8), .unset, .unset] [(.int (p3 &&& (3 : Int32)))]))
                    refine OEndsW.via (fun _ k => XS.iconst X9.here hx rfl (hb hby at_249) k) ?_
                    show OEndsW p e below s _ _ _ _ _ (T9.setTop (mkF m 250 #[.val (.int p0), .val (.int p1), .val (.int p2), .val (.int p3), .val (.int p4), .val (.int p5), .val (.int (p0 &&& (3 : Int32))), .val (.ref ty), .val (.int (p3 &&& (3 : Int32))), .val (.int o), .val (.int c0), .val (.int c1), .val (.int c2), .val (.int d0), .val (.int d1), .val (.int d2), .val (.ref x6), .val (.ref x7), .val (.ref b8), .unset, .unset] [(.int (3 : Int32)), (.int (p3 &&& (3 : Int32)))]))
                    by_cases hc250_21 : (p3 &&& (3 : Int32)) < (3 : Int32)
                    · skip
                      refine OEndsW.via (fun _ k => XS.icmpYes X9.here hx rfl (pc0 := 250) (pc' := 260) rfl (hb hby at_250) rfl (tlt hc250_21).1 (by decide) (by decide) k) ?_
                      show OEndsW p e below s _ _ _ _ _ (T9.setTop (mkF m 260 #[.val (.int p0), .val (.int p1), .val (.int p2), .val (.int p3), .val (.int p4), .val (.int p5), .val (.int (p0 &&& (3 : Int32))), .val (.ref ty), .val (.int (p3 &&& (3 : Int32))), .val (.int o), .val (.int c0), .val (.int c1), .val (.int c2), .val (.int d0), .val (.int d1), .val (.int d2), .val (.ref x6), .val (.ref x7), .val (.ref b8), .unset, .unset] []))
                      refine OEndsW.via (fun _ k => XS.iconst X9.here hx rfl (hb hby at_260) k) ?_
                      show OEndsW p e below s _ _ _ _ _ (T9.setTop (mkF m 261 #[.val (.int p0), .val (.int p1), .val (.int p2), .val (.int p3), .val (.int p4), .val (.int p5), .val (.int (p0 &&& (3 : Int32))), .val (.ref ty), .val (.int (p3 &&& (3 : Int32))), .val (.int o), .val (.int c0), .val (.int c1), .val (.int c2), .val (.int d0), .val (.int d1), .val (.int d2), .val (.ref x6), .val (.ref x7), .val (.ref b8), .unset, .unset] [(.int (1 : Int32))]))
                      refine OEndsW.via (fun _ k => XS.goto X9.here hx rfl (pc0 := 261) (pc' := 265) rfl (hb hby at_261) (by decide) (by decide) k) ?_
                      show OEndsW p e below s _ _ _ _ _ (T9.setTop (mkF m 265 #[.val (.int p0), .val (.int p1), .val (.int p2), .val (.int p3), .val (.int p4), .val (.int p5), .val (.int (p0 &&& (3 : Int32))), .val (.ref ty), .val (.int (p3 &&& (3 : Int32))), .val (.int o), .val (.int c0), .val (.int c1), .val (.int c2), .val (.int d0), .val (.int d1), .val (.int d2), .val (.ref x6), .val (.ref x7), .val (.ref b8), .unset, .unset] [(.int (1 : Int32))]))
                      exact J10 (1 : Int32) (Or.inl ⟨rfl, (own_eqstr (own_and3 p3) ho).mpr ⟨hc218_15, Or.inl hc224_16, Or.inr hc244_20, Or.inl hc250_21⟩⟩)
                    · skip
                      refine OEndsW.via (fun _ k => XS.icmpNo X9.here hx rfl (hb hby at_250) rfl (flt hc250_21).1 k) ?_
                      show OEndsW p e below s _ _ _ _ _ (T9.setTop (mkF m 253 #[.val (.int p0), .val (.int p1), .val (.int p2), .val (.int p3), .val (.int p4), .val (.int p5), .val (.int (p0 &&& (3 : Int32))), .val (.ref ty), .val (.int (p3 &&& (3 : Int32))), .val (.int o), .val (.int c0), .val (.int c1), .val (.int c2), .val (.int d0), .val (.int d1), .val (.int d2), .val (.ref x6), .val (.ref x7), .val (.ref b8), .unset, .unset] []))
                      refine OEndsW.via (fun _ k => XS.iload X9.here hx rfl (hb hby at_253) rfl k) ?_
                      show OEndsW p e below s _ _ _ _ _ (T9.setTop (mkF m 255 #[.val (.int p0), .val (.int p1), .val (.int p2), .val (.int p3), .val (.int p4), .val (.int p5), .val (.int (p0 &&& (3 : Int32))), .val (.ref ty), .val (.int (p3 &&& (3 : Int32))), .val (.int o), .val (.int c0), .val (.int c1), .val (.int c2), .val (.int d0), .val (.int d1), .val (.int d2), .val (.ref x6), .val (.ref x7), .val (.ref b8), .unset, .unset] [(.int c2)]))
                      refine OEndsW.via (fun _ k => XS.iload X9.here hx rfl (hb hby at_255) rfl k) ?_
                      show OEndsW p e below s _ _ _ _ _ (T9.setTop (mkF m 257 #[.val (.int p0), .val (.int p1), .val (.int p2), .val (.int p3), .val (.int p4), .val (.int p5), .val (.int (p0 &&& (3 : Int32))), .val (.ref ty), .val (.int (p3 &&& (3 : Int32))), .val (.int o), .val (.int c0), .val (.int c1), .val (.int c2), .val (.int d0), .val (.int d1), .val (.int d2), .val (.ref x6), .val (.ref x7), .val (.ref b8), .unset, .unset] [(.int d2), (.int c2)]))
                      by_cases hc257_22 : c2 = d2
                      · skip
                        refine OEndsW.via (fun _ k => XS.icmpNo X9.here hx rfl (hb hby at_257) rfl (teq hc257_22).2 k) ?_
                        show OEndsW p e below s _ _ _ _ _ (T9.setTop (mkF m 260 #[.val (.int p0), .val (.int p1), .val (.int p2), .val (.int p3), .val (.int p4), .val (.int p5), .val (.int (p0 &&& (3 : Int32))), .val (.ref ty), .val (.int (p3 &&& (3 : Int32))), .val (.int o), .val (.int c0), .val (.int c1), .val (.int c2), .val (.int d0), .val (.int d1), .val (.int d2), .val (.ref x6), .val (.ref x7), .val (.ref b8), .unset, .unset] []))
                        refine OEndsW.via (fun _ k => XS.iconst X9.here hx rfl (hb hby at_260) k) ?_
                        show OEndsW p e below s _ _ _ _ _ (T9.setTop (mkF m 261 #[.val (.int p0), .val (.int p1), .val (.int p2), .val (.int p3), .val (.int p4), .val (.int p5), .val (.int (p0 &&& (3 : Int32))), .val (.ref ty), .val (.int (p3 &&& (3 : Int32))), .val (.int o), .val (.int c0), .val (.int c1), .val (.int c2), .val (.int d0), .val (.int d1), .val (.int d2), .val (.ref x6), .val (.ref x7), .val (.ref b8), .unset, .unset] [(.int (1 : Int32))]))
                        refine OEndsW.via (fun _ k => XS.goto X9.here hx rfl (pc0 := 261) (pc' := 265) rfl (hb hby at_261) (by decide) (by decide) k) ?_
                        show OEndsW p e below s _ _ _ _ _ (T9.setTop (mkF m 265 #[.val (.int p0), .val (.int p1), .val (.int p2), .val (.int p3), .val (.int p4), .val (.int p5), .val (.int (p0 &&& (3 : Int32))), .val (.ref ty), .val (.int (p3 &&& (3 : Int32))), .val (.int o), .val (.int c0), .val (.int c1), .val (.int c2), .val (.int d0), .val (.int d1), .val (.int d2), .val (.ref x6), .val (.ref x7), .val (.ref b8), .unset, .unset] [(.int (1 : Int32))]))
                        exact J10 (1 : Int32) (Or.inl ⟨rfl, (own_eqstr (own_and3 p3) ho).mpr ⟨hc218_15, Or.inl hc224_16, Or.inr hc244_20, Or.inr hc257_22⟩⟩)
                      · skip
                        refine OEndsW.via (fun _ k => XS.icmpYes X9.here hx rfl (pc0 := 257) (pc' := 264) rfl (hb hby at_257) rfl (feq hc257_22).2 (by decide) (by decide) k) ?_
                        show OEndsW p e below s _ _ _ _ _ (T9.setTop (mkF m 264 #[.val (.int p0), .val (.int p1), .val (.int p2), .val (.int p3), .val (.int p4), .val (.int p5), .val (.int (p0 &&& (3 : Int32))), .val (.ref ty), .val (.int (p3 &&& (3 : Int32))), .val (.int o), .val (.int c0), .val (.int c1), .val (.int c2), .val (.int d0), .val (.int d1), .val (.int d2), .val (.ref x6), .val (.ref x7), .val (.ref b8), .unset, .unset] []))
                        refine OEndsW.via (fun _ k => XS.iconst X9.here hx rfl (hb hby at_264) k) ?_
                        show OEndsW p e below s _ _ _ _ _ (T9.setTop (mkF m 265 #[.val (.int p0), .val (.int p1), .val (.int p2), .val (.int p3), .val (.int p4), .val (.int p5), .val (.int (p0 &&& (3 : Int32))), .val (.ref ty), .val (.int (p3 &&& (3 : Int32))), .val (.int o), .val (.int c0), .val (.int c1), .val (.int c2), .val (.int d0), .val (.int d1), .val (.int d2), .val (.ref x6), .val (.ref x7), .val (.ref b8), .unset, .unset] [(.int (0 : Int32))]))
                        exact J10 (0 : Int32) (Or.inr ⟨rfl, fun q => ((own_eqstr (own_and3 p3) ho).mp q).2.2.2.elim hc250_21 hc257_22⟩)
                  · skip
                    refine OEndsW.via (fun _ k => XS.icmpYes X9.here hx rfl (pc0 := 244) (pc' := 264) rfl (hb hby at_244) rfl (feq hc244_20).2 (by decide) (by decide) k) ?_
                    show OEndsW p e below s _ _ _ _ _ (T9.setTop (mkF m 264 #[.val (.int p0), .val (.int p1), .val (.int p2), .val (.int p3), .val (.int p4), .val (.int p5), .val (.int (p0 &&& (3 : Int32))), .val (.ref ty), .val (.int (p3 &&& (3 : Int32))), .val (.int o), .val (.int c0), .val (.int c1), .val (.int c2), .val (.int d0), .val (.int d1), .val (.int d2), .val (.ref x6), .val (.ref x7), .val (.ref b8), .unset, .unset] []))
                    refine OEndsW.via (fun _ k => XS.iconst X9.here hx rfl (hb hby at_264) k) ?_
                    show OEndsW p e below s _ _ _ _ _ (T9.setTop (mkF m 265 #[.val (.int p0), .val (.int p1), .val (.int p2), .val (.int p3), .val (.int p4), .val (.int p5), .val (.int (p0 &&& (3 : Int32))), .val (.ref ty), .val (.int (p3 &&& (3 : Int32))), .val (.int o), .val (.int c0), .val (.int c1), .val (.int c2), .val (.int d0), .val (.int d1), .val (.int d2), .val (.ref x6), .val (.ref x7), .val (.ref b8), .unset, .unset] [(.int (0 : Int32))]))
                    exact J10 (0 : Int32) (Or.inr ⟨rfl, fun q => ((own_eqstr (own_and3 p3) ho).mp q).2.2.1.elim hc237_17 hc244_20⟩)
              · skip
                refine OEndsW.via (fun _ k => XS.icmpNo X9.here hx rfl (hb hby at_224) rfl (flt hc224_16).1 k) ?_
                show OEndsW p e below s _ _ _ _ _ (T9.setTop (mkF m 227 #[.val (.int p0), .val (.int p1), .val (.int p2), .val (.int p3), .val (.int p4), .val (.int p5), .val (.int (p0 &&& (3 : Int32))), .val (.ref ty), .val (.int (p3 &&& (3 : Int32))), .val (.int o), .val (.int c0), .val (.int c1), .val (.int c2), .val (.int d0), .val (.int d1), .val (.int d2), .val (.ref x6), .val (.ref x7), .val (.ref b8), .unset, .unset] []))
                refine OEndsW.via (fun _ k => XS.iload X9.here hx rfl (hb hby at_227) rfl k) ?_
                show OEndsW p e below s _ _ _ _ _ (T9.setTop (mkF m 229 #[.val (.int p0), .val (.int p1), .val (.int p2), .val (.int p3), .val (.int p4), .val (.int p5), .val (.int (p0 &&& (3 : Int32))), .val (.ref ty), .val (.int (p3 &&& (3 : Int32))), .val (.int o), .val (.int c0), .val (.int c1), .val (.int c2), .val (.int d0), .val (.int d1), .val (.int d2), .val (.ref x6), .val (.ref x7), .val (.ref b8), .unset, .unset] [(.int c0)]))
                refine OEndsW.via (fun _ k => XS.iload X9.here hx rfl (hb hby at_229) rfl k) ?_
                show OEndsW p e below s _ _ _ _ _ (T9.setTop (mkF m 231 #[.val (.int p0), .val (.int p1), .val (.int p2), .val (.int p3), .val (.int p4), .val (.int p5), .val (.int (p0 &&& (3 : Int32))), .val (.ref ty), .val (.int (p3 &&& (3 : Int32))), .val (.int o), .val (.int c0), .val (.int c1), .val (.int c2), .val (.int d0), .val (.int d1), .val (.int d2), .val (.ref x6), .val (.ref x7), .val (.ref b8), .unset, .unset] [(.int d0), (.int c0)]))
                by_cases hc231_23 : c0 = d0
                · skip
                  refine OEndsW.via (fun _ k => XS.icmpNo X9.here hx rfl (hb hby at_231) rfl (teq hc231_23).2 k) ?_
                  show OEndsW p e below s _ _ _ _ _ (T9.setTop (mkF m 234 #[.val (.int p0), .val (.int p1), .val (.int p2), .val (.int p3), .val (.int p4), .val (.int p5), .val (.int (p0 &&& (3 : Int32))), .val (.ref ty), .val (.int (p3 &&& (3 : Int32))), .val (.int o), .val (.int c0), .val (.int c1), .val (.int c2), .val (.int d0), .val (.int d1), .val (.int d2), .val (.ref x6), .val (.ref x7), .val (.ref b8), .unset, .unset] []))
                  refine OEndsW.via (fun _ k => XS.iload X9.here hx rfl (hb hby at_234) rfl k) ?_
                  show OEndsW p e below s _ _ _ _ _ (T9.setTop (mkF m 236 #[.val (.int p0), .val (.int p1), .val (.int p2), .val (.int p3), .val (.int p4), .val (.int p5), .val (.int (p0 &&& (3 : Int32))), .val (.ref ty), .val (.int (p3 &&& (3 : Int32))), .val (.int o), .val (.int c0), .val (.int c1), .val (.int c2), .val (.int d0), .val (.int d1), .val (.int d2), .val (.ref x6), .val (.ref x7), .val (.ref b8), .unset, .unset] [(.int (p3 &&& (3 : Int32)))]))
                  refine OEndsW.via (fun _ k => XS.iconst X9.here hx rfl (hb hby at_236) k) ?_
                  show OEndsW p e below s _ _ _ _ _ (T9.setTop (mkF m 237 #[.val (.int p0), .val (.int p1), .val (.int p2), .val (.int p3), .val (.int p4), .val (.int p5), .val (.int (p0 &&& (3 : Int32))), .val (.ref ty), .val (.int (p3 &&& (3 : Int32))), .val (.int o), .val (.int c0), .val (.int c1), .val (.int c2), .val (.int d0), .val (.int d1), .val (.int d2), .val (.ref x6), .val (.ref x7), .val (.ref b8), .unset, .unset] [(.int (2 : Int32)), (.int (p3 &&& (3 : Int32)))]))
                  by_cases hc237_24 : (p3 &&& (3 : Int32)) < (2 : Int32)
                  · skip
                    refine OEndsW.via (fun _ k => XS.icmpYes X9.here hx rfl (pc0 := 237) (pc' := 247) rfl (hb hby at_237) rfl (tlt hc237_24).1 (by decide) (by decide) k) ?_
                    show OEndsW p e below s _ _ _ _ _ (T9.setTop (mkF m 247 #[.val (.int p0), .val (.int p1), .val (.int p2), .val (.int p3), .val (.int p4), .val (.int p5), .val (.int (p0 &&& (3 : Int32))), .val (.ref ty), .val (.int (p3 &&& (3 : Int32))), .val (.int o), .val (.int c0), .val (.int c1), .val (.int c2), .val (.int d0), .val (.int d1), .val (.int d2), .val (.ref x6), .val (.ref x7), .val (.ref b8), .unset, .unset] []))
                    refine OEndsW.via (fun _ k => XS.iload X9.here hx rfl (hb hby at_247) rfl k) ?_
                    show OEndsW p e below s _ _ _ _ _ (T9.setTop (mkF m 249 #[.val (.int p0), .val (.int p1), .val (.int p2), .val (.int p3), .val (.int p4), .val (.int p5), .val (.int (p0 &&& (3 : Int32))), .val (.ref ty), .val (.int (p3 &&& (3 : Int32))), .val (.int o), .val (.int c0), .val (.int c1), .val (.int c2), .val (.int d0), .val (.int d1), .val (.int d2), .val (.ref x6), .val (.ref x7), .val (.ref b8), .unset, .unset] [(.int (p3 &&& (3 : Int32)))]))
                    refine OEndsW.via (fun _ k => XS.iconst X9.here hx rfl (hb hby at_249) k) ?_
                    show OEndsW p e below s _ _ _ _ _ (T9.setTop (mkF m 250 #[.val (.int p0), .val (.int p1), .val (.int p2), .val (.int p3), .val (.int p4), .val (.int p5), .val (.int (p0 &&& (3 : Int32))), .val (.ref ty), .val (.int (p3 &&& (3 : Int32))), .val (.int o), .val (.int c0), .val (.int c1), .val (.int c2), .val (.int d0), .val (.int d1), .val (.int d2), .val (.ref x6), .val (.ref x7), .val (.ref b8), .unset, .unset] [(.int (3 : Int32)), (.int (p3 &&& (3 : Int32)))]))
                    by_cases hc250_25 : (p3 &&& (3 : Int32)) < (3 : Int32)
                    · skip
                      refine OEndsW.via (fun _ k => XS.icmpYes X9.here hx rfl (pc0 := 250) (pc' := 260) rfl (hb hby at_250) rfl (tlt hc250_25).1 (by decide) (by decide) k) ?_
                      show OEndsW p e below s _ _ _ _ _ (T9.setTop (mkF m 260 #[.val (.int p0), .val (.int p1), .val (.int p2), .val (.int p3), .val (.int p4), .val (.int p5), .val (.int (p0 &&& (3 : Int32))), .val (.ref ty), .val (.int (p3 &&& (3 : Int32))), .val (.int o), .val (.int c0), .val (.int c1), .val (.int c2), .val (.int d0), .val (.int d1), .val (.int d2), .val (.ref x6), .val (.ref x7), .val (.ref b8), .unset, .unset] []))
                      refine OEndsW.via (fun _ k => XS.iconst X9.here hx rfl (hb hby at_260) k) ?_
                      show OEndsW p e below s _ _ _ _ _ (T9.setTop (mkF m 261 #[.val (.int p0), .val (.int p1), .val (.int p2), .val (.int p3), .val (.int p4), .val (.int p5), .val (.int (p0 &&& (3 : Int32))), .val (.ref ty), .val (.int (p3 &&& (3 : Int32))), .val (.int o), .val (.int c0), .val (.int c1), .val (.int c2), .val (.int d0), .val (.int d1), .val (.int d2), .val (.ref x6), .val (.ref x7), .val (.ref b8), .unset, .unset] [(.int (1 : Int32))]))
                      refine OEndsW.via (fun _ k => XS.goto X9.here hx rfl (pc0 := 261) (pc' := 265) rfl (hb hby at_261) (by decide) (by decide) k) ?_
                      show OEndsW p e below s _ _ _ _ _ (T9.setTop (mkF m 265 #[.val (.int p0), .val (.int p1), .val (.int p2), .val (.int p3), .val (.int p4), .val (.int p5), .val (.int (p0 &&& (3 : Int32))), .val (.ref ty), .val (.int (p3 &&& (3 : Int32))), .val (.int o), .val (.int c0), .val (.int c1), .val (.int c2), .val (.int d0), .val (.int d1), .val (.int d2), .val (.ref x6), .val (.ref x7), .val (.ref b8), .unset, .unset] [(.int (1 : Int32))]))
                      exact J10 (1 : Int32) (Or.inl ⟨rfl, (own_eqstr (own_and3 p3) ho).mpr ⟨hc218_15, Or.inr hc231_23, Or.inl hc237_24, Or.inl hc250_25⟩⟩)
                    · skip
                      refine OEndsW.via (fun _ k => XS.icmpNo X9.here hx rfl (hb hby at_250) rfl (flt hc250_25).1 k) ?_
                      show OEndsW p e below s _ _ _ _ _ (T9.setTop (mkF m 253 #[.val (.int p0), .val (.int p1), .val (.int p2), .val (.int p3), .val (.int p4), .val (.int p5), .val (.int (p0 &&& (3 : Int32))), .val (.ref ty), .val (.int (p3 &&& (3 : Int32))), .val (.int o), .val (.int c0), .val (.int c1), .val (.int c2), .val (.int d0), .val (.int d1), .val (.int d2), .val (.ref x6), .val (.ref x7), .val (.ref b8), .unset, .unset] []))
                      refine OEndsW.via (fun _ k => XS.iload X9.here hx rfl (hb hby at_253) rfl k) ?_
                      show OEndsW p e below s _ _ _ _ _ (T9.setTop (mkF m 255 #[.val (.int p0), .val (.int p1), .val (.int p2), .val (.int p3), .val (.int p4), .val (.int p5), .val (.int (p0 &&& (3 : Int32))), .val (.ref ty), .val (.int (p3 &&& (3 : Int32))), .val (.int o), .val (.int c0), .val (.int c1), .val (.int c2), .val (.int d0), .val (.int d1), .val (.int d2), .val (.ref x6), .val (.ref x7), .val (.ref b8), .unset, .unset] [(.int c2)]))
                      refine OEndsW.via (fun _ k => XS.iload X9.here hx rfl (hb hby at_255) rfl k) ?_
                      show OEndsW p e below s _ _ _ _ _ (T9.setTop (mkF m 257 #[.val (.int p0), .val (.int p1), .val (.int p2), .val (.int p3), .val (.int p4), .val (.int p5), .val (.int (p0 &&& (3 : Int32))), .val (.ref ty), .val (.int (p3 &&& (3 : Int32))), .val (.int o), .val (.int c0), .val (.int c1), .val (.int c2), .val (.int d0), .val (.int d1), .val (.int d2), .val (.ref x6), .val (.ref x7), .val (.ref b8), .unset, .unset] [(.int d2), (.int c2)]))
                      by_cases hc257_26 : c2 = d2
                      · skip
                        refine OEndsW.via (fun _ k => XS.icmpNo X9.here hx rfl (hb hby at_257) rfl (teq hc257_26).2 k) ?_
                        show OEndsW p e below s _ _ _ _ _ (T9.setTop (mkF m 260 #[.val (.int p0), .val (.int p1), .val (.int p2), .val (.int p3), .val (.int p4), .val (.int p5), .val (.int (p0 &&& (3 : Int32))), .val (.ref ty), .val (.int (p3 &&& (3 : Int32))), .val (.int o), .val (.int c0), .val (.int c1), .val (.int c2), .val (.int d0), .val (.int d1), .val (.int d2), .val (.ref x6), .val (.ref x7), .val (.ref b8), .unset, .unset] []))
                        refine OEndsW.via (fun _ k => XS.iconst X9.here hx rfl (hb hby at_260) k) ?_
                        show OEndsW p e below s _ _ _ _ _ (T9.setTop (mkF m 261 #[.val (.int p0), .val (.int p1), .val (.int p2), .val (.int p3), .val (.int p4), .val (.int p5), .val (.int (p0 &&& (3 : Int32))), .val (.ref ty), .val (.int (p3 &&& (3 : Int32))), .val (.int o), .val (.int c0), .val (.int c1), .val (.int c2), .val (.int d0), .val (.int d1), .val (.int d2), .val (.ref x6), .val (.ref x7), .val (.ref b8), .unset, .unset] [(.int (1 : Int32))]))
                        refine OEndsW.via (fun _ k => XS.goto X9.here hx rfl (pc0 := 261) (pc' := 265) rfl (hb hby at_261) (by decide) (by decide) k) ?_
                        show OEndsW p e below s _ _ _ _ _ (T9.setTop (mkF m 265 #[.val (.int p0), .val (.int p1), .val (.int p2), .val (.int p3), .val (.int p4), .val (.int p5), .val (.int (p0 &&& (3 : Int32))), .val (.ref ty), .val (.int (p3 &&& (3 : Int32))), .val (.int o), .val (.int c0), .val (.int c1), .val (.int c2), .val (.int d0), .val (.int d1), .val (.int d2), .val (.ref x6), .val (.ref x7), .val (.ref b8), .unset, .unset] [(.int (1 : Int32))]))
                        exact J10 (1 : Int32) (Or.inl ⟨rfl, (own_eqstr (own_and3 p3) ho).mpr ⟨hc218_15, Or.inr hc231_23, Or.inl hc237_24, Or.inr hc257_26⟩⟩)
                      · skip
                        refine OEndsW.via (fun _ k => XS.icmpYes X9.here hx rfl (pc0 := 257) (pc' := 264) rfl (hb hby at_257) rfl (feq hc257_26).2 (by decide) (by decide) k) ?_
                        show OEndsW p e below s _ _ _ _ _ (T9.setTop (mkF m 264 #[.val (.int p0), .val (.int p1), .val (.int p2), .val (.int p3), .val (.int p4), .val (.int p5), .val (.int (p0 &&& (3 : Int32))), .val (.ref ty), .val (.int (p3 &&& (3 : Int32))), .val (.int o), .val (.int c0), .val (.int c1), .val (.int c2), .val (.int d0), .val (.int d1), .val (.int d2), .val (.ref x6), .val (.ref x7), .val (.ref b8), .unset, .unset] []))
                        refine OEndsW.via (fun _ k => XS.iconst X9.here hx rfl (hb hby at_264) k) ?_
                        show OEndsW p e below s _ _ _ _ _ (T9.setTop (mkF m 265 #[.val (.int p0), .val (.int p1), .val (.int p2), .val (.int p3), .val (.int p4), .val (.int p5), .val (.int (p0 &&& (3 : Int32))), .val (.ref ty), .val (.int (p3 &&& (3 : Int32))), .val (.int o), .val (.int c0), .val (.int c1), .val (.int c2), .val (.int d0), .val (.int d1), .val (.int d2), .val (.ref x6), .val (.ref x7), .val (.ref b8), .unset, .unset] [(.int (0 : Int32))]))
                        exact J10 (0 : Int32) (Or.inr ⟨rfl, fun q => ((own_eqstr (own_and3 p3) ho).mp q).2.2.2.elim hc250_25 hc257_26⟩)
                  · skip
                    refine OEndsW.via (fun _ k => XS.icmpNo X9.here hx rfl (hb hby at_237) rfl (flt hc237_24).1 k) ?_
                    show OEndsW p e below s _ _ _ _ _ (T9.setTop (mkF m 240 #[.val (.int p0), .val (.int p1), .val (.int p2), .val (.int p3), .val (.int p4), .val (.int p5), .val (.int (p0 &&& (3 : Int32))), .val (.ref ty), .val (.int (p3 &&& (3 : Int32))), .val (.int o), .val (.int c0), .val (.int c1), .val (.int c2), .val (.int d0), .val (.int d1), .val (.int d2), .val (.ref x6), .val (.ref x7), .val (.ref b8), .unset, .unset] []))
                    refine OEndsW.via (fun _ k => XS.iload X9.here hx rfl (hb hby at_240) rfl k) ?_
                    show OEndsW p e below s _ _ _ _ _ (T9.setTop (mkF m 242 #[.val (.int p0), .val (.int p1), .val (.int p2), .val (.int p3), .val (.int p4), .val (.int p5), .val (.int (p0 &&& (3 : Int32))), .val (.ref ty), .val (.int (p3 &&& (3 : Int32))), .val (.int o), .val (.int c0), .val (.int c1), .val (.int c2), .val (.int d0), .val (.int d1), .val (.int d2), .val (.ref x6), .val (.ref x7), .val (.ref b8), .unset, .unset] [(.int c1)]))
                    refine OEndsW.via (fun _ k => XS.iload X9.here hx rfl (hb hby at_242) rfl k) ?_
                    show OEndsW p e below s _ _ _ _ _ (T9.setTop (mkF m 244 #[.val (.int p0), .val (.int p1), .val (.int p2), .val (.int p3), .val (.int p4), .val (.int p5), .val (.int (p0 &&& (3 : Int32))), .val (.ref ty), .val (.int (p3 &&& (3 : Int32))), .val (.int o), .val (.int c0), .val (.int c1), .val (.int c2), .val (.int d0), .val (.int d1), .val (.int d2), .val (.ref x6), .val (.ref x7), .val (.ref b8), .unset, .unset] [(.int d1), (.int c1)]))
                    by_cases hc244_27 : c1 = d1
                    · skip
                      refine OEndsW.via (fun _ k => XS.icmpNo X9.here hx rfl (hb hby at_244) rfl (teq hc244_27).2 k) ?_
                      show OEndsW p e below s _ _ _ _ _ (T9.setTop (mkF m 247 #[.val (.int p0), .val (.int p1), .val (.int p2), .val (.int p3), .val (.int p4), .val (.int p5), .val (.int (p0 &&& (3 : Int32))), .val (.ref ty), .val (.int (p3 &&& (3 : Int32))), .val (.int o), .val (.int c0), .val (.int c1), .val (.int c2), .val (.int d0), .val (.int d1), .val (.int d2), .val (.ref x6), .val (.ref x7), .val (.ref b8), .unset, .unset] []))
                      refine OEndsW.via (fun _ k => XS.iload X9.here hx rfl (hb hby at_247) rfl k) ?_
                      show OEndsW p e below s _ _ _ _ _ (T9.setTop (mkF m 249 #[.val (.int p0), .val (.int p1), .val (.int p2), .val (.int p3), .val (.int p4), .val (.int p5), .val (.int (p0 &&& (3 : Int32))), .val (.ref ty), .val (.int (p3 &&& (3 : Int32))), .val (.int o), .val (.int c0), .val (.int c1), .val (.int c2), .val (.int d0), .val (.int d1), .val (.int d2), .val (.ref x6), .val (.ref x7), .val (.ref b8), .unset, .unset] [(.int (p3 &&& (3 : Int32)))]))
                      refine OEndsW.via (fun _ k => XS.iconst X9.here hx rfl (hb hby at_249) k) ?_
                      show OEndsW p e below s _ _ _ _ _ (T9.setTop (mkF m 250 #[.val (.int p0), .val (.int p1), .val (.int p2), .val (.int p3), .val (.int p4), .val (.int p5), .val (.int (p0 &&& (3 : Int32))), .val (.ref ty), .val (.int (p3 &&& (3 : Int32))), .val (.int o), .val (.int c0), .val (.int c1), .val (.int c2), .val (.int d0), .val (.int d1), .val (.int d2), .val (.ref x6), .val (.ref x7), .val (.ref b8), .unset, .unset] [(.int (3 : Int32)), (.int (p3 &&& (3 : Int32)))]))
                      by_cases hc250_28 : (p3 &&& (3 : Int32)) < (3 : Int32)
                      · skip
                        refine OEndsW.via (fun _ k => XS.icmpYes X9.here hx rfl (pc0 := 250) (pc' := 260) rfl (hb hby at_250) rfl (tlt hc250_28).1 (by decide) (by decide) k) ?_
                        show OEndsW p e below s _ _ _ _ _ (T9.setTop (mkF m 260 #[.val (.int p0), .val (.int p1), .val (.int p2), .val (.int p3), .val (.int p4), .val (.int p5), .val (.int (p0 &&& (3 : Int32))), .val (.ref ty), .val (.int (p3 &&& (3 : Int32))), .val (.int o), .val (.int c0), .val (.int c1), .val (.int c2), .val (.int d0), .val (.int d1), .val (.int d2), .val (.ref x6), .val (.ref x7), .val (.ref b8), .unset, .unset] []))
                        refine OEndsW.via (fun _ k => XS.iconst X9.here hx rfl (hb hby at_260) k) ?_
                        show OEndsW p e below s _ _ _ _ _ (T9.setTop (mkF m 261 #[.val (.int p0), .val (.int p1), .val (.int p2), .val (.int p3), .val (.int p4), .val (.int p5), .val (.int (p0 &&& (3 : Int32))), .val (.ref ty), .val (.int (p3 &&& (3 : Int32))), .val (.int o), .val (.int c0), .val (.int c1), .val (.int c2), .val (.int d0), .val (.int d1), .val (.int d2), .val (.ref x6), .val (.ref x7), .val (.ref b8), .unset, .unset] [(.int (1 : Int32))]))
                        refine OEndsW.via (fun _ k => XS.goto X9.here hx rfl (pc0 := 261) (pc' := 265) rfl (hb hby at_261) (by decide) (by decide) k) ?_
                        show OEndsW p e below s _ _ _ _ _ (T9.setTop (mkF m 265 #[.val (.int p0), .val (.int p1), .val (.int p2), .val (.int p3), .val (.int p4), .val (.int p5), .val (.int (p0 &&& (3 : Int32))), .val (.ref ty), .val (.int (p3 &&& (3 : Int32))), .val (.int o), .val (.int c0), .val (.int c1), .val (.int c2), .val (.int d0), .val (.int d1), .val (.int d2), .val (.ref x6), .val (.ref x7), .val (.ref b8), .unset, .unset] [(.int (1 : Int32))]))
                        exact J10 (1 : Int32) (Or.inl ⟨rfl, (own_eqstr (own_and3 p3) ho).mpr ⟨hc218_15, Or.inr hc231_23, Or.inr hc244_27, Or.inl hc250_28⟩⟩)
                      · skip
                        refine OEndsW.via (fun _ k => XS.icmpNo X9.here hx rfl (hb hby at_250) rfl (flt hc250_28).1 k) ?_
                        show OEndsW p e below s _ _ _ _ _ (T9.setTop (mkF m 253 #[.val (.int p0), .val (.int p1), .val (.int p2), .val (.int p3), .val (.int p4), .val (.int p5), .val (.int (p0 &&& (3 : Int32))), .val (.ref ty), .val (.int (p3 &&& (3 : Int32))), .val (.int o), .val (.int c0), .val (.int c1), .val (.int c2), .val (.int d0), .val (.int d1), .val (.int d2), .val (.ref x6), .val (.ref x7), .val (.ref b8), .unset, .unset] []))
                        refine OEndsW.via (fun _ k => XS.iload X9.here hx rfl (hb hby at_253) rfl k) ?_
                        show OEndsW p e below s _ _ _ _ _ (T9.setTop (mkF m 255 #[.val (.int p0), .val (.int p1), .val (.int p2), .val (.int p3), .val (.int p4), .val (.int p5), .val (.int (p0 &&& (3 : Int32))), .val (.ref ty), .val (.int (p3 &&& (3 : Int32))), .val (.int o), .val (.int c0), .val (.int c1), .val (.int c2), .val (.int d0), .val (.int d1), .val (.int d2), .val (.ref x6), .val (.ref x7), .val (.ref b8), .unset, .unset] [(.int c2)]))
                        refine OEndsW.via (fun _ k => XS.iload X9.here hx rfl (hb hby at_255) rfl k) ?_
                        show OEndsW p e below s _ _ _ _ _ (T9.setTop (mkF m 257 #[.val (.int p0), .val (.int p1), .val (.int p2), .val (.int p3), .val (.int p4), .val (.int p5), .val (.int (p0 &&& (3 : Int32))), .val (.ref ty), .val (.int (p3 &&& (3 : Int32))), .val (.int o), .val (.int c0), .val (.int c1), .val (.int c2), .val (.int d0), .val (.int d1), .val (.int d2), .val (.ref x6), .val (.ref x7), .val (.ref b8), .unset, .unset] [(.int d2), (.int c2)]))
                        by_cases hc257_29 : c2 = d2
                        · skip
                          refine OEndsW.via (fun _ k => XS.icmpNo X9.here hx rfl (hb hby at_257) rfl (teq hc257_29).2 k) ?_
                          show OEndsW p e below s _ _ _ _ _ (T9.setTop (mkF m 260 #[.val (.int p0), .val (.int p1), .val (.int p2), .val (.int p3), .val (.int p4), .val (.int p5), .val (.int (p0 &&& (3 : Int32))), .val (.ref ty), .val (.int (p3 &&& (3 : Int32))), .val (.int o), .val (.int c0), .val (.int c1), .val (.int c2), .val (.int d0), .val (.int d1), .val (.int d2), .val (.ref x6), .val (.ref x7), .val (.ref b8), .unset, .unset] []))
                          refine OEndsW.via (fun _ k => XS.iconst X9.here hx rfl (hb hby at_260) k) ?_
                          show OEndsW p e below s _ _ _ _ _ (T9.setTop (mkF m 261 #[.val (.int p0), .val (.int p1), .val (.int p2), .val (.int p3), .val (.int p4), .val (.int p5), .val (.int (p0 &&& (3 : Int32))), .val (.ref ty), .val (.int (p3 &&& (3 : Int32))), .val (.int o), .val (.int c0), .val (.int c1), .val (.int c2), .val (.int d0), .val (.int d1), .val (.int d2), .val (.ref x6), .val (.ref x7), .val (.ref b8), .unset, .unset] [(.int (1 : Int32))]))
                          refine OEndsW.via (fun _ k => XS.goto X9.here hx rfl (pc0 := 261) (pc' := 265) rfl (hb hby at_261) (by decide) (by decide) k) ?_
                          show OEndsW p e below s _ _ _ _ _ (T9.setTop (mkF m 265 #[.val (.int p0), .val (.int p1), .val (.int p2), .val (.int p3), .val (.int p4), .val (.int p5), .val (.int (p0 &&& (3 : Int32))), .val (.ref ty), .val (.int (p3 &&& (3 : Int32))), .val (.int o), .val (.int c0), .val (.int c1), .val (.int c2), .val (.int d0), .val (.int d1), .val (.int d2), .val (.ref x6), .val (.ref x7), .val (.ref b8), .unset, .unset] [(.int (1 : Int32))]))
                          exact J10 (1 : Int32) (Or.inl ⟨rfl, (own_eqstr (own_and3 p3) ho).mpr ⟨hc218_15, Or.inr hc231_23, Or.inr hc244_27, Or.inr hc257_29⟩⟩)
                        · skip
                          refine OEndsW.via (fun _ k => XS.icmpYes X9.here hx rfl (pc0 := 257) (pc' := 264) rfl (hb hby at_257) rfl (feq hc257_29).2 (by decide) (by decide) k) ?_
                          show OEndsW p e below s _ _ _ _ _ (T9.setTop (mkF m 264 #[.val (.int p0), .val (.int p1), .val (.int p2), .val (.int p3), .val (.int p4), .val (.int p5), .val (.int (p0 &&& (3 : Int32))), .val (.ref ty), .val (.int (p3 &&& (3 : Int32))), .val (.int o), .val (.int c0), .val (.int c1), .val (.int c2), .val (.int d0), .val (.int d1), .val (.int d2), .val (.ref x6), .val (.ref x7), .val (.ref b8), .unset, .unset] []))
                          refine OEndsW.via (fun _ k => XS.iconst X9.here hx rfl (hb hby at_264) k) ?_
                          show OEndsW p e below s _ _ _ _ _ (T9.setTop (mkF m 265 #[.val (.int p0), .val (.int p1), .val (.int p2), .val (.int p3), .val (.int p4), .val (.int p5), .val (.int (p0 &&& (3 : Int32))), .val (.ref ty), .val (.int (p3 &&& (3 : Int32))), .val (.int o), .val (.int c0), .val (.int c1), .val (.int c2), .val (.int d0), .val (.int d1), .val (.int d2), .val (.ref x6), .val (.ref x7), .val (.ref b8), .unset, .unset] [(.int (0 : Int32))]))
                          exact J10 (0 : Int32) (Or.inr ⟨rfl, fun q => ((own_eqstr (own_and3 p3) ho).mp q).2.2.2.elim hc250_28 hc257_29⟩)
                    · skip
                      refine OEndsW.via (fun _ k => XS.icmpYes X9.here hx rfl (pc0 := 244) (pc' := 264) rfl (hb hby at_244) rfl (feq hc244_27).2 (by decide) (by decide) k) ?_
                      show OEndsW p e below s _ _ _ _ _ (T9.setTop (mkF m 264 #[.val (.int p0), .val (.int p1), .val (.int p2), .val (.int p3), .val (.int p4), .val (.int p5), .val (.int (p0 &&& (3 : Int32))), .val (.ref ty), .val (.int (p3 &&& (3 : Int32))), .val (.int o), .val (.int c0), .val (.int c1), .val (.int c2), .val (.int d0), .val (.int d1), .val (.int d2), .val (.ref x6), .val (.ref x7), .val (.ref b8), .unset, .unset] []))
                      refine OEndsW.via (fun _ k => XS.iconst X9.here hx rfl (hb hby at_264) k) ?_
                      show OEndsW p e below s _ _ _ _ _ (T9.setTop (mkF m 265 #[.val (.int p0), .val (.int p1), .val (.int p2), .val (.int p3), .val (.int p4), .val (.int p5), .val (.int (p0 &&& (3 : Int32))), .val (.ref ty), .val (.int (p3 &&& (3 : Int32))), .val (.int o), .val (.int c0), .val (.int c1), .val (.int c2), .val (.int d0), .val (.int d1), .val (.int d2), .val (.ref x6), .val (.ref x7), .val (.ref b8), .unset, .unset] [(.int (0 : Int32))]))
                      exact J10 (0 : Int32) (Or.inr ⟨rfl, fun q => ((own_eqstr (own_and3 p3) ho).mp q).2.2.1.elim hc237_24 hc244_27⟩)
                · skip
                  refine OEndsW.via (fun _ k => XS.icmpYes X9.here hx rfl (pc0 := 231) (pc' := 264) rfl (hb hby at_231) rfl (feq hc231_23).2 (by decide) (by decide) k) ?_
                  show OEndsW p e below s _ _ _ _ _ (T9.setTop (mkF m 264 #[.val (.int p0), .val (.int p1), .val (.int p2), .val (.int p3), .val (.int p4), .val (.int p5), .val (.int (p0 &&& (3 : Int32))), .val (.ref ty), .val (.int (p3 &&& (3 : Int32))), .val (.int o), .val (.int c0), .val (.int c1), .val (.int c2), .val (.int d0), .val (.int d1), .val (.int d2), .val (.ref x6), .val (.ref x7), .val (.ref b8), .unset, .unset] []))
                  refine OEndsW.via (fun _ k => XS.iconst X9.here hx rfl (hb hby at_264) k) ?_
                  show OEndsW p e below s _ _ _ _ _ (T9.setTop (mkF m 265 #[.val (.int p0), .val (.int p1), .val (.int p2), .val (.int p3), .val (.int p4), .val (.int p5), .val (.int (p0 &&& (3 : Int32))), .val (.ref ty), .val (.int (p3 &&& (3 : Int32))), .val (.int o), .val (.int c0), .val (.int c1), .val (.int c2), .val (.int d0), .val (.int d1), .val (.int d2), .val (.ref x6), .val (.ref x7), .val (.ref b8), .unset, .unset] [(.int (0 : Int32))]))
                  exact J10 (0 : Int32) (Or.inr ⟨rfl, fun q => ((own_eqstr (own_and3 p3) ho).mp q).2.1.elim hc224_16 hc231_23⟩)
            · skip
              refine OEndsW.via (fun _ k => XS.icmpYes X9.here hx rfl (pc0 := 218) (pc' := 264) rfl (hb hby at_218) rfl (feq hc218_15).2 (by decide) (by decide) k) ?_
              show OEndsW p e below s _ _ _ _ _ (T9.setTop (mkF m 264 #[.val (.int p0), .val (.int p1), .val (.int p2), .val (.int p3), .val (.int p4), .val (.int p5), .val (.int (p0 &&& (3 : Int32))), .val (.ref ty), .val (.int (p3 &&& (3 : Int32))), .val (.int o), .val (.int c0), .val (.int c1), .val (.int c2), .val (.int d0), .val (.int d1), .val (.int d2), .val (.ref x6), .val (.ref x7), .val (.ref b8), .unset, .unset] []))
              refine OEndsW.via (fun _ k => XS.iconst X9.here hx rfl (hb hby at_264) k) ?_
              show OEndsW p e below s _ _ _ _ _ (T9.setTop (mkF m 265 #[.val (.int p0), .val (.int p1), .val (.int p2), .val (.int p3), .val (.int p4), .val (.int p5), .val (.int (p0 &&& (3 : Int32))), .val (.ref ty), .val (.int (p3 &&& (3 : Int32))), .val (.int o), .val (.int c0), .val (.int c1), .val (.int c2), .val (.int d0), .val (.int d1), .val (.int d2), .val (.ref x6), .val (.ref x7), .val (.ref b8), .unset, .unset] [(.int (0 : Int32))]))
              exact J10 (0 : Int32) (Or.inr ⟨rfl, fun q => hc218_15 ((own_eqstr (own_and3 p3) ho).mp q).1⟩)
          by_cases hc152_30 : (((p3.toUInt32 >>> ((6 : Int32) &&& 31).toUInt32).toInt32) &&& (1 : Int32)) = (0 : Int32)
          · skip
            refine OEndsW.via (fun _ k => XS.ifYes XU1.here hx rfl (pc0 := 152) (pc' := 160) rfl (hb hby at_152) rfl ((if0 _ _).trans (teq hc152_30).1) (by decide) (by decide) k) ?_
            show OEndsW p e below s _ _ _ _ _ (U1.setTop (mkF m 160 #[.val (.int p0), .val (.int p1), .val (.int p2), .val (.int p3), .val (.int p4), .val (.int p5), .val (.int (p0 &&& (3 : Int32))), .val (.ref ty), .val (.int (p3 &&& (3 : Int32))), .val (.int o), .val (.int c0), .val (.int c1), .val (.int c2), .val (.int d0), .val (.int d1), .unset, .unset, .unset, .unset, .unset, .unset] []))
            refine OEndsW.via (fun _ k => XS.iloadN XU1.here hx rfl (hb hby at_160) rfl k) ?_
            show OEndsW p e below s _ _ _ _ _ (U1.setTop (mkF m 161 #[.val (.int p0), .val (.int p1), .val (.int p2), .val (.int p3), .val (.int p4), .val (.int p5), .val (.int (p0 &&& (3 : Int32))), .val (.ref ty), .val (.int (p3 &&& (3 : Int32))), .val (.int o), .val (.int c0), .val (.int c1), .val (.int c2), .val (.int d0), .val (.int d1), .unset, .unset, .unset, .unset, .unset, .unset] [(.int p2)]))
            refine OEndsW.via (fun _ k => XS.bipush XU1.here hx rfl (hb hby at_161) k) ?_
            show OEndsW p e below s _ _ _ _ _ (U1.setTop (mkF m 163 #[.val (.int p0), .val (.int p1), .val (.int p2), .val (.int p3), .val (.int p4), .val (.int p5), .val (.int (p0 &&& (3 : Int32))), .val (.ref ty), .val (.int (p3 &&& (3 : Int32))), .val (.int o), .val (.int c0), .val (.int c1), .val (.int c2), .val (.int d0), .val (.int d1), .unset, .unset, .unset, .unset, .unset, .unset] [(.int (16 : Int32)), (.int p2)]))
            refine OEndsW.via (fun _ k => XS.iushr XU1.here hx rfl (hb hby at_163) rfl k) ?_
            show OEndsW p e below s _ _ _ _ _ (U1.setTop (mkF m 164 #[.val (.int p0), .val (.int p1), .val (.int p2), .val (.int p3), .val (.int p4), .val (.int p5), .val (.int (p0 &&& (3 : Int32))), .val (.ref ty), .val (.int (p3 &&& (3 : Int32))), .val (.int o), .val (.int c0), .val (.int c1), .val (.int c2), .val (.int d0), .val (.int d1), .unset, .unset, .unset, .unset, .unset, .unset] [(.int ((p2.toUInt32 >>> ((16 : Int32) &&& 31).toUInt32).toInt32))]))
            refine OEndsW.via (fun _ k => XS.sipush XU1.here hx rfl (hb hby at_164) k) ?_
            show OEndsW p e below s _ _ _ _ _ (U1.setTop (mkF m 167 #[.val (.int p0), .val (.int p1), .val (.int p2), .val (.int p3), .val (.int p4), .val (.int p5), .val (.int (p0 &&& (3 : Int32))), .val (.ref ty), .val (.int (p3 &&& (3 : Int32))), .val (.int o), .val (.int c0), .val (.int c1), .val (.int c2), .val (.int d0), .val (.int d1), .unset, .unset, .unset, .unset, .unset, .unset] [(.int (255 : Int32)), (.int ((p2.toUInt32 >>> ((16 : Int32) &&& 31).toUInt32).toInt32))]))
            refine OEndsW.via (fun _ k => XS.iand XU1.here hx rfl (hb hby at_167) rfl k) ?_
            show OEndsW p e below s _ _ _ _ _ (U1.setTop (mkF m 168 #[.val (.int p0), .val (.int p1), .val (.int p2), .val (.int p3), .val (.int p4), .val (.int p5), .val (.int (p0 &&& (3 : Int32))), .val (.ref ty), .val (.int (p3 &&& (3 : Int32))), .val (.int o), .val (.int c0), .val (.int c1), .val (.int c2), .val (.int d0), .val (.int d1), .unset, .unset, .unset, .unset, .unset, .unset] [(.int (((p2.toUInt32 >>> ((16 : Int32) &&& 31).toUInt32).toInt32) &&& (255 : Int32)))]))
            refine OEndsW.via (fun _ k => XS.i2c XU1.here hx rfl (hb hby at_168) rfl k) ?_
            show OEndsW p e below s _ _ _ _ _ (U1.setTop (mkF m 169 #[.val (.int p0), .val (.int p1), .val (.int p2), .val (.int p3), .val (.int p4), .val (.int p5), .val (.int (p0 &&& (3 : Int32))), .val (.ref ty), .val (.int (p3 &&& (3 : Int32))), .val (.int o), .val (.int c0), .val (.int c1), .val (.int c2), .val (.int d0), .val (.int d1), .unset, .unset, .unset, .unset, .unset, .unset] [(.int ((((p2.toUInt32 >>> ((16 : Int32) &&& 31).toUInt32).toInt32) &&& (255 : Int32)).toUInt32.toUInt16.toUInt32.toInt32))]))
            exact J5 _ (own_and255 _)
          · skip
            refine OEndsW.via (fun _ k => XS.ifNo XU1.here hx rfl (hb hby at_152) rfl ((if0 _ _).trans (feq hc152_30).1) k) ?_
            show OEndsW p e below s _ _ _ _ _ (U1.setTop (mkF m 155 #[.val (.int p0), .val (.int p1), .val (.int p2), .val (.int p3), .val (.int p4), .val (.int p5), .val (.int (p0 &&& (3 : Int32))), .val (.ref ty), .val (.int (p3 &&& (3 : Int32))), .val (.int o), .val (.int c0), .val (.int c1), .val (.int c2), .val (.int d0), .val (.int d1), .unset, .unset, .unset, .unset, .unset, .unset] []))
            refine OEndsW.via (fun _ k => XS.iload XU1.here hx rfl (hb hby at_155) rfl k) ?_
            show OEndsW p e below s _ _ _ _ _ (U1.setTop (mkF m 157 #[.val (.int p0), .val (.int p1), .val (.int p2), .val (.int p3), .val (.int p4), .val (.int p5), .val (.int (p0 &&& (3 : Int32))), .val (.ref ty), .val (.int (p3 &&& (3 : Int32))), .val (.int o), .val (.int c0), .val (.int c1), .val (.int c2), .val (.int d0), .val (.int d1), .unset, .unset, .unset, .unset, .unset, .unset] [(.int c2)]))
            refine OEndsW.via (fun _ k => XS.goto XU1.here hx rfl (pc0 := 157) (pc' := 169) rfl (hb hby at_157) (by decide) (by decide) k) ?_
            show OEndsW p e below s _ _ _ _ _ (U1.setTop (mkF m 169 #[.val (.int p0), .val (.int p1), .val (.int p2), .val (.int p3), .val (.int p4), .val (.int p5), .val (.int (p0 &&& (3 : Int32))), .val (.ref ty), .val (.int (p3 &&& (3 : Int32))), .val (.int o), .val (.int c0), .val (.int c1), .val (.int c2), .val (.int d0), .val (.int d1), .unset, .unset, .unset, .unset, .unset, .unset] [(.int c2)]))
            exact J5 c2 hc2
        by_cases hc127_31 : (((p3.toUInt32 >>> ((5 : Int32) &&& 31).toUInt32).toInt32) &&& (1 : Int32)) = (0 : Int32)
        · skip
          refine OEndsW.via (fun _ k => XS.ifYes XU1.here hx rfl (pc0 := 127) (pc' := 135) rfl (hb hby at_127) rfl ((if0 _ _).trans (teq hc127_31).1) (by decide) (by decide) k) ?_
          show OEndsW p e below s _ _ _ _ _ (U1.setTop (mkF m 135 #[.val (.int p0), .val (.int p1), .val (.int p2), .val (.int p3), .val (.int p4), .val (.int p5), .val (.int (p0 &&& (3 : Int32))), .val (.ref ty), .val (.int (p3 &&& (3 : Int32))), .val (.int o), .val (.int c0), .val (.int c1), .val (.int c2), .val (.int d0), .unset, .unset, .unset, .unset, .unset, .unset, .unset] []))
          refine OEndsW.via (fun _ k => XS.iloadN XU1.here hx rfl (hb hby at_135) rfl k) ?_
          show OEndsW p e below s _ _ _ _ _ (U1.setTop (mkF m 136 #[.val (.int p0), .val (.int p1), .val (.int p2), .val (.int p3), .val (.int p4), .val (.int p5), .val (.int (p0 &&& (3 : Int32))), .val (.ref ty), .val (.int (p3 &&& (3 : Int32))), .val (.int o), .val (.int c0), .val (.int c1), .val (.int c2), .val (.int d0), .unset, .unset, .unset, .unset, .unset, .unset, .unset] [(.int p2)]))
          refine OEndsW.via (fun _ k => XS.bipush XU1.here hx rfl (hb hby at_136) k) ?_
          show OEndsW p e below s _ _ _ _ _ (U1.setTop (mkF m 138 #[.val (.int p0), .val (.int p1), .val (.int p2), .val (.int p3), .val (.int p4), .val (.int p5), .val (.int (p0 &&& (3 : Int32))), .val (.ref ty), .val (.int (p3 &&& (3 : Int32))), .val (.int o), .val (.int c0), .val (.int c1), .val (.int c2), .val (.int d0), .unset, .unset, .unset, .unset, .unset, .unset, .unset] [(.int (8 : Int32)), (.int p2)]))
          refine OEndsW.via (fun _ k => XS.iushr XU1.here hx rfl (hb hby at_138) rfl k) ?_
          show OEndsW p e below s _ _ _ _ _ (U1.setTop (mkF m 139 #[.val (.int p0), .val (.int p1), .val (.int p2), .val (.int p3), .val (.int p4), .val (.int p5), .val (.int (p0 &&& (3 : Int32))), .val (.ref ty), .val (.int (p3 &&& (3 : Int32))), .val (.int o), .val (.int c0), .val (.int c1), .val (.int c2), .val (.int d0), .unset, .unset, .unset, .unset, .unset, .unset, .unset] [(.int ((p2.toUInt32 >>> ((8 : Int32) &&& 31).toUInt32).toInt32))]))
          refine OEndsW.via (fun _ k => XS.sipush XU1.here hx rfl (hb hby at_139) k) ?_
          show OEndsW p e below s _ _ _ _ _ (U1.setTop (mkF m 142 #[.val (.int p0), .val (.int p1), .val (.int p2), .val (.int p3), .val (.int p4), .val (.int p5), .val (.int (p0 &&& (3 : Int32))), .val (.ref ty), .val (.int (p3 &&& (3 : Int32))), .val (.int o), .val (.int c0), .val (.int c1), .val (.int c2), .val (.int d0), .unset, .unset, .unset, .unset, .unset, .unset, .unset] [(.int (255 : Int32)), (.int ((p2.toUInt32 >>> ((8 : Int32) &&& 31).toUInt32).toInt32))]))
          refine OEndsW.via (fun _ k => XS.iand XU1.here hx rfl (hb hby at_142) rfl k) ?_
          show OEndsW p e below s _ _ _ _ _ (U1.setTop (mkF m 143 #[.val (.int p0), .val (.int p1), .val (.int p2), .val (.int p3), .val (.int p4), .val (.int p5), .val (.int (p0 &&& (3 : Int32))), .val (.ref ty), .val (.int (p3 &&& (3 : Int32))), .val (.int o), .val (.int c0), .val (.int c1), .val (.int c2), .val (.int d0), .unset, .unset, .unset, .unset, .unset, .unset, .unset] [(.int (((p2.toUInt32 >>> ((8 : Int32) &&& 31).toUInt32).toInt32) &&& (255 : Int32)))]))
          refine OEndsW.via (fun _ k => XS.i2c XU1.here hx rfl (hb hby at_143) rfl k) ?_
          show OEndsW p e below s _ _ _ _ _ (U1.setTop (mkF m 144 #[.val (.int p0), .val (.int p1), .val (.int p2), .val (.int p3), .val (.int p4), .val (.int p5), .val (.int (p0 &&& (3 : Int32))), .val (.ref ty), .val (.int (p3 &&& (3 : Int32))), .val (.int o), .val (.int c0), .val (.int c1), .val (.int c2), .val (.int d0), .unset, .unset, .unset, .unset, .unset, .unset, .unset] [(.int ((((p2.toUInt32 >>> ((8 : Int32) &&& 31).toUInt32).toInt32) &&& (255 : Int32)).toUInt32.toUInt16.toUInt32.toInt32))]))
          exact J4 _ (own_and255 _)
        · skip
          refine OEndsW.via (fun _ k => XS.ifNo XU1.here hx rfl (hb hby at_127) rfl ((if0 _ _).trans (feq hc127_31).1) k) ?_
          show OEndsW p e below s _ _ _ _ _ (U1.setTop (mkF m 130 #[.val (.int p0), .val (.int p1), .val (.int p2), .val (.int p3), .val (.int p4), .val (.int p5), .val (.int (p0 &&& (3 : Int32))), .val (.ref ty), .val (.int (p3 &&& (3 : Int32))), .val (.int o), .val (.int c0), .val (.int c1), .val (.int c2), .val (.int d0), .unset, .unset, .unset, .unset, .unset, .unset, .unset] []))
          refine OEndsW.via (fun _ k => XS.iload XU1.here hx rfl (hb hby at_130) rfl k) ?_
          show OEndsW p e below s _ _ _ _ _ (U1.setTop (mkF m 132 #[.val (.int p0), .val (.int p1), .val (.int p2), .val (.int p3), .val (.int p4), .val (.int p5), .val (.int (p0 &&& (3 : Int32))), .val (.ref ty), .val (.int (p3 &&& (3 : Int32))), .val (.int o), .val (.int c0), .val (.int c1), .val (.int c2), .val (.int d0), .unset, .unset, .unset, .unset, .unset, .unset, .unset] [(.int c1)]))
          refine OEndsW.via (fun _ k => XS.goto XU1.here hx rfl (pc0 := 132) (pc' := 144) rfl (hb hby at_132) (by decide) (by decide) k) ?_
          show OEndsW p e below s _ _ _ _ _ (U1.setTop (mkF m 144 #[.val (.int p0), .val (.int p1), .val (.int p2), .val (.int p3), .val (.int p4), .val (.int p5), .val (.int (p0 &&& (3 : Int32))), .val (.ref ty), .val (.int (p3 &&& (3 : Int32))), .val (.int o), .val (.int c0), .val (.int c1), .val (.int c2), .val (.int d0), .unset, .unset, .unset, .unset, .unset, .unset, .unset] [(.int c1)]))
          exact J4 c1 hc1
      by_cases hc106_32 : (((p3.toUInt32 >>> ((4 : Int32) &&& 31).toUInt32).toInt32) &&& (1 : Int32)) = (0 : Int32)
      · skip
        refine OEndsW.via (fun _ k => XS.ifYes XU1.here hx rfl (pc0 := 106) (pc' := 114) rfl (hb hby at_106) rfl ((if0 _ _).trans (teq hc106_32).1) (by decide) (by decide) k) ?_
        show OEndsW p e below s _ _ _ _ _ (U1.setTop (mkF m 114 #[.val (.int p0), .val (.int p1), .val (.int p2), .val (.int p3), .val (.int p4), .val (.int p5), .val (.int (p0 &&& (3 : Int32))), .val (.ref ty), .val (.int (p3 &&& (3 : Int32))), .val (.int o), .val (.int c0), .val (.int c1), .val (.int c2), .unset, .unset, .unset, .unset, .unset, .unset, .unset, .unset] []))
        refine OEndsW.via (fun _ k => XS.iloadN XU1.here hx rfl (hb hby at_114) rfl k) ?_
        show OEndsW p e below s _ _ _ _ _ (U1.setTop (mkF m 115 #[.val (.int p0), .val (.int p1), .val (.int p2), .val (.int p3), .val (.int p4), .val (.int p5), .val (.int (p0 &&& (3 : Int32))), .val (.ref ty), .val (.int (p3 &&& (3 : Int32))), .val (.int o), .val (.int c0), .val (.int c1), .val (.int c2), .unset, .unset, .unset, .unset, .unset, .unset, .unset, .unset] [(.int p2)]))
        refine OEndsW.via (fun _ k => XS.sipush XU1.here hx rfl (hb hby at_115) k) ?_
        show OEndsW p e below s _ _ _ _ _ (U1.setTop (mkF m 118 #[.val (.int p0), .val (.int p1), .val (.int p2), .val (.int p3), .val (.int p4), .val (.int p5), .val (.int (p0 &&& (3 : Int32))), .val (.ref ty), .val (.int (p3 &&& (3 : Int32))), .val (.int o), .val (.int c0), .val (.int c1), .val (.int c2), .unset, .unset, .unset, .unset, .unset, .unset, .unset, .unset] [(.int (255 : Int32)), (.int p2)]))
        refine OEndsW.via (fun _ k => XS.iand XU1.here hx rfl (hb hby at_118) rfl k) ?_
        show OEndsW p e below s _ _ _ _ _ (U1.setTop (mkF m 119 #[.val (.int p0), .val (.int p1), .val (.int p2), .val (.int p3), .val (.int p4), .val (.int p5), .val (.int (p0 &&& (3 : Int32))), .val (.ref ty), .val (.int (p3 &&& (3 : Int32))), .val (.int o), .val (.int c0), .val (.int c1), .val (.int c2), .unset, .unset, .unset, .unset, .unset, .unset, .unset, .unset] [(.int (p2 &&& (255 : Int32)))]))
        refine OEndsW.via (fun _ k => XS.i2c XU1.here hx rfl (hb hby at_119) rfl k) ?_
        show OEndsW p e below s _ _ _ _ _ (U1.setTop (mkF m 120 #[.val (.int p0), .val (.int p1), .val (.int p2), .val (.int p3), .val (.int p4), .val (.int p5), .val (.int (p0 &&& (3 : Int32))), .val (.ref ty), .val (.int (p3 &&& (3 : Int32))), .val (.int o), .val (.int c0), .val (.int c1), .val (.int c2), .unset, .unset, .unset, .unset, .unset, .unset, .unset, .unset] [(.int ((p2 &&& (255 : Int32)).toUInt32.toUInt16.toUInt32.toInt32))]))
        exact J3 _ (own_and255 _)
      · skip
        refine OEndsW.via (fun _ k => XS.ifNo XU1.here hx rfl (hb hby at_106) rfl ((if0 _ _).trans (feq hc106_32).1) k) ?_
        show OEndsW p e below s _ _ _ _ _ (U1.setTop (mkF m 109 #[.val (.int p0), .val (.int p1), .val (.int p2), .val (.int p3), .val (.int p4), .val (.int p5), .val (.int (p0 &&& (3 : Int32))), .val (.ref ty), .val (.int (p3 &&& (3 : Int32))), .val (.int o), .val (.int c0), .val (.int c1), .val (.int c2), .unset, .unset, .unset, .unset, .unset, .unset, .unset, .unset] []))
        refine OEndsW.via (fun _ k => XS.iload XU1.here hx rfl (hb hby at_109) rfl k) ?_
        show OEndsW p e below s _ _ _ _ _ (U1.setTop (mkF m 111 #[.val (.int p0), .val (.int p1), .val (.int p2), .val (.int p3), .val (.int p4), .val (.int p5), .val (.int (p0 &&& (3 : Int32))), .val (.ref ty), .val (.int (p3 &&& (3 : Int32))), .val (.int o), .val (.int c0), .val (.int c1), .val (.int c2), .unset, .unset, .unset, .unset, .unset, .unset, .unset, .unset] [(.int c0)]))
        refine OEndsW.via (fun _ k => XS.goto XU1.here hx rfl (pc0 := 111) (pc' := 120) rfl (hb hby at_111) (by decide) (by decide) k) ?_
        show OEndsW p e below s _ _ _ _ _ (U1.setTop (mkF m 120 #[.val (.int p0), .val (.int p1), .val (.int p2), .val (.int p3), .val (.int p4), .val (.int p5), .val (.int (p0 &&& (3 : Int32))), .val (.ref ty), .val (.int (p3 &&& (3 : Int32))), .val (.int o), .val (.int c0), .val (.int c1), .val (.int c2), .unset, .unset, .unset, .unset, .unset, .unset, .unset, .unset] [(.int c0)]))
        exact J3 c0 hc0
    by_cases hc56_33 : (((p3.toUInt32 >>> ((7 : Int32) &&& 31).toUInt32).toInt32) &&& (1 : Int32)) = (0 : Int32)
    · skip
      refine OEndsW.via (fun _ k => XS.ifYes XU1.here hx rfl (pc0 := 56) (pc' := 64) rfl (hb hby at_56) rfl ((if0 _ _).trans (teq hc56_33).1) (by decide) (by decide) k) ?_
      show OEndsW p e below s _ _ _ _ _ (U1.setTop (mkF m 64 #[.val (.int p0), .val (.int p1), .val (.int p2), .val (.int p3), .val (.int p4), .val (.int p5), .val (.int (p0 &&& (3 : Int32))), .val (.ref ty), .val (.int (p3 &&& (3 : Int32))), .unset, .unset, .unset, .unset, .unset, .unset, .unset, .unset, .unset, .unset, .unset, .unset] []))
      refine OEndsW.via (fun _ k => XS.iloadN XU1.here hx rfl (hb hby at_64) rfl k) ?_
      show OEndsW p e below s _ _ _ _ _ (U1.setTop (mkF m 65 #[.val (.int p0), .val (.int p1), .val (.int p2), .val (.int p3), .val (.int p4), .val (.int p5), .val (.int (p0 &&& (3 : Int32))), .val (.ref ty), .val (.int (p3 &&& (3 : Int32))), .unset, .unset, .unset, .unset, .unset, .unset, .unset, .unset, .unset, .unset, .unset, .unset] [(.int p3)]))
      refine OEndsW.via (fun _ k => XS.iconst XU1.here hx rfl (hb hby at_65) k) ?_
      show OEndsW p e below s _ _ _ _ _ (U1.setTop (mkF m 66 #[.val (.int p0), .val (.int p1), .val (.int p2), .val (.int p3), .val (.int p4), .val (.int p5), .val (.int (p0 &&& (3 : Int32))), .val (.ref ty), .val (.int (p3 &&& (3 : Int32))), .unset, .unset, .unset, .unset, .unset, .unset, .unset, .unset, .unset, .unset, .unset, .unset] [(.int (2 : Int32)), (.int p3)]))
      refine OEndsW.via (fun _ k => XS.iushr XU1.here hx rfl (hb hby at_66) rfl k) ?_
      show OEndsW p e below s _ _ _ _ _ (U1.setTop (mkF m 67 #[.val (.int p0), .val (.int p1), .val (.int p2), .val (.int p3), .val (.int p4), .val (.int p5), .val (.int (p0 &&& (3 : Int32))), .val (.ref ty), .val (.int (p3 &&& (3 : Int32))), .unset, .unset, .unset, .unset, .unset, .unset, .unset, .unset, .unset, .unset, .unset, .unset] [(.int ((p3.toUInt32 >>> ((2 : Int32) &&& 31).toUInt32).toInt32))]))
      refine OEndsW.via (fun _ k => XS.iconst XU1.here hx rfl (hb hby at_67) k) ?_
      show OEndsW p e below s _ _ _ _ _ (U1.setTop (mkF m 68 #[.val (.int p0), .val (.int p1), .val (.int p2), .val (.int p3), .val (.int p4), .val (.int p5), .val (.int (p0 &&& (3 : Int32))), .val (.ref ty), .val (.int (p3 &&& (3 : Int32))), .unset, .unset, .unset, .unset, .unset, .unset, .unset, .unset, .unset, .unset, .unset, .unset] [(.int (3 : Int32)), (.int ((p3.toUInt32 >>> ((2 : Int32) &&& 31).toUInt32).toInt32))]))
      refine OEndsW.via (fun _ k => XS.iand XU1.here hx rfl (hb hby at_68) rfl k) ?_
      show OEndsW p e below s _ _ _ _ _ (U1.setTop (mkF m 69 #[.val (.int p0), .val (.int p1), .val (.int p2), .val (.int p3), .val (.int p4), .val (.int p5), .val (.int (p0 &&& (3 : Int32))), .val (.ref ty), .val (.int (p3 &&& (3 : Int32))), .unset, .unset, .unset, .unset, .unset, .unset, .unset, .unset, .unset, .unset, .unset, .unset] [(.int (((p3.toUInt32 >>> ((2 : Int32) &&& 31).toUInt32).toInt32) &&& (3 : Int32)))]))
      exact J2 (((p3.toUInt32 >>> ((2 : Int32) &&& 31).toUInt32).toInt32) &&& (3 : Int32)) (own_and3 _)
    · skip
      refine OEndsW.via (fun _ k => XS.ifNo XU1.here hx rfl (hb hby at_56) rfl ((if0 _ _).trans (feq hc56_33).1) k) ?_
      show OEndsW p e below s _ _ _ _ _ (U1.setTop (mkF m 59 #[.val (.int p0), .val (.int p1), .val (.int p2), .val (.int p3), .val (.int p4), .val (.int p5), .val (.int (p0 &&& (3 : Int32))), .val (.ref ty), .val (.int (p3 &&& (3 : Int32))), .unset, .unset, .unset, .unset, .unset, .unset, .unset, .unset, .unset, .unset, .unset, .unset] []))
      refine OEndsW.via (fun _ k => XS.iload XU1.here hx rfl (hb hby at_59) rfl k) ?_
      show OEndsW p e below s _ _ _ _ _ (U1.setTop (mkF m 61 #[.val (.int p0), .val (.int p1), .val (.int p2), .val (.int p3), .val (.int p4), .val (.int p5), .val (.int (p0 &&& (3 : Int32))), .val (.ref ty), .val (.int (p3 &&& (3 : Int32))), .unset, .unset, .unset, .unset, .unset, .unset, .unset, .unset, .unset, .unset, .unset, .unset] [(.int (p3 &&& (3 : Int32)))]))
      refine OEndsW.via (fun _ k => XS.goto XU1.here hx rfl (pc0 := 61) (pc' := 69) rfl (hb hby at_61) (by decide) (by decide) k) ?_
      show OEndsW p e below s _ _ _ _ _ (U1.setTop (mkF m 69 #[.val (.int p0), .val (.int p1), .val (.int p2), .val (.int p3), .val (.int p4), .val (.int p5), .val (.int (p0 &&& (3 : Int32))), .val (.ref ty), .val (.int (p3 &&& (3 : Int32))), .unset, .unset, .unset, .unset, .unset, .unset, .unset, .unset, .unset, .unset, .unset, .unset] [(.int (p3 &&& (3 : Int32)))]))
      exact J2 (p3 &&& (3 : Int32)) (own_and3 _)
  by_cases hc7_34 : (p0 &&& (3 : Int32)) = (0 : Int32)
  · skip
    refine OEndsW.via (fun _ k => XS.ifNo X0.here hx rfl (hb hby at_7) rfl ((if0 _ _).trans (teq hc7_34).2) k) ?_
    show OEndsW p e below s _ _ _ _ _ (s₁.setTop (mkF m 10 #[.val (.int p0), .val (.int p1), .val (.int p2), .val (.int p3), .val (.int p4), .val (.int p5), .val (.int (p0 &&& (3 : Int32))), .unset, .unset, .unset, .unset, .unset, .unset, .unset, .unset, .unset, .unset, .unset, .unset, .unset, .unset] []))
    obtain ⟨T36, X36, e36, st36⟩ := getS2 X0 hx hZ hown (host := "") (Or.inl (hw _ (List.mem_of_getElem? (i := 0) rfl))) Via.refl e0 (Sta.ext Od.2 S_OPEN) (g := (mkF m 10 #[.val (.int p0), .val (.int p1), .val (.int p2), .val (.int p3), .val (.int p4), .val (.int p5), .val (.int (p0 &&& (3 : Int32))), .unset, .unset, .unset, .unset, .unset, .unset, .unset, .unset, .unset, .unset, .unset, .unset, .unset, .unset] [])) rfl (hb hby at_10)
    refine OEndsW.via (fun _ k => st36 _ k) ?_
    show OEndsW p e below s _ _ _ _ _ (T36.setTop (mkF m 13 #[.val (.int p0), .val (.int p1), .val (.int p2), .val (.int p3), .val (.int p4), .val (.int p5), .val (.int (p0 &&& (3 : Int32))), .unset, .unset, .unset, .unset, .unset, .unset, .unset, .unset, .unset, .unset, .unset, .unset, .unset, .unset] [(.ref a_OPEN)]))
    refine OEndsW.via (fun _ k => XS.goto X36.here hx rfl (pc0 := 13) (pc' := 43) rfl (hb hby at_13) (by decide) (by decide) k) ?_
    show OEndsW p e below s _ _ _ _ _ (T36.setTop (mkF m 43 #[.val (.int p0), .val (.int p1), .val (.int p2), .val (.int p3), .val (.int p4), .val (.int p5), .val (.int (p0 &&& (3 : Int32))), .unset, .unset, .unset, .unset, .unset, .unset, .unset, .unset, .unset, .unset, .unset, .unset, .unset, .unset] [(.ref a_OPEN)]))
    exact J1 T36 X36 e36 a_OPEN (Or.inr ⟨fun q => absurd (hc7_34.symm.trans q) (by decide), ne_OPEN⟩)
  · skip
    refine OEndsW.via (fun _ k => XS.ifYes X0.here hx rfl (pc0 := 7) (pc' := 16) rfl (hb hby at_7) rfl ((if0 _ _).trans (feq hc7_34).2) (by decide) (by decide) k) ?_
    show OEndsW p e below s _ _ _ _ _ (s₁.setTop (mkF m 16 #[.val (.int p0), .val (.int p1), .val (.int p2), .val (.int p3), .val (.int p4), .val (.int p5), .val (.int (p0 &&& (3 : Int32))), .unset, .unset, .unset, .unset, .unset, .unset, .unset, .unset, .unset, .unset, .unset, .unset, .unset, .unset] []))
    refine OEndsW.via (fun _ k => XS.iload X0.here hx rfl (hb hby at_16) rfl k) ?_
    show OEndsW p e below s _ _ _ _ _ (s₁.setTop (mkF m 18 #[.val (.int p0), .val (.int p1), .val (.int p2), .val (.int p3), .val (.int p4), .val (.int p5), .val (.int (p0 &&& (3 : Int32))), .unset, .unset, .unset, .unset, .unset, .unset, .unset, .unset, .unset, .unset, .unset, .unset, .unset, .unset] [(.int (p0 &&& (3 : Int32)))]))
    refine OEndsW.via (fun _ k => XS.iconst X0.here hx rfl (hb hby at_18) k) ?_
    show OEndsW p e below s _ _ _ _ _ (s₁.setTop (mkF m 19 #[.val (.int p0), .val (.int p1), .val (.int p2), .val (.int p3), .val (.int p4), .val (.int p5), .val (.int (p0 &&& (3 : Int32))), .unset, .unset, .unset, .unset, .unset, .unset, .unset, .unset, .unset, .unset, .unset, .unset, .unset, .unset] [(.int (1 : Int32)), (.int (p0 &&& (3 : Int32)))]))
    by_cases hc19_36 : (p0 &&& (3 : Int32)) = (1 : Int32)
    · skip
      refine OEndsW.via (fun _ k => XS.icmpNo X0.here hx rfl (hb hby at_19) rfl (teq hc19_36).2 k) ?_
      show OEndsW p e below s _ _ _ _ _ (s₁.setTop (mkF m 22 #[.val (.int p0), .val (.int p1), .val (.int p2), .val (.int p3), .val (.int p4), .val (.int p5), .val (.int (p0 &&& (3 : Int32))), .unset, .unset, .unset, .unset, .unset, .unset, .unset, .unset, .unset, .unset, .unset, .unset, .unset, .unset] []))
      obtain ⟨T38, X38, e38, st38⟩ := getS2 X0 hx hZ hown (host := "") (Or.inl (hw _ (List.mem_of_getElem? (i := 67) rfl))) Via.refl e0 (Sta.ext Od.2 S_CLOSE) (g := (mkF m 22 #[.val (.int p0), .val (.int p1), .val (.int p2), .val (.int p3), .val (.int p4), .val (.int p5), .val (.int (p0 &&& (3 : Int32))), .unset, .unset, .unset, .unset, .unset, .unset, .unset, .unset, .unset, .unset, .unset, .unset, .unset, .unset] [])) rfl (hb hby at_22)
      refine OEndsW.via (fun _ k => st38 _ k) ?_
      show OEndsW p e below s _ _ _ _ _ (T38.setTop (mkF m 25 #[.val (.int p0), .val (.int p1), .val (.int p2), .val (.int p3), .val (.int p4), .val (.int p5), .val (.int (p0 &&& (3 : Int32))), .unset, .unset, .unset, .unset, .unset, .unset, .unset, .unset, .unset, .unset, .unset, .unset, .unset, .unset] [(.ref a_CLOSE)]))
      refine OEndsW.via (fun _ k => XS.goto X38.here hx rfl (pc0 := 25) (pc' := 43) rfl (hb hby at_25) (by decide) (by decide) k) ?_
      show OEndsW p e below s _ _ _ _ _ (T38.setTop (mkF m 43 #[.val (.int p0), .val (.int p1), .val (.int p2), .val (.int p3), .val (.int p4), .val (.int p5), .val (.int (p0 &&& (3 : Int32))), .unset, .unset, .unset, .unset, .unset, .unset, .unset, .unset, .unset, .unset, .unset, .unset, .unset, .unset] [(.ref a_CLOSE)]))
      exact J1 T38 X38 e38 a_CLOSE (Or.inr ⟨fun q => absurd (hc19_36.symm.trans q) (by decide), ne_CLOSE⟩)
    · skip
      refine OEndsW.via (fun _ k => XS.icmpYes X0.here hx rfl (pc0 := 19) (pc' := 28) rfl (hb hby at_19) rfl (feq hc19_36).2 (by decide) (by decide) k) ?_
      show OEndsW p e below s _ _ _ _ _ (s₁.setTop (mkF m 28 #[.val (.int p0), .val (.int p1), .val (.int p2), .val (.int p3), .val (.int p4), .val (.int p5), .val (.int (p0 &&& (3 : Int32))), .unset, .unset, .unset, .unset, .unset, .unset, .unset, .unset, .unset, .unset, .unset, .unset, .unset, .unset] []))
      refine OEndsW.via (fun _ k => XS.iload X0.here hx rfl (hb hby at_28) rfl k) ?_
      show OEndsW p e below s _ _ _ _ _ (s₁.setTop (mkF m 30 #[.val (.int p0), .val (.int p1), .val (.int p2), .val (.int p3), .val (.int p4), .val (.int p5), .val (.int (p0 &&& (3 : Int32))), .unset, .unset, .unset, .unset, .unset, .unset, .unset, .unset, .unset, .unset, .unset, .unset, .unset, .unset] [(.int (p0 &&& (3 : Int32)))]))
      refine OEndsW.via (fun _ k => XS.iconst X0.here hx rfl (hb hby at_30) k) ?_
      show OEndsW p e below s _ _ _ _ _ (s₁.setTop (mkF m 31 #[.val (.int p0), .val (.int p1), .val (.int p2), .val (.int p3), .val (.int p4), .val (.int p5), .val (.int (p0 &&& (3 : Int32))), .unset, .unset, .unset, .unset, .unset, .unset, .unset, .unset, .unset, .unset, .unset, .unset, .unset, .unset] [(.int (2 : Int32)), (.int (p0 &&& (3 : Int32)))]))
      by_cases hc31_38 : (p0 &&& (3 : Int32)) = (2 : Int32)
      · skip
        refine OEndsW.via (fun _ k => XS.icmpNo X0.here hx rfl (hb hby at_31) rfl (teq hc31_38).2 k) ?_
        show OEndsW p e below s _ _ _ _ _ (s₁.setTop (mkF m 34 #[.val (.int p0), .val (.int p1), .val (.int p2), .val (.int p3), .val (.int p4), .val (.int p5), .val (.int (p0 &&& (3 : Int32))), .unset, .unset, .unset, .unset, .unset, .unset, .unset, .unset, .unset, .unset, .unset, .unset, .unset, .unset] []))
        obtain ⟨T40, X40, e40, st40⟩ := getS2 X0 hx hZ hown (host := "") (Or.inl (hw _ (List.mem_of_getElem? (i := 80) rfl))) Via.refl e0 (Sta.ext Od.2 S_PHRASE) (g := (mkF m 34 #[.val (.int p0), .val (.int p1), .val (.int p2), .val (.int p3), .val (.int p4), .val (.int p5), .val (.int (p0 &&& (3 : Int32))), .unset, .unset, .unset, .unset, .unset, .unset, .unset, .unset, .unset, .unset, .unset, .unset, .unset, .unset] [])) rfl (hb hby at_34)
        refine OEndsW.via (fun _ k => st40 _ k) ?_
        show OEndsW p e below s _ _ _ _ _ (T40.setTop (mkF m 37 #[.val (.int p0), .val (.int p1), .val (.int p2), .val (.int p3), .val (.int p4), .val (.int p5), .val (.int (p0 &&& (3 : Int32))), .unset, .unset, .unset, .unset, .unset, .unset, .unset, .unset, .unset, .unset, .unset, .unset, .unset, .unset] [(.ref a_PHRASE)]))
        refine OEndsW.via (fun _ k => XS.goto X40.here hx rfl (pc0 := 37) (pc' := 43) rfl (hb hby at_37) (by decide) (by decide) k) ?_
        show OEndsW p e below s _ _ _ _ _ (T40.setTop (mkF m 43 #[.val (.int p0), .val (.int p1), .val (.int p2), .val (.int p3), .val (.int p4), .val (.int p5), .val (.int (p0 &&& (3 : Int32))), .unset, .unset, .unset, .unset, .unset, .unset, .unset, .unset, .unset, .unset, .unset, .unset, .unset, .unset] [(.ref a_PHRASE)]))
        exact J1 T40 X40 e40 a_PHRASE (Or.inr ⟨fun q => absurd (hc31_38.symm.trans q) (by decide), ne_PHRASE⟩)
      · skip
        refine OEndsW.via (fun _ k => XS.icmpYes X0.here hx rfl (pc0 := 31) (pc' := 40) rfl (hb hby at_31) rfl (feq hc31_38).2 (by decide) (by decide) k) ?_
        show OEndsW p e below s _ _ _ _ _ (s₁.setTop (mkF m 40 #[.val (.int p0), .val (.int p1), .val (.int p2), .val (.int p3), .val (.int p4), .val (.int p5), .val (.int (p0 &&& (3 : Int32))), .unset, .unset, .unset, .unset, .unset, .unset, .unset, .unset, .unset, .unset, .unset, .unset, .unset, .unset] []))
        obtain ⟨T41, X41, e41, st41⟩ := getS2 X0 hx hZ hown (host := "") (Or.inl (hw _ (List.mem_of_getElem? (i := 69) rfl))) Via.refl e0 (Sta.ext Od.2 S_WORD) (g := (mkF m 40 #[.val (.int p0), .val (.int p1), .val (.int p2), .val (.int p3), .val (.int p4), .val (.int p5), .val (.int (p0 &&& (3 : Int32))), .unset, .unset, .unset, .unset, .unset, .unset, .unset, .unset, .unset, .unset, .unset, .unset, .unset, .unset] [])) rfl (hb hby at_40)
        refine OEndsW.via (fun _ k => st41 _ k) ?_
        show OEndsW p e below s _ _ _ _ _ (T41.setTop (mkF m 43 #[.val (.int p0), .val (.int p1), .val (.int p2), .val (.int p3), .val (.int p4), .val (.int p5), .val (.int (p0 &&& (3 : Int32))), .unset, .unset, .unset, .unset, .unset, .unset, .unset, .unset, .unset, .unset, .unset, .unset, .unset, .unset] [(.ref a_WORD)]))
        exact J1 T41 X41 e41 a_WORD (Or.inl ⟨(own_and3 p0).elim (fun q => absurd q hc7_34) (fun q => q.elim (fun q => absurd q hc19_36) (fun q => q.elim (fun q => absurd q hc31_38) id)), rfl⟩)
set_option maxRecDepth 65536 in
set_option maxHeartbeats 40000000 in
theorem comes_1 {Post : Tables → Env → Array Value → State → Outcome → State → Prop} (hpost : ∀ tb e args s v u, (limb_1_1.after args s (.returned v) u = true ∧ limb_1_2.after args s (.returned v) u = true ∧ True) → ReturnedEndW s (.returned v) u (Jvm.fieldLocs frame_1_writes args s ++ Jvm.arrayLocs frame_1_arrays args s ++ Jvm.staticLocs frame_1_statics s) 24 1152 → Post tb e args s (.returned v) u) :
    ArmFor flags0 classFile x code maxLocals ret World_1 tables_1 room_1 Calls_1 rest_1 Pre_1 Post := by
  intro l hfl _ _ p e ha hc hk s m args below hf hA hF happ hP
  obtain ⟨hcalls, hrest, hpre⟩ := hP
  obtain ⟨-, -, -, hnamed, -, -, -, hat⟩ := (Spec.applies_iff hf).mp happ
  obtain ⟨hg, hn⟩ := and_e (Cond.before_iff.mp (show (Jvm.Cond.and given_1 narrow_1).before args s = true from hpre))
  obtain ⟨g1, g2⟩ := and_e hg
  obtain ⟨g3, g4⟩ := and_e g2
  obtain ⟨g5, g6⟩ := and_e g4
  obtain ⟨g7, g8⟩ := and_e g6
  obtain ⟨g9, g10⟩ := and_e g8
  obtain ⟨g11, g12⟩ := and_e g10
  obtain ⟨w0, w1, w2, w3, w4, w5, rfl⟩ : ∃ w0 w1 w2 w3 w4 w5 : Value, args = #[w0, w1, w2, w3, w4, w5] := by
    have hs : args.size = 6 := by simpa [Cond.value, given_1] using g1
    obtain ⟨L⟩ := args
    match L, hs with
    | [w0, w1, w2, w3, w4, w5], _ => exact ⟨w0, w1, w2, w3, w4, w5, rfl⟩
  have hw := fun d (hd : d ∈ tables_1) => atoms_spec (ws := Jvm.Cond.code x code maxLocals ret :: tables_1) hat d (List.mem_cons_of_mem _ hd)
  have hfit : Fit s := fun {y c} hc i hi => by
    obtain ⟨ha, rfl⟩ := Array.getElem?_eq_some_iff.mp hc
    have q := List.all_eq_true.mp ((Array.all_eq_true_iff_forall_mem.mp hF) _ (Array.getElem_mem ha)) i (List.mem_range.mpr hi)
    simpa [Array.getElem?_eq_getElem hi] using q
  obtain ⟨hsets, hown0⟩ := atoms_of _ (rest_1_c_eq ▸ (show rest_1_c.before _ s = true from hrest))
  have hr0 := Cond.before_iff.mp hown0
  obtain ⟨i0, ei0⟩ := is_v g3
  obtain rfl : w0 = (.int i0) := Option.some.inj ei0
  obtain ⟨i1, ei1⟩ := is_v g5
  obtain rfl : w1 = (.int i1) := Option.some.inj ei1
  obtain ⟨i2, ei2⟩ := is_v g7
  obtain rfl : w2 = (.int i2) := Option.some.inj ei2
  obtain ⟨i3, ei3⟩ := is_v g9
  obtain rfl : w3 = (.int i3) := Option.some.inj ei3
  obtain ⟨i4, ei4⟩ := is_v g11
  obtain rfl : w4 = (.int i4) := Option.some.inj ei4
  obtain ⟨i5, ei5⟩ := is_v g12
  obtain rfl : w5 = (.int i5) := Option.some.inj ei5
  obtain ⟨g13, g14⟩ := and_e hn
  obtain ⟨g15, g16⟩ := and_e g14
  obtain ⟨g17, g18⟩ := and_e g16
  obtain ⟨g19, g20⟩ := and_e g18
  obtain ⟨g21, g22⟩ := and_e g20
  obtain ⟨g23, g24⟩ := and_e g22
  obtain ⟨g25, g26⟩ := and_e g24
  obtain ⟨a_COMPACT_STRINGS, ev_a_COMPACT_STRINGS⟩ := is_v (Cond.before_iff.mp (hsets _ (List.mem_of_getElem? (i := 1) rfl)))
  have S_a_COMPACT_STRINGS : Sta s s.heap "java/lang/String" "COMPACT_STRINGS" "Z" (.int a_COMPACT_STRINGS) := Sta.start ev_a_COMPACT_STRINGS (Or.inl (hsets _ (List.mem_of_getElem? (i := 0) rfl)))
  obtain ⟨a_SIOOBE_FORMATTER, ev_a_SIOOBE_FORMATTER, rf_a_SIOOBE_FORMATTER⟩ := isR_v (Cond.before_iff.mp (hsets _ (List.mem_of_getElem? (i := 8) rfl)))
  have S_a_SIOOBE_FORMATTER : Sta s s.heap "jdk/internal/util/Preconditions" "SIOOBE_FORMATTER" "Ljava/util/function/BiFunction;" a_SIOOBE_FORMATTER := Sta.start ev_a_SIOOBE_FORMATTER (Or.inl (hsets _ (List.mem_of_getElem? (i := 7) rfl)))
  have nz_a_COMPACT_STRINGS : ¬ (a_COMPACT_STRINGS = (0 : Int32)) := gotF (Cond.eq_ints ev_a_COMPACT_STRINGS (Term.int_eval (0))) (not_v (Cond.before_iff.mp (hsets _ (List.mem_of_getElem? (i := 2) rfl))))
  obtain ⟨a_OPEN, ev_a_OPEN⟩ := exa_v g13
  have S_a_OPEN : Sta s s.heap "com/example/charttop/charttop/query/Token$Type" "OPEN" "Lcom/example/charttop/charttop/query/Token$Type;" (.ref a_OPEN) := Sta.start ev_a_OPEN (Or.inr ⟨(hw _ (List.mem_of_getElem? (i := 1) rfl)), (hw _ (List.mem_of_getElem? (i := 2) rfl))⟩)
  have E_a_OPEN : Exa s s.heap a_OPEN "com/example/charttop/charttop/query/Token$Type" := Exa.start ev_a_OPEN g13
  obtain ⟨a_WORD, ev_a_WORD⟩ := exa_v g15
  have S_a_WORD : Sta s s.heap "com/example/charttop/charttop/query/Token$Type" "WORD" "Lcom/example/charttop/charttop/query/Token$Type;" (.ref a_WORD) := Sta.start ev_a_WORD (Or.inr ⟨(hw _ (List.mem_of_getElem? (i := 1) rfl)), (hw _ (List.mem_of_getElem? (i := 66) rfl))⟩)
  have E_a_WORD : Exa s s.heap a_WORD "com/example/charttop/charttop/query/Token$Type" := Exa.start ev_a_WORD g15
  obtain ⟨a_CLOSE, ev_a_CLOSE⟩ := exa_v g21
  have S_a_CLOSE : Sta s s.heap "com/example/charttop/charttop/query/Token$Type" "CLOSE" "Lcom/example/charttop/charttop/query/Token$Type;" (.ref a_CLOSE) := Sta.start ev_a_CLOSE (Or.inr ⟨(hw _ (List.mem_of_getElem? (i := 1) rfl)), (hw _ (List.mem_of_getElem? (i := 68) rfl))⟩)
  have E_a_CLOSE : Exa s s.heap a_CLOSE "com/example/charttop/charttop/query/Token$Type" := Exa.start ev_a_CLOSE g21
  obtain ⟨a_PHRASE, ev_a_PHRASE⟩ := exa_v g25
  have S_a_PHRASE : Sta s s.heap "com/example/charttop/charttop/query/Token$Type" "PHRASE" "Lcom/example/charttop/charttop/query/Token$Type;" (.ref a_PHRASE) := Sta.start ev_a_PHRASE (Or.inr ⟨(hw _ (List.mem_of_getElem? (i := 1) rfl)), (hw _ (List.mem_of_getElem? (i := 81) rfl))⟩)
  have E_a_PHRASE : Exa s s.heap a_PHRASE "com/example/charttop/charttop/query/Token$Type" := Exa.start ev_a_PHRASE g25
  have F_ordinal_a_OPEN : Fld s s.heap a_OPEN "java/lang/Enum" "ordinal" "I" (.int (0 : Int32)) := Fld.start ((fld_at ev_a_OPEN).symm.trans (own_eqint g17))
  have F_ordinal_a_WORD : Fld s s.heap a_WORD "java/lang/Enum" "ordinal" "I" (.int (3 : Int32)) := Fld.start ((fld_at ev_a_WORD).symm.trans (own_eqint g19))
  have F_ordinal_a_CLOSE : Fld s s.heap a_CLOSE "java/lang/Enum" "ordinal" "I" (.int (1 : Int32)) := Fld.start ((fld_at ev_a_CLOSE).symm.trans (own_eqint g23))
  have F_ordinal_a_PHRASE : Fld s s.heap a_PHRASE "java/lang/Enum" "ordinal" "I" (.int (2 : Int32)) := Fld.start ((fld_at ev_a_PHRASE).symm.trans (own_eqint g26))
  have ne_OPEN : a_OPEN ≠ a_WORD := Fld.ne F_ordinal_a_OPEN F_ordinal_a_WORD (by decide)
  have ne_CLOSE : a_CLOSE ≠ a_WORD := Fld.ne F_ordinal_a_CLOSE F_ordinal_a_WORD (by decide)
  have ne_PHRASE : a_PHRASE ≠ a_WORD := Fld.ne F_ordinal_a_PHRASE F_ordinal_a_WORD (by decide)
  have hCH0 : CHv s consts_1 s.vm s.heap := CHv.start (own_EW hw) (fun p hp => hcalls.1 p hp) (hsets _ (List.mem_of_getElem? (i := 2) rfl)) (hw _ (List.mem_of_getElem? (i := 26) rfl)) (hw _ (List.mem_of_getElem? (i := 8) rfl))
  obtain ⟨n, o, h1, h2, h3, _, L, rfl, ⟨rfl, N⟩, -, hq⟩ := rm0 l s _ hw tables_1 i0 i1 i2 i3 i4 i5 a_COMPACT_STRINGS a_OPEN a_CLOSE a_PHRASE a_WORD s.heap s.heap.size (Old.start s) S_a_COMPACT_STRINGS nz_a_COMPACT_STRINGS S_a_OPEN S_a_CLOSE S_a_PHRASE S_a_WORD ne_OPEN ne_CLOSE ne_PHRASE p e ha hc hk s m _ below hf ((Spec.applies_iff_loose hf).mp happ).1 ⟨rfl, State.Warmed39.refl s, rfl, hCH0⟩ trivial
  refine ⟨n, _, h1, h2, h3, hpost _ _ _ _ _ _ ⟨Cond.after_iff.mpr rfl, Cond.after_iff.mpr (eq_i res_at (Term.int_eval (1)) rfl), trivial⟩ ⟨hq.1, hq.2.1, hq.2.2.1, (hq.2.2.2.sift fun y hy => Or.inr (N y hy)).mono (by decide) (by decide)⟩⟩
theorem main_1_1 : Claimed_1_1 := comes_1 fun _ _ _ _ _ _ h hF => ⟨h.1, hF⟩
theorem main_1_2 : Claimed_1_2 := comes_1 fun _ _ _ _ _ _ h hF => ⟨h.2.1, hF⟩
end Jvm.Pilot.@@N@@
namespace Jvm.Pilot.@@N@@
open Jvm Jvm.ClassFile Sem Op Lib Jvm.Free Jvm.Stand Jvm.Pilot.@@N@@.Jvm.D
/-! MADE BY PROGRAM (witnessworld.py) out of the Statement's table words and the real class files: 23 classes; the members and pool entries that the words name. The judged class is class 1, her method 1. -/
namespace start1
open Jvm.ClassFile
def u (s : String) : CpInfo := .utf8 (stringToUtf16 s)
/-- a pool by its gaps: so many unusable entries, then the entry; so many at the end -/
def gap : Nat → List CpInfo → List CpInfo
  | 0, r => r
  | n + 1, r => .unusable :: gap n r
def poolList (es : List (Nat × CpInfo)) (last : Nat) : List CpInfo := es.foldr (fun e r => gap e.1 (e.2 :: r)) (gap last [])
def pool (es : List (Nat × CpInfo)) (last : Nat) : Array CpInfo := ⟨poolList es last⟩
def fileOf (pool : Array CpInfo) (this : Nat) (attrs : Array Attribute := #[]) (ms : Array MethodInfo := #[]) (fl : Nat := 33) (sup : Nat := 0) (ifs : Array Nat := #[]) (fds : Array FieldInfo := #[]) : ClassFile where
  minorVersion := 0
  majorVersion := 65
  constantPool := pool
  accessFlags := fl
  thisClass := this
  superClass := sup
  interfaces := ifs
  fields := fds
  methods := ms
  attributes := attrs
def plain (name : String) (sup : Option ClassId) : Class where
  name := name
  kind := .ordinary
  loader := none
  accessFlags := 33
  super := sup
  interfaces := #[]
  cf := none
  fields := #[]
  methods := #[]
  instanceTypes := #[]
  staticTypes := #[]
  resolved := #[]
  callSites := []
  init := .initialized
  statics := none
  mirror := none

def pool0 : Array CpInfo := pool [(5, u "<init>"), (0, u "()V"), (1, .class_ 10), (1, u "java/lang/Object")] 113

def k0c0 : Code := { maxStack := 0, maxLocals := 1, code := object_method_1_code, exceptionTable := #[], attributes := #[] }
def k0m0 : Method := { name := "<init>", desc := "()V", sig := { parameters := [], returnType := none }, accessFlags := 1, code := some k0c0 }
/-- java/lang/Object -/
def k0 : Class := { plain "java/lang/Object" none with
  accessFlags := 33
  interfaces := #[]
  cf := some (fileOf pool0 8 #[] #[{ accessFlags := 1, nameIndex := 5, descriptorIndex := 6, attributes := #[] }] 33 0 #[] #[])
  fields := #[]
  methods := #[k0m0]
  instanceTypes := #[]
  staticTypes := #[]
  resolved := Array.replicate 124 none
  statics := none }

def pool1 : Array CpInfo := pool [(2, .class_ 4), (1, u "java/lang/Object"), (0, u "<init>"), (0, u "()V"), (0, .fieldref 8 9), (0, .class_ 10), (0, .nameAndType 11 12), (0, u "com/example/charttop/charttop/query/Token$Type"), (0, u "OPEN"), (0, u "Lcom/example/charttop/charttop/query/Token$Type;"), (0, .fieldref 8 14), (0, .nameAndType 15 12), (0, u "CLOSE"), (0, .fieldref 8 17), (0, .nameAndType 18 12), (0, u "PHRASE"), (0, .fieldref 8 20), (0, .nameAndType 21 12), (0, u "WORD"), (0, .methodref 23 24), (0, .class_ 25), (0, .nameAndType 26 27), (0, u "com/example/charttop/charttop/query/TokenIsPinLaw"), (0, u "str"), (0, u "(ICCC)Ljava/lang/String;"), (0, .class_ 29), (0, u "com/example/charttop/charttop/query/Token"), (0, .methodref 28 31), (0, .nameAndType 5 32), (0, u "(Lcom/example/charttop/charttop/query/Token$Type;Ljava/lang/String;II)V"), (0, .methodref 28 34), (0, .nameAndType 35 36), (0, u "is"), (0, u "(Ljava/lang/String;)Z"), (0, .class_ 38), (0, u "java/lang/String"), (0, .methodref 37 40), (0, .nameAndType 5 41), (0, u "([C)V"), (2, u "law"), (0, u "(IIIIII)Z")] 5

def k1m0 : Method := { name := "<init>", desc := "()V", sig := { parameters := [], returnType := none }, accessFlags := 1, code := none }
def k1c1 : Code := { maxStack := 6, maxLocals := 21, code := code, exceptionTable := #[], attributes := #[] }
def k1m1 : Method := { name := "law", desc := "(IIIIII)Z", sig := { parameters := [.int, .int, .int, .int, .int, .int], returnType := some .boolean }, accessFlags := 9, code := some k1c1 }
def k1c2 : Code := { maxStack := 6, maxLocals := 4, code := method_3_code, exceptionTable := #[], attributes := #[] }
def k1m2 : Method := { name := "str", desc := "(ICCC)Ljava/lang/String;", sig := { parameters := [.int, .char, .char, .char], returnType := some (.object "java/lang/String") }, accessFlags := 10, code := some k1c2 }
/-- com/example/charttop/charttop/query/TokenIsPinLaw -/
def k1 : Class := { plain "com/example/charttop/charttop/query/TokenIsPinLaw" (some 0) with
  accessFlags := 49
  interfaces := #[]
  cf := some (fileOf pool1 23 #[] #[{ accessFlags := 1, nameIndex := 5, descriptorIndex := 6, attributes := #[] }, { accessFlags := 9, nameIndex := 44, descriptorIndex := 45, attributes := #[] }, { accessFlags := 10, nameIndex := 26, descriptorIndex := 27, attributes := #[] }] 49 2 #[] #[])
  fields := #[]
  methods := #[k1m0, k1m1, k1m2]
  instanceTypes := #[]
  staticTypes := #[]
  resolved := Array.replicate 51 none
  statics := none }

def pool2 : Array CpInfo := pool [(1, .class_ 2), (0, u "java/lang/constant/Constable"), (0, .class_ 4), (0, u "java/lang/Object")] 6

/-- java/lang/constant/Constable -/
def k2 : Class := { plain "java/lang/constant/Constable" (some 0) with
  accessFlags := 1537
  interfaces := #[]
  cf := some (fileOf pool2 1 #[] #[] 1537 3 #[] #[])
  fields := #[]
  methods := #[]
  instanceTypes := #[]
  staticTypes := #[]
  resolved := Array.replicate 11 none
  statics := none }

def pool3 : Array CpInfo := pool [(1, .class_ 2), (0, u "java/lang/Comparable"), (0, .class_ 4), (0, u "java/lang/Object")] 7

/-- java/lang/Comparable -/
def k3 : Class := { plain "java/lang/Comparable" (some 0) with
  accessFlags := 1537
  interfaces := #[]
  cf := some (fileOf pool3 1 #[] #[] 1537 3 #[] #[])
  fields := #[]
  methods := #[]
  instanceTypes := #[]
  staticTypes := #[]
  resolved := Array.replicate 12 none
  statics := none }

def pool4 : Array CpInfo := pool [(1, .class_ 2), (0, u "java/io/Serializable"), (0, .class_ 4), (0, u "java/lang/Object")] 2

/-- java/io/Serializable -/
def k4 : Class := { plain "java/io/Serializable" (some 0) with
  accessFlags := 1537
  interfaces := #[]
  cf := some (fileOf pool4 1 #[] #[] 1537 3 #[] #[])
  fields := #[]
  methods := #[]
  instanceTypes := #[]
  staticTypes := #[]
  resolved := Array.replicate 7 none
  statics := none }

def pool5 : Array CpInfo := pool [(2, .class_ 4), (1, u "java/lang/Enum"), (0, u "name"), (0, u "Ljava/lang/String;"), (2, u "ordinal"), (0, u "I"), (1, .class_ 14), (1, u "java/lang/Object"), (4, u "hash"), (86, .class_ 108), (1, u "java/lang/Enum$EnumDesc"), (2, .class_ 112), (0, u "java/lang/constant/Constable"), (0, .class_ 114), (0, u "java/lang/Comparable"), (0, .class_ 116), (0, u "java/io/Serializable")] 87

/-- java/lang/Enum -/
def k5 : Class := { plain "java/lang/Enum" (some 0) with
  accessFlags := 1057
  interfaces := #[2, 3, 4]
  cf := some (fileOf pool5 2 #[.nestMembers #[106]] #[] 1057 12 #[111, 113, 115] #[{ accessFlags := 18, nameIndex := 5, descriptorIndex := 6, attributes := #[] }, { accessFlags := 18, nameIndex := 9, descriptorIndex := 10, attributes := #[] }, { accessFlags := 2, nameIndex := 19, descriptorIndex := 10, attributes := #[] }])
  fields := #[{ name := "name", type := (.object "java/lang/String"), accessFlags := 18, slot := 0, constantValue := 0 }, { name := "ordinal", type := .int, accessFlags := 18, slot := 1, constantValue := 0 }, { name := "hash", type := .int, accessFlags := 2, slot := 2, constantValue := 0 }]
  methods := #[]
  instanceTypes := #[(.object "java/lang/String"), .int, .int]
  staticTypes := #[]
  resolved := Array.replicate 204 none
  statics := none }

def pool6 : Array CpInfo := pool [(1, .class_ 2), (0, u "com/example/charttop/charttop/query/Token$Type"), (2, u "OPEN"), (0, u "Lcom/example/charttop/charttop/query/Token$Type;"), (2, u "CLOSE"), (2, u "PHRASE"), (2, u "WORD"), (2, u "$VALUES"), (0, u "[Lcom/example/charttop/charttop/query/Token$Type;"), (6, .class_ 28), (1, u "java/lang/Enum"), (27, .class_ 57), (0, u "com/example/charttop/charttop/query/Token")] 2

/-- com/example/charttop/charttop/query/Token$Type -/
def k6 : Class := { plain "com/example/charttop/charttop/query/Token$Type" (some 5) with
  accessFlags := 16432
  interfaces := #[]
  cf := some (fileOf pool6 1 #[.nestHost 56] #[] 16432 26 #[] #[{ accessFlags := 16409, nameIndex := 5, descriptorIndex := 6, attributes := #[] }, { accessFlags := 16409, nameIndex := 9, descriptorIndex := 6, attributes := #[] }, { accessFlags := 16409, nameIndex := 12, descriptorIndex := 6, attributes := #[] }, { accessFlags := 16409, nameIndex := 15, descriptorIndex := 6, attributes := #[] }, { accessFlags := 4122, nameIndex := 18, descriptorIndex := 19, attributes := #[] }])
  fields := #[{ name := "OPEN", type := (.object "com/example/charttop/charttop/query/Token$Type"), accessFlags := 16409, slot := 0, constantValue := 0 }, { name := "CLOSE", type := (.object "com/example/charttop/charttop/query/Token$Type"), accessFlags := 16409, slot := 1, constantValue := 0 }, { name := "PHRASE", type := (.object "com/example/charttop/charttop/query/Token$Type"), accessFlags := 16409, slot := 2, constantValue := 0 }, { name := "WORD", type := (.object "com/example/charttop/charttop/query/Token$Type"), accessFlags := 16409, slot := 3, constantValue := 0 }, { name := "$VALUES", type := (.array (.object "com/example/charttop/charttop/query/Token$Type")), accessFlags := 4122, slot := 4, constantValue := 0 }]
  methods := #[]
  instanceTypes := #[(.object "java/lang/String"), .int, .int]
  staticTypes := #[(.object "com/example/charttop/charttop/query/Token$Type"), (.object "com/example/charttop/charttop/query/Token$Type"), (.object "com/example/charttop/charttop/query/Token$Type"), (.object "com/example/charttop/charttop/query/Token$Type"), (.array (.object "com/example/charttop/charttop/query/Token$Type"))]
  resolved := Array.replicate 60 none
  statics := some 0 }

def pool7 : Array CpInfo := pool [(2, .class_ 4), (1, u "java/lang/CharSequence"), (42, .class_ 48), (0, u "java/lang/CharSequence$1CodePointIterator"), (10, .class_ 60), (0, u "java/lang/CharSequence$1CharIterator"), (5, .class_ 67), (0, u "java/lang/Object")] 63

/-- java/lang/CharSequence -/
def k7 : Class := { plain "java/lang/CharSequence" (some 0) with
  accessFlags := 1537
  interfaces := #[]
  cf := some (fileOf pool7 2 #[.nestMembers #[47, 59]] #[] 1537 66 #[] #[])
  fields := #[]
  methods := #[]
  instanceTypes := #[]
  staticTypes := #[]
  resolved := Array.replicate 131 none
  statics := none }

def pool8 : Array CpInfo := pool [(1, .class_ 2), (0, u "java/lang/constant/ConstantDesc"), (0, .class_ 4), (0, u "java/lang/Object")] 32

/-- java/lang/constant/ConstantDesc -/
def k8 : Class := { plain "java/lang/constant/ConstantDesc" (some 0) with
  accessFlags := 1537
  interfaces := #[]
  cf := some (fileOf pool8 1 #[] #[] 1537 3 #[] #[])
  fields := #[]
  methods := #[]
  instanceTypes := #[]
  staticTypes := #[]
  resolved := Array.replicate 37 none
  statics := none }

def pool9 : Array CpInfo := pool [(1, .methodref 2 3), (0, .class_ 4), (0, .nameAndType 5 6), (0, u "java/lang/Object"), (0, u "<init>"), (0, u "()V"), (0, .string 8), (0, u ""), (0, .fieldref 10 11), (0, .class_ 12), (0, .nameAndType 13 14), (0, u "java/lang/String"), (0, u "value"), (0, u "[B"), (0, .fieldref 10 16), (0, .nameAndType 17 18), (0, u "coder"), (0, u "B"), (2, u "hash"), (0, u "I"), (2, u "hashIsZero"), (0, u "Z"), (0, .methodref 10 28), (0, .nameAndType 5 29), (0, u "([CIILjava/lang/Void;)V"), (8, .fieldref 10 39), (0, .nameAndType 40 26), (0, u "COMPACT_STRINGS"), (1, .class_ 44), (1, u "java/lang/StringUTF16"), (0, u "compress"), (1, .methodref 42 48), (0, .nameAndType 49 50), (0, u "coderFromArrayLen"), (0, u "([BI)B"), (56, .class_ 109), (1, u "java/lang/StringLatin1"), (67, .methodref 42 178), (0, .nameAndType 45 179), (0, u "([CII)[B"), (361, .methodref 107 542), (0, .nameAndType 543 544), (0, u "equals"), (0, u "([B[B)Z"), (28, u "(Ljava/lang/Object;)Z"), (1, .class_ 576), (0, u "java/lang/CharSequence"), (22, u "CASE_INSENSITIVE_ORDER"), (0, u "Ljava/util/Comparator;"), (409, u "([C)V"), (90, u "serialPersistentFields"), (0, u "[Ljava/io/ObjectStreamField;"), (0, .class_ 1104), (0, u "java/lang/String$CaseInsensitiveComparator"), (1, .class_ 1107), (0, u "java/io/Serializable"), (0, .class_ 1109), (0, u "java/lang/Comparable"), (0, .class_ 1111), (0, u "java/lang/constant/Constable"), (0, .class_ 1113), (0, u "java/lang/constant/ConstantDesc"), (2, u "serialVersionUID"), (0, u "J"), (3, u "REPL"), (0, u "C"), (2, u "LATIN1"), (1, u "UTF16")] 323

def k9m0 : Method := { name := "<init>", desc := "()V", sig := { parameters := [], returnType := none }, accessFlags := 1, code := none }
def k9c1 : Code := { maxStack := 5, maxLocals := 2, code := jdk_42_method_3_code, exceptionTable := #[], attributes := #[] }
def k9m1 : Method := { name := "<init>", desc := "([C)V", sig := { parameters := [(.array .char)], returnType := none }, accessFlags := 1, code := some k9c1 }
def k9c2 : Code := { maxStack := 2, maxLocals := 3, code := jdk_42_method_66_code, exceptionTable := #[], attributes := #[] }
def k9m2 : Method := { name := "equals", desc := "(Ljava/lang/Object;)Z", sig := { parameters := [(.object "java/lang/Object")], returnType := some .boolean }, accessFlags := 1, code := some k9c2 }
def k9c3 : Code := { maxStack := 4, maxLocals := 6, code := jdk_42_method_149_code, exceptionTable := #[], attributes := #[] }
def k9m3 : Method := { name := "<init>", desc := "([CIILjava/lang/Void;)V", sig := { parameters := [(.array .char), .int, .int, (.object "java/lang/Void")], returnType := none }, accessFlags := 2, code := some k9c3 }
/-- java/lang/String -/
def k9 : Class := { plain "java/lang/String" (some 0) with
  accessFlags := 49
  interfaces := #[4, 3, 7, 2, 8]
  cf := some (fileOf pool9 10 #[.nestMembers #[1103]] #[{ accessFlags := 1, nameIndex := 5, descriptorIndex := 6, attributes := #[] }, { accessFlags := 1, nameIndex := 5, descriptorIndex := 1010, attributes := #[] }, { accessFlags := 1, nameIndex := 543, descriptorIndex := 573, attributes := #[] }, { accessFlags := 2, nameIndex := 5, descriptorIndex := 29, attributes := #[] }] 49 2 #[1106, 1108, 575, 1110, 1112] #[{ accessFlags := 18, nameIndex := 13, descriptorIndex := 14, attributes := #[] }, { accessFlags := 18, nameIndex := 17, descriptorIndex := 18, attributes := #[] }, { accessFlags := 2, nameIndex := 21, descriptorIndex := 22, attributes := #[] }, { accessFlags := 2, nameIndex := 25, descriptorIndex := 26, attributes := #[] }, { accessFlags := 26, nameIndex := 1116, descriptorIndex := 1117, attributes := #[] }, { accessFlags := 24, nameIndex := 40, descriptorIndex := 26, attributes := #[] }, { accessFlags := 26, nameIndex := 1101, descriptorIndex := 1102, attributes := #[] }, { accessFlags := 26, nameIndex := 1121, descriptorIndex := 1122, attributes := #[] }, { accessFlags := 25, nameIndex := 599, descriptorIndex := 600, attributes := #[] }, { accessFlags := 24, nameIndex := 1125, descriptorIndex := 18, attributes := #[] }, { accessFlags := 24, nameIndex := 1127, descriptorIndex := 18, attributes := #[] }])
  fields := #[{ name := "value", type := (.array .byte), accessFlags := 18, slot := 0, constantValue := 0 }, { name := "coder", type := .byte, accessFlags := 18, slot := 1, constantValue := 0 }, { name := "hash", type := .int, accessFlags := 2, slot := 2, constantValue := 0 }, { name := "hashIsZero", type := .boolean, accessFlags := 2, slot := 3, constantValue := 0 }, { name := "serialVersionUID", type := .long, accessFlags := 26, slot := 0, constantValue := 0 }, { name := "COMPACT_STRINGS", type := .boolean, accessFlags := 24, slot := 1, constantValue := 0 }, { name := "serialPersistentFields", type := (.array (.object "java/io/ObjectStreamField")), accessFlags := 26, slot := 2, constantValue := 0 }, { name := "REPL", type := .char, accessFlags := 26, slot := 3, constantValue := 0 }, { name := "CASE_INSENSITIVE_ORDER", type := (.object "java/util/Comparator"), accessFlags := 25, slot := 4, constantValue := 0 }, { name := "LATIN1", type := .byte, accessFlags := 24, slot := 5, constantValue := 0 }, { name := "UTF16", type := .byte, accessFlags := 24, slot := 6, constantValue := 0 }]
  methods := #[k9m0, k9m1, k9m2, k9m3]
  instanceTypes := #[(.array .byte), .byte, .int, .boolean]
  staticTypes := #[.long, .boolean, (.array (.object "java/io/ObjectStreamField")), .char, (.object "java/util/Comparator"), .byte, .byte]
  resolved := Array.replicate 1451 none
  statics := some 1 }

def pool10 : Array CpInfo := pool [(6, .class_ 8), (1, u "java/lang/Object"), (0, u "<init>"), (0, u "()V"), (1, .class_ 14), (1, u "java/lang/StringUTF16"), (31, u "$assertionsDisabled"), (0, u "Z"), (13, u "HI_BYTE_SHIFT"), (0, u "I"), (2, u "LO_BYTE_SHIFT"), (49, .methodref 12 116), (0, .nameAndType 117 118), (0, u "compress"), (0, u "([CI[BII)I"), (3, u "([CII)[B"), (138, u "coderFromArrayLen"), (0, u "([BI)B"), (106, .class_ 371), (1, u "java/lang/StringUTF16$LinesSpliterator"), (58, u "MAX_LENGTH"), (196, .class_ 628), (0, u "java/lang/StringUTF16$CodePointsSpliterator"), (0, .class_ 630), (0, u "java/lang/StringUTF16$CharsSpliterator")] 4

def k10m0 : Method := { name := "<init>", desc := "()V", sig := { parameters := [], returnType := none }, accessFlags := 0, code := none }
def k10c1 : Code := { maxStack := 2, maxLocals := 2, code := jdk_52_method_15_code, exceptionTable := #[], attributes := #[] }
def k10m1 : Method := { name := "coderFromArrayLen", desc := "([BI)B", sig := { parameters := [(.array .byte), .int], returnType := some .byte }, accessFlags := 8, code := some k10c1 }
def k10c2 : Code := { maxStack := 5, maxLocals := 6, code := jdk_52_method_16_code, exceptionTable := #[], attributes := #[] }
def k10m2 : Method := { name := "compress", desc := "([CII)[B", sig := { parameters := [(.array .char), .int, .int], returnType := some (.array .byte) }, accessFlags := 9, code := some k10c2 }
def k10c3 : Code := { maxStack := 3, maxLocals := 7, code := jdk_52_method_21_code, exceptionTable := #[], attributes := #[] }
def k10m3 : Method := { name := "compress", desc := "([CI[BII)I", sig := { parameters := [(.array .char), .int, (.array .byte), .int, .int], returnType := some .int }, accessFlags := 9, code := some k10c3 }
/-- java/lang/StringUTF16 -/
def k10 : Class := { plain "java/lang/StringUTF16" (some 0) with
  accessFlags := 48
  interfaces := #[]
  cf := some (fileOf pool10 12 #[.nestMembers #[627, 629, 369]] #[{ accessFlags := 0, nameIndex := 9, descriptorIndex := 10, attributes := #[] }, { accessFlags := 8, nameIndex := 261, descriptorIndex := 262, attributes := #[] }, { accessFlags := 9, nameIndex := 117, descriptorIndex := 122, attributes := #[] }, { accessFlags := 9, nameIndex := 117, descriptorIndex := 118, attributes := #[] }] 48 6 #[] #[{ accessFlags := 26, nameIndex := 61, descriptorIndex := 62, attributes := #[] }, { accessFlags := 26, nameIndex := 65, descriptorIndex := 62, attributes := #[] }, { accessFlags := 24, nameIndex := 430, descriptorIndex := 62, attributes := #[] }, { accessFlags := 4120, nameIndex := 46, descriptorIndex := 47, attributes := #[] }])
  fields := #[{ name := "HI_BYTE_SHIFT", type := .int, accessFlags := 26, slot := 0, constantValue := 0 }, { name := "LO_BYTE_SHIFT", type := .int, accessFlags := 26, slot := 1, constantValue := 0 }, { name := "MAX_LENGTH", type := .int, accessFlags := 24, slot := 2, constantValue := 0 }, { name := "$assertionsDisabled", type := .boolean, accessFlags := 4120, slot := 3, constantValue := 0 }]
  methods := #[k10m0, k10m1, k10m2, k10m3]
  instanceTypes := #[]
  staticTypes := #[.int, .int, .int, .boolean]
  resolved := Array.replicate 635 none
  statics := none }

def pool11 : Array CpInfo := pool [(1, .methodref 2 3), (0, .class_ 4), (0, .nameAndType 5 6), (0, u "java/lang/Object"), (0, u "<init>"), (0, u "()V"), (0, .class_ 8), (0, u "java/lang/Record")] 13

def k11c0 : Code := { maxStack := 1, maxLocals := 1, code := jdk_30_method_1_code, exceptionTable := #[], attributes := #[] }
def k11m0 : Method := { name := "<init>", desc := "()V", sig := { parameters := [], returnType := none }, accessFlags := 4, code := some k11c0 }
/-- java/lang/Record -/
def k11 : Class := { plain "java/lang/Record" (some 0) with
  accessFlags := 1057
  interfaces := #[]
  cf := some (fileOf pool11 7 #[] #[{ accessFlags := 4, nameIndex := 5, descriptorIndex := 6, attributes := #[] }] 1057 2 #[] #[])
  fields := #[]
  methods := #[k11m0]
  instanceTypes := #[]
  staticTypes := #[]
  resolved := Array.replicate 22 none
  statics := none }

def pool12 : Array CpInfo := pool [(1, .methodref 2 3), (0, .class_ 4), (0, .nameAndType 5 6), (0, u "java/lang/Record"), (0, u "<init>"), (0, u "()V"), (0, .fieldref 8 9), (0, .class_ 10), (0, .nameAndType 11 12), (0, u "com/example/charttop/charttop/query/Token"), (0, u "type"), (0, u "Lcom/example/charttop/charttop/query/Token$Type;"), (0, .fieldref 8 14), (0, .nameAndType 15 16), (0, u "text"), (0, u "Ljava/lang/String;"), (0, .fieldref 8 18), (0, .nameAndType 19 20), (0, u "slop"), (0, u "I"), (0, .fieldref 8 22), (0, .nameAndType 23 20), (0, u "at"), (0, .fieldref 25 26), (0, .class_ 27), (0, .nameAndType 28 12), (0, u "com/example/charttop/charttop/query/Token$Type"), (0, u "WORD"), (0, .methodref 30 31), (0, .class_ 32), (0, .nameAndType 33 34), (0, u "java/lang/String"), (0, u "equals"), (0, u "(Ljava/lang/Object;)Z"), (29, u "(Lcom/example/charttop/charttop/query/Token$Type;Ljava/lang/String;II)V"), (57, u "MAX_SLOP"), (5, u "is"), (0, u "(Ljava/lang/String;)Z")] 34

def k12c0 : Code := { maxStack := 2, maxLocals := 5, code := prog_51_method_1_code, exceptionTable := #[], attributes := #[] }
def k12m0 : Method := { name := "<init>", desc := "(Lcom/example/charttop/charttop/query/Token$Type;Ljava/lang/String;II)V", sig := { parameters := [(.object "com/example/charttop/charttop/query/Token$Type"), (.object "java/lang/String"), .int, .int], returnType := none }, accessFlags := 0, code := some k12c0 }
def k12c1 : Code := { maxStack := 2, maxLocals := 2, code := prog_51_method_2_code, exceptionTable := #[], attributes := #[] }
def k12m1 : Method := { name := "is", desc := "(Ljava/lang/String;)Z", sig := { parameters := [(.object "java/lang/String")], returnType := some .boolean }, accessFlags := 0, code := some k12c1 }
/-- com/example/charttop/charttop/query/Token -/
def k12 : Class := { plain "com/example/charttop/charttop/query/Token" (some 11) with
  accessFlags := 48
  interfaces := #[]
  cf := some (fileOf pool12 8 #[.nestMembers #[25]] #[{ accessFlags := 0, nameIndex := 5, descriptorIndex := 64, attributes := #[] }, { accessFlags := 0, nameIndex := 128, descriptorIndex := 129, attributes := #[] }] 48 2 #[] #[{ accessFlags := 18, nameIndex := 11, descriptorIndex := 12, attributes := #[] }, { accessFlags := 18, nameIndex := 15, descriptorIndex := 16, attributes := #[] }, { accessFlags := 18, nameIndex := 19, descriptorIndex := 20, attributes := #[] }, { accessFlags := 18, nameIndex := 23, descriptorIndex := 20, attributes := #[] }, { accessFlags := 24, nameIndex := 122, descriptorIndex := 20, attributes := #[] }])
  fields := #[{ name := "type", type := (.object "com/example/charttop/charttop/query/Token$Type"), accessFlags := 18, slot := 0, constantValue := 0 }, { name := "text", type := (.object "java/lang/String"), accessFlags := 18, slot := 1, constantValue := 0 }, { name := "slop", type := .int, accessFlags := 18, slot := 2, constantValue := 0 }, { name := "at", type := .int, accessFlags := 18, slot := 3, constantValue := 0 }, { name := "MAX_SLOP", type := .int, accessFlags := 24, slot := 0, constantValue := 0 }]
  methods := #[k12m0, k12m1]
  instanceTypes := #[(.object "com/example/charttop/charttop/query/Token$Type"), (.object "java/lang/String"), .int, .int]
  staticTypes := #[.int]
  resolved := Array.replicate 164 none
  statics := none }

def pool13 : Array CpInfo := pool [(4, .class_ 6), (1, u "java/lang/Object"), (0, u "<init>"), (0, u "()V"), (5, .class_ 16), (1, u "java/lang/StringLatin1"), (104, u "$assertionsDisabled"), (0, u "Z"), (98, .class_ 223), (1, u "java/lang/StringLatin1$LinesSpliterator"), (57, u "equals"), (0, u "([B[B)Z"), (107, .class_ 391), (0, u "java/lang/StringLatin1$CharsSpliterator")] 3

def k13m0 : Method := { name := "<init>", desc := "()V", sig := { parameters := [], returnType := none }, accessFlags := 0, code := none }
def k13c1 : Code := { maxStack := 3, maxLocals := 3, code := jdk_43_method_13_code, exceptionTable := #[], attributes := #[] }
def k13m1 : Method := { name := "equals", desc := "([B[B)Z", sig := { parameters := [(.array .byte), (.array .byte)], returnType := some .boolean }, accessFlags := 9, code := some k13c1 }
/-- java/lang/StringLatin1 -/
def k13 : Class := { plain "java/lang/StringLatin1" (some 0) with
  accessFlags := 48
  interfaces := #[]
  cf := some (fileOf pool13 14 #[.nestMembers #[390, 221]] #[{ accessFlags := 0, nameIndex := 7, descriptorIndex := 8, attributes := #[] }, { accessFlags := 9, nameIndex := 281, descriptorIndex := 282, attributes := #[] }] 48 4 #[] #[{ accessFlags := 4120, nameIndex := 121, descriptorIndex := 122, attributes := #[] }])
  fields := #[{ name := "$assertionsDisabled", type := .boolean, accessFlags := 4120, slot := 0, constantValue := 0 }]
  methods := #[k13m0, k13m1]
  instanceTypes := #[]
  staticTypes := #[.boolean]
  resolved := Array.replicate 395 none
  statics := none }

def pool14 : Array CpInfo := pool [(2, .class_ 4), (1, u "java/lang/Object"), (0, u "<init>"), (0, u "()V"), (17, .class_ 26), (1, u "jdk/internal/util/Preconditions"), (28, .class_ 56), (0, u "jdk/internal/util/Preconditions$4"), (57, .class_ 115), (0, u "jdk/internal/util/Preconditions$1"), (7, u "SIOOBE_FORMATTER"), (0, u "Ljava/util/function/BiFunction;"), (0, .class_ 126), (0, u "jdk/internal/util/Preconditions$2"), (3, u "AIOOBE_FORMATTER"), (0, .class_ 132), (0, u "jdk/internal/util/Preconditions$3"), (3, u "IOOBE_FORMATTER")] 57

def k14m0 : Method := { name := "<init>", desc := "()V", sig := { parameters := [], returnType := none }, accessFlags := 1, code := none }
/-- jdk/internal/util/Preconditions -/
def k14 : Class := { plain "jdk/internal/util/Preconditions" (some 0) with
  accessFlags := 33
  interfaces := #[]
  cf := some (fileOf pool14 24 #[.nestMembers #[55, 131, 125, 114]] #[{ accessFlags := 1, nameIndex := 5, descriptorIndex := 6, attributes := #[] }] 33 2 #[] #[{ accessFlags := 25, nameIndex := 123, descriptorIndex := 124, attributes := #[] }, { accessFlags := 25, nameIndex := 130, descriptorIndex := 124, attributes := #[] }, { accessFlags := 25, nameIndex := 136, descriptorIndex := 124, attributes := #[] }])
  fields := #[{ name := "SIOOBE_FORMATTER", type := (.object "java/util/function/BiFunction"), accessFlags := 25, slot := 0, constantValue := 0 }, { name := "AIOOBE_FORMATTER", type := (.object "java/util/function/BiFunction"), accessFlags := 25, slot := 1, constantValue := 0 }, { name := "IOOBE_FORMATTER", type := (.object "java/util/function/BiFunction"), accessFlags := 25, slot := 2, constantValue := 0 }]
  methods := #[k14m0]
  instanceTypes := #[]
  staticTypes := #[(.object "java/util/function/BiFunction"), (.object "java/util/function/BiFunction"), (.object "java/util/function/BiFunction")]
  resolved := Array.replicate 194 none
  statics := some 2 }

def pool15 : Array CpInfo := pool [(9, u "<init>"), (6, .class_ 18), (1, u "java/lang/Object"), (0, u "()V"), (1, .class_ 23), (1, u "jdk/internal/util/ArraysSupport"), (0, u "LOG2_ARRAY_LONG_INDEX_SCALE"), (0, u "I"), (2, u "U"), (0, u "Ljdk/internal/misc/Unsafe;"), (8, u "BIG_ENDIAN"), (0, u "Z"), (8, u "LOG2_BYTE_BIT_SIZE"), (4, u "LOG2_ARRAY_INT_INDEX_SCALE"), (54, u "JLA"), (0, u "Ljdk/internal/access/JavaLangAccess;"), (11, u "LOG2_ARRAY_BOOLEAN_INDEX_SCALE"), (9, u "LOG2_ARRAY_BYTE_INDEX_SCALE"), (5, u "LOG2_ARRAY_CHAR_INDEX_SCALE"), (5, u "LOG2_ARRAY_SHORT_INDEX_SCALE"), (18, u "LOG2_ARRAY_FLOAT_INDEX_SCALE"), (24, u "LOG2_ARRAY_DOUBLE_INDEX_SCALE"), (89, u "T_BOOLEAN"), (2, u "T_CHAR"), (1, u "T_FLOAT"), (1, u "T_DOUBLE"), (1, u "T_BYTE"), (1, u "T_SHORT"), (1, u "T_INT"), (1, u "T_LONG"), (1, u "SOFT_MAX_ARRAY_LENGTH")] 83

def k15m0 : Method := { name := "<init>", desc := "()V", sig := { parameters := [], returnType := none }, accessFlags := 2, code := none }
/-- jdk/internal/util/ArraysSupport -/
def k15 : Class := { plain "jdk/internal/util/ArraysSupport" (some 0) with
  accessFlags := 33
  interfaces := #[]
  cf := some (fileOf pool15 21 #[] #[{ accessFlags := 2, nameIndex := 9, descriptorIndex := 19, attributes := #[] }] 33 16 #[] #[{ accessFlags := 24, nameIndex := 28, descriptorIndex := 29, attributes := #[] }, { accessFlags := 26, nameIndex := 38, descriptorIndex := 39, attributes := #[] }, { accessFlags := 25, nameIndex := 121, descriptorIndex := 25, attributes := #[] }, { accessFlags := 25, nameIndex := 131, descriptorIndex := 25, attributes := #[] }, { accessFlags := 25, nameIndex := 137, descriptorIndex := 25, attributes := #[] }, { accessFlags := 25, nameIndex := 143, descriptorIndex := 25, attributes := #[] }, { accessFlags := 25, nameIndex := 53, descriptorIndex := 25, attributes := #[] }, { accessFlags := 25, nameIndex := 24, descriptorIndex := 25, attributes := #[] }, { accessFlags := 25, nameIndex := 162, descriptorIndex := 25, attributes := #[] }, { accessFlags := 25, nameIndex := 187, descriptorIndex := 25, attributes := #[] }, { accessFlags := 26, nameIndex := 48, descriptorIndex := 25, attributes := #[] }, { accessFlags := 25, nameIndex := 277, descriptorIndex := 25, attributes := #[] }, { accessFlags := 25, nameIndex := 280, descriptorIndex := 25, attributes := #[] }, { accessFlags := 25, nameIndex := 282, descriptorIndex := 25, attributes := #[] }, { accessFlags := 25, nameIndex := 284, descriptorIndex := 25, attributes := #[] }, { accessFlags := 25, nameIndex := 286, descriptorIndex := 25, attributes := #[] }, { accessFlags := 25, nameIndex := 288, descriptorIndex := 25, attributes := #[] }, { accessFlags := 25, nameIndex := 290, descriptorIndex := 25, attributes := #[] }, { accessFlags := 25, nameIndex := 292, descriptorIndex := 25, attributes := #[] }, { accessFlags := 26, nameIndex := 108, descriptorIndex := 109, attributes := #[] }, { accessFlags := 25, nameIndex := 294, descriptorIndex := 25, attributes := #[] }])
  fields := #[{ name := "U", type := (.object "jdk/internal/misc/Unsafe"), accessFlags := 24, slot := 0, constantValue := 0 }, { name := "BIG_ENDIAN", type := .boolean, accessFlags := 26, slot := 1, constantValue := 0 }, { name := "LOG2_ARRAY_BOOLEAN_INDEX_SCALE", type := .int, accessFlags := 25, slot := 2, constantValue := 0 }, { name := "LOG2_ARRAY_BYTE_INDEX_SCALE", type := .int, accessFlags := 25, slot := 3, constantValue := 0 }, { name := "LOG2_ARRAY_CHAR_INDEX_SCALE", type := .int, accessFlags := 25, slot := 4, constantValue := 0 }, { name := "LOG2_ARRAY_SHORT_INDEX_SCALE", type := .int, accessFlags := 25, slot := 5, constantValue := 0 }, { name := "LOG2_ARRAY_INT_INDEX_SCALE", type := .int, accessFlags := 25, slot := 6, constantValue := 0 }, { name := "LOG2_ARRAY_LONG_INDEX_SCALE", type := .int, accessFlags := 25, slot := 7, constantValue := 0 }, { name := "LOG2_ARRAY_FLOAT_INDEX_SCALE", type := .int, accessFlags := 25, slot := 8, constantValue := 0 }, { name := "LOG2_ARRAY_DOUBLE_INDEX_SCALE", type := .int, accessFlags := 25, slot := 9, constantValue := 0 }, { name := "LOG2_BYTE_BIT_SIZE", type := .int, accessFlags := 26, slot := 10, constantValue := 0 }, { name := "T_BOOLEAN", type := .int, accessFlags := 25, slot := 11, constantValue := 0 }, { name := "T_CHAR", type := .int, accessFlags := 25, slot := 12, constantValue := 0 }, { name := "T_FLOAT", type := .int, accessFlags := 25, slot := 13, constantValue := 0 }, { name := "T_DOUBLE", type := .int, accessFlags := 25, slot := 14, constantValue := 0 }, { name := "T_BYTE", type := .int, accessFlags := 25, slot := 15, constantValue := 0 }, { name := "T_SHORT", type := .int, accessFlags := 25, slot := 16, constantValue := 0 }, { name := "T_INT", type := .int, accessFlags := 25, slot := 17, constantValue := 0 }, { name := "T_LONG", type := .int, accessFlags := 25, slot := 18, constantValue := 0 }, { name := "JLA", type := (.object "jdk/internal/access/JavaLangAccess"), accessFlags := 26, slot := 19, constantValue := 0 }, { name := "SOFT_MAX_ARRAY_LENGTH", type := .int, accessFlags := 25, slot := 20, constantValue := 0 }]
  methods := #[k15m0]
  instanceTypes := #[]
  staticTypes := #[(.object "jdk/internal/misc/Unsafe"), .boolean, .int, .int, .int, .int, .int, .int, .int, .int, .int, .int, .int, .int, .int, .int, .int, .int, .int, (.object "jdk/internal/access/JavaLangAccess"), .int]
  resolved := Array.replicate 378 none
  statics := none }

def pool16 : Array CpInfo := pool [(1, u "java/lang/Cloneable"), (0, .class_ 1), (0, u "java/lang/Object"), (0, .class_ 3)] 3

/-- java/lang/Cloneable -/
def k16 : Class := { plain "java/lang/Cloneable" (some 0) with
  accessFlags := 1537
  interfaces := #[]
  cf := some (fileOf pool16 2 #[] #[] 1537 4 #[] #[])
  fields := #[]
  methods := #[]
  instanceTypes := #[]
  staticTypes := #[]
  resolved := Array.replicate 8 none
  statics := none }

/-- the primitive byte -/
def k17 : Class := { plain "byte" none with kind := .primitive 'B', accessFlags := 0x411 }
/-- [B -/
def k18 : Class := { plain "[B" (some 0) with kind := .array 17 .byte, interfaces := #[16, 4], accessFlags := 1041 }

/-- the primitive char -/
def k19 : Class := { plain "char" none with kind := .primitive 'C', accessFlags := 0x411 }
/-- [C -/
def k20 : Class := { plain "[C" (some 0) with kind := .array 19 .char, interfaces := #[16, 4], accessFlags := 1041 }

/-- the primitive int -/
def k21 : Class := { plain "int" none with kind := .primitive 'I', accessFlags := 0x411 }
/-- [I -/
def k22 : Class := { plain "[I" (some 0) with kind := .array 21 .int, interfaces := #[16, 4], accessFlags := 1041 }

def heap : Heap := #[{ cls := 6, slots := #[.ref 3, .ref 4, .ref 5, .ref 6, .null], vm := .statics 6 },
  { cls := 9, slots := #[.long 0, .int 1, .null, .int 0, .null, .int 0, .int 0], vm := .statics 9 },
  { cls := 14, slots := #[.null, .null, .null], vm := .statics 14 },
  { cls := 6, slots := #[.null, .int 0, .int 0], vm := .none },
  { cls := 6, slots := #[.null, .int 1, .int 0], vm := .none },
  { cls := 6, slots := #[.null, .int 2, .int 0], vm := .none },
  { cls := 6, slots := #[.null, .int 3, .int 0], vm := .none }]
def classes : Array Class := #[k0, k1, k2, k3, k4, k5, k6, k7, k8, k9, k10, k11, k12, k13, k14, k15, k16, k17, k18, k19, k20, k21, k22]
def interned : List (Array UInt16 × Addr) := []
def slotsUsed : Nat := 27
def theMethod : MethodId := ⟨1, 1⟩
def args0 : Array Value := #[.int 5, .int 6, .int 7, .int 8, .int 9, .int 10]
def aboutOver (below : List Frame) : State where
  vm := { classes := classes, interned := interned.toArray }
  heap := heap
  slotsUsed := slotsUsed
  threads := #[{ frames := .invoking theMethod args0 :: below }]
def below0 : List Frame := [.native { method := ⟨0, 0⟩, args := #[] }]
def about1 : State := aboutOver below0
def p0 : Program := .bare "" "" ""
def e0 : Env := launch0.env 0 0 0
theorem w_frames : about1.frames = Frame.invoking theMethod args0 :: below0 := rfl
set_option maxRecDepth 65536 in
theorem w_args : argsFit about1.vm theMethod args0 = true := by decide +kernel
set_option maxRecDepth 65536 in
theorem w_heap : heapFits about1 = true := by decide +kernel
set_option maxRecDepth 65536 in
theorem w_runnable : about1.curStatus? = some .runnable := by decide +kernel
set_option maxRecDepth 65536 in
theorem w_alone : about1.alone = true := by decide +kernel
set_option maxRecDepth 65536 in
theorem w_named : about1.methodNamed? x = some theMethod := by decide +kernel
set_option maxRecDepth 65536 in
theorem w_hears : about1.hears theMethod below0 = true := by decide +kernel
set_option maxRecDepth 65536 in
theorem w_ripe : about1.ripe theMethod args0 below0 = true := by decide +kernel
theorem w_running : about1.status = .running := rfl
set_option maxRecDepth 65536 in
theorem w_room : about1.hasRoom e0.platform room_1 = true :=
  launch0.hasRoom_least _ room_1 (by decide +kernel) (by decide +kernel) (by decide +kernel) (by decide +kernel) (by decide +kernel) (by decide +kernel)
theorem allAtoms_all (ts : List Jvm.Cond) (a : Array Jvm.Value) (st : Jvm.State) : (allAtoms ts).before a st = ts.all (fun c => c.before a st) := by
  induction ts with
  | nil => rfl
  | cons c t ih =>
    show (Jvm.Cond.and c (allAtoms t)).before a st = _
    rw [Jvm.Cond.before_and, ih, List.all_cons]
def words1 : List Jvm.Cond := Jvm.Cond.code x code maxLocals ret :: tables_1
/-- a 'code' word, met by the world's own term for the bytes: nothing is compared byte by byte -/
theorem code_word {y : MethodName} {bytes : ByteArray} {mx : Nat} {rt : Option FieldType} {a : Array Value} {s : State} {m : MethodId} {meth : Method} {c : Code} (h1 : s.methodNamed? y = some m) (h2 : s.vm.method? m = some meth) (h3 : meth.code = some c) (h4 : c.code = bytes)
    (h5 : (c.maxLocals == mx && c.exceptionTable.isEmpty && decide (c.maxStack ≤ mostOperands) && decide (meth.sig.returnType = rt) && !meth.locks && decide (parseMethodDescriptor y.desc = some meth.sig)) = true) : (Jvm.Cond.code y bytes mx rt).before a s = true := by
  simp only [Bool.and_eq_true, beq_iff_eq, Bool.not_eq_true', decide_eq_true_eq] at h5
  obtain ⟨⟨⟨⟨⟨g1, g2⟩, g3⟩, g4⟩, g5⟩, g6⟩ := h5
  simp [Cond.before, Cond.holds, Cond.value, h1, h2, h3, h4, g1, g2, g3, g4, g5, g6]
def isCode : Jvm.Cond → Bool
  | .code _ _ _ _ => true
  | _ => false
theorem all_split {L : List Jvm.Cond} {P : Jvm.Cond → Bool} (h1 : L.all (fun c => isCode c || P c) = true) (h2 : ∀ c ∈ L.filter isCode, P c = true) : L.all P = true := by
  refine List.all_eq_true.mpr fun c hc => ?_
  have h := List.all_eq_true.mp h1 c hc
  rcases Bool.eq_false_or_eq_true (isCode c) with hi | hi
  · exact h2 c (List.mem_filter.mpr ⟨hc, hi⟩)
  · simpa [hi] using h
set_option maxRecDepth 65536 in
theorem w_c0 : (Jvm.Cond.code x code maxLocals ret).before args0 about1 = true := code_word (m := ⟨1, 1⟩) (meth := k1m1) (c := k1c1) (by decide +kernel) rfl rfl rfl (by decide +kernel)
set_option maxRecDepth 65536 in
theorem w_c1 : (Jvm.Cond.code ({ cls := "com/example/charttop/charttop/query/TokenIsPinLaw", name := "str", desc := "(ICCC)Ljava/lang/String;" } : Jvm.MethodName) method_3_code (4 : Nat) (Option.some (Jvm.ClassFile.FieldType.object "java/lang/String"))).before args0 about1 = true := code_word (m := ⟨1, 2⟩) (meth := k1m2) (c := k1c2) (by decide +kernel) rfl rfl rfl (by decide +kernel)
set_option maxRecDepth 65536 in
theorem w_c2 : (Jvm.Cond.code ({ cls := "java/lang/String", name := "<init>", desc := "([C)V" } : Jvm.MethodName) jdk_42_method_3_code (2 : Nat) (Option.none : Option Jvm.ClassFile.FieldType)).before args0 about1 = true := code_word (m := ⟨9, 1⟩) (meth := k9m1) (c := k9c1) (by decide +kernel) rfl rfl rfl (by decide +kernel)
set_option maxRecDepth 65536 in
theorem w_c3 : (Jvm.Cond.code ({ cls := "java/lang/String", name := "<init>", desc := "([CIILjava/lang/Void;)V" } : Jvm.MethodName) jdk_42_method_149_code (6 : Nat) (Option.none : Option Jvm.ClassFile.FieldType)).before args0 about1 = true := code_word (m := ⟨9, 3⟩) (meth := k9m3) (c := k9c3) (by decide +kernel) rfl rfl rfl (by decide +kernel)
set_option maxRecDepth 65536 in
theorem w_c4 : (Jvm.Cond.code ({ cls := "java/lang/Object", name := "<init>", desc := "()V" } : Jvm.MethodName) object_method_1_code (1 : Nat) (Option.none : Option Jvm.ClassFile.FieldType)).before args0 about1 = true := code_word (m := ⟨0, 0⟩) (meth := k0m0) (c := k0c0) (by decide +kernel) rfl rfl rfl (by decide +kernel)
set_option maxRecDepth 65536 in
theorem w_c5 : (Jvm.Cond.code ({ cls := "java/lang/StringUTF16", name := "compress", desc := "([CII)[B" } : Jvm.MethodName) jdk_52_method_16_code (6 : Nat) (Option.some (Jvm.ClassFile.FieldType.array Jvm.ClassFile.FieldType.byte))).before args0 about1 = true := code_word (m := ⟨10, 2⟩) (meth := k10m2) (c := k10c2) (by decide +kernel) rfl rfl rfl (by decide +kernel)
set_option maxRecDepth 65536 in
theorem w_c6 : (Jvm.Cond.code ({ cls := "java/lang/StringUTF16", name := "compress", desc := "([CI[BII)I" } : Jvm.MethodName) jdk_52_method_21_code (7 : Nat) (Option.some Jvm.ClassFile.FieldType.int)).before args0 about1 = true := code_word (m := ⟨10, 3⟩) (meth := k10m3) (c := k10c3) (by decide +kernel) rfl rfl rfl (by decide +kernel)
set_option maxRecDepth 65536 in
theorem w_c7 : (Jvm.Cond.code ({ cls := "java/lang/StringUTF16", name := "coderFromArrayLen", desc := "([BI)B" } : Jvm.MethodName) jdk_52_method_15_code (2 : Nat) (Option.some Jvm.ClassFile.FieldType.byte)).before args0 about1 = true := code_word (m := ⟨10, 1⟩) (meth := k10m1) (c := k10c1) (by decide +kernel) rfl rfl rfl (by decide +kernel)
set_option maxRecDepth 65536 in
theorem w_c8 : (Jvm.Cond.code ({ cls := "com/example/charttop/charttop/query/Token", name := "<init>", desc := "(Lcom/example/charttop/charttop/query/Token$Type;Ljava/lang/String;II)V" } : Jvm.MethodName) prog_51_method_1_code (5 : Nat) (Option.none : Option Jvm.ClassFile.FieldType)).before args0 about1 = true := code_word (m := ⟨12, 0⟩) (meth := k12m0) (c := k12c0) (by decide +kernel) rfl rfl rfl (by decide +kernel)
set_option maxRecDepth 65536 in
theorem w_c9 : (Jvm.Cond.code ({ cls := "java/lang/Record", name := "<init>", desc := "()V" } : Jvm.MethodName) jdk_30_method_1_code (1 : Nat) (Option.none : Option Jvm.ClassFile.FieldType)).before args0 about1 = true := code_word (m := ⟨11, 0⟩) (meth := k11m0) (c := k11c0) (by decide +kernel) rfl rfl rfl (by decide +kernel)
set_option maxRecDepth 65536 in
theorem w_c10 : (Jvm.Cond.code ({ cls := "com/example/charttop/charttop/query/Token", name := "is", desc := "(Ljava/lang/String;)Z" } : Jvm.MethodName) prog_51_method_2_code (2 : Nat) (Option.some Jvm.ClassFile.FieldType.boolean)).before args0 about1 = true := code_word (m := ⟨12, 1⟩) (meth := k12m1) (c := k12c1) (by decide +kernel) rfl rfl rfl (by decide +kernel)
set_option maxRecDepth 65536 in
theorem w_c11 : (Jvm.Cond.code ({ cls := "java/lang/String", name := "equals", desc := "(Ljava/lang/Object;)Z" } : Jvm.MethodName) jdk_42_method_66_code (3 : Nat) (Option.some Jvm.ClassFile.FieldType.boolean)).before args0 about1 = true := code_word (m := ⟨9, 2⟩) (meth := k9m2) (c := k9c2) (by decide +kernel) rfl rfl rfl (by decide +kernel)
set_option maxRecDepth 65536 in
theorem w_c12 : (Jvm.Cond.code ({ cls := "java/lang/StringLatin1", name := "equals", desc := "([B[B)Z" } : Jvm.MethodName) jdk_43_method_13_code (3 : Nat) (Option.some Jvm.ClassFile.FieldType.boolean)).before args0 about1 = true := code_word (m := ⟨13, 1⟩) (meth := k13m1) (c := k13c1) (by decide +kernel) rfl rfl rfl (by decide +kernel)
def codes1 : List Jvm.Cond := [Jvm.Cond.code x code maxLocals ret, Jvm.Cond.code ({ cls := "com/example/charttop/charttop/query/TokenIsPinLaw", name := "str", desc := "(ICCC)Ljava/lang/String;" } : Jvm.MethodName) method_3_code (4 : Nat) (Option.some (Jvm.ClassFile.FieldType.object "java/lang/String")), Jvm.Cond.code ({ cls := "java/lang/String", name := "<init>", desc := "([C)V" } : Jvm.MethodName) jdk_42_method_3_code (2 : Nat) (Option.none : Option Jvm.ClassFile.FieldType), Jvm.Cond.code ({ cls := "java/lang/String", name := "<init>", desc := "([CIILjava/lang/Void;)V" } : Jvm.MethodName) jdk_42_method_149_code (6 : Nat) (Option.none : Option Jvm.ClassFile.FieldType), Jvm.Cond.code ({ cls := "java/lang/Object", name := "<init>", desc := "()V" } : Jvm.MethodName) object_method_1_code (1 : Nat) (Option.none : Option Jvm.ClassFile.FieldType), Jvm.Cond.code ({ cls := "java/lang/StringUTF16", name := "compress", desc := "([CII)[B" } : Jvm.MethodName) jdk_52_method_16_code (6 : Nat) (Option.some (Jvm.ClassFile.FieldType.array Jvm.ClassFile.FieldType.byte)), Jvm.Cond.code ({ cls := "java/lang/StringUTF16", name := "compress", desc := "([CI[BII)I" } : Jvm.MethodName) jdk_52_method_21_code (7 : Nat) (Option.some Jvm.ClassFile.FieldType.int), Jvm.Cond.code ({ cls := "java/lang/StringUTF16", name := "coderFromArrayLen", desc := "([BI)B" } : Jvm.MethodName) jdk_52_method_15_code (2 : Nat) (Option.some Jvm.ClassFile.FieldType.byte), Jvm.Cond.code ({ cls := "com/example/charttop/charttop/query/Token", name := "<init>", desc := "(Lcom/example/charttop/charttop/query/Token$Type;Ljava/lang/String;II)V" } : Jvm.MethodName) prog_51_method_1_code (5 : Nat) (Option.none : Option Jvm.ClassFile.FieldType), Jvm.Cond.code ({ cls := "java/lang/Record", name := "<init>", desc := "()V" } : Jvm.MethodName) jdk_30_method_1_code (1 : Nat) (Option.none : Option Jvm.ClassFile.FieldType), Jvm.Cond.code ({ cls := "com/example/charttop/charttop/query/Token", name := "is", desc := "(Ljava/lang/String;)Z" } : Jvm.MethodName) prog_51_method_2_code (2 : Nat) (Option.some Jvm.ClassFile.FieldType.boolean), Jvm.Cond.code ({ cls := "java/lang/String", name := "equals", desc := "(Ljava/lang/Object;)Z" } : Jvm.MethodName) jdk_42_method_66_code (3 : Nat) (Option.some Jvm.ClassFile.FieldType.boolean), Jvm.Cond.code ({ cls := "java/lang/StringLatin1", name := "equals", desc := "([B[B)Z" } : Jvm.MethodName) jdk_43_method_13_code (3 : Nat) (Option.some Jvm.ClassFile.FieldType.boolean)]
set_option maxRecDepth 65536 in
theorem codes_eq : words1.filter isCode = codes1 := rfl
theorem w_codes : ∀ c ∈ words1.filter isCode, c.before args0 about1 = true := by
  rw [codes_eq]
  intro c hc
  simp only [codes1, List.mem_cons, List.not_mem_nil, or_false] at hc
  rcases hc with rfl | rfl | rfl | rfl | rfl | rfl | rfl | rfl | rfl | rfl | rfl | rfl | rfl
  · exact w_c0
  · exact w_c1
  · exact w_c2
  · exact w_c3
  · exact w_c4
  · exact w_c5
  · exact w_c6
  · exact w_c7
  · exact w_c8
  · exact w_c9
  · exact w_c10
  · exact w_c11
  · exact w_c12
set_option maxRecDepth 65536 in
theorem w_t1 : (words1.take 24).all (fun c => isCode c || c.before args0 about1) = true := by decide +kernel
set_option maxRecDepth 65536 in
theorem w_t2 : ((words1.drop 24).take 24).all (fun c => isCode c || c.before args0 about1) = true := by decide +kernel
set_option maxRecDepth 65536 in
theorem w_t3 : (((words1.drop 24).drop 24).take 24).all (fun c => isCode c || c.before args0 about1) = true := by decide +kernel
set_option maxRecDepth 65536 in
theorem w_t4 : (((words1.drop 24).drop 24).drop 24).all (fun c => isCode c || c.before args0 about1) = true := by decide +kernel
theorem w_tables : (allAtoms (Jvm.Cond.code x code maxLocals ret :: tables_1)).before args0 about1 = true := by
  rw [allAtoms_all]
  show words1.all (fun c => c.before args0 about1) = true
  refine all_split ?_ w_codes
  rw [← List.take_append_drop 24 words1, List.all_append, w_t1, ← List.take_append_drop 24 (words1.drop 24), List.all_append, w_t2, ← List.take_append_drop 24 ((words1.drop 24).drop 24), List.all_append, w_t3, w_t4]
  rfl
set_option maxRecDepth 65536 in
theorem w_rest : rest_1_c.before args0 about1 = true := by decide +kernel
set_option maxRecDepth 65536 in
theorem w_case : (Jvm.Cond.and given_1 narrow_1).before args0 about1 = true := by decide +kernel
set_option maxRecDepth 65536 in
theorem w_consts : constsHeld consts_1 about1 := Jvm.Lit.constsHeldB_iff.mp (by decide +kernel)
theorem w_applies : (headSpec (Jvm.Cond.code x code maxLocals ret :: tables_1) room_1).applies x e0.platform about1 = true :=
  (Spec.applies_iff w_frames).mpr ⟨w_running, w_runnable, w_alone, w_named, w_hears, w_ripe, w_room, w_tables⟩
theorem atStart : AtStart classFile x code maxLocals ret World_1 tables_1 room_1 Calls_1 rest_1 Pre_1 launch0 p0 e0 about1 theMethod args0 below0 :=
  ⟨lists_1, trivial, launch0.admits_env _ _ _, launch0.least_env, fairChoices_fair.cas, fairChoices_fair.clock, w_frames, w_args, w_heap, w_applies, ⟨w_consts, trivial⟩, w_rest, w_case⟩
end start1
theorem witness_1 : WitnessClaimed_1 := ⟨start1.p0, start1.e0, start1.about1, start1.theMethod, start1.args0, start1.below0, start1.atStart⟩
end Jvm.Pilot.@@N@@
