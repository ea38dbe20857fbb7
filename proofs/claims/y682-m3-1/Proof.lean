import JvmDerived
import JvmDerived.Pilot.@@N@@Statement
import JvmDerived.Pilot.@@N@@Code
set_option linter.unusedVariables false
set_option linter.unusedSimpArgs false
namespace Jvm.RoadKit
open Sem ClassFile Op Lib Jvm.Stand Jvm.Free Jvm.LawKit
section OwnKit
variable {p : Program} {l : Launch} {e : Env} {R : Room} {s : State} {m : MethodId} {args : Array Value} {below : List Frame} {meth : Method} {c : Code} {T : State} {locs : List Loc} {cells slots : Nat} {rc rs : Nat} {Q : Option Value → Heap → List Loc → Prop} {S S' : State}
/-- from S on the invocation ends, it returns, and Q holds of what it returns, of the heap and of the places written -/
def OEnds (p : Program) (e : Env) (below : List Frame) (s : State) (rc rs : Nat) (Q : Option Value → Heap → List Loc → Prop) (S : State) : Prop :=
  ∃ s₂ o, Steps p.tables e below S s₂ ∧ s₂.status = .running ∧ Ended s₂ below o ∧ ∃ v L, o = .returned v ∧ Q v s₂.heap L ∧ FrameEnd s o s₂ L rc rs
theorem OEnds.via (h : ∀ t, Steps p.tables e below S' t → Steps p.tables e below S t) (k : OEnds p e below s rc rs Q S') : OEnds p e below s rc rs Q S := by
  obtain ⟨t, o, h1, r⟩ := k
  exact ⟨t, o, h _ h1, r⟩
theorem OEnds.retN (X : Stand p l e R s m args below meth c T locs cells slots) (hx : p.tables.exec = Jvm.exec) (hlk : meth.locks = false) {pc : Nat} {Ls : Array Slot} {z : Int32} {t : FieldType} {rest : List Value} (hret : meth.sig.returnType = some t) (ht : t = .boolean ∨ t = .byte ∨ t = .char ∨ t = .short)
    (hd : decode c.code pc = .ok (.ireturn, 1)) (q : Q (some (.int (nar t z))) T.heap locs) (hc : cells ≤ rc) (hs : slots ≤ rs) : OEnds p e below s rc rs Q (T.setTop (mkF m pc Ls (.int z :: rest))) := by
  obtain ⟨fs, hr, hrun, hended, hW, hsame⟩ := X.leave (v := some (.int (nar t z))) (fun h => by rw [hret] at h; cases h) hlk
  exact ⟨_, _, Jvm.RoadKit.retN X hx hret ht hd hr, hrun, hended, _, _, rfl, q, ⟨_, rfl⟩, hW, hsame.mono hc hs⟩
theorem OEnds.retI (X : Stand p l e R s m args below meth c T locs cells slots) (hx : p.tables.exec = Jvm.exec) (hlk : meth.locks = false) {pc : Nat} {Ls : Array Slot} {z : Int32} {rest : List Value} (hret : meth.sig.returnType = some .int)
    (hd : decode c.code pc = .ok (.ireturn, 1)) (q : Q (some (.int z)) T.heap locs) (hc : cells ≤ rc) (hs : slots ≤ rs) : OEnds p e below s rc rs Q (T.setTop (mkF m pc Ls (.int z :: rest))) := by
  obtain ⟨fs, hr, hrun, hended, hW, hsame⟩ := X.leave (v := some (.int z)) (fun h => by rw [hret] at h; cases h) hlk
  exact ⟨_, _, retOut X hx hret rfl (Or.inl ⟨rfl, Or.inl rfl, z, rfl⟩) hd hr, hrun, hended, _, _, rfl, q, ⟨_, rfl⟩, hW, hsame.mono hc hs⟩
theorem OEnds.retJ (X : Stand p l e R s m args below meth c T locs cells slots) (hx : p.tables.exec = Jvm.exec) (hlk : meth.locks = false) {pc : Nat} {Ls : Array Slot} {z : Int64} {rest : List Value} (hret : meth.sig.returnType = some .long)
    (hd : decode c.code pc = .ok (.lreturn, 1)) (q : Q (some (.long z)) T.heap locs) (hc : cells ≤ rc) (hs : slots ≤ rs) : OEnds p e below s rc rs Q (T.setTop (mkF m pc Ls (.long z :: rest))) := by
  obtain ⟨fs, hr, hrun, hended, hW, hsame⟩ := X.leave (v := some (.long z)) (fun h => by rw [hret] at h; cases h) hlk
  exact ⟨_, _, retOut X hx hret rfl (Or.inr (Or.inl ⟨rfl, rfl, z, rfl⟩)) hd hr, hrun, hended, _, _, rfl, q, ⟨_, rfl⟩, hW, hsame.mono hc hs⟩
theorem OEnds.retR (X : Stand p l e R s m args below meth c T locs cells slots) (hx : p.tables.exec = Jvm.exec) (hlk : meth.locks = false) {pc : Nat} {Ls : Array Slot} {w : Value} {t : FieldType} {rest : List Value} (hret : meth.sig.returnType = some t) (ht : t.isReference = true) (hw : w.isRef = true)
    (hd : decode c.code pc = .ok (.areturn, 1)) (q : Q (some w) T.heap locs) (hc : cells ≤ rc) (hs : slots ≤ rs) : OEnds p e below s rc rs Q (T.setTop (mkF m pc Ls (w :: rest))) := by
  obtain ⟨fs, hr, hrun, hended, hW, hsame⟩ := X.leave (v := some w) (fun h => by rw [hret] at h; cases h) hlk
  have hn : narrow t w = w := by rcases ref_cases hw with rfl | ⟨a, rfl⟩ <;> cases t <;> rfl
  exact ⟨_, _, retOut X hx hret hn (Or.inr (Or.inr (Or.inr (Or.inr ⟨rfl, ht, hw⟩)))) hd hr, hrun, hended, _, _, rfl, q, ⟨_, rfl⟩, hW, hsame.mono hc hs⟩
theorem OEnds.retV (X : Stand p l e R s m args below meth c T locs cells slots) (hx : p.tables.exec = Jvm.exec) (hlk : meth.locks = false) {pc : Nat} {Ls : Array Slot} (hret : meth.sig.returnType = none)
    (hd : decode c.code pc = .ok (.return_, 1)) (q : Q none T.heap locs) (hc : cells ≤ rc) (hs : slots ≤ rs) : OEnds p e below s rc rs Q (T.setTop (mkF m pc Ls [])) := by
  obtain ⟨fs, hr, hrun, hended, hW, hsame⟩ := X.leave (v := none) (fun _ => rfl) hlk
  exact ⟨_, _, X.returnOut hx hret hd hr, hrun, hended, _, _, rfl, q, ⟨_, rfl⟩, hW, hsame.mono hc hs⟩
/-- the call answers r, writes nothing that was there, makes nothing -/
def QA (r : Option Value) (h0 : Heap) (n0 : Nat) : Option Value → Heap → List Loc → Prop := fun v h L => v = r ∧ Fr n0 L ∧ h = h0
/-- the law's own answer -/
def QL (n0 : Nat) : Option Value → Heap → List Loc → Prop := fun v _ L => v = some (.int 1) ∧ Fr n0 L
theorem own_lc0 (x : Int64) : lcmpW x x = 0 := by rw [lcW]; exact (lc_eq _ _).mpr rfl
theorem own_lcpos {x y : Int64} (h : y < x) : 0 < lcmpW x y := by rw [lcW]; exact (lc_gt _ _).mpr h
theorem own_lcnpos {x y : Int64} (h : ¬ y < x) : ¬ 0 < lcmpW x y := by rw [lcW]; exact fun q => h ((lc_gt _ _).mp q)
theorem own_narrow {t : String} {w : Value} (h : w.isRef = true) : narrow (.object t) w = w := by rcases ref_cases h with rfl | ⟨_, rfl⟩ <;> rfl
theorem own_fits {t : String} {w : Value} (h : w.isRef = true) : fits (.object t) w = true := by rcases ref_cases h with rfl | ⟨_, rfl⟩ <;> rfl
/-- a method's class is no interface, by a selects word that lands in it -/
theorem own_nfs {a0 : Array Value} {C : String} {y' z y : MethodName} (hsel : (Cond.selects C y' z).before a0 s = true) (e : y.cls = z.cls) : NotFace s y := fun r0 h0 => by
  obtain ⟨c2, r2, m2, q1, q2, q3, q4, kP, hkP, hkPi⟩ := Cond.selects_spec hsel
  have f1 := findClass_of_methodNamed h0
  have f2 := findClass_of_methodNamed q3
  rw [e, f2] at f1
  rw [← Option.some.inj f1]
  exact ⟨kP, hkP, hkPi⟩
end OwnKit
section OwnWords
variable {args : Array Value} {s : State} {t u : Term} {a : Addr} {cl : Cell} {ty : FieldType} {j k : Int32}
theorem own_eqint (h : (Jvm.Cond.eq t (.int k)).value args s none s [] = some true) : t.eval args s none [] s = some (.int k) := by
  obtain ⟨x, y, e1, e2, -, k2⟩ := cmp_v (Or.inl h)
  obtain rfl : Value.int k = y := Option.some.inj ((Term.int_eval k).symm.trans e2)
  obtain ⟨z, rfl⟩ : ∃ z, x = .int z := k2
  have q := gotT (Cond.eq_ints e1 (Term.int_eval k)) h
  rw [e1, q]
theorem own_len (h : (Jvm.Cond.eq (.length t) (.int k)).value args s none s [] = some true) (ev : t.eval args s none [] s = some (.ref a)) (A : Arr s s.heap a cl ty) : cl.slots.size < 2 ^ 31 ∧ cl.slots.size.toInt32 = k := by
  have e1 := own_eqint h
  have e2 : s.arrayAt? a = some cl := A.fin (Vm.Alike.refl _)
  have e3 : cl.slots.size < 2 ^ 31 := by
    refine Classical.byContradiction fun q => ?_
    simp [Term.eval, ev, e2, q] at e1
  have e4 := len_f ev e2 e3
  rw [e1] at e4
  exact ⟨e3, (Value.int.inj (Option.some.inj e4)).symm⟩
theorem own_elem (h : (Jvm.Cond.eq (.elem t (.int j)) (.int k)).value args s none s [] = some true) (ev : t.eval args s none [] s = some (.ref a)) (A : Arr s s.heap a cl ty) : cl.slots[j.toNatClampNeg]? = some (.int k) :=
  (elem_in (own_eqint h) ev (Term.int_eval j) A.1).2
theorem own_eqref (h : (Jvm.Cond.eq t u).value args s none s [] = some true) (eu : u.eval args s none [] s = some (.ref a)) : t.eval args s none [] s = some (.ref a) := by
  obtain ⟨x, y, e1, e2, -, k2⟩ := cmp_v (Or.inl h)
  obtain rfl : Value.ref a = y := Option.some.inj (eu.symm.trans e2)
  have hx : x.isRef = true := k2.2
  have q := gotT (eq_R e1 eu hx rfl) h
  rw [e1, q]
theorem own_elemR (h : (Jvm.Cond.eq (.elem t (.int j)) u).value args s none s [] = some true) {b : Addr} (eu : u.eval args s none [] s = some (.ref b)) (ev : t.eval args s none [] s = some (.ref a)) (A : Arr s s.heap a cl ty) : cl.slots[j.toNatClampNeg]? = some (.ref b) :=
  (elem_in (own_eqref h eu) ev (Term.int_eval j) A.1).2
theorem own_arrkeep {Z : State} {h h' : Heap} {a : Addr} {c : Cell} {ty : FieldType} {ws : List Addr} (A : Arr Z h a c ty) (K : Keep h h' ws) (q : a ∉ ws) : Arr Z h' a c ty := ⟨K.2.1 a c A.1 q, A.2⟩
end OwnWords
end Jvm.RoadKit
namespace Jvm.RoadKit
open Sem ClassFile Op Lib Jvm.Stand Jvm.Free Jvm.LawKit
section OwnWide
variable {p : Program} {l : Launch} {e : Env} {R : Room} {s : State} {m : MethodId} {args : Array Value} {below : List Frame} {meth : Method} {c : Code} {T : State} {locs : List Loc} {cells slots : Nat} {rc rs : Nat} {Q : Option Value → Vm → Heap → List Loc → Prop} {S S' : State} {Z : State} {a0 : Array Value} {EL : List (String × Nat)} {vm : Vm} {k0 : Nat} {h h0 : Heap}
/-- as OEnds, for a road that may intern constants: the books of the constants go on -/
def OEndsW (p : Program) (e : Env) (below : List Frame) (s : State) (Z : State) (EL : List (String × Nat)) (rc rs : Nat) (Q : Option Value → Vm → Heap → List Loc → Prop) (S : State) : Prop :=
  ∃ s₂ o, Steps p.tables e below S s₂ ∧ s₂.status = .running ∧ Ended s₂ below o ∧ ∃ v L, o = .returned v ∧ Q v s₂.vm s₂.heap L ∧ CHr Z EL s.vm s.heap s₂.vm s₂.heap ∧ ReturnedEndW s o s₂ L rc rs
theorem OEndsW.via (g : ∀ t, Steps p.tables e below S' t → Steps p.tables e below S t) (k : OEndsW p e below s Z EL rc rs Q S') : OEndsW p e below s Z EL rc rs Q S := by
  obtain ⟨t, o, h1, r⟩ := k
  exact ⟨t, o, g _ h1, r⟩
theorem OEndsW.out (X : Stand p l e R (s.setVm vm) m args below meth c T locs cells slots) (hlk : meth.locks = false) (hS : s.Since vm k0) (hk : k0 ≤ h.size) (hZ : Z.Warmed39 vm) (hEL : EW Z a0 EL) (eT : T.heap = h) (es : s.heap = h0) (CR : CHr Z EL s.vm h0 vm h) {v : Option Value} (hv : meth.sig.returnType = none → v = none)
    (hst : ∀ fs, (∀ (f : JFrame) (acts : List Action), f.method = m → f.locked = none → f.entered = [] → (doReturn e (T.setTop f) acts v).1 = T.setFrames fs) → Steps p.tables e below S (T.setFrames fs)) (q : Q v T.vm T.heap locs) (hc : cells ≤ rc) (hs : slots ≤ rs) : OEndsW p e below s Z EL rc rs Q S := by
  obtain ⟨fs, hr, hrun, hended, a, b, c', d⟩ := X.leaveW hS (by rw [eT]; exact hk) (v := v) hv hlk
  have A := CR.trans (CHv.at X hZ hEL CR.1)
  refine ⟨_, _, hst fs hr, hrun, hended, _, _, rfl, q, ?_, a, b, c', d.mono hc hs⟩
  show CHr Z EL s.vm s.heap T.vm T.heap
  rw [es, eT]
  exact A
theorem OEndsW.retN (X : Stand p l e R (s.setVm vm) m args below meth c T locs cells slots) (hx : p.tables.exec = Jvm.exec) (hlk : meth.locks = false) (hS : s.Since vm k0) (hk : k0 ≤ h.size) (hZ : Z.Warmed39 vm) (hEL : EW Z a0 EL) (eT : T.heap = h) (es : s.heap = h0) (CR : CHr Z EL s.vm h0 vm h) {pc : Nat} {Ls : Array Slot} {z : Int32} {t : FieldType} {rest : List Value} (hret : meth.sig.returnType = some t) (ht : t = .boolean ∨ t = .byte ∨ t = .char ∨ t = .short)
    (hd : decode c.code pc = .ok (.ireturn, 1)) (q : Q (some (.int (nar t z))) T.vm T.heap locs) (hc : cells ≤ rc) (hs : slots ≤ rs) : OEndsW p e below s Z EL rc rs Q (T.setTop (mkF m pc Ls (.int z :: rest))) :=
  OEndsW.out X hlk hS hk hZ hEL eT es CR (fun h => by rw [hret] at h; cases h) (fun fs hr => Jvm.RoadKit.retN X hx hret ht hd hr) q hc hs
theorem OEndsW.retI (X : Stand p l e R (s.setVm vm) m args below meth c T locs cells slots) (hx : p.tables.exec = Jvm.exec) (hlk : meth.locks = false) (hS : s.Since vm k0) (hk : k0 ≤ h.size) (hZ : Z.Warmed39 vm) (hEL : EW Z a0 EL) (eT : T.heap = h) (es : s.heap = h0) (CR : CHr Z EL s.vm h0 vm h) {pc : Nat} {Ls : Array Slot} {z : Int32} {rest : List Value} (hret : meth.sig.returnType = some .int)
    (hd : decode c.code pc = .ok (.ireturn, 1)) (q : Q (some (.int z)) T.vm T.heap locs) (hc : cells ≤ rc) (hs : slots ≤ rs) : OEndsW p e below s Z EL rc rs Q (T.setTop (mkF m pc Ls (.int z :: rest))) :=
  OEndsW.out X hlk hS hk hZ hEL eT es CR (fun h => by rw [hret] at h; cases h) (fun fs hr => retOut X hx hret rfl (Or.inl ⟨rfl, Or.inl rfl, z, rfl⟩) hd hr) q hc hs
theorem OEndsW.retJ (X : Stand p l e R (s.setVm vm) m args below meth c T locs cells slots) (hx : p.tables.exec = Jvm.exec) (hlk : meth.locks = false) (hS : s.Since vm k0) (hk : k0 ≤ h.size) (hZ : Z.Warmed39 vm) (hEL : EW Z a0 EL) (eT : T.heap = h) (es : s.heap = h0) (CR : CHr Z EL s.vm h0 vm h) {pc : Nat} {Ls : Array Slot} {z : Int64} {rest : List Value} (hret : meth.sig.returnType = some .long)
    (hd : decode c.code pc = .ok (.lreturn, 1)) (q : Q (some (.long z)) T.vm T.heap locs) (hc : cells ≤ rc) (hs : slots ≤ rs) : OEndsW p e below s Z EL rc rs Q (T.setTop (mkF m pc Ls (.long z :: rest))) :=
  OEndsW.out X hlk hS hk hZ hEL eT es CR (fun h => by rw [hret] at h; cases h) (fun fs hr => retOut X hx hret rfl (Or.inr (Or.inl ⟨rfl, rfl, z, rfl⟩)) hd hr) q hc hs
theorem OEndsW.retR (X : Stand p l e R (s.setVm vm) m args below meth c T locs cells slots) (hx : p.tables.exec = Jvm.exec) (hlk : meth.locks = false) (hS : s.Since vm k0) (hk : k0 ≤ h.size) (hZ : Z.Warmed39 vm) (hEL : EW Z a0 EL) (eT : T.heap = h) (es : s.heap = h0) (CR : CHr Z EL s.vm h0 vm h) {pc : Nat} {Ls : Array Slot} {w : Value} {t : FieldType} {rest : List Value} (hret : meth.sig.returnType = some t) (ht : t.isReference = true) (hw : w.isRef = true)
    (hd : decode c.code pc = .ok (.areturn, 1)) (q : Q (some w) T.vm T.heap locs) (hc : cells ≤ rc) (hs : slots ≤ rs) : OEndsW p e below s Z EL rc rs Q (T.setTop (mkF m pc Ls (w :: rest))) :=
  OEndsW.out X hlk hS hk hZ hEL eT es CR (fun h => by rw [hret] at h; cases h) (fun fs hr => retOut X hx hret (by rcases ref_cases hw with rfl | ⟨a, rfl⟩ <;> cases t <;> rfl) (Or.inr (Or.inr (Or.inr (Or.inr ⟨rfl, ht, hw⟩)))) hd hr) q hc hs
theorem OEndsW.retV (X : Stand p l e R (s.setVm vm) m args below meth c T locs cells slots) (hx : p.tables.exec = Jvm.exec) (hlk : meth.locks = false) (hS : s.Since vm k0) (hk : k0 ≤ h.size) (hZ : Z.Warmed39 vm) (hEL : EW Z a0 EL) (eT : T.heap = h) (es : s.heap = h0) (CR : CHr Z EL s.vm h0 vm h) {pc : Nat} {Ls : Array Slot} (hret : meth.sig.returnType = none)
    (hd : decode c.code pc = .ok (.return_, 1)) (q : Q none T.vm T.heap locs) (hc : cells ≤ rc) (hs : slots ≤ rs) : OEndsW p e below s Z EL rc rs Q (T.setTop (mkF m pc Ls [])) :=
  OEndsW.out X hlk hS hk hZ hEL eT es CR (fun _ => rfl) (fun fs hr => X.returnOut hx hret hd hr) q hc hs
theorem own_safeV {a : Addr} {k : ClassId} {ty : FieldType} {n : Int32} {vs : List Value} {d : Value} (hal : Z.vm.Alike vm) (V : Arv Z h a k ty n vs d) (ht : ty ≠ .byte) : Safe Z EL vm h a := by
  obtain ⟨c, A, -⟩ := V
  exact Safe.arr hal A ht
theorem own_safe_null {x : Addr} (hal : Z.vm.Alike vm) (E : Exa Z h x "java/lang/String") (F : Fld Z h x "java/lang/String" "value" "[B" .null) : Safe Z EL vm h x := fun B => by
  obtain ⟨p, -, u, a, -, q, -, G, rfl | rfl⟩ := B
  · obtain ⟨cell, cf, k, i, f, h1, h2, -, -, -, -, h7⟩ := F
    cases (show h[q.sa]? = some q.sC from G.ha).symm.trans h1
    obtain ⟨cS, ⟨⟨s1, s2, s3, ⟨cv, kv, iv, s4, s4'⟩, s5, s6, s7, s8, r⟩, hfS, hcS⟩, -⟩ := G
    obtain ⟨kv', z4⟩ := ff_back (U := Wst Z vm h) hal s4
    cases h2.symm.trans z4
    rw [s8] at h7
    cases h7
  · obtain ⟨cell, k, e1, e2, e3, -, -⟩ := E
    cases (show h[q.sd]? = some q.SA from G.hd).symm.trans e1
    obtain ⟨cS, -, -, f, -⟩ := G
    have f : vm.findClass "[B" = some q.SA.cls := f
    rw [hal.findClass] at f
    obtain ⟨k1, q1, q2⟩ := Vm.findClass_spec f
    obtain ⟨k2, q3, q4⟩ := Vm.findClass_spec e2
    cases q1.symm.trans q3
    exact absurd (q2.symm.trans q4) (by decide)
/-- a callee's contract that says of the tables too -/
theorem own_backOfSV {y : MethodName} {bytes : ByteArray} {maxL : Nat} {ret : Option FieldType} {rm : Room} {len W : Nat} {as' : Array Value} {vm0 : Vm}
    (hM : MetFree l y (head1 [Cond.code y bytes maxL ret] rm) (fun a U => a = as' ∧ Z.Warmed39 U.vm ∧ U.heap = h ∧ CHv Z EL U.vm h) (fun _ _ _ _ _ => True) (fun _ U o U' => ∃ v L, o = .returned v ∧ Q v U'.vm U'.heap L ∧ CHr Z EL U.vm U.heap U'.vm U'.heap ∧ ReturnedEndW U o U' L rm.cells rm.slots))
    (hZ : Z.Warmed39 vm0) (wc : (Cond.code y bytes maxL ret).before a0 Z = true) (wz : (Cond.initialized y.cls).before a0 Z = true) (hf : rm.frames + 1 ≤ R.frames) (hl : W + (maxL + 11) + rm.locals ≤ R.locals) (hEL : EW Z a0 EL) (H : CHv Z EL vm0 h) :
    BackS l R p e below (s.setVm vm0) args y len W (fun A a => a = as' ∧ A.U.heap = h ∧ A.cells + rm.cells ≤ R.cells ∧ A.slots + rm.slots ≤ R.slots)
      (fun A _ v B => ∃ L, Q v B.U.vm B.U.heap L ∧ B.locs = A.locs ++ L ∧ B.cells = A.cells + rm.cells ∧ B.slots = A.slots + rm.slots ∧ CHr Z EL vm0 h B.U.vm B.U.heap) := by
  refine BackS.of_freeW (bytes := bytes) (maxL := maxL) (ret := ret) (E := fun _ u o t L k n => (k = rm.cells ∧ n = rm.slots) ∧ ∃ v, o = .returned v ∧ Q v t.vm t.heap L ∧ CHr Z EL u.vm u.heap t.vm t.heap) hM hf hl ?_ ?_ (fun _ _ _ _ _ _ _ _ _ => trivial) ?_ ?_
  · intro m meth c A a Y hp
    have hU : Z.Warmed39 A.U.vm := wtrans (s := s.setVm vm0) hZ Y.warmed
    refine ⟨?_, mv hU wc, mv hU wz, hp.2.2.1, hp.2.2.2⟩
    show (Cond.and _ .tt).before a A.U = true
    rw [Cond.before_and, mv hU wc]
    rfl
  · intro m meth c A a g mk Y hp
    exact ⟨hp.1, wtrans (s := s.setVm vm0) hZ Y.warmed, hp.2.1, (CHv.at Y hZ hEL H).1⟩
  · rintro _ _ _ _ ⟨v, L, h1, h2, h3, h4⟩
    exact ⟨L, _, _, h4, ⟨rfl, rfl⟩, v, h1, h2, h3⟩
  · rintro m meth c A a g mk v t L k n Y hp _ _ ⟨⟨rfl, rfl⟩, w, e3, e4, e5⟩
    cases e3
    refine ⟨L, e4, rfl, rfl, rfl, (CHv.at Y hZ hEL H).trans ?_⟩
    rw [← hp.2.1]
    exact e5
theorem own_neArh {x b : Addr} {C : String} {n : Nat} {k : ClassId} {ty : FieldType} {z : Int32} {hs : List (Int32 × Value)} {vs : List Value} {d : Value} (E : Exa Z h x C) (F : Arh Z h b k ty z hs vs d) (w : (Cond.instantiable C n).before a0 Z = true) : x ≠ b := by
  obtain ⟨c, A, -⟩ := F
  exact ne_arr E w A
theorem own_safeH {a : Addr} {k : ClassId} {ty : FieldType} {n : Int32} {hs : List (Int32 × Value)} {vs : List Value} {d : Value} (hal : Z.vm.Alike vm) (V : Arh Z h a k ty n hs vs d) (ht : ty ≠ .byte) : Safe Z EL vm h a := by
  obtain ⟨c, A, -⟩ := V
  exact Safe.arr hal A ht
end OwnWide
end Jvm.RoadKit
/- laws to paste: Road.backV, Road.eqW, Road.lenW, Road.codOf (cut by pick.py; bodies as the Statement names them) -/
namespace Jvm.Pilot.@@N@@
namespace StrChars
open Jvm Sem ClassFile Op Lib Jvm.Stand Jvm.Free.XT Jvm.Free.ALB Jvm.Free.JM Jvm.Free
open Jvm.Lib.Cold (StaticIs)
/-- a char array whose places are chars -/
def Ch (a : Addr) (A : Cell) (U : State) : Prop := Arr .char a A U ∧ Typed .char A
theorem Ch.mv {a : Addr} {A : Cell} {U U' : State} (h : Ch a A U) (hal : U.vm.Alike U'.vm) (hh : U'.heap = U.heap) : Ch a A U' := ⟨h.1.mv hal hh, h.2⟩
theorem Ch.keep {a : Addr} {A : Cell} {U U' : State} (h : Ch a A U) (hal : U.vm.Alike U'.vm) (hk : U'.heap[a]? = some A) : Ch a A U' := ⟨h.1.keep hal hk, h.2⟩
/-- what place i of a char[]'s cell holds -/
def cv (A : Cell) (i : Nat) : Int32 := match A.slots[i]? with | some (.int x) => x | _ => 0
theorem Ch.get {a : Addr} {A : Cell} {U : State} (h : Ch a A U) {i : Nat} (hi : i < A.slots.size) : A.slots[i]? = some (.int (cv A i)) := by
  have e := Array.getElem?_eq_getElem hi
  have f := h.2 i _ e
  unfold cv; rw [e]
  generalize A.slots[i] = v at f
  cases v <;> simp [fits] at f ⊢
/-- the byte that i2b leaves of a char -/
def lo8 (x : Int32) : Int32 := x.toInt8.toInt32
theorem fits_lo8 (y : Int32) : fits .byte (.int (lo8 y)) = true := by
  have h1 := y.toInt8.le_toInt
  have h2 := y.toInt8.toInt_lt
  simp only [lo8, fits, Bool.and_eq_true, decide_eq_true_eq, Int32.le_iff_toInt_le, Int8.toInt_toInt32, show (-128 : Int32).toInt = -128 from by decide, show (127 : Int32).toInt = 127 from by decide]
  omega
/-- A' is A but that each place j of lo .. hi - 1 holds f j -/
def Laid (A A' : Cell) (lo hi : Nat) (f : Nat → Value) : Prop := A'.cls = A.cls ∧ A'.vm = A.vm ∧ A'.slots.size = A.slots.size ∧ ∀ i, A'.slots[i]? = if lo ≤ i ∧ i < hi then some (f i) else A.slots[i]?
theorem Laid.zero (A : Cell) (lo : Nat) (f : Nat → Value) : Laid A A lo (lo + 0) f := ⟨rfl, rfl, rfl, fun i => by rw [if_neg (by omega)]⟩
theorem Laid.step {A Ak : Cell} {lo k : Nat} {f : Nat → Value} {v : Value} (h : Laid A Ak lo k f) (hlo : lo ≤ k) (hk : k < Ak.slots.size) (hv : v = f k) : Laid A (Ak.setSlot k v) lo (k + 1) f := by
  refine ⟨h.1, h.2.1, by simpa [Cell.setSlot] using h.2.2.1, fun i => ?_⟩
  by_cases e : k = i
  · subst e; rw [Cell.slots_setSlot_self v hk, if_pos (by omega), hv]
  · rw [Cell.slots_setSlot_ne v e, h.2.2.2 i]
    by_cases q : lo ≤ i ∧ i < k
    · rw [if_pos q, if_pos (by omega)]
    · rw [if_neg q, if_neg (by omega)]
def U16 : String := "java/lang/StringUTF16"
namespace Cmp5
def yN : MethodName := ⟨"java/lang/StringUTF16", "compress", "([CI[BII)I"⟩
abbrev yB : ByteArray := jdk_52_method_21_code
theorem d0 : decode yB 0 = .ok (.iconst 0, 1) := by decide +kernel
theorem d1 : decode yB 1 = .ok (.istore 5, 2) := by decide +kernel
theorem d3 : decode yB 3 = .ok (.iload 5, 2) := by decide +kernel
theorem d5 : decode yB 5 = .ok (.iload 4, 2) := by decide +kernel
theorem d7 : decode yB 7 = .ok (.if_icmp (.ge) 37, 3) := by decide +kernel
theorem d10 : decode yB 10 = .ok (.aload_n 0, 1) := by decide +kernel
theorem d11 : decode yB 11 = .ok (.iload_n 1, 1) := by decide +kernel
theorem d12 : decode yB 12 = .ok (.caload, 1) := by decide +kernel
theorem d13 : decode yB 13 = .ok (.istore 6, 2) := by decide +kernel
theorem d15 : decode yB 15 = .ok (.iload 6, 2) := by decide +kernel
theorem d17 : decode yB 17 = .ok (.sipush 255, 3) := by decide +kernel
theorem d20 : decode yB 20 = .ok (.if_icmp (.le) 6, 3) := by decide +kernel
theorem d26 : decode yB 26 = .ok (.aload_n 2, 1) := by decide +kernel
theorem d27 : decode yB 27 = .ok (.iload_n 3, 1) := by decide +kernel
theorem d28 : decode yB 28 = .ok (.iload 6, 2) := by decide +kernel
theorem d30 : decode yB 30 = .ok (.i2b, 1) := by decide +kernel
theorem d31 : decode yB 31 = .ok (.bastore, 1) := by decide +kernel
theorem d32 : decode yB 32 = .ok (.iinc 1 1, 3) := by decide +kernel
theorem d35 : decode yB 35 = .ok (.iinc 3 1, 3) := by decide +kernel
theorem d38 : decode yB 38 = .ok (.iinc 5 1, 3) := by decide +kernel
theorem d41 : decode yB 41 = .ok (.goto (-38), 3) := by decide +kernel
theorem d44 : decode yB 44 = .ok (.iload 4, 2) := by decide +kernel
theorem d46 : decode yB 46 = .ok (.ireturn, 1) := by decide +kernel
def site : List Cond := []
def tab : Cond := tabOf yN yB 7 (some .int) site
def P (b : Addr) (A : Cell) (d : Addr) (B : Cell) (o q len : Nat) (args : Array Value) (s : State) : Prop := args = #[.ref b, .int (Int32.ofNat o), .ref d, .int (Int32.ofNat q), .int (Int32.ofNat len)] ∧ Ch b A s ∧ Arr .byte d B s ∧ b ≠ d ∧ o + len ≤ A.slots.size ∧ q + len ≤ B.slots.size ∧ ∀ i, i < len → ¬ 255 < cv A (o + i)
def E (b : Addr) (A : Cell) (d : Addr) (B : Cell) (o q len : Nat) (r : Option Value) (s u : State) : Prop := r = some (.int (Int32.ofNat len)) ∧ ∃ B', Put d B' s u ∧ Laid B B' q (q + len) (fun j => Value.int (lo8 (cv A (o + (j - q)))))
/-- no char of the range above 255: len; the places written hold each char's low byte -/
theorem law (l : Launch) (b : Addr) (A : Cell) (d : Addr) (B : Cell) (o q len : Nat) : Law l yN 5 5 0 0 yB 7 (some .int) site (P b A d B o q len) (E b A d B o q len) (copyLocs d q len) 0 0 := by
  refine Law.of_walk (plainFor_of_name (by decide +kernel)) (by decide +kernel) (by decide +kernel) (by decide) (fun _ _ h => by rw [h.1]; rfl) (fun _ U U' hal hh h => ⟨h.1, h.2.1.mv hal hh, h.2.2.1.mv hal hh, h.2.2.2⟩) (fun r U U' V V' h1 hal h2 h => ⟨h.1, h.2.elim fun B' q => ⟨B', q.1.mv h1 h2, q.2⟩⟩) ?_
  intro p e s m args below meth c s₁ X0 hexec hbytes hml hret hlk hnm hown hh0 W hP
  obtain ⟨rfl, hA, hB, hne, l1, l2, hp⟩ := hP
  have c1 : Steps p.tables e below (s₁.setTop (entryFrame m #[.ref b, .int (Int32.ofNat o), .ref d, .int (Int32.ofNat q), .int (Int32.ofNat len)] 7)) (s₁.setTop (mkF m 0 #[.val (.ref b), .val (.int (Int32.ofNat o)), .val (.ref d), .val (.int (Int32.ofNat q)), .val (.int (Int32.ofNat len)), .unset, .unset] [])) := entry rfl
  have hA0 := hA.1.mv X0.warmed.alike hh0
  have hB0 := hB.mv X0.warmed.alike hh0
  have a31 := hA.1.2.2.2
  have c2 : Steps p.tables e below (s₁.setTop (entryFrame m #[.ref b, .int (Int32.ofNat o), .ref d, .int (Int32.ofNat q), .int (Int32.ofNat len)] 7)) (s₁.setTop (mkF m 3 #[.val (.ref b), .val (.int (Int32.ofNat o)), .val (.ref d), .val (.int (Int32.ofNat q)), .val (.int (Int32.ofNat len)), .val (.int 0), .unset] [])) := c1.trans (by
    refine iconstV X0.here hexec rfl 0 (hb hbytes d0) (by decide) ?_
    refine XS.istore X0.here hexec rfl (hb hbytes d1) rfl rfl ?_
    exact Steps.refl _)
  have loop : ∀ (r i : Nat), i + r = len → ∀ (z : Slot), (z = .unset ∨ ∃ w, z = .val w ∧ w.category = 1) → ∀ (Tl : State) (Bk : Cell), Stand p l e { frames := 0, locals := 0, cells := 0, slots := 0 } s m #[.ref b, .int (Int32.ofNat o), .ref d, .int (Int32.ofNat q), .int (Int32.ofNat len)] below meth c Tl ([] ++ copyLocs d q i) 0 0 → Put d Bk s₁ Tl → Laid B Bk q (q + i) (fun j => Value.int (lo8 (cv A (o + (j - q))))) →
      Steps p.tables e below (s₁.setTop (entryFrame m #[.ref b, .int (Int32.ofNat o), .ref d, .int (Int32.ofNat q), .int (Int32.ofNat len)] 7)) (Tl.setTop (mkF m 3 #[.val (.ref b), .val (.int (Int32.ofNat (o + i))), .val (.ref d), .val (.int (Int32.ofNat (q + i))), .val (.int (Int32.ofNat len)), .val (.int (Int32.ofNat i)), z] [])) → ∃ (T' : State) (B' : Cell) (z' : Slot), Stand p l e { frames := 0, locals := 0, cells := 0, slots := 0 } s m #[.ref b, .int (Int32.ofNat o), .ref d, .int (Int32.ofNat q), .int (Int32.ofNat len)] below meth c T' ([] ++ copyLocs d q len) 0 0 ∧ Put d B' s₁ T' ∧ Laid B B' q (q + len) (fun j => Value.int (lo8 (cv A (o + (j - q))))) ∧
      Steps p.tables e below (s₁.setTop (entryFrame m #[.ref b, .int (Int32.ofNat o), .ref d, .int (Int32.ofNat q), .int (Int32.ofNat len)] 7)) (T'.setTop (mkF m 3 #[.val (.ref b), .val (.int (Int32.ofNat (o + len))), .val (.ref d), .val (.int (Int32.ofNat (q + len))), .val (.int (Int32.ofNat len)), .val (.int (Int32.ofNat len)), z'] [])) := by
    intro r
    induction r with
    | zero =>
      intro i hi z hz Tl Bk Xl pl fl cl
      have hil : i = len := by omega
      rw [hil] at Xl fl cl
      exact ⟨Tl, Bk, z, Xl, pl, fl, cl⟩
    | succ r ih =>
      intro i hi z hz Tl Bk Xl pl fl cl
      have all := X0.warmed.alike.symm.trans Xl.warmed.alike
      have hAl := hA0.keep all (pl.other hne hA0.1)
      have hBk := hB0.like all pl.1 fl.1 fl.2.1 fl.2.2.1
      have hlt : q + i < Bk.slots.size := by rw [fl.2.2.1]; omega
      have c3 : Steps p.tables e below (s₁.setTop (entryFrame m #[.ref b, .int (Int32.ofNat o), .ref d, .int (Int32.ofNat q), .int (Int32.ofNat len)] 7)) (Tl.setTop (mkF m 12 #[.val (.ref b), .val (.int (Int32.ofNat (o + i))), .val (.ref d), .val (.int (Int32.ofNat (q + i))), .val (.int (Int32.ofNat len)), .val (.int (Int32.ofNat i)), z] [.int (Int32.ofNat (o + i)), .ref b])) := cl.trans (by
        refine XS.iload Xl.here hexec rfl (hb hbytes d3) rfl ?_
        refine XS.iload Xl.here hexec rfl (hb hbytes d5) rfl ?_
        refine XS.icmpNo Xl.here hexec rfl (hb hbytes d7) rfl (ii_ge_f (lt32 (by omega) (by omega))) ?_
        refine XS.aloadN Xl.here hexec rfl (hb hbytes d10) rfl rfl ?_
        refine XS.iloadN Xl.here hexec rfl (hb hbytes d11) rfl ?_
        exact Steps.refl _)
      have c4 : Steps p.tables e below (s₁.setTop (entryFrame m #[.ref b, .int (Int32.ofNat o), .ref d, .int (Int32.ofNat q), .int (Int32.ofNat len)] 7)) (Tl.setTop (mkF m 13 #[.val (.ref b), .val (.int (Int32.ofNat (o + i))), .val (.ref d), .val (.int (Int32.ofNat (q + i))), .val (.int (Int32.ofNat len)), .val (.int (Int32.ofNat i)), z] [.int (cv A (o + i))])) := c3.trans (by
        refine Xl.aget hexec hAl rfl (hA.get (i := o + i) (by omega)) rfl rfl (hb hbytes d12) ?_
        exact Steps.refl _)
      have c5 : Steps p.tables e below (s₁.setTop (entryFrame m #[.ref b, .int (Int32.ofNat o), .ref d, .int (Int32.ofNat q), .int (Int32.ofNat len)] 7)) (Tl.setTop (mkF m 15 #[.val (.ref b), .val (.int (Int32.ofNat (o + i))), .val (.ref d), .val (.int (Int32.ofNat (q + i))), .val (.int (Int32.ofNat len)), .val (.int (Int32.ofNat i)), .val (.int (cv A (o + i)))] [])) := c4.trans (by
        refine XS.istoreS Xl.here hexec rfl (hb hbytes d13) rfl rfl hz ?_
        exact Steps.refl _)
      have c6 : Steps p.tables e below (s₁.setTop (entryFrame m #[.ref b, .int (Int32.ofNat o), .ref d, .int (Int32.ofNat q), .int (Int32.ofNat len)] 7)) (Tl.setTop (mkF m 31 #[.val (.ref b), .val (.int (Int32.ofNat (o + i))), .val (.ref d), .val (.int (Int32.ofNat (q + i))), .val (.int (Int32.ofNat len)), .val (.int (Int32.ofNat i)), .val (.int (cv A (o + i)))] [.int (lo8 (cv A (o + i))), .int (Int32.ofNat (q + i)), .ref d])) := c5.trans (by
        refine XS.iload Xl.here hexec rfl (hb hbytes d15) rfl ?_
        refine sipushV Xl.here hexec rfl 255 (hb hbytes d17) (by decide) ?_
        refine XS.icmpYes Xl.here hexec rfl (pc0 := 20) rfl (hb hbytes d20) rfl (ii_le_t (hp i (by omega))) (by decide) rfl ?_
        refine XS.aloadN Xl.here hexec rfl (hb hbytes d26) rfl rfl ?_
        refine XS.iloadN Xl.here hexec rfl (hb hbytes d27) rfl ?_
        refine XS.iload Xl.here hexec rfl (hb hbytes d28) rfl ?_
        refine i2b Xl.here hexec rfl (hb hbytes d30) rfl ?_
        exact Steps.refl _)
      obtain ⟨T7, X7, p7, st7⟩ := Xl.aput hexec hBk rfl hlt rfl (fits_lo8 (cv A (o + i))) (g := (mkF m 31 #[.val (.ref b), .val (.int (Int32.ofNat (o + i))), .val (.ref d), .val (.int (Int32.ofNat (q + i))), .val (.int (Int32.ofNat len)), .val (.int (Int32.ofNat i)), .val (.int (cv A (o + i)))] [.int (lo8 (cv A (o + i))), .int (Int32.ofNat (q + i)), .ref d])) rfl (rest := []) rfl (hb hbytes d31)
      have c8 : Steps p.tables e below (s₁.setTop (entryFrame m #[.ref b, .int (Int32.ofNat o), .ref d, .int (Int32.ofNat q), .int (Int32.ofNat len)] 7)) (T7.setTop (mkF m 32 #[.val (.ref b), .val (.int (Int32.ofNat (o + i))), .val (.ref d), .val (.int (Int32.ofNat (q + i))), .val (.int (Int32.ofNat len)), .val (.int (Int32.ofNat i)), .val (.int (cv A (o + i)))] [])) := c6.trans (st7 _ (Steps.refl _))
      have c9 : Steps p.tables e below (s₁.setTop (entryFrame m #[.ref b, .int (Int32.ofNat o), .ref d, .int (Int32.ofNat q), .int (Int32.ofNat len)] 7)) (T7.setTop (mkF m 3 #[.val (.ref b), .val (.int (Int32.ofNat (o + i) + 1)), .val (.ref d), .val (.int (Int32.ofNat (q + i) + 1)), .val (.int (Int32.ofNat len)), .val (.int (Int32.ofNat i + 1)), .val (.int (cv A (o + i)))] [])) := c8.trans (by
        refine iincV X7.here hexec rfl 1 (hb hbytes d32) (by decide) rfl rfl ?_
        refine iincV X7.here hexec rfl 1 (hb hbytes d35) (by decide) rfl rfl ?_
        refine iincV X7.here hexec rfl 1 (hb hbytes d38) (by decide) rfl rfl ?_
        refine XS.goto X7.here hexec rfl (pc0 := 41) rfl (hb hbytes d41) (by decide) rfl ?_
        exact Steps.refl _)
      have c10 : Steps p.tables e below (s₁.setTop (entryFrame m #[.ref b, .int (Int32.ofNat o), .ref d, .int (Int32.ofNat q), .int (Int32.ofNat len)] 7)) (T7.setTop (mkF m 3 #[.val (.ref b), .val (.int (Int32.ofNat (o + (i + 1)))), .val (.ref d), .val (.int (Int32.ofNat (q + (i + 1)))), .val (.int (Int32.ofNat len)), .val (.int (Int32.ofNat (i + 1))), .val (.int (cv A (o + i)))] [])) := by
        have := c9
        rw [succ32, succ32, succ32] at this
        exact this
      exact ih (i + 1) (by omega) _ (Or.inr ⟨_, rfl, rfl⟩) T7 _ (by rw [copyLocs_step, ← List.append_assoc]; exact X7) (pl.trans p7) (fl.step (by omega) hlt (by simp)) c10
  obtain ⟨T9, B9, z9, X9, p9, f9, g9⟩ := loop len 0 (by omega) .unset (Or.inl rfl) s₁ B (by simpa [copyLocs] using X0) ⟨hB0.1, fun _ _ => rfl, rfl⟩ (Laid.zero _ _ _) c2
  have c11 : Steps p.tables e below (s₁.setTop (entryFrame m #[.ref b, .int (Int32.ofNat o), .ref d, .int (Int32.ofNat q), .int (Int32.ofNat len)] 7)) (T9.setTop (mkF m 46 #[.val (.ref b), .val (.int (Int32.ofNat (o + len))), .val (.ref d), .val (.int (Int32.ofNat (q + len))), .val (.int (Int32.ofNat len)), .val (.int (Int32.ofNat len)), z9] [.int (Int32.ofNat len)])) := g9.trans (by
    refine XS.iload X9.here hexec rfl (hb hbytes d3) rfl ?_
    refine XS.iload X9.here hexec rfl (hb hbytes d5) rfl ?_
    refine XS.icmpYes X9.here hexec rfl (pc0 := 7) rfl (hb hbytes d7) rfl (ii_ge_t (nlt32 (by omega) (Nat.le_refl _))) (by decide) rfl ?_
    refine XS.iload X9.here hexec rfl (hb hbytes d44) rfl ?_
    exact Steps.refl _)
  exact ⟨T9, some (.int (Int32.ofNat len)), _, _, _, X9, by simp, rfl, rfl, (fun h => by cases h), ⟨rfl, B9, p9.from hh0, f9⟩, fun fs hl => c11.trans (X9.ireturnOut hexec hret rfl (Or.inl rfl) (hb hbytes d46) hl)⟩
end Cmp5
namespace Cmp3
def yN : MethodName := ⟨"java/lang/StringUTF16", "compress", "([CII)[B"⟩
abbrev yB : ByteArray := jdk_52_method_16_code
theorem d0 : decode yB 0 = .ok (.iload_n 2, 1) := by decide +kernel
theorem d1 : decode yB 1 = .ok (.newarray .byte, 2) := by decide +kernel
theorem d3 : decode yB 3 = .ok (.astore_n 3, 1) := by decide +kernel
theorem d4 : decode yB 4 = .ok (.aload_n 0, 1) := by decide +kernel
theorem d5 : decode yB 5 = .ok (.iload_n 1, 1) := by decide +kernel
theorem d6 : decode yB 6 = .ok (.aload_n 3, 1) := by decide +kernel
theorem d7 : decode yB 7 = .ok (.iconst 0, 1) := by decide +kernel
theorem d8 : decode yB 8 = .ok (.iload_n 2, 1) := by decide +kernel
theorem d9 : decode yB 9 = .ok (.invokestatic 115, 3) := by decide +kernel
theorem d12 : decode yB 12 = .ok (.istore 4, 2) := by decide +kernel
theorem d14 : decode yB 14 = .ok (.iload 4, 2) := by decide +kernel
theorem d16 : decode yB 16 = .ok (.iload_n 2, 1) := by decide +kernel
theorem d17 : decode yB 17 = .ok (.if_icmp (.eq) 40, 3) := by decide +kernel
theorem d57 : decode yB 57 = .ok (.aload_n 3, 1) := by decide +kernel
theorem d58 : decode yB 58 = .ok (.areturn, 1) := by decide +kernel
def site : List Cond := [.arrayClass .byte, Cmp5.tab] ++ staticW U16 115 Cmp5.yN
def tab : Cond := tabOf yN yB 6 (some (.array .byte)) site
def P (b : Addr) (A : Cell) (o len : Nat) (args : Array Value) (s : State) : Prop := args = #[.ref b, .int (Int32.ofNat o), .int (Int32.ofNat len)] ∧ Ch b A s ∧ o + len ≤ A.slots.size ∧ len ≤ 536870912 ∧ ∀ i, i < len → ¬ 255 < cv A (o + i)
def E (b : Addr) (A : Cell) (o len : Nat) (r : Option Value) (s u : State) : Prop := NewArr .byte "[B" len (fun j => .int (lo8 (cv A (o + j)))) r s u ∧ u.heap.size = s.heap.size + 1
/-- no char of the range above 255: a new byte[] of their low bytes -/
theorem law (l : Launch) (b : Addr) (A : Cell) (o len : Nat) : Law l yN 3 3 1 18 yB 6 (some (.array .byte)) site (P b A o len) (E b A o len) [] 1 len := by
  refine Law.of_walk (plainFor_of_name (by decide +kernel)) (by decide +kernel) (by decide +kernel) (by decide) (fun _ _ h => by rw [h.1]; rfl) (fun _ U U' hal hh h => ⟨h.1, h.2.1.mv hal hh, h.2.2⟩) (fun r U U' V V' h1 hal h2 h => ⟨NewArr.mv r U U' V V' h1 hal h2 h.1, by rw [h1, h2]; exact h.2⟩) ?_
  intro p e s m args below meth c s₁ X0 hexec hbytes hml hret hlk hnm hown hh0 W hP
  obtain ⟨rfl, hA, l1, l2, hp⟩ := hP
  have a31 := hA.1.2.2.2
  have c1 : Steps p.tables e below (s₁.setTop (entryFrame m #[.ref b, .int (Int32.ofNat o), .int (Int32.ofNat len)] 6)) (s₁.setTop (mkF m 0 #[.val (.ref b), .val (.int (Int32.ofNat o)), .val (.int (Int32.ofNat len)), .unset, .unset, .unset] [])) := entry rfl
  have c2 : Steps p.tables e below (s₁.setTop (entryFrame m #[.ref b, .int (Int32.ofNat o), .int (Int32.ofNat len)] 6)) (s₁.setTop (mkF m 1 #[.val (.ref b), .val (.int (Int32.ofNat o)), .val (.int (Int32.ofNat len)), .unset, .unset, .unset] [.int (Int32.ofNat len)])) := c1.trans (by
    refine XS.iloadN X0.here hexec rfl (hb hbytes d0) rfl ?_
    exact Steps.refl _)
  obtain ⟨T3, B3, X3, ba3, bs3, bv3, bh3, bf3, st3⟩ := X0.anew hexec (atype := .byte) (wk W (.arrayClass .byte)) rfl (by show len * 1 ≤ _; omega) (by omega) (g := (mkF m 1 #[.val (.ref b), .val (.int (Int32.ofNat o)), .val (.int (Int32.ofNat len)), .unset, .unset, .unset] [.int (Int32.ofNat len)])) rfl (hb hbytes d1) (rest := []) rfl (Nat.le_refl _) (by show 0 + len ≤ len; omega)
  rw [hh0] at ba3 st3
  have kp3 : XT.Kept s T3 := (XT.Kept.of_eq hh0).push bh3
  have hA3 := hA.keep X3.warmed.alike (kp3 _ _ hA.1.1)
  have hne : b ≠ s.heap.size := hA.1.ne
  have c4 : Steps p.tables e below (s₁.setTop (entryFrame m #[.ref b, .int (Int32.ofNat o), .int (Int32.ofNat len)] 6)) (T3.setTop (mkF m 3 #[.val (.ref b), .val (.int (Int32.ofNat o)), .val (.int (Int32.ofNat len)), .unset, .unset, .unset] [.ref s.heap.size])) := c2.trans (st3 _ (Steps.refl _))
  have c5 : Steps p.tables e below (s₁.setTop (entryFrame m #[.ref b, .int (Int32.ofNat o), .int (Int32.ofNat len)] 6)) (T3.setTop (mkF m 9 #[.val (.ref b), .val (.int (Int32.ofNat o)), .val (.int (Int32.ofNat len)), .val (.ref s.heap.size), .unset, .unset] [.int (Int32.ofNat len), .int 0, .ref s.heap.size, .int (Int32.ofNat o), .ref b])) := c4.trans (by
    refine XS.astoreN X3.here hexec rfl (hb hbytes d3) rfl rfl rfl ?_
    refine XS.aloadN X3.here hexec rfl (hb hbytes d4) rfl rfl ?_
    refine XS.iloadN X3.here hexec rfl (hb hbytes d5) rfl ?_
    refine XS.aloadN X3.here hexec rfl (hb hbytes d6) rfl rfl ?_
    refine iconstV X3.here hexec rfl 0 (hb hbytes d7) (by decide) ?_
    refine XS.iloadN X3.here hexec rfl (hb hbytes d8) rfl ?_
    exact Steps.refl _)
  obtain ⟨v6, T6, X6, E6, g6⟩ := X3.callS hexec (Cmp5.law l b A s.heap.size B3 o 0 len) hown (wks W (staticW U16 115 Cmp5.yN)) (wk W Cmp5.tab) (W := 0) (Nat.le_of_ble_eq_true rfl) (Nat.le_of_ble_eq_true rfl) (Nat.le_refl _) (by show 0 + len + 0 ≤ len; omega) (g := (mkF m 9 #[.val (.ref b), .val (.int (Int32.ofNat o)), .val (.int (Int32.ofNat len)), .val (.ref s.heap.size), .unset, .unset] [.int (Int32.ofNat len), .int (Int32.ofNat 0), .ref s.heap.size, .int (Int32.ofNat o), .ref b])) rfl (by rw [hml]; rfl) c5 (argsL := [.ref b, .int (Int32.ofNat o), .ref s.heap.size, .int (Int32.ofNat 0), .int (Int32.ofNat len)]) (rest := []) rfl rfl (by show 2 * 0 + 0 ≤ _; decide) (hb hbytes d9) (⟨rfl, hA3, ba3, hne, l1, by rw [bs3]; simp, hp⟩)
  obtain ⟨rfl, B6, p6, f6⟩ := E6
  have c7 : Steps p.tables e below (s₁.setTop (entryFrame m #[.ref b, .int (Int32.ofNat o), .int (Int32.ofNat len)] 6)) (T6.setTop (mkF m 12 #[.val (.ref b), .val (.int (Int32.ofNat o)), .val (.int (Int32.ofNat len)), .val (.ref s.heap.size), .unset, .unset] [.int (Int32.ofNat len)])) := g6
  have c8 : Steps p.tables e below (s₁.setTop (entryFrame m #[.ref b, .int (Int32.ofNat o), .int (Int32.ofNat len)] 6)) (T6.setTop (mkF m 58 #[.val (.ref b), .val (.int (Int32.ofNat o)), .val (.int (Int32.ofNat len)), .val (.ref s.heap.size), .val (.int (Int32.ofNat len)), .unset] [.ref s.heap.size])) := c7.trans (by
    refine XS.istore X6.here hexec rfl (hb hbytes d12) rfl rfl ?_
    refine XS.iload X6.here hexec rfl (hb hbytes d14) rfl ?_
    refine XS.iloadN X6.here hexec rfl (hb hbytes d16) rfl ?_
    refine XS.icmpYes X6.here hexec rfl (pc0 := 17) rfl (hb hbytes d17) rfl (ii_eq_t rfl) (by decide) rfl ?_
    refine XS.aloadN X6.here hexec rfl (hb hbytes d57) rfl rfl ?_
    exact Steps.refl _)
  have X8 := X6.wide (L' := []) (cells' := 1) (slots' := len) (fun x hx hlt => by
    simp only [List.nil_append, copyLocs, List.mem_map, List.mem_range] at hx
    obtain ⟨i, -, rfl⟩ := hx
    exact absurd hlt (Nat.lt_irrefl _)) (Nat.le_refl _) (by omega)
  exact ⟨T6, some (.ref s.heap.size), _, _, _, X8, rfl, rfl, rfl, (fun h => by cases h), ⟨⟨rfl, B6, ba3.like (X3.warmed.alike.symm.trans X6.warmed.alike) p6.1 f6.1 f6.2.1 f6.2.2.1, f6.2.1.trans bv3, by rw [X6.warmed.alike.findClass, f6.1]; exact bf3, by rw [f6.2.2.1, bs3]; simp, fun j hj => by rw [f6.2.2.2 j, if_pos (by omega)]; rfl, kp3.put p6 (Nat.le_refl _)⟩, by rw [p6.2.2, bh3, hh0]; simp⟩, fun fs hl => c8.trans (X8.areturnOut hexec rfl hret rfl (hb hbytes d58) hl)⟩
end Cmp3
namespace CodL
def yN : MethodName := ⟨"java/lang/StringUTF16", "coderFromArrayLen", "([BI)B"⟩
abbrev yB : ByteArray := jdk_52_method_15_code
theorem d0 : decode yB 0 = .ok (.iload_n 1, 1) := by decide +kernel
theorem d1 : decode yB 1 = .ok (.aload_n 0, 1) := by decide +kernel
theorem d2 : decode yB 2 = .ok (.arraylength, 1) := by decide +kernel
theorem d3 : decode yB 3 = .ok (.isub, 1) := by decide +kernel
theorem d4 : decode yB 4 = .ok (.bipush 31, 2) := by decide +kernel
theorem d6 : decode yB 6 = .ok (.iushr, 1) := by decide +kernel
theorem d7 : decode yB 7 = .ok (.i2b, 1) := by decide +kernel
theorem d8 : decode yB 8 = .ok (.ireturn, 1) := by decide +kernel
def site : List Cond := []
def tab : Cond := tabOf yN yB 2 (some .byte) site
def P (d : Addr) (B : Cell) (args : Array Value) (s : State) : Prop := args = #[.ref d, .int (Int32.ofNat B.slots.size)] ∧ Arr .byte d B s
def E (r : Option Value) (s u : State) : Prop := XT.PureE (some (.int 0)) r s u
/-- an array as long as the number of chars: LATIN1 -/
theorem law (l : Launch) (d : Addr) (B : Cell) : Law l yN 2 2 0 0 yB 2 (some .byte) site (P d B) E [] 0 0 := by
  refine Law.of_walk (plainFor_of_name (by decide +kernel)) (by decide +kernel) (by decide +kernel) (by decide) (fun _ _ h => by rw [h.1]; rfl) (fun _ U U' hal hh h => ⟨h.1, h.2.mv hal hh⟩) (fun r U U' V V' h1 hal h2 h => XT.PureE.mv r U U' V V' h1 hal h2 h) ?_
  intro p e s m args below meth c s₁ X0 hexec hbytes hml hret hlk hnm hown hh0 W hP
  obtain ⟨rfl, hB⟩ := hP
  have hB0 := hB.mv X0.warmed.alike hh0
  have c1 : Steps p.tables e below (s₁.setTop (entryFrame m #[.ref d, .int (Int32.ofNat B.slots.size)] 2)) (s₁.setTop (mkF m 0 #[.val (.ref d), .val (.int (Int32.ofNat B.slots.size))] [])) := entry rfl
  have c2 : Steps p.tables e below (s₁.setTop (entryFrame m #[.ref d, .int (Int32.ofNat B.slots.size)] 2)) (s₁.setTop (mkF m 2 #[.val (.ref d), .val (.int (Int32.ofNat B.slots.size))] [.ref d, .int (Int32.ofNat B.slots.size)])) := c1.trans (by
    refine XS.iloadN X0.here hexec rfl (hb hbytes d0) rfl ?_
    refine XS.aloadN X0.here hexec rfl (hb hbytes d1) rfl rfl ?_
    exact Steps.refl _)
  have c3 : Steps p.tables e below (s₁.setTop (entryFrame m #[.ref d, .int (Int32.ofNat B.slots.size)] 2)) (s₁.setTop (mkF m 8 #[.val (.ref d), .val (.int (Int32.ofNat B.slots.size))] [.int (lo8 (ushr (Int32.ofNat B.slots.size - Int32.ofNat B.slots.size) 31))])) := c2.trans (by
    refine X0.alen hexec hB0 rfl rfl (hb hbytes d2) ?_
    refine XS.isub X0.here hexec rfl (hb hbytes d3) rfl ?_
    refine bipushV X0.here hexec rfl 31 (hb hbytes d4) (by decide) ?_
    refine iushr X0.here hexec rfl (hb hbytes d6) rfl ?_
    refine i2b X0.here hexec rfl (hb hbytes d7) rfl ?_
    exact Steps.refl _)
  have e0 : lo8 (ushr (Int32.ofNat B.slots.size - Int32.ofNat B.slots.size) 31) = 0 := by rw [Int32.sub_self]; decide
  rw [e0] at c3
  exact ⟨s₁, some (.int 0), _, _, _, X0, rfl, rfl, rfl, (fun h => by cases h), ⟨rfl, hh0⟩, fun fs hl => c3.trans (X0.ireturnOut hexec hret rfl (Or.inr (Or.inr (Or.inl rfl))) (hb hbytes d8) hl)⟩
end CodL
/-- the String at a is Latin-1 over a new byte[] (the heap's one new cell): the low bytes of the len chars of A from o on; every cell but a is kept -/
def Got (a : Addr) (D : Cell) (fV fC : Field) (A : Cell) (o len : Nat) (r : Option Value) (s u : State) : Prop := r = none ∧ ∃ D' V : Cell, Blank "java/lang/String" a D' u ∧ Same D D' [fV.slot, fC.slot] ∧ D'.slots[fV.slot]? = some (.ref s.heap.size) ∧ D'.slots[fC.slot]? = some (.int 0) ∧ Arr .byte s.heap.size V u ∧ V.vm = .none ∧ u.vm.findClass "[B" = some V.cls ∧ V.slots.size = len ∧ (∀ j, j < len → V.slots[j]? = some (.int (lo8 (cv A (o + j))))) ∧ (∀ (y : Addr) (c : Cell), y ≠ a → s.heap[y]? = some c → u.heap[y]? = some c) ∧ u.heap.size = s.heap.size + 1
theorem Got.mv {a : Addr} {D A : Cell} {fV fC : Field} {o len : Nat} : ∀ r (U U' V V' : State), U'.heap = U.heap → V.vm.Alike V'.vm → V'.heap = V.heap → Got a D fV fC A o len r U V → Got a D fV fC A o len r U' V' :=
  fun r U U' V V' h1 hal h2 ⟨e0, D', X, a1, a2, a3, a4, a5, a6, a7, a8, a9, a10, a11⟩ => ⟨e0, D', X, a1.mv hal h2, a2, by rw [h1]; exact a3, a4, by rw [h1]; exact a5.mv hal h2, a6, by rw [hal.findClass]; exact a7, a8, a9, by rw [h1, h2]; exact a10, by rw [h1, h2]; exact a11⟩
namespace New4
def yN : MethodName := ⟨"java/lang/String", "<init>", "([CIILjava/lang/Void;)V"⟩
abbrev yB : ByteArray := jdk_42_method_149_code
theorem d0 : decode yB 0 = .ok (.aload_n 0, 1) := by decide +kernel
theorem d1 : decode yB 1 = .ok (.invokespecial 1, 3) := by decide +kernel
theorem d4 : decode yB 4 = .ok (.iload_n 3, 1) := by decide +kernel
theorem d5 : decode yB 5 = .ok (.ifCond (.ne) 22, 3) := by decide +kernel
theorem d27 : decode yB 27 = .ok (.getstatic 38, 3) := by decide +kernel
theorem d30 : decode yB 30 = .ok (.ifCond (.eq) 28, 3) := by decide +kernel
theorem d33 : decode yB 33 = .ok (.aload_n 1, 1) := by decide +kernel
theorem d34 : decode yB 34 = .ok (.iload_n 2, 1) := by decide +kernel
theorem d35 : decode yB 35 = .ok (.iload_n 3, 1) := by decide +kernel
theorem d36 : decode yB 36 = .ok (.invokestatic 177, 3) := by decide +kernel
theorem d39 : decode yB 39 = .ok (.astore 5, 2) := by decide +kernel
theorem d41 : decode yB 41 = .ok (.aload_n 0, 1) := by decide +kernel
theorem d42 : decode yB 42 = .ok (.aload 5, 2) := by decide +kernel
theorem d44 : decode yB 44 = .ok (.iload_n 3, 1) := by decide +kernel
theorem d45 : decode yB 45 = .ok (.invokestatic 47, 3) := by decide +kernel
theorem d48 : decode yB 48 = .ok (.putfield 15, 3) := by decide +kernel
theorem d51 : decode yB 51 = .ok (.aload_n 0, 1) := by decide +kernel
theorem d52 : decode yB 52 = .ok (.aload 5, 2) := by decide +kernel
theorem d54 : decode yB 54 = .ok (.putfield 9, 3) := by decide +kernel
theorem d57 : decode yB 57 = .ok (.return_, 1) := by decide +kernel
def site : List Cond := [.fieldLink "java/lang/String" 38 "java/lang/String" "COMPACT_STRINGS" "Z", Cmp3.tab, CodL.tab, .laysFinal "java/lang/String" "java/lang/String" "value" "[B", .fieldLink "java/lang/String" 9 "java/lang/String" "value" "[B", .laysFinal "java/lang/String" "java/lang/String" "coder" "B", .fieldLink "java/lang/String" 15 "java/lang/String" "coder" "B"] ++ objW "java/lang/String" 1 ++ staticW "java/lang/String" 177 Cmp3.yN ++ staticW "java/lang/String" 47 CodL.yN
def tab : Cond := tabOf yN yB 6 none site
def P (a : Addr) (D : Cell) (fV fC : Field) (b : Addr) (A : Cell) (z : Int32) (o len : Nat) (args : Array Value) (s : State) : Prop := args = #[.ref a, .ref b, .int (Int32.ofNat o), .int (Int32.ofNat len), .null] ∧ Blank "java/lang/String" a D s ∧ Found "java/lang/String" "value" "[B" fV s ∧ Found "java/lang/String" "coder" "B" fC s ∧ Ch b A s ∧ StaticIs s "java/lang/String" "COMPACT_STRINGS" "Z" (.int z) ∧ ¬ z = 0 ∧ 0 < len ∧ o + len ≤ A.slots.size ∧ len ≤ 536870912 ∧ ∀ i, i < len → ¬ 255 < cv A (o + i)
def E (a : Addr) (D : Cell) (fV fC : Field) (A : Cell) (o len : Nat) (r : Option Value) (s u : State) : Prop := Got a D fV fC A o len r s u
/-- len > 0, no char of the range above 255: a Latin-1 String of their low bytes -/
theorem law (l : Launch) (a : Addr) (D : Cell) (fV fC : Field) (b : Addr) (A : Cell) (z : Int32) (o len : Nat) : Law l yN 5 4 2 35 yB 6 none site (P a D fV fC b A z o len) (E a D fV fC A o len) [⟨a, fC.slot⟩, ⟨a, fV.slot⟩] 1 len := by
  refine Law.of_walk (plainFor_of_name (by decide +kernel)) (by decide +kernel) (by decide +kernel) (by decide) (fun _ _ h => by rw [h.1]; rfl) (fun _ U U' hal hh h => ⟨h.1, h.2.1.mv hal hh, h.2.2.1.al hal, h.2.2.2.1.al hal, h.2.2.2.2.1.mv hal hh, h.2.2.2.2.2.1.there hal hh, h.2.2.2.2.2.2⟩) (fun r U U' V V' h1 hal h2 h => Got.mv r U U' V V' h1 hal h2 h) ?_
  intro p e s m args below meth c s₁ X0 hexec hbytes hml hret hlk hnm hown hh0 W hP
  obtain ⟨rfl, hB, f1, f2, hA, s1, hz, l0, l1, l2, hp⟩ := hP
  have a31 := hA.1.2.2.2
  have c1 : Steps p.tables e below (s₁.setTop (entryFrame m #[.ref a, .ref b, .int (Int32.ofNat o), .int (Int32.ofNat len), .null] 6)) (s₁.setTop (mkF m 0 #[.val (.ref a), .val (.ref b), .val (.int (Int32.ofNat o)), .val (.int (Int32.ofNat len)), .val .null, .unset] [])) := entry rfl
  have c2 : Steps p.tables e below (s₁.setTop (entryFrame m #[.ref a, .ref b, .int (Int32.ofNat o), .int (Int32.ofNat len), .null] 6)) (s₁.setTop (mkF m 1 #[.val (.ref a), .val (.ref b), .val (.int (Int32.ofNat o)), .val (.int (Int32.ofNat len)), .val .null, .unset] [.ref a])) := c1.trans (by
    refine XS.aloadN X0.here hexec rfl (hb hbytes d0) rfl rfl ?_
    exact Steps.refl _)
  obtain ⟨T3, X3, q3, st3⟩ := X0.oinit hexec hown (wks W (objW "java/lang/String" 1)) (g := (mkF m 1 #[.val (.ref a), .val (.ref b), .val (.int (Int32.ofNat o)), .val (.int (Int32.ofNat len)), .val .null, .unset] [.ref a])) rfl (by rw [hml]; rfl) (rest := []) rfl (hb hbytes d1) (W := 0) (by show 2 * 0 + 0 ≤ _; decide) (Nat.le_of_ble_eq_true rfl) (Nat.le_of_ble_eq_true rfl)
  have hh3 := q3.trans hh0
  have c4 : Steps p.tables e below (s₁.setTop (entryFrame m #[.ref a, .ref b, .int (Int32.ofNat o), .int (Int32.ofNat len), .null] 6)) (T3.setTop (mkF m 27 #[.val (.ref a), .val (.ref b), .val (.int (Int32.ofNat o)), .val (.int (Int32.ofNat len)), .val .null, .unset] [])) := (c2.trans (st3 _ (Steps.refl _))).trans (by
    refine XS.iloadN X3.here hexec rfl (hb hbytes d4) rfl ?_
    refine XS.ifYes X3.here hexec rfl (pc0 := 5) rfl (hb hbytes d5) rfl (i0_ne_t (nz32 (by omega) l0)) (by decide) rfl ?_
    exact Steps.refl _)
  obtain ⟨T5, X5, q5, st5⟩ := X3.sget hexec hown (wk W (.fieldLink "java/lang/String" 38 "java/lang/String" "COMPACT_STRINGS" "Z")) s1 (fun _ _ h => by rw [hh3]; exact h) (g := (mkF m 27 #[.val (.ref a), .val (.ref b), .val (.int (Int32.ofNat o)), .val (.int (Int32.ofNat len)), .val .null, .unset] [])) rfl (hb hbytes d27)
  have hh5 := q5.trans hh3
  have c6 : Steps p.tables e below (s₁.setTop (entryFrame m #[.ref a, .ref b, .int (Int32.ofNat o), .int (Int32.ofNat len), .null] 6)) (T5.setTop (mkF m 30 #[.val (.ref a), .val (.ref b), .val (.int (Int32.ofNat o)), .val (.int (Int32.ofNat len)), .val .null, .unset] [.int z])) := c4.trans (st5 _ (Steps.refl _))
  have c7 : Steps p.tables e below (s₁.setTop (entryFrame m #[.ref a, .ref b, .int (Int32.ofNat o), .int (Int32.ofNat len), .null] 6)) (T5.setTop (mkF m 36 #[.val (.ref a), .val (.ref b), .val (.int (Int32.ofNat o)), .val (.int (Int32.ofNat len)), .val .null, .unset] [.int (Int32.ofNat len), .int (Int32.ofNat o), .ref b])) := c6.trans (by
    refine XS.ifNo X5.here hexec rfl (hb hbytes d30) rfl (i0_eq_f hz) ?_
    refine XS.aloadN X5.here hexec rfl (hb hbytes d33) rfl rfl ?_
    refine XS.iloadN X5.here hexec rfl (hb hbytes d34) rfl ?_
    refine XS.iloadN X5.here hexec rfl (hb hbytes d35) rfl ?_
    exact Steps.refl _)
  obtain ⟨v8, T8, X8, E8, g8⟩ := X5.callS hexec (Cmp3.law l b A o len) hown (wks W (staticW "java/lang/String" 177 Cmp3.yN)) (wk W Cmp3.tab) (W := 0) (Nat.le_of_ble_eq_true rfl) (Nat.le_of_ble_eq_true rfl) (Nat.le_refl _) (by show 0 + len ≤ len; omega) (g := (mkF m 36 #[.val (.ref a), .val (.ref b), .val (.int (Int32.ofNat o)), .val (.int (Int32.ofNat len)), .val .null, .unset] [.int (Int32.ofNat len), .int (Int32.ofNat o), .ref b])) rfl (by rw [hml]; rfl) c7 (argsL := [.ref b, .int (Int32.ofNat o), .int (Int32.ofNat len)]) (rest := []) rfl rfl (by show 2 * 0 + 0 ≤ _; decide) (hb hbytes d36) (⟨rfl, hA.mv X5.warmed.alike hh5, l1, l2, hp⟩)
  obtain ⟨e8, z8⟩ := E8
  obtain ⟨rfl, N, n1, n2, n3, n4, n5, n6⟩ := NewArr.mv _ T5 s _ _ hh5.symm (Vm.Alike.refl _) rfl e8
  rw [hh5] at z8
  have hB1 := hB.keep X8.warmed.alike (n6 _ _ hB.1)
  have hne : s.heap.size ≠ a := (Nat.ne_of_lt (Array.getElem?_eq_some_iff.mp hB.1).1).symm
  have c9 : Steps p.tables e below (s₁.setTop (entryFrame m #[.ref a, .ref b, .int (Int32.ofNat o), .int (Int32.ofNat len), .null] 6)) (T8.setTop (mkF m 39 #[.val (.ref a), .val (.ref b), .val (.int (Int32.ofNat o)), .val (.int (Int32.ofNat len)), .val .null, .unset] [.ref s.heap.size])) := g8
  have c10 : Steps p.tables e below (s₁.setTop (entryFrame m #[.ref a, .ref b, .int (Int32.ofNat o), .int (Int32.ofNat len), .null] 6)) (T8.setTop (mkF m 45 #[.val (.ref a), .val (.ref b), .val (.int (Int32.ofNat o)), .val (.int (Int32.ofNat len)), .val .null, .val (.ref s.heap.size)] [.int (Int32.ofNat N.slots.size), .ref s.heap.size, .ref a])) := by
    have hc : Steps p.tables e below (s₁.setTop (entryFrame m #[.ref a, .ref b, .int (Int32.ofNat o), .int (Int32.ofNat len), .null] 6)) (T8.setTop (mkF m 45 #[.val (.ref a), .val (.ref b), .val (.int (Int32.ofNat o)), .val (.int (Int32.ofNat len)), .val .null, .val (.ref s.heap.size)] [.int (Int32.ofNat len), .ref s.heap.size, .ref a])) := c9.trans (by
      refine XS.astore X8.here hexec rfl (hb hbytes d39) rfl rfl rfl ?_
      refine XS.aloadN X8.here hexec rfl (hb hbytes d41) rfl rfl ?_
      refine XS.aload X8.here hexec rfl (hb hbytes d42) rfl rfl ?_
      refine XS.iloadN X8.here hexec rfl (hb hbytes d44) rfl ?_
      exact Steps.refl _)
    rw [n4]; exact hc
  obtain ⟨v11, T11, X11, E11, g11⟩ := X8.callS hexec (CodL.law l s.heap.size N) hown (wks W (staticW "java/lang/String" 47 CodL.yN)) (wk W CodL.tab) (W := 1) (Nat.le_of_ble_eq_true rfl) (Nat.le_of_ble_eq_true rfl) (Nat.le_refl _) (by show 0 + len + 0 ≤ len; omega) (g := (mkF m 45 #[.val (.ref a), .val (.ref b), .val (.int (Int32.ofNat o)), .val (.int (Int32.ofNat len)), .val .null, .val (.ref s.heap.size)] [.int (Int32.ofNat N.slots.size), .ref s.heap.size, .ref a])) rfl (by rw [hml]; rfl) c10 (argsL := [.ref s.heap.size, .int (Int32.ofNat N.slots.size)]) (rest := [.ref a]) rfl rfl (by show 2 * 0 + (1 + 0) ≤ _; decide) (hb hbytes d45) (⟨rfl, n1⟩)
  obtain ⟨rfl, q11⟩ := E11
  have hB11 := hB1.mv (X8.warmed.alike.symm.trans X11.warmed.alike) q11
  have c12 : Steps p.tables e below (s₁.setTop (entryFrame m #[.ref a, .ref b, .int (Int32.ofNat o), .int (Int32.ofNat len), .null] 6)) (T11.setTop (mkF m 48 #[.val (.ref a), .val (.ref b), .val (.int (Int32.ofNat o)), .val (.int (Int32.ofNat len)), .val .null, .val (.ref s.heap.size)] [.int 0, .ref a])) := g11
  obtain ⟨T13, X13, p13, bl13, sl13, st13⟩ := X11.finit hexec hown (wk W (.fieldLink "java/lang/String" 15 "java/lang/String" "coder" "B")) (Or.inr ⟨_, (wk W (.laysFinal "java/lang/String" "java/lang/String" "coder" "B"))⟩) (Or.inl ⟨rfl, hnm⟩) f2 (Or.inl rfl) hB11 (t := .byte) (by decide +kernel) rfl (g := (mkF m 48 #[.val (.ref a), .val (.ref b), .val (.int (Int32.ofNat o)), .val (.int (Int32.ofNat len)), .val .null, .val (.ref s.heap.size)] [.int 0, .ref a])) rfl (rest := []) rfl (hb hbytes d48)
  have c14 : Steps p.tables e below (s₁.setTop (entryFrame m #[.ref a, .ref b, .int (Int32.ofNat o), .int (Int32.ofNat len), .null] 6)) (T13.setTop (mkF m 54 #[.val (.ref a), .val (.ref b), .val (.int (Int32.ofNat o)), .val (.int (Int32.ofNat len)), .val .null, .val (.ref s.heap.size)] [.ref s.heap.size, .ref a])) := (c12.trans (st13 _ (Steps.refl _))).trans (by
    refine XS.aloadN X13.here hexec rfl (hb hbytes d51) rfl rfl ?_
    refine XS.aload X13.here hexec rfl (hb hbytes d52) rfl rfl ?_
    exact Steps.refl _)
  obtain ⟨T15, X15, p15, bl15, sl15, st15⟩ := X13.finit hexec hown (wk W (.fieldLink "java/lang/String" 9 "java/lang/String" "value" "[B")) (Or.inr ⟨_, (wk W (.laysFinal "java/lang/String" "java/lang/String" "value" "[B"))⟩) (Or.inl ⟨rfl, hnm⟩) f1 (Or.inl rfl) bl13 (t := (.array .byte)) (by decide +kernel) rfl (g := (mkF m 54 #[.val (.ref a), .val (.ref b), .val (.int (Int32.ofNat o)), .val (.int (Int32.ofNat len)), .val .null, .val (.ref s.heap.size)] [.ref s.heap.size, .ref a])) rfl (rest := []) rfl (hb hbytes d54)
  have c16 : Steps p.tables e below (s₁.setTop (entryFrame m #[.ref a, .ref b, .int (Int32.ofNat o), .int (Int32.ofNat len), .null] 6)) (T15.setTop (mkF m 57 #[.val (.ref a), .val (.ref b), .val (.int (Int32.ofNat o)), .val (.int (Int32.ofNat len)), .val .null, .val (.ref s.heap.size)] [])) := c14.trans (st15 _ (Steps.refl _))
  have ap := apart (Or.inr ⟨_, (wk W (.laysFinal "java/lang/String" "java/lang/String" "value" "[B"))⟩) (Or.inr ⟨_, (wk W (.laysFinal "java/lang/String" "java/lang/String" "coder" "B"))⟩) f1 f2 (t₁ := .array .byte) (t₂ := .byte) (by decide +kernel) (by decide +kernel) (by decide)
  have al := X8.warmed.alike.symm.trans X15.warmed.alike
  have n7 : T11.heap[s.heap.size]? = some N := by rw [q11]; exact n1.1
  exact ⟨T15, none, _, _, _, X15, by simp, rfl, by omega, (fun _ => rfl), ⟨rfl, _, N, bl15, ((Same.refl D _).set _ (by simp)).set _ (by simp), sl15, (Cell.slots_setSlot_ne _ ap).trans sl13, n1.keep al (p15.other hne (p13.other hne n7)), n2, by rw [al.findClass]; exact n3, n4, n5, fun y c h1 h2 => p15.other h1 (p13.other h1 (by rw [q11]; exact n6 y c h2)), by rw [p15.2.2, p13.2.2, q11]; exact z8⟩, fun fs hl => c16.trans (X15.returnOut hexec hret (hb hbytes d57) hl)⟩
end New4
namespace New1
def yN : MethodName := ⟨"java/lang/String", "<init>", "([C)V"⟩
abbrev yB : ByteArray := jdk_42_method_3_code
theorem d0 : decode yB 0 = .ok (.aload_n 0, 1) := by decide +kernel
theorem d1 : decode yB 1 = .ok (.aload_n 1, 1) := by decide +kernel
theorem d2 : decode yB 2 = .ok (.iconst 0, 1) := by decide +kernel
theorem d3 : decode yB 3 = .ok (.aload_n 1, 1) := by decide +kernel
theorem d4 : decode yB 4 = .ok (.arraylength, 1) := by decide +kernel
theorem d5 : decode yB 5 = .ok (.aconst_null, 1) := by decide +kernel
theorem d6 : decode yB 6 = .ok (.invokespecial 27, 3) := by decide +kernel
theorem d9 : decode yB 9 = .ok (.return_, 1) := by decide +kernel
def site : List Cond := [New4.tab] ++ initW "java/lang/String" 27 New4.yN
def tab : Cond := tabOf yN yB 2 none site
def P (a : Addr) (D : Cell) (fV fC : Field) (b : Addr) (A : Cell) (z : Int32) (args : Array Value) (s : State) : Prop := args = #[.ref a, .ref b] ∧ Blank "java/lang/String" a D s ∧ Found "java/lang/String" "value" "[B" fV s ∧ Found "java/lang/String" "coder" "B" fC s ∧ Ch b A s ∧ StaticIs s "java/lang/String" "COMPACT_STRINGS" "Z" (.int z) ∧ ¬ z = 0 ∧ 0 < A.slots.size ∧ A.slots.size ≤ 536870912 ∧ ∀ i, i < A.slots.size → ¬ 255 < cv A i
def E (a : Addr) (D : Cell) (fV fC : Field) (A : Cell) (r : Option Value) (s u : State) : Prop := Got a D fV fC A 0 A.slots.size r s u
/-- new String(chars), not empty, no char above 255: a Latin-1 String of their low bytes -/
theorem law (l : Launch) (a : Addr) (D : Cell) (fV fC : Field) (b : Addr) (A : Cell) (z : Int32) : Law l yN 2 1 3 52 yB 2 none site (P a D fV fC b A z) (E a D fV fC A) [⟨a, fC.slot⟩, ⟨a, fV.slot⟩] 1 A.slots.size := by
  refine Law.of_walk (plainFor_of_name (by decide +kernel)) (by decide +kernel) (by decide +kernel) (by decide) (fun _ _ h => by rw [h.1]; rfl) (fun _ U U' hal hh h => ⟨h.1, h.2.1.mv hal hh, h.2.2.1.al hal, h.2.2.2.1.al hal, h.2.2.2.2.1.mv hal hh, h.2.2.2.2.2.1.there hal hh, h.2.2.2.2.2.2⟩) (fun r U U' V V' h1 hal h2 h => Got.mv r U U' V V' h1 hal h2 h) ?_
  intro p e s m args below meth c s₁ X0 hexec hbytes hml hret hlk hnm hown hh0 W hP
  obtain ⟨rfl, hB, f1, f2, hA, s1, hz, l0, l2, hp⟩ := hP
  have c1 : Steps p.tables e below (s₁.setTop (entryFrame m #[.ref a, .ref b] 2)) (s₁.setTop (mkF m 0 #[.val (.ref a), .val (.ref b)] [])) := entry rfl
  have c2 : Steps p.tables e below (s₁.setTop (entryFrame m #[.ref a, .ref b] 2)) (s₁.setTop (mkF m 6 #[.val (.ref a), .val (.ref b)] [.null, .int (Int32.ofNat A.slots.size), .int 0, .ref b, .ref a])) := c1.trans (by
    refine XS.aloadN X0.here hexec rfl (hb hbytes d0) rfl rfl ?_
    refine XS.aloadN X0.here hexec rfl (hb hbytes d1) rfl rfl ?_
    refine iconstV X0.here hexec rfl 0 (hb hbytes d2) (by decide) ?_
    refine XS.aloadN X0.here hexec rfl (hb hbytes d3) rfl rfl ?_
    refine X0.alen hexec (hA.1.mv X0.warmed.alike hh0) rfl rfl (hb hbytes d4) ?_
    refine XS.aconstNull X0.here hexec rfl (hb hbytes d5) ?_
    exact Steps.refl _)
  obtain ⟨v3, T3, X3, E3, g3⟩ := X0.callN hexec (New4.law l a D fV fC b A z 0 A.slots.size) rfl hown (wks W (initW "java/lang/String" 27 New4.yN)) (W New4.tab (by simp only [site, List.mem_cons, List.mem_append, true_or, or_true])) (W := 0) (Nat.le_of_ble_eq_true rfl) (Nat.le_of_ble_eq_true rfl) (Nat.le_refl _) (by show 0 + A.slots.size ≤ A.slots.size; omega) (g := (mkF m 6 #[.val (.ref a), .val (.ref b)] [.null, .int (Int32.ofNat A.slots.size), .int (Int32.ofNat 0), .ref b, .ref a])) rfl (by rw [hml]; rfl) c2 (argsL := [.ref b, .int (Int32.ofNat 0), .int (Int32.ofNat A.slots.size), .null]) (rest := []) rfl rfl (by show 2 * 0 + 0 ≤ _; decide) (hb hbytes d6) (⟨rfl, hB.mv X0.warmed.alike hh0, f1.al X0.warmed.alike, f2.al X0.warmed.alike, hA.mv X0.warmed.alike hh0, s1.there X0.warmed.alike hh0, hz, l0, by omega, l2, fun i hi => by rw [Nat.zero_add]; exact hp i hi⟩)
  have e0 := Got.mv _ s₁ s _ _ hh0.symm (Vm.Alike.refl _) rfl E3
  obtain rfl := e0.1
  have c4 : Steps p.tables e below (s₁.setTop (entryFrame m #[.ref a, .ref b] 2)) (T3.setTop (mkF m 9 #[.val (.ref a), .val (.ref b)] [])) := g3
  exact ⟨T3, none, _, _, _, X3, by simp, rfl, by omega, (fun _ => rfl), e0, fun fs hl => c4.trans (X3.returnOut hexec hret (hb hbytes d9) hl)⟩
theorem pays {l : Launch} {R : Room} {p : Program} {e : Env} {below : List Frame} {s : State} {sargs : Array Value} {len W : Nat} (a : Addr) (D : Cell) (fV fC : Field) (b : Addr) (A : Cell) (z : Int32) (htab : tab.before sargs s = true) (hfr : 4 ≤ R.frames) (hlo : W + 65 ≤ R.locals) :
    Back l R p e below s sargs yN len W (fun A₁ a₁ => A₁.cells + 1 ≤ R.cells ∧ A₁.slots + A.slots.size ≤ R.slots ∧ P a D fV fC b A z a₁ A₁.U) (fun A₁ _ v₁ B₁ => E a D fV fC A v₁ A₁.U B₁.U ∧ B₁.locs = A₁.locs ++ [⟨a, fC.slot⟩, ⟨a, fV.slot⟩] ∧ B₁.cells = A₁.cells + 1 ∧ B₁.slots = A₁.slots + A.slots.size) :=
  (law l a D fV fC b A z).pays htab hfr (by omega)
end New1
/-- the byte, read back as charAt reads it, is the char -/
theorem lo8_mask {x : Int32} (h0 : ¬ x < 0) (h1 : ¬ 255 < x) : lo8 x &&& 255 = x := by
  have t : ∀ k : Fin 256, lo8 (Int32.ofNat k.val) &&& 255 = Int32.ofNat k.val := by decide +kernel
  rw [Int32.lt_iff_toInt_lt] at h0 h1
  have e0 : (0 : Int32).toInt = 0 := rfl
  have e1 : (255 : Int32).toInt = 255 := rfl
  obtain ⟨k, hk⟩ : ∃ k : Nat, x.toInt = k := ⟨x.toInt.toNat, by omega⟩
  have hx : x = Int32.ofNat k := Int32.toInt_inj.mp (by rw [hk, Int32.toInt_ofNat_small (by omega)])
  rw [hx]
  exact t ⟨k, by omega⟩
end StrChars
namespace StrChars.Road
open Jvm Sem ClassFile Op Lib Jvm.Stand Jvm.Free Jvm.Free.XT
open Jvm.Lib.Cold (StaticIs)
abbrev ST : String := "java/lang/String"
/-- every table word that New1's law asks, flat -/
abbrev words : List Jvm.Cond := [.code New1.yN New1.yB 2 none, .initialized ST, .methodLink ST 27 New4.yN, .instanceMethod New4.yN,
  .code New4.yN New4.yB 6 none, .fieldLink ST 38 ST "COMPACT_STRINGS" "Z", .laysFinal ST ST "value" "[B", .fieldLink ST 9 ST "value" "[B", .laysFinal ST ST "coder" "B", .fieldLink ST 15 ST "coder" "B",
  .methodLink ST 1 Lib.objectInit, .instanceMethod Lib.objectInit, .code Lib.objectInit ⟨#[0xb1]⟩ 1 none, .methodLink ST 177 Cmp3.yN, .static Cmp3.yN, .methodLink ST 47 CodL.yN, .static CodL.yN,
  .code Cmp3.yN Cmp3.yB 6 (some (.array .byte)), .initialized U16, .arrayClass .byte, .methodLink U16 115 Cmp5.yN, .static Cmp5.yN, .code Cmp5.yN Cmp5.yB 7 (some .int), .code CodL.yN CodL.yB 2 (some .byte)]
theorem tab_of {a : Array Value} {s : State} (h : ∀ w ∈ words, w.before a s = true) : New1.tab.before a s = true := by
  have h5 : Cmp5.tab.before a s = true := unparts (wk h (.code Cmp5.yN Cmp5.yB 7 (some .int))) (wks h (.initialized Cmp5.yN.cls :: Cmp5.site))
  have hc : CodL.tab.before a s = true := unparts (wk h (.code CodL.yN CodL.yB 2 (some .byte))) (wks h (.initialized CodL.yN.cls :: CodL.site))
  have q5 : ∀ w ∈ Cmp5.tab :: words, w.before a s = true := fun w hw => (List.mem_cons.mp hw).elim (fun e => e ▸ h5) (h w)
  have h3 : Cmp3.tab.before a s = true := unparts (wk q5 (.code Cmp3.yN Cmp3.yB 6 (some (.array .byte)))) (wks q5 (.initialized Cmp3.yN.cls :: Cmp3.site))
  have q3 : ∀ w ∈ Cmp3.tab :: CodL.tab :: words, w.before a s = true := fun w hw => (List.mem_cons.mp hw).elim (fun e => e ▸ h3) fun hw => (List.mem_cons.mp hw).elim (fun e => e ▸ hc) (h w)
  have h4 : New4.tab.before a s = true := unparts (wk q3 (.code New4.yN New4.yB 6 none)) (wks q3 (.initialized New4.yN.cls :: New4.site))
  have q4 : ∀ w ∈ New4.tab :: words, w.before a s = true := fun w hw => (List.mem_cons.mp hw).elim (fun e => e ▸ h4) (h w)
  exact unparts (wk q4 (.code New1.yN New1.yB 2 none)) (wks q4 (.initialized New1.yN.cls :: New1.site))
/-- the words ride from the start Z to the walk's own state -/
theorem moved {Z s : State} {a0 args : Array Value} (hZ : Z.Warmed39 s.vm) (hw : ∀ d ∈ words, d.before a0 Z = true) : ∀ d ∈ words, d.before args s = true := fun d hd => by
  have q := hw d hd
  have t : ∀ d ∈ words, d = .arrayClass .byte ∨ (d.onTables && d.keepsFace) = true := by decide +kernel
  rcases t d hd with rfl | t
  · exact RoadKit.mvA hZ q
  · exact RoadKit.mv hZ q t
/-- WHAT COMES BACK, over the tables of the start Z: h the heap at the call, h' behind it -/
def Q (Z : State) (x : Addr) (A : Cell) (h : Heap) (v : Option Value) (h' : Heap) (L : List Loc) : Prop := v = none ∧ (∀ y ∈ L, y.base = x) ∧ RoadKit.Keep h h' [x] ∧ h'.size = h.size + 1 ∧ RoadKit.Exa Z h' x ST ∧ RoadKit.Fld Z h' x ST "value" "[B" (.ref h.size) ∧ RoadKit.Fld Z h' x ST "coder" "B" (.int 0) ∧
  (∃ V : Cell, RoadKit.Arr Z h' h.size V .byte ∧ V.vm = .none ∧ Z.vm.findClass "[B" = some V.cls ∧ V.slots.size = A.slots.size ∧ ∀ j, j < A.slots.size → V.slots[j]? = some (.int (lo8 (cv A j)))) ∧
  ∀ (O n d : String) (w : Value), RoadKit.Fld Z h x O n d w → RoadKit.slotOf Z O n d ≠ RoadKit.slotOf Z ST "value" "[B" → RoadKit.slotOf Z O n d ≠ RoadKit.slotOf Z ST "coder" "B" → RoadKit.Fld Z h' x O n d w
/-- **new String(chars) AT A CALL, IN THE ROAD'S FORM**: for specialBack behind newO: x the fresh String, b the char[] with the cell A -/
theorem back {p : Program} {l : Launch} {e : Env} {R : Room} {s : State} {args : Array Value} {below : List Frame} {len W : Nat} {Z : State} {a0 : Array Value} {h : Heap} (hZ : Z.Warmed39 s.vm) (hw : ∀ d ∈ words, d.before a0 Z = true) {kI : Nat} (wi : (Jvm.Cond.instantiable ST kI).before a0 Z = true)
    {x b : Addr} {A : Cell} {z : Int32} {v0 c0 : Value} (E : RoadKit.Exa Z h x ST) (V : RoadKit.Fld Z h x ST "value" "[B" v0) (C : RoadKit.Fld Z h x ST "coder" "B" c0) (K : RoadKit.Arr Z h b A .char) (hty : Typed .char A) (S : RoadKit.Sta Z h ST "COMPACT_STRINGS" "Z" (.int z)) (hz : ¬ z = 0)
    (l0 : 0 < A.slots.size) (l2 : A.slots.size ≤ 536870912) (hp : ∀ i, i < A.slots.size → ¬ 255 < cv A i) (hfr : 4 ≤ R.frames) (hlo : W + 65 ≤ R.locals) :
    Back l R p e below s args New1.yN len W (fun P a => a = #[.ref x, .ref b] ∧ P.U.heap = h ∧ P.cells + 1 ≤ R.cells ∧ P.slots + A.slots.size ≤ R.slots)
      (fun P _ v B => ∃ L, Q Z x A h v B.U.heap L ∧ B.locs = P.locs ++ L ∧ B.cells = P.cells + 1 ∧ B.slots = P.slots + A.slots.size) := by
  intro m meth c P g ig mk a X hg hsize hdg hW hn hp'
  obtain ⟨rfl, rfl, r1, r2⟩ := hp'
  have al : Z.vm.Alike P.U.vm := hZ.alike.trans X.warmed.alike
  obtain ⟨D, cfV, kV, iV, fV, hD, gV, stV, knV, obV, asV, slV⟩ := id V
  obtain ⟨D', cfC, kC, iC, fC, hD', gC, stC, -, -, asC, slC⟩ := id C
  cases hD.symm.trans hD'
  obtain ⟨D2, kD, e1, e2, e3, e4, e5⟩ := id E
  cases hD.symm.trans e1
  obtain ⟨c2, k2, i1, i2, i3, -⟩ := Cond.instantiable_spec wi
  cases e2.symm.trans i1
  cases e3.symm.trans i2
  obtain ⟨kU, u1, u2⟩ := al.2.2 _ _ e3
  have hB : Blank ST x D P.U := ⟨hD, ⟨knV, fun q hq => by rw [hq] at obV; cases obV⟩, by rw [al.findClass]; exact e2, kU, u1, by rw [u2]; exact i3, by rw [u2]; exact e5 i3⟩
  have F1 : Found ST "value" "[B" fV P.U := ⟨SBG.found_only al ⟨cfV, kV, iV, gV⟩, stV⟩
  have F2 : Found ST "coder" "B" fC P.U := ⟨SBG.found_only al ⟨cfC, kC, iC, gC⟩, stC⟩
  have hA : Ch b A P.U := ⟨⟨K.1, State.isArrayOf_alike al K.2.1, K.2.2, by omega⟩, hty⟩
  have hS : StaticIs P.U ST "COMPACT_STRINGS" "Z" (.int z) := by
    obtain ⟨cfS, iS, kS, fS, st, cS, t1, t2, t3, t4, t5, t6, t7⟩ := S
    exact StaticIs.there (s := { Z with heap := P.U.heap }) ⟨cfS, iS, kS, fS, st, cS, t1, t2, t3, t4, t5, (fun q => by rw [q] at t6; cases t6), t7⟩ al rfl
  obtain ⟨v, B, X', ⟨⟨hv, E', V', q1, q2, q3, q4, q5, q6, q7, q8, q9, q10, q11⟩, hl, hc, hs⟩, st⟩ := New1.pays x D fV fC b A z (tab_of (moved hZ hw)) hfr hlo m meth c P g ig mk _ X hg hsize hdg hW hn ⟨r1, r2, rfl, hB, F1, F2, hA, hS, hz, l0, l2, hp⟩
  have al' : Z.vm.Alike B.U.vm := hZ.alike.trans X'.warmed.alike
  have hsz : E'.slots.size = D.slots.size := by
    obtain ⟨-, -, -, kB, w1, w2, w3⟩ := q1
    obtain ⟨kB', y1, y2⟩ := al'.2.2 _ _ e3
    rw [q2.2.1] at w1
    cases w1.symm.trans y1
    rw [w3, e5 i3, y2]
  refine ⟨v, B, X', ⟨_, ⟨hv, ?_, ⟨by omega, fun y cy hy hn' => q10 y cy (by simpa using hn') hy, fun y cy hy => ?_⟩, q11, ⟨E', _, q1.1, by rw [q2.2.1]; exact e2, by rw [q2.2.1]; exact e3, by rw [q2.1]; exact obV, fun _ => by rw [hsz]; exact e5 i3⟩,
    ⟨E', cfV, kV, iV, fV, q1.1, gV, stV, by rw [q2.1]; exact knV, by rw [q2.1]; exact obV, by rw [q2.2.1]; exact asV, q3⟩, ⟨E', cfC, kC, iC, fC, q1.1, gC, stC, by rw [q2.1]; exact knV, by rw [q2.1]; exact obV, by rw [q2.2.1]; exact asC, q4⟩,
    ⟨V', ⟨q5.1, State.isArrayOf_alike al'.symm q5.2.1, q5.2.2.1⟩, q6, by rw [← al'.findClass]; exact q7, q8, fun j hj => by have := q9 j hj; rwa [Nat.zero_add] at this⟩, fun O n d w F n1 n2 => ?_⟩, hl, hc, hs⟩, st⟩
  · intro y hy
    simp only [List.mem_cons, List.not_mem_nil, or_false] at hy
    rcases hy with rfl | rfl <;> rfl
  · by_cases q : y = x
    · subst q
      cases hD.symm.trans hy
      exact ⟨E', q1.1, q2.2.1, q2.1, hsz⟩
    · exact ⟨cy, q10 y cy q hy, rfl, rfl, rfl⟩
  · obtain ⟨D3, cf, k, i, f, g1, g2, g3, g4, g5, g6, g7⟩ := F
    cases hD.symm.trans g1
    simp only [RoadKit.slotOf, g2, gV, gC, Option.map_some, Option.getD_some] at n1 n2
    exact ⟨E', cf, k, i, f, q1.1, g2, g3, by rw [q2.1]; exact g4, by rw [q2.1]; exact g5, by rw [q2.2.1]; exact g6, by rw [q2.2.2 f.slot (by simp [n1, n2])]; exact g7⟩
end StrChars.Road
namespace StrChars.Road
open Jvm Sem ClassFile Op Lib Jvm.Stand Jvm.Free Jvm.Free.XT
/-- WHAT COMES BACK, the byte[] as a list of values -/
def QA (Z : State) (x : Addr) (zn : Int32) (cs : List Int32) (h : Heap) (v : Option Value) (h' : Heap) (L : List Loc) : Prop := v = none ∧ (∀ y ∈ L, y.base = x) ∧ RoadKit.Keep h h' [x] ∧ h'.size = h.size + 1 ∧ RoadKit.Exa Z h' x ST ∧ RoadKit.Fld Z h' x ST "value" "[B" (.ref h.size) ∧ RoadKit.Fld Z h' x ST "coder" "B" (.int 0) ∧
  (∃ kb, Z.vm.findClass "[B" = some kb ∧ RoadKit.Arv Z h' h.size kb .byte zn (cs.map fun c => .int (lo8 c)) (.int 0)) ∧
  ∀ (O n d : String) (w : Value), RoadKit.Fld Z h x O n d w → RoadKit.slotOf Z O n d ≠ RoadKit.slotOf Z ST "value" "[B" → RoadKit.slotOf Z O n d ≠ RoadKit.slotOf Z ST "coder" "B" → RoadKit.Fld Z h' x O n d w
/-- **new String(chars) AT A CALL, THE ARRAYS AS LISTS**: the char[] at b holds cs, not empty, no char above 255 -/
theorem backArv {p : Program} {l : Launch} {e : Env} {R : Room} {s : State} {args : Array Value} {below : List Frame} {len W : Nat} {Z : State} {a0 : Array Value} {h : Heap} (hZ : Z.Warmed39 s.vm) (hw : ∀ d ∈ words, d.before a0 Z = true) {kI : Nat} (wi : (Jvm.Cond.instantiable ST kI).before a0 Z = true)
    {x b : Addr} {k : ClassId} {zn z : Int32} {cs : List Int32} {dv v0 c0 : Value} (E : RoadKit.Exa Z h x ST) (V : RoadKit.Fld Z h x ST "value" "[B" v0) (C : RoadKit.Fld Z h x ST "coder" "B" c0) (K : RoadKit.Arv Z h b k .char zn (cs.map Value.int) dv) (S : RoadKit.Sta Z h ST "COMPACT_STRINGS" "Z" (.int z)) (hz : ¬ z = 0)
    (hlen : zn.toNatClampNeg = cs.length) (h0 : 0 < cs.length) (hbig : cs.length ≤ 536870912) (hall : ∀ c ∈ cs, ¬ 255 < c) (hfr : 4 ≤ R.frames) (hlo : W + 65 ≤ R.locals) :
    Back l R p e below s args New1.yN len W (fun P a => a = #[.ref x, .ref b] ∧ P.U.heap = h ∧ P.cells + 1 ≤ R.cells ∧ P.slots + cs.length ≤ R.slots)
      (fun P _ v B => ∃ L, QA Z x zn cs h v B.U.heap L ∧ B.locs = P.locs ++ L ∧ B.cells = P.cells + 1 ∧ B.slots = P.slots + cs.length) := by
  obtain ⟨A, K1, K2, K3, K4, K5, K6⟩ := K
  have e : A.slots.size = cs.length := K3.trans hlen
  have hat : ∀ (i : Nat) (hi : i < cs.length), A.slots[i]? = some (.int cs[i]) := fun i hi => by rw [K5 i (by omega)]; simp [List.getD_eq_getElem?_getD, hi]
  have hcv : ∀ (i : Nat) (hi : i < cs.length), cv A i = cs[i] := fun i hi => by unfold cv; rw [hat i hi]
  have hty : Typed .char A := fun i v hv => by
    have hi : i < A.slots.size := (Array.getElem?_eq_some_iff.mp hv).1
    have q := K5 i hi
    rw [hv] at q
    rw [Option.some.inj q]
    exact K6 i hi
  refine Back.mono (back hZ hw wi E V C K1 hty S hz (by omega) (by omega) (fun i hi => by rw [hcv i (by omega)]; exact hall _ (List.getElem_mem _)) hfr hlo) (fun P a hp => ⟨hp.1, hp.2.1, hp.2.2.1, by rw [e]; exact hp.2.2.2⟩) (fun P a v B hp hq => ?_)
  obtain ⟨L, ⟨q1, q2, q3, q4, q5, q6, q7, ⟨V', v1, v2, v3, v4, v5⟩, q9⟩, hl, hc, hs⟩ := hq
  refine ⟨L, ⟨q1, q2, q3, q4, q5, q6, q7, ⟨V'.cls, v3, V', v1, rfl, by rw [v4, e, hlen], K4, fun i hi => ?_, fun i hi => ?_⟩, q9⟩, hl, hc, by rw [hs, e]⟩
  · have hi' : i < cs.length := by omega
    rw [v5 i (by omega), hcv i hi']; simp [List.getD_eq_getElem?_getD, hi']
  · have hi' : i < cs.length := by omega
    simp only [List.getD_eq_getElem?_getD, List.getElem?_map, List.getElem?_eq_getElem hi', Option.map_some, Option.getD_some]
    exact fits_lo8 _
end StrChars.Road
namespace StrChars.Road
open Jvm Sem ClassFile Op Lib Jvm.Stand Jvm.Free Jvm.Free.XT
/-- WHAT COMES BACK, in the writer's own shape -/
def QV (Z : State) (x : Addr) (N : Int32) (bs : List Int32) (h : Heap) (n0 : Nat) (v : Option Value) (h' : Heap) (L : List Loc) : Prop := v = none ∧ RoadKit.Fr n0 L ∧ RoadKit.Keep h h' [x] ∧ RoadKit.Exa Z h' x ST ∧ RoadKit.Fld Z h' x ST "coder" "B" (.int 0) ∧
  ∃ (t : Addr) (kb : ClassId), n0 ≤ t ∧ h.size ≤ t ∧ ¬ t = x ∧ RoadKit.Fld Z h' x ST "value" "[B" (.ref t) ∧ RoadKit.Arv Z h' t kb .byte N (bs.map Value.int) (.int 0)
/-- **new String(chars) AT A CALL, FOR THE WRITER**: a char[] of n known ints, each 0 to 255 -/
theorem backV {p : Program} {l : Launch} {e : Env} {R : Room} {s : State} {args : Array Value} {below : List Frame} {len W : Nat} {Z : State} {a0 : Array Value} {h : Heap} (hZ : Z.Warmed39 s.vm) (hw : ∀ d ∈ words, d.before a0 Z = true) {kI : Nat} (wi : (Jvm.Cond.instantiable ST kI).before a0 Z = true)
    {x b : Addr} {kC : ClassId} {cs bs : List Int32} {d v0 c0 : Value} {z N : Int32} {n n0 : Nat} (hx0 : n0 ≤ x) (hh0 : n0 ≤ h.size) (E : RoadKit.Exa Z h x ST) (V : RoadKit.Fld Z h x ST "value" "[B" v0) (C : RoadKit.Fld Z h x ST "coder" "B" c0) (K : RoadKit.Arv Z h b kC .char N (cs.map Value.int) d) (S : RoadKit.Sta Z h ST "COMPACT_STRINGS" "Z" (.int z)) (hz : ¬ z = 0)
    (hn : cs.length = n) (hN : N = Int32.ofNat n) (l0 : 0 < n) (l2 : n ≤ 4000) (hp : ∀ c ∈ cs, ¬ c < 0 ∧ ¬ (255 : Int32) < c) (hb : bs = cs.map (fun c => c.toInt8.toInt32)) (hfr : 4 ≤ R.frames) (hlo : W + 65 ≤ R.locals) :
    Back l R p e below s args (⟨"java/lang/String", "<init>", "([C)V"⟩ : MethodName) len W (fun P a => a = #[.ref x, .ref b] ∧ P.U.heap = h ∧ P.cells + 1 ≤ R.cells ∧ P.slots + n ≤ R.slots)
      (fun P _ v B => ∃ L, QV Z x N bs h n0 v B.U.heap L ∧ B.locs = P.locs ++ L ∧ B.cells = P.cells + 1 ∧ B.slots = P.slots + n) := by
  subst hn hN hb
  refine Back.mono (backArv hZ hw wi E V C K S hz (n32 (by omega)) l0 (by omega) (fun c hc => (hp c hc).2) hfr hlo) (fun P a hp => hp) (fun P a v B hp hq => ?_)
  obtain ⟨L, ⟨q1, q2, q3, q4, q5, q6, q7, ⟨kb, v1, v2⟩, q9⟩, hl, hc, hs⟩ := hq
  exact ⟨L, ⟨q1, fun y hy => by rw [q2 y hy]; exact hx0, q3, q5, q7, h.size, kb, hh0, Nat.le_refl _, Nat.ne_of_gt E.lt, q6, by rw [List.map_map]; exact v2⟩, hl, hc, hs⟩
end StrChars.Road
namespace StrChars
open Jvm Sem ClassFile Op Lib Jvm.Stand Jvm.Free.XT Jvm.Free.ALB Jvm.Free.JM Jvm.Free
open Jvm.Lib.Cold (StaticIs)
def hi8 (x : Int32) : Int32 := lo8 (x >>> ((8 : Int32) &&& 31))
/-- what StringUTF16.getChar makes of two bytes -/
def pairCh (u v : Int32) : Int32 := (((u &&& 255) <<< ((0 : Int32) &&& 31)) ||| ((v &&& 255) <<< ((8 : Int32) &&& 31))).toUInt32.toUInt16.toUInt32.toInt32
theorem shr0 (c : Int32) : c >>> ((0 : Int32) &&& 31) = c := by
  have e : ((0 : Int32) &&& 31) = 0 := by decide
  rw [e]
  apply Int32.toBitVec_inj.mp
  rw [Int32.toBitVec_shiftRight]
  have e1 : ((0 : Int32).toBitVec.smod 32) = 0#32 := by decide
  rw [e1, BitVec.sshiftRight_eq']
  exact BitVec.sshiftRight_zero
theorem lo8_and (x : Int32) : (lo8 x &&& 255).toBitVec.toNat = x.toBitVec.toNat % 256 := by
  have h : (lo8 x).toBitVec = (x.toBitVec.signExtend 8).signExtend 32 := by rw [lo8, Int8.toBitVec_toInt32, Int32.toBitVec_toInt8]
  rw [Int32.toBitVec_and, BitVec.toNat_and, h]
  have e : ((x.toBitVec.signExtend 8).signExtend 32).toNat % 256 = x.toBitVec.toNat % 256 := by
    rw [BitVec.toNat_signExtend]
    have hlt := x.toBitVec.isLt
    simp only [BitVec.toNat_setWidth, BitVec.toNat_signExtend]
    split <;> split <;> omega
  rw [← e]
  exact Nat.and_two_pow_sub_one_eq_mod _ 8
theorem pair_says {c : Int32} (h0 : ¬ c < 0) (h1 : ¬ 65535 < c) : pairCh (lo8 c) (hi8 c) = c := by
  rw [Int32.lt_iff_toInt_lt] at h0 h1
  have e0 : (0 : Int32).toInt = 0 := rfl
  have e1 : (65535 : Int32).toInt = 65535 := rfl
  have hc : c.toInt = c.toBitVec.toNat := by
    have := c.toBitVec.isLt
    have e : c.toInt = c.toBitVec.toInt := rfl
    rw [e] at h0 h1
    rw [e]
    rw [BitVec.toInt_eq_toNat_cond] at h0 h1 ⊢
    split at h0 <;> split <;> omega
  have hn : c.toBitVec.toNat < 65536 := by omega
  have a1 := lo8_and c
  have a2 : (hi8 c &&& 255).toBitVec.toNat = c.toBitVec.toNat / 256 := by
    rw [hi8, lo8_and]
    have e : ((8 : Int32) &&& 31) = 8 := by decide
    rw [e, Int32.toBitVec_shiftRight]
    have e2 : ((8 : Int32).toBitVec.smod 32) = 8#32 := by decide
    rw [e2, BitVec.sshiftRight_eq', BitVec.toNat_sshiftRight_of_msb_false (by rw [BitVec.msb_eq_false_iff_two_mul_lt]; omega)]
    show c.toBitVec.toNat >>> 8 % 256 = _
    rw [Nat.shiftRight_eq_div_pow]
    omega
  unfold pairCh
  apply Int32.toBitVec_inj.mp
  apply BitVec.eq_of_toNat_eq
  have f0 : ((0 : Int32) &&& 31) = 0 := by decide
  have f8 : ((8 : Int32) &&& 31) = 8 := by decide
  rw [f0, f8]
  have g : (((lo8 c &&& 255) <<< (0 : Int32)) ||| ((hi8 c &&& 255) <<< (8 : Int32))).toBitVec.toNat = c.toBitVec.toNat := by
    rw [Int32.toBitVec_or, Int32.toBitVec_shiftLeft, Int32.toBitVec_shiftLeft]
    have s0 : ((0 : Int32).toBitVec.smod 32) = 0#32 := by decide
    have s8 : ((8 : Int32).toBitVec.smod 32) = 8#32 := by decide
    rw [s0, s8, BitVec.toNat_or]
    simp only [BitVec.shiftLeft_eq', BitVec.toNat_shiftLeft, a1, a2]
    show (c.toBitVec.toNat % 256) <<< 0 % 2 ^ 32 ||| (c.toBitVec.toNat / 256) <<< 8 % 2 ^ 32 = _
    rw [Nat.shiftLeft_zero, Nat.mod_eq_of_lt (show c.toBitVec.toNat % 256 < 2 ^ 32 by omega), Nat.mod_eq_of_lt (show (c.toBitVec.toNat / 256) <<< 8 < 2 ^ 32 by rw [Nat.shiftLeft_eq]; omega), Nat.or_comm, ← Nat.shiftLeft_add_eq_or_of_lt (by omega), Nat.shiftLeft_eq]
    omega
  show BitVec.toNat (((((lo8 c &&& 255) <<< (0 : Int32)) ||| ((hi8 c &&& 255) <<< (8 : Int32))).toBitVec.setWidth 16).setWidth 32) = _
  rw [BitVec.toNat_setWidth, BitVec.toNat_setWidth, g]
  omega
end StrChars
namespace StrChars
open Jvm Sem ClassFile Op Lib Jvm.Stand Jvm.Free.XT Jvm.Free.ALB Jvm.Free.JM Jvm.Free
open Jvm.Lib.Cold (StaticIs)
theorem shr1 {n : Nat} (h : 2 * n < 2 ^ 31) : Int32.ofNat (2 * n) >>> ((1 : Int32) &&& 31) = Int32.ofNat n := by
  have e : ((1 : Int32) &&& 31) = 1 := by decide
  rw [e]
  apply Int32.toBitVec_inj.mp
  rw [Int32.toBitVec_shiftRight]
  have e1 : ((1 : Int32).toBitVec.smod 32) = 1#32 := by decide
  have hm : (BitVec.ofNat 32 (2 * n)).toNat = 2 * n := by rw [BitVec.toNat_ofNat, Nat.mod_eq_of_lt (by omega)]
  rw [e1, BitVec.sshiftRight_eq']
  apply BitVec.eq_of_toNat_eq
  show ((BitVec.ofNat 32 (2 * n)).sshiftRight 1).toNat = (BitVec.ofNat 32 n).toNat
  rw [BitVec.toNat_sshiftRight_of_msb_false (by rw [BitVec.msb_eq_false_iff_two_mul_lt, hm]; omega), hm, BitVec.toNat_ofNat, Nat.shiftRight_eq_div_pow]
  omega
/-- the array's cell V codes the n chars f 0 .. f (n - 1) by the coder cd, as the JDK does: coder 1 just where some char is above 255 -/
def Cod (cd : Int32) (n : Nat) (f : Nat → Int32) (V : Cell) : Prop := (cd = 0 ∧ V.slots.size = n ∧ ∀ j, j < n → V.slots[j]? = some (.int (lo8 (f j))) ∧ ¬ 255 < f j) ∨ (cd = 1 ∧ V.slots.size = 2 * n ∧ (∀ j, j < n → V.slots[2 * j]? = some (.int (lo8 (f j))) ∧ V.slots[2 * j + 1]? = some (.int (hi8 (f j)))) ∧ ∃ j, j < n ∧ 255 < f j)
theorem Cod.cd {cd : Int32} {n : Nat} {f : Nat → Int32} {V : Cell} (h : Cod cd n f V) : cd = 0 ∨ cd = 1 := h.imp (fun q => q.1) fun q => q.1
theorem Cod.len {cd : Int32} {n : Nat} {f : Nat → Int32} {V : Cell} (h : Cod cd n f V) (hs : V.slots.size < 2 ^ 31) : Int32.ofNat V.slots.size >>> (cd &&& 31) = Int32.ofNat n := by
  rcases h with ⟨rfl, h, -⟩ | ⟨rfl, h, -⟩
  · rw [shr0, h]
  · rw [h, shr1 (by omega)]
/-- **x is a String of the n chars f 0 .. f (n - 1)**, Latin-1 or UTF-16; its array at t has the cell V -/
def Txt (x t : Addr) (V : Cell) (cd : Int32) (n : Nat) (f : Nat → Int32) (U : State) : Prop := Exact "java/lang/String" x U ∧ Has x "java/lang/String" "value" "[B" (.ref t) U ∧ Has x "java/lang/String" "coder" "B" (.int cd) U ∧ XT.Arr .byte t V U ∧ Cod cd n f V ∧ ∀ j, j < n → ¬ f j < 0 ∧ ¬ 65535 < f j
theorem Txt.mv {x t : Addr} {V : Cell} {cd : Int32} {n : Nat} {f : Nat → Int32} {U U' : State} (h : Txt x t V cd n f U) (hal : U.vm.Alike U'.vm) (hh : U'.heap = U.heap) : Txt x t V cd n f U' := ⟨h.1.mv hal hh, h.2.1.mv hal hh, h.2.2.1.mv hal hh, h.2.2.2.1.mv hal hh, h.2.2.2.2⟩
namespace Cdr
def yN : MethodName := ⟨"java/lang/String", "coder", "()B"⟩
abbrev yB : ByteArray := jdk_42_method_152_code
theorem d0 : decode yB 0 = .ok (.getstatic 38, 3) := by decide +kernel
theorem d3 : decode yB 3 = .ok (.ifCond (.eq) 10, 3) := by decide +kernel
theorem d6 : decode yB 6 = .ok (.aload_n 0, 1) := by decide +kernel
theorem d7 : decode yB 7 = .ok (.getfield 15, 3) := by decide +kernel
theorem d10 : decode yB 10 = .ok (.goto 4, 3) := by decide +kernel
theorem d14 : decode yB 14 = .ok (.ireturn, 1) := by decide +kernel
def site : List Cond := [.fieldLink "java/lang/String" 38 "java/lang/String" "COMPACT_STRINGS" "Z", .fieldLink "java/lang/String" 15 "java/lang/String" "coder" "B"]
def tab : Cond := tabOf yN yB 1 (some .byte) site
def P (x : Addr) (cd z : Int32) (args : Array Value) (s : State) : Prop := args = #[.ref x] ∧ Has x "java/lang/String" "coder" "B" (.int cd) s ∧ (cd = 0 ∨ cd = 1) ∧ StaticIs s "java/lang/String" "COMPACT_STRINGS" "Z" (.int z) ∧ ¬ z = 0
def E (cd : Int32) (r : Option Value) (s u : State) : Prop := XT.PureE (some (.int cd)) r s u
theorem law (l : Launch) (x : Addr) (cd z : Int32) : Law l yN 1 0 0 0 yB 1 (some .byte) site (P x cd z) (E cd) [] 0 0 := by
  refine Law.of_walk (plainFor_of_name (by decide +kernel)) (by decide +kernel) (by decide +kernel) (by decide) (fun _ _ h => by rw [h.1]; rfl) (fun _ U U' hal hh h => ⟨h.1, h.2.1.mv hal hh, h.2.2.1, h.2.2.2.1.there hal hh, h.2.2.2.2⟩) (fun r U U' V V' h1 hal h2 h => XT.PureE.mv r U U' V V' h1 hal h2 h) ?_
  intro p e s m args below meth c s₁ X0 hexec hbytes hml hret hlk hnm hown hh0 W hP
  obtain ⟨rfl, hx, hc, s1, hz⟩ := hP
  have c1 : Steps p.tables e below (s₁.setTop (entryFrame m #[.ref x] 1)) (s₁.setTop (mkF m 0 #[.val (.ref x)] [])) := entry rfl
  obtain ⟨T2, X2, q2, st2⟩ := X0.sget hexec hown (wk W (.fieldLink "java/lang/String" 38 "java/lang/String" "COMPACT_STRINGS" "Z")) s1 (fun _ _ h => by rw [hh0]; exact h) (g := (mkF m 0 #[.val (.ref x)] [])) rfl (hb hbytes d0)
  have hh2 := q2.trans hh0
  have c3 : Steps p.tables e below (s₁.setTop (entryFrame m #[.ref x] 1)) (T2.setTop (mkF m 7 #[.val (.ref x)] [.ref x])) := (c1.trans (st2 _ (Steps.refl _))).trans (by
    refine XS.ifNo X2.here hexec rfl (hb hbytes d3) rfl (i0_eq_f hz) ?_
    refine XS.aloadN X2.here hexec rfl (hb hbytes d6) rfl rfl ?_
    exact Steps.refl _)
  obtain ⟨T4, X4, q4, st4⟩ := X2.hget hexec hown (wk W (.fieldLink "java/lang/String" 15 "java/lang/String" "coder" "B")) (hx.mv X2.warmed.alike hh2) (g := (mkF m 7 #[.val (.ref x)] [.ref x])) rfl (rest := []) rfl (hb hbytes d7)
  have c5 : Steps p.tables e below (s₁.setTop (entryFrame m #[.ref x] 1)) (T4.setTop (mkF m 14 #[.val (.ref x)] [.int cd])) := (c3.trans (st4 _ (Steps.refl _))).trans (by
    refine XS.goto X4.here hexec rfl (pc0 := 10) rfl (hb hbytes d10) (by decide) rfl ?_
    exact Steps.refl _)
  exact ⟨T4, some (.int cd), _, _, _, X4, rfl, rfl, rfl, (fun h => by cases h), ⟨rfl, q4.trans hh2⟩, fun fs hl => c5.trans (X4.ireturnOut hexec hret (by rcases hc with rfl | rfl <;> rfl) (Or.inr (Or.inr (Or.inl rfl))) (hb hbytes d14) hl)⟩
end Cdr
namespace Len
def yN : MethodName := ⟨"java/lang/String", "length", "()I"⟩
abbrev yB : ByteArray := jdk_42_method_54_code
theorem d0 : decode yB 0 = .ok (.aload_n 0, 1) := by decide +kernel
theorem d1 : decode yB 1 = .ok (.getfield 9, 3) := by decide +kernel
theorem d4 : decode yB 4 = .ok (.arraylength, 1) := by decide +kernel
theorem d5 : decode yB 5 = .ok (.aload_n 0, 1) := by decide +kernel
theorem d6 : decode yB 6 = .ok (.invokevirtual 335, 3) := by decide +kernel
theorem d9 : decode yB 9 = .ok (.ishr, 1) := by decide +kernel
theorem d10 : decode yB 10 = .ok (.ireturn, 1) := by decide +kernel
def site : List Cond := [.fieldLink "java/lang/String" 9 "java/lang/String" "value" "[B", Cdr.tab] ++ virtW "java/lang/String" 335 "java/lang/String" Cdr.yN Cdr.yN
def tab : Cond := tabOf yN yB 1 (some .int) site
def P (x t : Addr) (V : Cell) (cd : Int32) (n : Nat) (f : Nat → Int32) (z : Int32) (args : Array Value) (s : State) : Prop := args = #[.ref x] ∧ Txt x t V cd n f s ∧ StaticIs s "java/lang/String" "COMPACT_STRINGS" "Z" (.int z) ∧ ¬ z = 0
def E (n : Nat) (r : Option Value) (s u : State) : Prop := XT.PureE (some (.int (Int32.ofNat n))) r s u
/-- length() of a String of n chars, in either coding -/
theorem law (l : Launch) (x t : Addr) (V : Cell) (cd : Int32) (n : Nat) (f : Nat → Int32) (z : Int32) : Law l yN 1 0 1 13 yB 1 (some .int) site (P x t V cd n f z) (E n) [] 0 0 := by
  refine Law.of_walk (plainFor_of_name (by decide +kernel)) (by decide +kernel) (by decide +kernel) (by decide) (fun _ _ h => by rw [h.1]; rfl) (fun _ U U' hal hh h => ⟨h.1, h.2.1.mv hal hh, h.2.2.1.there hal hh, h.2.2.2⟩) (fun r U U' V V' h1 hal h2 h => XT.PureE.mv r U U' V V' h1 hal h2 h) ?_
  intro p e s m args below meth c s₁ X0 hexec hbytes hml hret hlk hnm hown hh0 W hP
  obtain ⟨rfl, hx, s1, hz⟩ := hP
  have v31 := hx.2.2.2.1.2.2.2
  have c1 : Steps p.tables e below (s₁.setTop (entryFrame m #[.ref x] 1)) (s₁.setTop (mkF m 1 #[.val (.ref x)] [.ref x])) := Steps.trans (entry rfl) (by
    show Steps p.tables e below (s₁.setTop (mkF m 0 #[.val (.ref x)] [])) _
    refine XS.aloadN X0.here hexec rfl (hb hbytes d0) rfl rfl ?_
    exact Steps.refl _)
  obtain ⟨T2, X2, q2, st2⟩ := X0.hget hexec hown (wk W (.fieldLink "java/lang/String" 9 "java/lang/String" "value" "[B")) (hx.mv X0.warmed.alike hh0).2.1 (g := (mkF m 1 #[.val (.ref x)] [.ref x])) rfl (rest := []) rfl (hb hbytes d1)
  have hh2 := q2.trans hh0
  have hx2 := hx.mv X2.warmed.alike hh2
  have c3 : Steps p.tables e below (s₁.setTop (entryFrame m #[.ref x] 1)) (T2.setTop (mkF m 6 #[.val (.ref x)] [.ref x, .int (Int32.ofNat V.slots.size)])) := (c1.trans (st2 _ (Steps.refl _))).trans (by
    refine X2.alen hexec hx2.2.2.2.1 rfl rfl (hb hbytes d4) ?_
    refine XS.aloadN X2.here hexec rfl (hb hbytes d5) rfl rfl ?_
    exact Steps.refl _)
  obtain ⟨v4, T4, X4, E4, g4⟩ := X2.callV hexec (Cdr.law l x cd z) hown (wks W (virtW "java/lang/String" 335 "java/lang/String" Cdr.yN Cdr.yN)) rfl (by decide) (wk W Cdr.tab) (W := 1) (Nat.le_of_ble_eq_true rfl) (Nat.le_of_ble_eq_true rfl) (Nat.le_refl _) (Nat.le_refl _) (hx2.1.fc X2.warmed.alike) hx2.1.is (g := (mkF m 6 #[.val (.ref x)] [.ref x, .int (Int32.ofNat V.slots.size)])) rfl (by rw [hml]; rfl) c3 (argsL := []) (rest := [.int (Int32.ofNat V.slots.size)]) rfl rfl (by show 2 * 0 + (1 + 0) ≤ _; decide) (hb hbytes d6) (⟨rfl, hx2.2.2.1, hx.2.2.2.2.1.cd, s1.there X2.warmed.alike hh2, hz⟩)
  obtain ⟨rfl, q4⟩ := E4
  have c5 : Steps p.tables e below (s₁.setTop (entryFrame m #[.ref x] 1)) (T4.setTop (mkF m 10 #[.val (.ref x)] [.int (Int32.ofNat V.slots.size >>> (cd &&& 31))])) := Steps.trans g4 (by
    refine ishr X4.here hexec rfl (hb hbytes d9) rfl ?_
    exact Steps.refl _)
  rw [hx.2.2.2.2.1.len v31] at c5
  exact ⟨T4, some (.int (Int32.ofNat n)), _, _, _, X4, rfl, rfl, rfl, (fun h => by cases h), ⟨rfl, q4.trans hh2⟩, fun fs hl => c5.trans (X4.ireturnOut hexec hret rfl (Or.inl rfl) (hb hbytes d10) hl)⟩
theorem pays {l : Launch} {R : Room} {p : Program} {e : Env} {below : List Frame} {s : State} {sargs : Array Value} {len W : Nat} (x t : Addr) (V : Cell) (cd : Int32) (n : Nat) (f : Nat → Int32) (z : Int32) (htab : tab.before sargs s = true) (hfr : 2 ≤ R.frames) (hlo : W + 25 ≤ R.locals) :
    Back l R p e below s sargs yN len W (fun A₁ a₁ => A₁.cells + 0 ≤ R.cells ∧ A₁.slots + 0 ≤ R.slots ∧ P x t V cd n f z a₁ A₁.U) (fun A₁ _ v₁ B₁ => E n v₁ A₁.U B₁.U ∧ B₁.locs = A₁.locs ++ [] ∧ B₁.cells = A₁.cells + 0 ∧ B₁.slots = A₁.slots + 0) :=
  (law l x t V cd n f z).pays htab hfr (by omega)
end Len
end StrChars
namespace StrChars.Road
open Jvm Sem ClassFile Op Lib Jvm.Stand Jvm.Free Jvm.Free.XT
open Jvm.Lib.Cold (StaticIs)
theorem consq {a : Array Value} {s : State} {c : Jvm.Cond} {L : List Jvm.Cond} (h0 : c.before a s = true) (h : ∀ w ∈ L, w.before a s = true) : ∀ w ∈ c :: L, w.before a s = true := fun w hw => (List.mem_cons.mp hw).elim (fun e => e ▸ h0) (h w)
/-- the words of String.length(), either coding -/
abbrev wordsLen : List Jvm.Cond := [.code Len.yN Len.yB 1 (some .int), .initialized ST, .fieldLink ST 9 ST "value" "[B", .fieldLink ST 38 ST "COMPACT_STRINGS" "Z", .fieldLink ST 15 ST "coder" "B", .code Cdr.yN Cdr.yB 1 (some .byte), .methodLink ST 335 Cdr.yN, .declares Cdr.yN, .selects ST Cdr.yN Cdr.yN, .instanceMethod Cdr.yN]
theorem tabLen_of {a : Array Value} {s : State} (h : ∀ w ∈ wordsLen, w.before a s = true) : Len.tab.before a s = true := by
  have hc : Cdr.tab.before a s = true := unparts (wk h (.code Cdr.yN Cdr.yB 1 (some .byte))) (wks h (.initialized Cdr.yN.cls :: Cdr.site))
  have q := consq hc h
  exact unparts (wk q (.code Len.yN Len.yB 1 (some .int))) (wks q (.initialized Len.yN.cls :: Len.site))
theorem movedLen {Z s : State} {a0 args : Array Value} (hZ : Z.Warmed39 s.vm) (hw : ∀ d ∈ wordsLen, d.before a0 Z = true) : ∀ d ∈ wordsLen, d.before args s = true := fun d hd => by
  have q := hw d hd
  have t : ∀ d ∈ wordsLen, d = .arrayClass .byte ∨ (d.onTables && d.keepsFace) = true := by decide +kernel
  rcases t d hd with rfl | t
  · exact RoadKit.mvA hZ q
  · exact RoadKit.mv hZ q t
/-- the bytes of the chars cs, low before high -/
def wideBytes : List Int32 → List Value
  | [] => []
  | c :: cs => .int (lo8 c) :: .int (hi8 c) :: wideBytes cs
theorem wide_lo (d : Value) : ∀ (cs : List Int32) (j : Nat), j < cs.length → (wideBytes cs).getD (2 * j) d = .int (lo8 (cs.getD j 0))
  | [], j, h => absurd h (Nat.not_lt_zero j)
  | c :: cs, 0, _ => rfl
  | c :: cs, j + 1, h => by
    have q := wide_lo d cs j (by simpa using h)
    rw [show 2 * (j + 1) = 2 * j + 1 + 1 from by omega]
    simpa [wideBytes] using q
theorem wide_hi (d : Value) : ∀ (cs : List Int32) (j : Nat), j < cs.length → (wideBytes cs).getD (2 * j + 1) d = .int (hi8 (cs.getD j 0))
  | [], j, h => absurd h (Nat.not_lt_zero j)
  | c :: cs, 0, _ => rfl
  | c :: cs, j + 1, h => by
    have q := wide_hi d cs j (by simpa using h)
    rw [show 2 * (j + 1) + 1 = 2 * j + 1 + 1 + 1 from by omega]
    simpa [wideBytes] using q
theorem low_at (d : Value) (cs : List Int32) (j : Nat) (h : j < cs.length) : (cs.map fun c => Value.int (lo8 c)).getD j d = .int (lo8 (cs.getD j 0)) := by
  simp [List.getD_eq_getElem?_getD, h]
/-- an array of N2 bytes vs codes the chars cs by the coder cd -/
def CodA (cs : List Int32) (cd N2 : Int32) (vs : List Value) : Prop := (cd = 0 ∧ N2 = Int32.ofNat cs.length ∧ vs = (cs.map fun c => Value.int (lo8 c)) ∧ ∀ c ∈ cs, ¬ 255 < c) ∨ (cd = 1 ∧ N2 = Int32.ofNat (2 * cs.length) ∧ vs = wideBytes cs ∧ ∃ c ∈ cs, 255 < c)
theorem CodA.cod {cs : List Int32} {cd N2 : Int32} {vs : List Value} {V : Cell} (h : CodA cs cd N2 vs) (hn : 2 * cs.length < 2 ^ 31) (hs : V.slots.size = N2.toNatClampNeg) (hv : RoadKit.Has V vs (.int 0)) : Cod cd cs.length (fun j => cs.getD j 0) V := by
  rcases h with ⟨rfl, rfl, rfl, h⟩ | ⟨rfl, rfl, rfl, c, hc, hw⟩
  · rw [n32 (by omega)] at hs
    exact Or.inl ⟨rfl, hs, fun j hj => ⟨by rw [hv j (by omega), low_at _ _ _ hj], by
      have e : cs.getD j 0 = cs[j] := by simp [List.getD_eq_getElem?_getD, hj]
      show ¬ 255 < cs.getD j 0
      rw [e]; exact h _ (List.getElem_mem _)⟩⟩
  · rw [n32 (by omega)] at hs
    obtain ⟨j, hj, rfl⟩ := List.getElem_of_mem hc
    exact Or.inr ⟨rfl, hs, fun j hj => ⟨by rw [hv _ (by omega), wide_lo _ _ _ hj], by rw [hv _ (by omega), wide_hi _ _ _ hj]⟩, j, hj, by
      have e : cs.getD j 0 = cs[j] := by simp [List.getD_eq_getElem?_getD, hj]
      show 255 < cs.getD j 0
      rw [e]; exact hw⟩
/-- an object of exactly java/lang/String, its two fields found: as the laws ask it -/
theorem strObj {Z U : State} {a0 : Array Value} {kI : Nat} (wi : (Jvm.Cond.instantiable ST kI).before a0 Z = true) (al : Z.vm.Alike U.vm) {x : Addr} {v0 c0 : Value} (E : RoadKit.Exa Z U.heap x ST) (V : RoadKit.Fld Z U.heap x ST "value" "[B" v0) (C : RoadKit.Fld Z U.heap x ST "coder" "B" c0) :
    ∃ (D : Cell) (fV fC : Field), Blank ST x D U ∧ Found ST "value" "[B" fV U ∧ Found ST "coder" "B" fC U ∧ D.slots[fV.slot]? = some v0 ∧ D.slots[fC.slot]? = some c0 ∧ RoadKit.slotOf Z ST "value" "[B" = fV.slot ∧ RoadKit.slotOf Z ST "coder" "B" = fC.slot := by
  obtain ⟨D, cfV, kV, iV, fV, hD, gV, stV, knV, obV, asV, slV⟩ := V
  obtain ⟨D', cfC, kC, iC, fC, hD', gC, stC, -, -, asC, slC⟩ := C
  cases hD.symm.trans hD'
  obtain ⟨D2, kD, e1, e2, e3, e4, e5⟩ := E
  cases hD.symm.trans e1
  obtain ⟨c2, k2, i1, i2, i3, -⟩ := Cond.instantiable_spec wi
  cases e2.symm.trans i1
  cases e3.symm.trans i2
  obtain ⟨kU, u1, u2⟩ := al.2.2 _ _ e3
  exact ⟨D, fV, fC, ⟨hD, ⟨knV, fun q hq => by rw [hq] at obV; cases obV⟩, by rw [al.findClass]; exact e2, kU, u1, by rw [u2]; exact i3, by rw [u2]; exact e5 i3⟩, ⟨SBG.found_only al ⟨cfV, kV, iV, gV⟩, stV⟩, ⟨SBG.found_only al ⟨cfC, kC, iC, gC⟩, stC⟩, slV, slC, by simp [RoadKit.slotOf, gV], by simp [RoadKit.slotOf, gC]⟩
theorem sta_is {Z U : State} (al : Z.vm.Alike U.vm) {C n d : String} {v : Value} (S : RoadKit.Sta Z U.heap C n d v) : StaticIs U C n d v := by
  obtain ⟨cfS, iS, kS, fS, st, cS, t1, t2, t3, t4, t5, t6, t7⟩ := S
  exact StaticIs.there (s := { Z with heap := U.heap }) ⟨cfS, iS, kS, fS, st, cS, t1, t2, t3, t4, t5, (fun q => by rw [q] at t6; cases t6), t7⟩ al rfl
/-- **length() OF SUCH A STRING** -/
theorem lenW {p : Program} {l : Launch} {e : Env} {R : Room} {s : State} {args : Array Value} {below : List Frame} {len W : Nat} {Z : State} {a0 : Array Value} {h : Heap} (hZ : Z.Warmed39 s.vm) (hw : ∀ d ∈ wordsLen, d.before a0 Z = true) {kI : Nat} (wi : (Jvm.Cond.instantiable ST kI).before a0 Z = true)
    {x t : Addr} {kb : ClassId} {cs : List Int32} {cd N2 z : Int32} {vs : List Value} (E : RoadKit.Exa Z h x ST) (V : RoadKit.Fld Z h x ST "value" "[B" (.ref t)) (C : RoadKit.Fld Z h x ST "coder" "B" (.int cd)) (K : RoadKit.Arv Z h t kb .byte N2 vs (.int 0)) (hc : CodA cs cd N2 vs) (hb : ∀ c ∈ cs, ¬ c < 0 ∧ ¬ (65535 : Int32) < c)
    (S : RoadKit.Sta Z h ST "COMPACT_STRINGS" "Z" (.int z)) (hz : ¬ z = 0) (l2 : cs.length ≤ 4000) (hfr : 2 ≤ R.frames) (hlo : W + 25 ≤ R.locals) :
    Back l R p e below s args (⟨"java/lang/String", "length", "()I"⟩ : MethodName) len W (fun P a => a = #[.ref x] ∧ P.U.heap = h ∧ P.cells + 0 ≤ R.cells ∧ P.slots + 0 ≤ R.slots)
      (fun P _ v B => ∃ L, (v = some (.int (Int32.ofNat cs.length)) ∧ L = [] ∧ B.U.heap = h) ∧ B.locs = P.locs ++ L ∧ B.cells = P.cells + 0 ∧ B.slots = P.slots + 0) := by
  obtain ⟨A, K1, K2, K3, K4, K5, K6⟩ := K
  have hcod := hc.cod (by omega) K3 K5
  intro m meth c P g ig mk a X hg hsize hdg hW hn hp'
  obtain ⟨rfl, rfl, r1, r2⟩ := hp'
  have al : Z.vm.Alike P.U.vm := hZ.alike.trans X.warmed.alike
  obtain ⟨D, fV, fC, hB, F1, F2, g1, g2, -, -⟩ := strObj wi al E V C
  have hx : Txt x t A cd cs.length (fun j => cs.getD j 0) P.U := ⟨⟨_, hB.2.2.1, D, hB.1, rfl, by cases q : D.vm <;> first | rfl | exact absurd q (hB.2.1.2 _)⟩, Has.of hB F1 g1, Has.of hB F2 g2, ⟨K1.1, State.isArrayOf_alike al K1.2.1, K1.2.2, by rcases hcod with ⟨-, q, -⟩ | ⟨-, q, -⟩ <;> omega⟩, hcod, fun j hj => by
    have e : cs.getD j 0 = cs[j] := by simp [List.getD_eq_getElem?_getD, hj]
    show ¬ cs.getD j 0 < 0 ∧ ¬ 65535 < cs.getD j 0
    rw [e]; exact hb _ (List.getElem_mem _)⟩
  obtain ⟨v, B, X', ⟨⟨hv, hh⟩, hl, hk, hs⟩, st⟩ := Len.pays x t A cd cs.length (fun j => cs.getD j 0) z (tabLen_of (movedLen hZ hw)) hfr hlo m meth c P g ig mk _ X hg hsize hdg hW hn ⟨r1, r2, rfl, hx, sta_is al S, hz⟩
  exact ⟨v, B, X', ⟨[], ⟨hv, rfl, hh⟩, hl, hk, hs⟩, st⟩
end StrChars.Road
namespace StrChars
open Jvm Sem ClassFile Op Lib Jvm.Stand Jvm.Free.XT Jvm.Free.ALB Jvm.Free.JM Jvm.Free
open Jvm.Lib.Cold (StaticIs)
/-- what place i of a byte[]'s cell holds -/
def yv (A : Cell) (i : Nat) : Int32 := match A.slots[i]? with | some (.int x) => x | _ => 0
theorem yv_get {a : Addr} {A : Cell} {U : State} (h : XT.Arr .byte a A U) (ht : Typed .byte A) {i : Nat} (hi : i < A.slots.size) : A.slots[i]? = some (.int (yv A i)) := by
  have e := Array.getElem?_eq_getElem hi
  have f := ht i _ e
  unfold yv; rw [e]
  generalize A.slots[i] = v at f
  cases v <;> simp [fits] at f ⊢
/-- the two arrays are equal, place for place -/
def EqC (A B : Cell) : Prop := A.slots.size = B.slots.size ∧ ∀ i, i < A.slots.size → yv A i = yv B i
/-- a boolean that says whether p -/
def Says01 (q : Prop) (r : Option Value) (s u : State) : Prop := ∃ v : Int32, r = some (.int v) ∧ u.heap = s.heap ∧ ((v = 1 ∧ q) ∨ (v = 0 ∧ ¬ q))
theorem Says01.mv {q : Prop} : ∀ r (U U' V V' : State), U'.heap = U.heap → V.vm.Alike V'.vm → V'.heap = V.heap → Says01 q r U V → Says01 q r U' V' :=
  fun r U U' V V' h1 _ h2 ⟨v, a, b, c⟩ => ⟨v, a, by rw [h1, h2]; exact b, c⟩
namespace LEq
def yN : MethodName := ⟨"java/lang/StringLatin1", "equals", "([B[B)Z"⟩
abbrev yB : ByteArray := jdk_43_method_13_code
theorem d0 : decode yB 0 = .ok (.aload_n 0, 1) := by decide +kernel
theorem d1 : decode yB 1 = .ok (.arraylength, 1) := by decide +kernel
theorem d2 : decode yB 2 = .ok (.aload_n 1, 1) := by decide +kernel
theorem d3 : decode yB 3 = .ok (.arraylength, 1) := by decide +kernel
theorem d4 : decode yB 4 = .ok (.if_icmp (.ne) 30, 3) := by decide +kernel
theorem d7 : decode yB 7 = .ok (.iconst 0, 1) := by decide +kernel
theorem d8 : decode yB 8 = .ok (.istore_n 2, 1) := by decide +kernel
theorem d9 : decode yB 9 = .ok (.iload_n 2, 1) := by decide +kernel
theorem d10 : decode yB 10 = .ok (.aload_n 0, 1) := by decide +kernel
theorem d11 : decode yB 11 = .ok (.arraylength, 1) := by decide +kernel
theorem d12 : decode yB 12 = .ok (.if_icmp (.ge) 20, 3) := by decide +kernel
theorem d15 : decode yB 15 = .ok (.aload_n 0, 1) := by decide +kernel
theorem d16 : decode yB 16 = .ok (.iload_n 2, 1) := by decide +kernel
theorem d17 : decode yB 17 = .ok (.baload, 1) := by decide +kernel
theorem d18 : decode yB 18 = .ok (.aload_n 1, 1) := by decide +kernel
theorem d19 : decode yB 19 = .ok (.iload_n 2, 1) := by decide +kernel
theorem d20 : decode yB 20 = .ok (.baload, 1) := by decide +kernel
theorem d21 : decode yB 21 = .ok (.if_icmp (.eq) 5, 3) := by decide +kernel
theorem d24 : decode yB 24 = .ok (.iconst 0, 1) := by decide +kernel
theorem d25 : decode yB 25 = .ok (.ireturn, 1) := by decide +kernel
theorem d26 : decode yB 26 = .ok (.iinc 2 1, 3) := by decide +kernel
theorem d29 : decode yB 29 = .ok (.goto (-20), 3) := by decide +kernel
theorem d32 : decode yB 32 = .ok (.iconst 1, 1) := by decide +kernel
theorem d33 : decode yB 33 = .ok (.ireturn, 1) := by decide +kernel
theorem d34 : decode yB 34 = .ok (.iconst 0, 1) := by decide +kernel
theorem d35 : decode yB 35 = .ok (.ireturn, 1) := by decide +kernel
def site : List Cond := []
def tab : Cond := tabOf yN yB 3 (some .boolean) site
def P (a : Addr) (A : Cell) (b : Addr) (B : Cell) (args : Array Value) (s : State) : Prop := args = #[.ref a, .ref b] ∧ XT.Arr .byte a A s ∧ Typed .byte A ∧ XT.Arr .byte b B s ∧ Typed .byte B
/-- whether two byte[] are equal, place for place -/
theorem law (l : Launch) (a : Addr) (A : Cell) (b : Addr) (B : Cell) : Law l yN 2 2 0 0 yB 3 (some .boolean) site (P a A b B) (Says01 (EqC A B)) [] 0 0 := by
  refine Law.of_walk (plainFor_of_name (by decide +kernel)) (by decide +kernel) (by decide +kernel) (by decide) (fun _ _ h => by rw [h.1]; rfl) (fun _ U U' hal hh h => ⟨h.1, h.2.1.mv hal hh, h.2.2.1, h.2.2.2.1.mv hal hh, h.2.2.2.2⟩) (fun r U U' V V' h1 hal h2 h => Says01.mv r U U' V V' h1 hal h2 h) ?_
  intro p e s m args below meth c s₁ X0 hexec hbytes hml hret hlk hnm hown hh0 W hP
  obtain ⟨rfl, hA, tA, hB, tB⟩ := hP
  have a31 := hA.2.2.2
  have b31 := hB.2.2.2
  have hA0 := hA.mv X0.warmed.alike hh0
  have hB0 := hB.mv X0.warmed.alike hh0
  have c1 : Steps p.tables e below (s₁.setTop (entryFrame m #[.ref a, .ref b] 3)) (s₁.setTop (mkF m 0 #[.val (.ref a), .val (.ref b), .unset] [])) := entry rfl
  have c2 : Steps p.tables e below (s₁.setTop (entryFrame m #[.ref a, .ref b] 3)) (s₁.setTop (mkF m 4 #[.val (.ref a), .val (.ref b), .unset] [.int (Int32.ofNat B.slots.size), .int (Int32.ofNat A.slots.size)])) := c1.trans (by
    refine XS.aloadN X0.here hexec rfl (hb hbytes d0) rfl rfl ?_
    refine X0.alen hexec hA0 rfl rfl (hb hbytes d1) ?_
    refine XS.aloadN X0.here hexec rfl (hb hbytes d2) rfl rfl ?_
    refine X0.alen hexec hB0 rfl rfl (hb hbytes d3) ?_
    exact Steps.refl _)
  by_cases hs : A.slots.size = B.slots.size
  · have c3 : Steps p.tables e below (s₁.setTop (entryFrame m #[.ref a, .ref b] 3)) (s₁.setTop (mkF m 9 #[.val (.ref a), .val (.ref b), .val (.int 0)] [])) := c2.trans (by
      refine XS.icmpNo X0.here hexec rfl (hb hbytes d4) rfl (ii_ne_f (by rw [hs])) ?_
      refine iconstV X0.here hexec rfl 0 (hb hbytes d7) (by decide) ?_
      refine XS.istoreN X0.here hexec rfl (hb hbytes d8) rfl rfl ?_
      exact Steps.refl _)
    have loop : ∀ (r i : Nat), i + r = A.slots.size → (∀ j, j < i → yv A j = yv B j) → Steps p.tables e below (s₁.setTop (entryFrame m #[.ref a, .ref b] 3)) (s₁.setTop (mkF m 9 #[.val (.ref a), .val (.ref b), .val (.int (Int32.ofNat i))] [])) → ∃ (pc : Nat) (Ls : Array Slot) (v : Int32), (pc = 25 ∨ pc = 33) ∧ ((v = 1 ∧ EqC A B) ∨ (v = 0 ∧ ¬ EqC A B)) ∧ Steps p.tables e below (s₁.setTop (entryFrame m #[.ref a, .ref b] 3)) (s₁.setTop (mkF m pc Ls [.int v])) := by
      intro r
      induction r with
      | zero =>
        intro i hi he cl
        exact ⟨33, _, 1, Or.inr rfl, Or.inl ⟨rfl, hs, fun j hj => he j (by omega)⟩, cl.trans (by
          refine XS.iloadN X0.here hexec rfl (hb hbytes d9) rfl ?_
          refine XS.aloadN X0.here hexec rfl (hb hbytes d10) rfl rfl ?_
          refine X0.alen hexec hA0 rfl rfl (hb hbytes d11) ?_
          refine XS.icmpYes X0.here hexec rfl (pc0 := 12) rfl (hb hbytes d12) rfl (ii_ge_t (nlt32 (by omega) (by omega))) (by decide) rfl ?_
          refine iconstV X0.here hexec rfl 1 (hb hbytes d32) (by decide) ?_
          exact Steps.refl _)⟩
      | succ r ih =>
        intro i hi he cl
        have c4 : Steps p.tables e below (s₁.setTop (entryFrame m #[.ref a, .ref b] 3)) (s₁.setTop (mkF m 21 #[.val (.ref a), .val (.ref b), .val (.int (Int32.ofNat i))] [.int (yv B i), .int (yv A i)])) := cl.trans (by
          refine XS.iloadN X0.here hexec rfl (hb hbytes d9) rfl ?_
          refine XS.aloadN X0.here hexec rfl (hb hbytes d10) rfl rfl ?_
          refine X0.alen hexec hA0 rfl rfl (hb hbytes d11) ?_
          refine XS.icmpNo X0.here hexec rfl (hb hbytes d12) rfl (ii_ge_f (lt32 (by omega) (by omega))) ?_
          refine XS.aloadN X0.here hexec rfl (hb hbytes d15) rfl rfl ?_
          refine XS.iloadN X0.here hexec rfl (hb hbytes d16) rfl ?_
          refine X0.aget hexec hA0 rfl (yv_get hA tA (i := i) (by omega)) rfl rfl (hb hbytes d17) ?_
          refine XS.aloadN X0.here hexec rfl (hb hbytes d18) rfl rfl ?_
          refine XS.iloadN X0.here hexec rfl (hb hbytes d19) rfl ?_
          refine X0.aget hexec hB0 rfl (yv_get hB tB (i := i) (by omega)) rfl rfl (hb hbytes d20) ?_
          exact Steps.refl _)
        by_cases hv : yv A i = yv B i
        · have c5 : Steps p.tables e below (s₁.setTop (entryFrame m #[.ref a, .ref b] 3)) (s₁.setTop (mkF m 9 #[.val (.ref a), .val (.ref b), .val (.int (Int32.ofNat i + 1))] [])) := c4.trans (by
            refine XS.icmpYes X0.here hexec rfl (pc0 := 21) rfl (hb hbytes d21) rfl (ii_eq_t hv) (by decide) rfl ?_
            refine iincV X0.here hexec rfl 1 (hb hbytes d26) (by decide) rfl rfl ?_
            refine XS.goto X0.here hexec rfl (pc0 := 29) rfl (hb hbytes d29) (by decide) rfl ?_
            exact Steps.refl _)
          rw [succ32] at c5
          exact ih (i + 1) (by omega) (fun j hj => by
            by_cases e : j = i
            · rw [e]; exact hv
            · exact he j (by omega)) c5
        · exact ⟨25, _, 0, Or.inl rfl, Or.inr ⟨rfl, fun q => hv (q.2 i (by omega))⟩, c4.trans (by
            refine XS.icmpNo X0.here hexec rfl (hb hbytes d21) rfl (ii_eq_f hv) ?_
            refine iconstV X0.here hexec rfl 0 (hb hbytes d24) (by decide) ?_
            exact Steps.refl _)⟩
    obtain ⟨pc, Ls, v, hpc, hv, cz⟩ := loop A.slots.size 0 (by omega) (fun j hj => absurd hj (Nat.not_lt_zero j)) c3
    have nv : narrow .boolean (.int v) = .int v := by rcases hv with ⟨rfl, -⟩ | ⟨rfl, -⟩ <;> rfl
    rcases hpc with rfl | rfl
    · exact ⟨s₁, some (.int v), _, _, _, X0, rfl, rfl, rfl, (fun h => by cases h), ⟨v, rfl, hh0, hv⟩, fun fs hl => cz.trans (X0.ireturnOut hexec hret nv (Or.inr (Or.inl rfl)) (hb hbytes d25) hl)⟩
    · exact ⟨s₁, some (.int v), _, _, _, X0, rfl, rfl, rfl, (fun h => by cases h), ⟨v, rfl, hh0, hv⟩, fun fs hl => cz.trans (X0.ireturnOut hexec hret nv (Or.inr (Or.inl rfl)) (hb hbytes d33) hl)⟩
  · have c3 : Steps p.tables e below (s₁.setTop (entryFrame m #[.ref a, .ref b] 3)) (s₁.setTop (mkF m 35 #[.val (.ref a), .val (.ref b), .unset] [.int 0])) := c2.trans (by
      refine XS.icmpYes X0.here hexec rfl (pc0 := 4) rfl (hb hbytes d4) rfl (ii_ne_t (ne32 a31 b31 hs)) (by decide) rfl ?_
      refine iconstV X0.here hexec rfl 0 (hb hbytes d34) (by decide) ?_
      exact Steps.refl _)
    exact ⟨s₁, some (.int 0), _, _, _, X0, rfl, rfl, rfl, (fun h => by cases h), ⟨0, rfl, hh0, Or.inr ⟨rfl, fun q => hs q.1⟩⟩, fun fs hl => c3.trans (X0.ireturnOut hexec hret rfl (Or.inr (Or.inl rfl)) (hb hbytes d35) hl)⟩
end LEq
theorem Cod.ty {cd : Int32} {n : Nat} {f : Nat → Int32} {V : Cell} (h : Cod cd n f V) : Typed .byte V := fun i v hv => by
  have hi : i < V.slots.size := (Array.getElem?_eq_some_iff.mp hv).1
  rcases h with ⟨-, k1, k2⟩ | ⟨-, k1, k2, -⟩
  · rw [(k2 i (by omega)).1] at hv; cases hv; exact fits_lo8 _
  · rcases Nat.mod_two_eq_zero_or_one i with e | e
    · obtain ⟨j, rfl⟩ : ∃ j, i = 2 * j := ⟨i / 2, by omega⟩
      rw [(k2 j (by omega)).1] at hv; cases hv; exact fits_lo8 _
    · obtain ⟨j, rfl⟩ : ∃ j, i = 2 * j + 1 := ⟨i / 2, by omega⟩
      rw [(k2 j (by omega)).2] at hv; cases hv; exact fits_lo8 _
/-- the same text -/
def SameT (n : Nat) (f : Nat → Int32) (k : Nat) (g : Nat → Int32) : Prop := n = k ∧ ∀ j, j < n → f j = g j
theorem lo8_inj {x y : Int32} (h0 : ¬ x < 0) (h1 : ¬ 255 < x) (k0 : ¬ y < 0) (k1 : ¬ 255 < y) (h : lo8 x = lo8 y) : x = y := by
  rw [← lo8_mask h0 h1, ← lo8_mask k0 k1, h]
/-- arrays coded by one coder are equal just where the texts are -/
theorem Cod.eqv {cd : Int32} {n k : Nat} {f g : Nat → Int32} {V V' : Cell} (h : Cod cd n f V) (h' : Cod cd k g V') (hf : ∀ j, j < n → ¬ f j < 0 ∧ ¬ 65535 < f j) (hg : ∀ j, j < k → ¬ g j < 0 ∧ ¬ 65535 < g j) : EqC V V' ↔ SameT n f k g := by
  have yvv : ∀ {W : Cell} {i : Nat} {x : Int32}, W.slots[i]? = some (.int x) → yv W i = x := fun q => by unfold yv; rw [q]
  rcases h with ⟨rfl, k1, k2⟩ | ⟨rfl, k1, k2, -⟩
  · rcases h' with ⟨-, m1, m2⟩ | ⟨e, -⟩
    · constructor
      · rintro ⟨e1, e2⟩
        refine ⟨by omega, fun j hj => ?_⟩
        have q := e2 j (by omega)
        rw [yvv (k2 j hj).1, yvv (m2 j (by omega)).1] at q
        exact lo8_inj (hf j hj).1 (k2 j hj).2 (hg j (by omega)).1 (m2 j (by omega)).2 q
      · rintro ⟨rfl, e2⟩
        refine ⟨by omega, fun j hj => ?_⟩
        rw [yvv (k2 j (by omega)).1, yvv (m2 j (by omega)).1, e2 j (by omega)]
    · exact absurd e (by decide)
  · rcases h' with ⟨e, -⟩ | ⟨-, m1, m2, -⟩
    · exact absurd e (by decide)
    · constructor
      · rintro ⟨e1, e2⟩
        refine ⟨by omega, fun j hj => ?_⟩
        have q1 := e2 (2 * j) (by omega)
        have q2 := e2 (2 * j + 1) (by omega)
        rw [yvv (k2 j hj).1, yvv (m2 j (by omega)).1] at q1
        rw [yvv (k2 j hj).2, yvv (m2 j (by omega)).2] at q2
        rw [← pair_says (hf j hj).1 (hf j hj).2, ← pair_says (hg j (by omega)).1 (hg j (by omega)).2, q1, q2]
      · rintro ⟨rfl, e2⟩
        refine ⟨by omega, fun i hi => ?_⟩
        rcases Nat.mod_two_eq_zero_or_one i with e | e
        · obtain ⟨j, rfl⟩ : ∃ j, i = 2 * j := ⟨i / 2, by omega⟩
          rw [yvv (k2 j (by omega)).1, yvv (m2 j (by omega)).1, e2 j (by omega)]
        · obtain ⟨j, rfl⟩ : ∃ j, i = 2 * j + 1 := ⟨i / 2, by omega⟩
          rw [yvv (k2 j (by omega)).2, yvv (m2 j (by omega)).2, e2 j (by omega)]
/-- two codings differ: so do the texts -/
theorem Cod.dif {cd cd' : Int32} {n k : Nat} {f g : Nat → Int32} {V V' : Cell} (h : Cod cd n f V) (h' : Cod cd' k g V') (hne : ¬ cd = cd') : ¬ SameT n f k g := by
  rintro ⟨rfl, e⟩
  rcases h with ⟨rfl, -, k2⟩ | ⟨rfl, -, -, j, hj, hw⟩
  · rcases h' with ⟨rfl, -⟩ | ⟨-, -, -, j, hj, hw⟩
    · exact hne rfl
    · exact (k2 j hj).2 (by rw [e j hj]; exact hw)
  · rcases h' with ⟨-, -, m2⟩ | ⟨rfl, -⟩
    · exact (m2 j hj).2 (by rw [← e j hj]; exact hw)
    · exact hne rfl
/-- an object of exactly C is an instance of C -/
theorem cinst {p : Program} {l : Launch} {e : Env} {R : Room} {s : State} {m : MethodId} {args : Array Value} {below : List Frame} {meth : Method} {c : Code} {T : State} {locs : List Loc} {cells slots : Nat} (X : Stand p l e R s m args below meth c T locs cells slots) (hexec : p.tables.exec = Jvm.exec) {own C : String} {index : Nat} (hown : s.vm.findClass own = some m.cls) (hlink : (Cond.classLink own index C).before args s = true) {a : Addr} (hE : Exact C a T)
    {g : JFrame} (hg : g.method = m) {rest : List Value} (hstack : g.stack = .ref a :: rest) (hdg : decode c.code g.pc = .ok (.instanceof index, 3)) :
    ∃ T', Stand p l e R s m args below meth c T' locs cells slots ∧ T'.heap = T.heap ∧ ∀ target, Steps p.tables e below (T'.setTop { g with pc := g.pc + 3, stack := .int 1 :: rest }) target → Steps p.tables e below (T.setTop g) target := by
  obtain ⟨cB, h1, D, h2, h3, h4⟩ := hE
  have h1' : s.vm.findClass C = some cB := by rw [← X.warmed.alike.findClass]; exact h1
  obtain ⟨vm', X', st⟩ := X.instanceofYes hexec hown hlink h2 h4 h1' (by rw [h3]; exact Jvm.Free.SB.assignable_self _ _) hg hstack hdg
  exact ⟨_, X', rfl, st⟩
theorem cself {p : Program} {l : Launch} {e : Env} {R : Room} {s : State} {m : MethodId} {args : Array Value} {below : List Frame} {meth : Method} {c : Code} {T : State} {locs : List Loc} {cells slots : Nat} (X : Stand p l e R s m args below meth c T locs cells slots) (hexec : p.tables.exec = Jvm.exec) {own C : String} {index : Nat} (hown : s.vm.findClass own = some m.cls) (hlink : (Cond.classLink own index C).before args s = true) {a : Addr} (hE : Exact C a T)
    {g : JFrame} (hg : g.method = m) {rest : List Value} (hstack : g.stack = .ref a :: rest) (hdg : decode c.code g.pc = .ok (.checkcast index, 3)) :
    ∃ T', Stand p l e R s m args below meth c T' locs cells slots ∧ T'.heap = T.heap ∧ ∀ target, Steps p.tables e below (T'.setTop { g with pc := g.pc + 3, stack := .ref a :: rest }) target → Steps p.tables e below (T.setTop g) target := by
  obtain ⟨cB, h1, D, h2, h3, h4⟩ := hE
  have h1' : s.vm.findClass C = some cB := by rw [← X.warmed.alike.findClass]; exact h1
  obtain ⟨vm', X', st⟩ := X.checkcastYes hexec hown hlink h2 h4 h1' (by rw [h3]; exact Jvm.Free.SB.assignable_self _ _) hg hstack hdg
  exact ⟨_, X', rfl, fun t h => st t (by rw [← hstack] at h; exact h)⟩
namespace SEq
def yN : MethodName := ⟨"java/lang/String", "equals", "(Ljava/lang/Object;)Z"⟩
abbrev yB : ByteArray := jdk_42_method_66_code
theorem d0 : decode yB 0 = .ok (.aload_n 0, 1) := by decide +kernel
theorem d1 : decode yB 1 = .ok (.aload_n 1, 1) := by decide +kernel
theorem d2 : decode yB 2 = .ok (.if_acmp (.ne) 5, 3) := by decide +kernel
theorem d5 : decode yB 5 = .ok (.iconst 1, 1) := by decide +kernel
theorem d6 : decode yB 6 = .ok (.ireturn, 1) := by decide +kernel
theorem d7 : decode yB 7 = .ok (.aload_n 1, 1) := by decide +kernel
theorem d8 : decode yB 8 = .ok (.instanceof 10, 3) := by decide +kernel
theorem d11 : decode yB 11 = .ok (.ifCond (.eq) 43, 3) := by decide +kernel
theorem d14 : decode yB 14 = .ok (.aload_n 1, 1) := by decide +kernel
theorem d15 : decode yB 15 = .ok (.checkcast 10, 3) := by decide +kernel
theorem d18 : decode yB 18 = .ok (.astore_n 2, 1) := by decide +kernel
theorem d19 : decode yB 19 = .ok (.getstatic 38, 3) := by decide +kernel
theorem d22 : decode yB 22 = .ok (.ifCond (.eq) 14, 3) := by decide +kernel
theorem d25 : decode yB 25 = .ok (.aload_n 0, 1) := by decide +kernel
theorem d26 : decode yB 26 = .ok (.getfield 15, 3) := by decide +kernel
theorem d29 : decode yB 29 = .ok (.aload_n 2, 1) := by decide +kernel
theorem d30 : decode yB 30 = .ok (.getfield 15, 3) := by decide +kernel
theorem d33 : decode yB 33 = .ok (.if_icmp (.ne) 21, 3) := by decide +kernel
theorem d36 : decode yB 36 = .ok (.aload_n 0, 1) := by decide +kernel
theorem d37 : decode yB 37 = .ok (.getfield 9, 3) := by decide +kernel
theorem d40 : decode yB 40 = .ok (.aload_n 2, 1) := by decide +kernel
theorem d41 : decode yB 41 = .ok (.getfield 9, 3) := by decide +kernel
theorem d44 : decode yB 44 = .ok (.invokestatic 541, 3) := by decide +kernel
theorem d47 : decode yB 47 = .ok (.ifCond (.eq) 7, 3) := by decide +kernel
theorem d50 : decode yB 50 = .ok (.iconst 1, 1) := by decide +kernel
theorem d51 : decode yB 51 = .ok (.goto 4, 3) := by decide +kernel
theorem d54 : decode yB 54 = .ok (.iconst 0, 1) := by decide +kernel
theorem d55 : decode yB 55 = .ok (.ireturn, 1) := by decide +kernel
def site : List Cond := [.classLink "java/lang/String" 10 "java/lang/String", .fieldLink "java/lang/String" 38 "java/lang/String" "COMPACT_STRINGS" "Z", .fieldLink "java/lang/String" 15 "java/lang/String" "coder" "B", .fieldLink "java/lang/String" 9 "java/lang/String" "value" "[B", LEq.tab] ++ staticW "java/lang/String" 541 LEq.yN
def tab : Cond := tabOf yN yB 3 (some .boolean) site
def P (x t : Addr) (V : Cell) (cd : Int32) (n : Nat) (f : Nat → Int32) (y t' : Addr) (V' : Cell) (cd' : Int32) (k : Nat) (g : Nat → Int32) (z : Int32) (args : Array Value) (s : State) : Prop := args = #[.ref x, .ref y] ∧ Txt x t V cd n f s ∧ Txt y t' V' cd' k g s ∧ StaticIs s "java/lang/String" "COMPACT_STRINGS" "Z" (.int z) ∧ ¬ z = 0
/-- equals(Object) of two Strings: whether the texts are the same -/
theorem law (l : Launch) (x t : Addr) (V : Cell) (cd : Int32) (n : Nat) (f : Nat → Int32) (y t' : Addr) (V' : Cell) (cd' : Int32) (k : Nat) (g : Nat → Int32) (z : Int32) : Law l yN 2 1 1 14 yB 3 (some .boolean) site (P x t V cd n f y t' V' cd' k g z) (Says01 (SameT n f k g)) [] 0 0 := by
  refine Law.of_walk (plainFor_of_name (by decide +kernel)) (by decide +kernel) (by decide +kernel) (by decide) (fun _ _ h => by rw [h.1]; rfl) (fun _ U U' hal hh h => ⟨h.1, h.2.1.mv hal hh, h.2.2.1.mv hal hh, h.2.2.2.1.there hal hh, h.2.2.2.2⟩) (fun r U U' V V' h1 hal h2 h => Says01.mv r U U' V V' h1 hal h2 h) ?_
  intro p e s m args below meth c s₁ X0 hexec hbytes hml hret hlk hnm hown hh0 W hP
  obtain ⟨rfl, hx, hy, s1, hz⟩ := hP
  have c1 : Steps p.tables e below (s₁.setTop (entryFrame m #[.ref x, .ref y] 3)) (s₁.setTop (mkF m 2 #[.val (.ref x), .val (.ref y), .unset] [.ref y, .ref x])) := Steps.trans (entry rfl) (by
    show Steps p.tables e below (s₁.setTop (mkF m 0 #[.val (.ref x), .val (.ref y), .unset] [])) _
    refine XS.aloadN X0.here hexec rfl (hb hbytes d0) rfl rfl ?_
    refine XS.aloadN X0.here hexec rfl (hb hbytes d1) rfl rfl ?_
    exact Steps.refl _)
  by_cases hxy : x = y
  · have c2 : Steps p.tables e below (s₁.setTop (entryFrame m #[.ref x, .ref y] 3)) (s₁.setTop (mkF m 6 #[.val (.ref x), .val (.ref y), .unset] [.int 1])) := c1.trans (by
      refine acmpNo X0.here hexec rfl (hb hbytes d2) rfl rfl rfl (by simp [acmp, hxy]) ?_
      refine iconstV X0.here hexec rfl 1 (hb hbytes d5) (by decide) ?_
      exact Steps.refl _)
    subst hxy
    have ec : cd = cd' := by
      obtain ⟨D, fd, a1, a2, a3⟩ := hx.2.2.1
      obtain ⟨D', fd', b1, b2, b3⟩ := hy.2.2.1
      cases a1.symm.trans b1
      obtain ⟨q1, q2, q3, q4⟩ := a2.1
      obtain ⟨r1, r2, r3, r4⟩ := b2.1
      cases q4.symm.trans r4
      cases a3.symm.trans b3; rfl
    have et : t = t' := by
      obtain ⟨D, fd, a1, a2, a3⟩ := hx.2.1
      obtain ⟨D', fd', b1, b2, b3⟩ := hy.2.1
      cases a1.symm.trans b1
      obtain ⟨q1, q2, q3, q4⟩ := a2.1
      obtain ⟨r1, r2, r3, r4⟩ := b2.1
      cases q4.symm.trans r4
      cases a3.symm.trans b3; rfl
    subst ec et
    have ev : V = V' := by cases hx.2.2.2.1.1.symm.trans hy.2.2.2.1.1; rfl
    subst ev
    have hs : SameT n f k g := (Cod.eqv hx.2.2.2.2.1 hy.2.2.2.2.1 hx.2.2.2.2.2 hy.2.2.2.2.2).mp ⟨rfl, fun _ _ => rfl⟩
    exact ⟨s₁, some (.int 1), _, _, _, X0, rfl, rfl, rfl, (fun h => by cases h), ⟨1, rfl, hh0, Or.inl ⟨rfl, hs⟩⟩, fun fs hl => c2.trans (X0.ireturnOut hexec hret rfl (Or.inr (Or.inl rfl)) (hb hbytes d6) hl)⟩
  · have c2 : Steps p.tables e below (s₁.setTop (entryFrame m #[.ref x, .ref y] 3)) (s₁.setTop (mkF m 8 #[.val (.ref x), .val (.ref y), .unset] [.ref y])) := c1.trans (by
      refine acmpYes X0.here hexec rfl (pc0 := 2) rfl (hb hbytes d2) rfl rfl rfl (by simp [acmp, hxy]) (by decide) rfl ?_
      refine XS.aloadN X0.here hexec rfl (hb hbytes d7) rfl rfl ?_
      exact Steps.refl _)
    obtain ⟨T3, X3, q3, st3⟩ := cinst X0 hexec hown (wk W (.classLink "java/lang/String" 10 "java/lang/String")) (hy.mv X0.warmed.alike hh0).1 (g := (mkF m 8 #[.val (.ref x), .val (.ref y), .unset] [.ref y])) rfl (rest := []) rfl (hb hbytes d8)
    have hh3 := q3.trans hh0
    have c4 : Steps p.tables e below (s₁.setTop (entryFrame m #[.ref x, .ref y] 3)) (T3.setTop (mkF m 15 #[.val (.ref x), .val (.ref y), .unset] [.ref y])) := (c2.trans (st3 _ (Steps.refl _))).trans (by
      refine XS.ifNo X3.here hexec rfl (hb hbytes d11) rfl (i0_eq_f (by decide)) ?_
      refine XS.aloadN X3.here hexec rfl (hb hbytes d14) rfl rfl ?_
      exact Steps.refl _)
    obtain ⟨T5, X5, q5, st5⟩ := cself X3 hexec hown (wk W (.classLink "java/lang/String" 10 "java/lang/String")) (hy.mv X3.warmed.alike hh3).1 (g := (mkF m 15 #[.val (.ref x), .val (.ref y), .unset] [.ref y])) rfl (rest := []) rfl (hb hbytes d15)
    have hh5 := q5.trans hh3
    have c6 : Steps p.tables e below (s₁.setTop (entryFrame m #[.ref x, .ref y] 3)) (T5.setTop (mkF m 19 #[.val (.ref x), .val (.ref y), .val (.ref y)] [])) := (c4.trans (st5 _ (Steps.refl _))).trans (by
      refine XS.astoreN X5.here hexec rfl (hb hbytes d18) rfl rfl rfl ?_
      exact Steps.refl _)
    obtain ⟨T7, X7, q7, st7⟩ := X5.sget hexec hown (wk W (.fieldLink "java/lang/String" 38 "java/lang/String" "COMPACT_STRINGS" "Z")) s1 (fun _ _ h => by rw [hh5]; exact h) (g := (mkF m 19 #[.val (.ref x), .val (.ref y), .val (.ref y)] [])) rfl (hb hbytes d19)
    have hh7 := q7.trans hh5
    have c8 : Steps p.tables e below (s₁.setTop (entryFrame m #[.ref x, .ref y] 3)) (T7.setTop (mkF m 26 #[.val (.ref x), .val (.ref y), .val (.ref y)] [.ref x])) := (c6.trans (st7 _ (Steps.refl _))).trans (by
      refine XS.ifNo X7.here hexec rfl (hb hbytes d22) rfl (i0_eq_f hz) ?_
      refine XS.aloadN X7.here hexec rfl (hb hbytes d25) rfl rfl ?_
      exact Steps.refl _)
    obtain ⟨T9, X9, q9, st9⟩ := X7.hget hexec hown (wk W (.fieldLink "java/lang/String" 15 "java/lang/String" "coder" "B")) (hx.mv X7.warmed.alike hh7).2.2.1 (g := (mkF m 26 #[.val (.ref x), .val (.ref y), .val (.ref y)] [.ref x])) rfl (rest := []) rfl (hb hbytes d26)
    have hh9 := q9.trans hh7
    have c10 : Steps p.tables e below (s₁.setTop (entryFrame m #[.ref x, .ref y] 3)) (T9.setTop (mkF m 30 #[.val (.ref x), .val (.ref y), .val (.ref y)] [.ref y, .int cd])) := (c8.trans (st9 _ (Steps.refl _))).trans (by
      refine XS.aloadN X9.here hexec rfl (hb hbytes d29) rfl rfl ?_
      exact Steps.refl _)
    obtain ⟨T11, X11, q11, st11⟩ := X9.hget hexec hown (wk W (.fieldLink "java/lang/String" 15 "java/lang/String" "coder" "B")) (hy.mv X9.warmed.alike hh9).2.2.1 (g := (mkF m 30 #[.val (.ref x), .val (.ref y), .val (.ref y)] [.ref y, .int cd])) rfl (rest := [.int cd]) rfl (hb hbytes d30)
    have hh11 := q11.trans hh9
    have c12 : Steps p.tables e below (s₁.setTop (entryFrame m #[.ref x, .ref y] 3)) (T11.setTop (mkF m 33 #[.val (.ref x), .val (.ref y), .val (.ref y)] [.int cd', .int cd])) := c10.trans (st11 _ (Steps.refl _))
    by_cases hcd : cd = cd'
    · subst hcd
      have c13 : Steps p.tables e below (s₁.setTop (entryFrame m #[.ref x, .ref y] 3)) (T11.setTop (mkF m 37 #[.val (.ref x), .val (.ref y), .val (.ref y)] [.ref x])) := c12.trans (by
        refine XS.icmpNo X11.here hexec rfl (hb hbytes d33) rfl (ii_ne_f rfl) ?_
        refine XS.aloadN X11.here hexec rfl (hb hbytes d36) rfl rfl ?_
        exact Steps.refl _)
      obtain ⟨T14, X14, q14, st14⟩ := X11.hget hexec hown (wk W (.fieldLink "java/lang/String" 9 "java/lang/String" "value" "[B")) (hx.mv X11.warmed.alike hh11).2.1 (g := (mkF m 37 #[.val (.ref x), .val (.ref y), .val (.ref y)] [.ref x])) rfl (rest := []) rfl (hb hbytes d37)
      have hh14 := q14.trans hh11
      have c15 : Steps p.tables e below (s₁.setTop (entryFrame m #[.ref x, .ref y] 3)) (T14.setTop (mkF m 41 #[.val (.ref x), .val (.ref y), .val (.ref y)] [.ref y, .ref t])) := (c13.trans (st14 _ (Steps.refl _))).trans (by
        refine XS.aloadN X14.here hexec rfl (hb hbytes d40) rfl rfl ?_
        exact Steps.refl _)
      obtain ⟨T16, X16, q16, st16⟩ := X14.hget hexec hown (wk W (.fieldLink "java/lang/String" 9 "java/lang/String" "value" "[B")) (hy.mv X14.warmed.alike hh14).2.1 (g := (mkF m 41 #[.val (.ref x), .val (.ref y), .val (.ref y)] [.ref y, .ref t])) rfl (rest := [.ref t]) rfl (hb hbytes d41)
      have hh16 := q16.trans hh14
      have c17 : Steps p.tables e below (s₁.setTop (entryFrame m #[.ref x, .ref y] 3)) (T16.setTop (mkF m 44 #[.val (.ref x), .val (.ref y), .val (.ref y)] [.ref t', .ref t])) := c15.trans (st16 _ (Steps.refl _))
      obtain ⟨v18, T18, X18, E18, g18⟩ := X16.callS hexec (LEq.law l t V t' V') hown (wks W (staticW "java/lang/String" 541 LEq.yN)) (wk W LEq.tab) (W := 0) (Nat.le_of_ble_eq_true rfl) (Nat.le_of_ble_eq_true rfl) (Nat.le_refl _) (Nat.le_refl _) (g := (mkF m 44 #[.val (.ref x), .val (.ref y), .val (.ref y)] [.ref t', .ref t])) rfl (by rw [hml]; rfl) c17 (argsL := [.ref t, .ref t']) (rest := []) rfl rfl (by show 2 * 0 + 0 ≤ _; decide) (hb hbytes d44) (⟨rfl, hx.2.2.2.1.mv X16.warmed.alike hh16, hx.2.2.2.2.1.ty, hy.2.2.2.1.mv X16.warmed.alike hh16, hy.2.2.2.2.1.ty⟩)
      obtain ⟨v, rfl, q18, hv⟩ := E18
      have iff := Cod.eqv hx.2.2.2.2.1 hy.2.2.2.2.1 hx.2.2.2.2.2 hy.2.2.2.2.2
      rcases hv with ⟨rfl, he⟩ | ⟨rfl, he⟩
      · have c19 : Steps p.tables e below (s₁.setTop (entryFrame m #[.ref x, .ref y] 3)) (T18.setTop (mkF m 55 #[.val (.ref x), .val (.ref y), .val (.ref y)] [.int 1])) := Steps.trans g18 (by
          refine XS.ifNo X18.here hexec rfl (hb hbytes d47) rfl (i0_eq_f (by decide)) ?_
          refine iconstV X18.here hexec rfl 1 (hb hbytes d50) (by decide) ?_
          refine XS.goto X18.here hexec rfl (pc0 := 51) rfl (hb hbytes d51) (by decide) rfl ?_
          exact Steps.refl _)
        exact ⟨T18, some (.int 1), _, _, _, X18, rfl, rfl, rfl, (fun h => by cases h), ⟨1, rfl, q18.trans hh16, Or.inl ⟨rfl, iff.mp he⟩⟩, fun fs hl => c19.trans (X18.ireturnOut hexec hret rfl (Or.inr (Or.inl rfl)) (hb hbytes d55) hl)⟩
      · have c19 : Steps p.tables e below (s₁.setTop (entryFrame m #[.ref x, .ref y] 3)) (T18.setTop (mkF m 55 #[.val (.ref x), .val (.ref y), .val (.ref y)] [.int 0])) := Steps.trans g18 (by
          refine XS.ifYes X18.here hexec rfl (pc0 := 47) rfl (hb hbytes d47) rfl (i0_eq_t rfl) (by decide) rfl ?_
          refine iconstV X18.here hexec rfl 0 (hb hbytes d54) (by decide) ?_
          exact Steps.refl _)
        exact ⟨T18, some (.int 0), _, _, _, X18, rfl, rfl, rfl, (fun h => by cases h), ⟨0, rfl, q18.trans hh16, Or.inr ⟨rfl, fun q => he (iff.mpr q)⟩⟩, fun fs hl => c19.trans (X18.ireturnOut hexec hret rfl (Or.inr (Or.inl rfl)) (hb hbytes d55) hl)⟩
    · have c13 : Steps p.tables e below (s₁.setTop (entryFrame m #[.ref x, .ref y] 3)) (T11.setTop (mkF m 55 #[.val (.ref x), .val (.ref y), .val (.ref y)] [.int 0])) := c12.trans (by
        refine XS.icmpYes X11.here hexec rfl (pc0 := 33) rfl (hb hbytes d33) rfl (ii_ne_t hcd) (by decide) rfl ?_
        refine iconstV X11.here hexec rfl 0 (hb hbytes d54) (by decide) ?_
        exact Steps.refl _)
      exact ⟨T11, some (.int 0), _, _, _, X11, rfl, rfl, rfl, (fun h => by cases h), ⟨0, rfl, hh11, Or.inr ⟨rfl, Cod.dif hx.2.2.2.2.1 hy.2.2.2.2.1 hcd⟩⟩, fun fs hl => c13.trans (X11.ireturnOut hexec hret rfl (Or.inr (Or.inl rfl)) (hb hbytes d55) hl)⟩
theorem pays {l : Launch} {R : Room} {p : Program} {e : Env} {below : List Frame} {s : State} {sargs : Array Value} {len W : Nat} (x t : Addr) (V : Cell) (cd : Int32) (n : Nat) (f : Nat → Int32) (y t' : Addr) (V' : Cell) (cd' : Int32) (k : Nat) (g : Nat → Int32) (z : Int32) (htab : tab.before sargs s = true) (hfr : 2 ≤ R.frames) (hlo : W + 28 ≤ R.locals) :
    Back l R p e below s sargs yN len W (fun A₁ a₁ => A₁.cells + 0 ≤ R.cells ∧ A₁.slots + 0 ≤ R.slots ∧ P x t V cd n f y t' V' cd' k g z a₁ A₁.U) (fun A₁ _ v₁ B₁ => Says01 (SameT n f k g) v₁ A₁.U B₁.U ∧ B₁.locs = A₁.locs ++ [] ∧ B₁.cells = A₁.cells + 0 ∧ B₁.slots = A₁.slots + 0) :=
  (law l x t V cd n f y t' V' cd' k g z).pays htab hfr (by omega)
end SEq
end StrChars
namespace StrChars.Road
open Jvm Sem ClassFile Op Lib Jvm.Stand Jvm.Free Jvm.Free.XT
open Jvm.Lib.Cold (StaticIs)
/-- the words of String.equals(Object) -/
abbrev wordsEq : List Jvm.Cond := [.code SEq.yN SEq.yB 3 (some .boolean), .initialized ST, .classLink ST 10 ST, .fieldLink ST 38 ST "COMPACT_STRINGS" "Z", .fieldLink ST 15 ST "coder" "B", .fieldLink ST 9 ST "value" "[B", .methodLink ST 541 LEq.yN, .static LEq.yN, .code LEq.yN LEq.yB 3 (some .boolean), .initialized "java/lang/StringLatin1"]
theorem tabEq_of {a : Array Value} {s : State} (h : ∀ w ∈ wordsEq, w.before a s = true) : SEq.tab.before a s = true := by
  have hl : LEq.tab.before a s = true := unparts (wk h (.code LEq.yN LEq.yB 3 (some .boolean))) (wks h (.initialized LEq.yN.cls :: LEq.site))
  have q := consq hl h
  exact unparts (wk q (.code SEq.yN SEq.yB 3 (some .boolean))) (wks q (.initialized SEq.yN.cls :: SEq.site))
theorem movedEq {Z s : State} {a0 args : Array Value} (hZ : Z.Warmed39 s.vm) (hw : ∀ d ∈ wordsEq, d.before a0 Z = true) : ∀ d ∈ wordsEq, d.before args s = true := fun d hd => by
  have t : ∀ d ∈ wordsEq, (d.onTables && d.keepsFace) = true := by decide +kernel
  exact RoadKit.mv hZ (hw d hd) (t d hd)
/-- the road's facts of a String, as the laws ask it -/
theorem txt_of {Z U : State} {a0 : Array Value} {kI : Nat} (wi : (Jvm.Cond.instantiable ST kI).before a0 Z = true) (al : Z.vm.Alike U.vm) {x t : Addr} {kb : ClassId} {cs : List Int32} {cd N2 : Int32} {vs : List Value} (E : RoadKit.Exa Z U.heap x ST) (V : RoadKit.Fld Z U.heap x ST "value" "[B" (.ref t)) (C : RoadKit.Fld Z U.heap x ST "coder" "B" (.int cd)) (K : RoadKit.Arv Z U.heap t kb .byte N2 vs (.int 0)) (hc : CodA cs cd N2 vs) (hb : ∀ c ∈ cs, ¬ c < 0 ∧ ¬ (65535 : Int32) < c) (l2 : cs.length ≤ 4000) :
    ∃ A, Txt x t A cd cs.length (fun j => cs.getD j 0) U := by
  obtain ⟨A, K1, K2, K3, K4, K5, K6⟩ := K
  have hcod := hc.cod (by omega) K3 K5
  obtain ⟨D, fV, fC, hB, F1, F2, g1, g2, -, -⟩ := strObj wi al E V C
  exact ⟨A, ⟨_, hB.2.2.1, D, hB.1, rfl, by cases q : D.vm <;> first | rfl | exact absurd q (hB.2.1.2 _)⟩, Has.of hB F1 g1, Has.of hB F2 g2, ⟨K1.1, State.isArrayOf_alike al K1.2.1, K1.2.2, by rcases hcod with ⟨-, q, -⟩ | ⟨-, q, -⟩ <;> omega⟩, hcod, fun j hj => by
    have e : cs.getD j 0 = cs[j] := by simp [List.getD_eq_getElem?_getD, hj]
    show ¬ cs.getD j 0 < 0 ∧ ¬ 65535 < cs.getD j 0
    rw [e]; exact hb _ (List.getElem_mem _)⟩
theorem same_list (cs ds : List Int32) : SameT cs.length (fun j => cs.getD j 0) ds.length (fun j => ds.getD j 0) ↔ cs = ds := by
  constructor
  · rintro ⟨e, q⟩
    refine List.ext_getElem e fun j h1 h2 => ?_
    have := q j h1
    simpa [List.getD_eq_getElem?_getD, h1, h2] using this
  · rintro rfl
    exact ⟨rfl, fun _ _ => rfl⟩
/-- **equals(Object) OF TWO SUCH STRINGS**: 1 just where the chars are the same -/
theorem eqW {p : Program} {l : Launch} {e : Env} {R : Room} {s : State} {args : Array Value} {below : List Frame} {len W : Nat} {Z : State} {a0 : Array Value} {h : Heap} (hZ : Z.Warmed39 s.vm) (hw : ∀ d ∈ wordsEq, d.before a0 Z = true) {kI : Nat} (wi : (Jvm.Cond.instantiable ST kI).before a0 Z = true)
    {x t : Addr} {kb : ClassId} {cs : List Int32} {cd N2 : Int32} {vs : List Value} (E : RoadKit.Exa Z h x ST) (V : RoadKit.Fld Z h x ST "value" "[B" (.ref t)) (C : RoadKit.Fld Z h x ST "coder" "B" (.int cd)) (K : RoadKit.Arv Z h t kb .byte N2 vs (.int 0)) (hc : CodA cs cd N2 vs) (hb : ∀ c ∈ cs, ¬ c < 0 ∧ ¬ (65535 : Int32) < c) (l2 : cs.length ≤ 4000)
    {y t' : Addr} {kb' : ClassId} {ds : List Int32} {cd' N2' : Int32} {vs' : List Value} (E' : RoadKit.Exa Z h y ST) (V' : RoadKit.Fld Z h y ST "value" "[B" (.ref t')) (C' : RoadKit.Fld Z h y ST "coder" "B" (.int cd')) (K' : RoadKit.Arv Z h t' kb' .byte N2' vs' (.int 0)) (hc' : CodA ds cd' N2' vs') (hb' : ∀ c ∈ ds, ¬ c < 0 ∧ ¬ (65535 : Int32) < c) (l2' : ds.length ≤ 4000)
    {z : Int32} (S : RoadKit.Sta Z h ST "COMPACT_STRINGS" "Z" (.int z)) (hz : ¬ z = 0) (hfr : 2 ≤ R.frames) (hlo : W + 28 ≤ R.locals) :
    Back l R p e below s args (⟨"java/lang/String", "equals", "(Ljava/lang/Object;)Z"⟩ : MethodName) len W (fun P a => a = #[.ref x, .ref y] ∧ P.U.heap = h ∧ P.cells + 0 ≤ R.cells ∧ P.slots + 0 ≤ R.slots)
      (fun P _ v B => ∃ L, (((v = some (.int 1) ∧ cs = ds) ∨ (v = some (.int 0) ∧ ¬ cs = ds)) ∧ L = [] ∧ B.U.heap = h) ∧ B.locs = P.locs ++ L ∧ B.cells = P.cells + 0 ∧ B.slots = P.slots + 0) := by
  intro m meth c P g ig mk a X hg hsize hdg hW hn hp'
  obtain ⟨rfl, rfl, r1, r2⟩ := hp'
  have al : Z.vm.Alike P.U.vm := hZ.alike.trans X.warmed.alike
  obtain ⟨A, hx⟩ := txt_of wi al E V C K hc hb l2
  obtain ⟨A', hy⟩ := txt_of wi al E' V' C' K' hc' hb' l2'
  obtain ⟨v, B, X', ⟨⟨w, hv, hh, hq⟩, hl, hk, hs⟩, st⟩ := SEq.pays x t A cd cs.length (fun j => cs.getD j 0) y t' A' cd' ds.length (fun j => ds.getD j 0) z (tabEq_of (movedEq hZ hw)) hfr hlo m meth c P g ig mk _ X hg hsize hdg hW hn ⟨r1, r2, rfl, hx, hy, sta_is al S, hz⟩
  refine ⟨v, B, X', ⟨[], ⟨?_, rfl, hh⟩, hl, hk, hs⟩, st⟩
  rcases hq with ⟨rfl, q⟩ | ⟨rfl, q⟩
  · exact Or.inl ⟨hv, (same_list cs ds).mp q⟩
  · exact Or.inr ⟨hv, fun e => q ((same_list cs ds).mpr e)⟩
end StrChars.Road
namespace StrChars.Road
open Jvm Sem ClassFile Op Lib Jvm.Stand Jvm.Free Jvm.Free.XT
open Jvm.Lib.Cold (StaticIs)
/-- what backV says of its String, as the contracts of this text ask it: cs's low bytes, coder 0 -/
theorem codOf {cs : List Int32} {n : Nat} (hn : cs.length = n) (hb : ∀ c ∈ cs, ¬ 255 < c) : CodA cs 0 (Int32.ofNat n) ((cs.map lo8).map Value.int) := Or.inl ⟨rfl, by rw [hn], by simp [List.map_map, Function.comp_def], hb⟩
end StrChars.Road
end Jvm.Pilot.@@N@@
@@BLOCK:NumsL.lean.txt@@
namespace Jvm.Pilot.@@N@@
open Jvm Jvm.ClassFile Sem Op Lib Jvm.Free Jvm.Stand Jvm.LawKit Jvm.RoadKit Bundle Jvm.Pilot.@@N@@.Jvm.D
theorem own_EW {Z : State} {a0 : Array Value} (hw : ∀ d ∈ tables_1, d.before a0 Z = true) : EW Z a0 consts_1 := (EW.cons (hw _ (List.mem_of_getElem? (i := 34) rfl)) (by decide) EW.nil)
theorem own_wS {Z : State} {a0 : Array Value} (hw : ∀ d ∈ tables_1, d.before a0 Z = true) : ∀ a ∈ Bundle.stringAtoms, a.before a0 Z = true := fun d hd => hw d ((by decide +kernel : ∀ d ∈ Bundle.stringAtoms, d ∈ tables_1) d hd)
theorem own_up (cs : List Int32) (h : ∀ c ∈ cs, ¬ c < 0 ∧ ¬ (255 : Int32) < c) : ∀ c ∈ cs, ¬ c < 0 ∧ ¬ (65535 : Int32) < c := fun c hc => ⟨(h c hc).1, fun q => (h c hc).2 (by rw [Int32.lt_iff_toInt_lt] at q ⊢; have e1 : (65535 : Int32).toInt = 65535 := rfl; have e2 : (255 : Int32).toInt = 255 := rfl; omega)⟩
theorem own_all0 {P : Int32 → Prop} : ∀ c ∈ ([] : List Int32), P c := fun _ h => nomatch h
theorem own_allS {P : Int32 → Prop} {a : Int32} {L : List Int32} (h : P a) (r : ∀ c ∈ L, P c) : ∀ c ∈ a :: L, P c := fun c hc => (List.mem_cons.mp hc).elim (fun e => e ▸ h) (r c)
theorem own_and255 (x : Int32) : ¬ ((x &&& (255 : Int32)).toUInt32.toUInt16.toUInt32.toInt32) < 0 ∧ ¬ (255 : Int32) < ((x &&& (255 : Int32)).toUInt32.toUInt16.toUInt32.toInt32) := by
  have t : ∀ k : Fin 256, ¬ ((Int32.ofNat k.val).toUInt32.toUInt16.toUInt32.toInt32) < 0 ∧ ¬ (255 : Int32) < ((Int32.ofNat k.val).toUInt32.toUInt16.toUInt32.toInt32) := by decide +kernel
  have h : (x &&& 255).toBitVec.toNat < 256 := by
    simp only [Int32.toBitVec_and, BitVec.toNat_and]
    exact Nat.lt_succ_of_le Nat.and_le_right
  have e : (x &&& 255) = Int32.ofNat (x &&& 255).toBitVec.toNat := by
    apply Int32.toBitVec_inj.mp
    show _ = BitVec.ofNat 32 _
    rw [BitVec.ofNat_toNat]; simp
  rw [e]
  exact t ⟨_, h⟩
theorem own_and3 (x : Int32) : (x &&& (3 : Int32)) = 0 ∨ (x &&& (3 : Int32)) = 1 ∨ (x &&& (3 : Int32)) = 2 ∨ (x &&& (3 : Int32)) = 3 := by
  have t : ∀ k : Fin 4, (Int32.ofNat k.val) = 0 ∨ (Int32.ofNat k.val) = 1 ∨ (Int32.ofNat k.val) = 2 ∨ (Int32.ofNat k.val) = 3 := by decide +kernel
  have h : (x &&& 3).toBitVec.toNat < 4 := by
    simp only [Int32.toBitVec_and, BitVec.toNat_and]
    exact Nat.lt_succ_of_le Nat.and_le_right
  have e : (x &&& 3) = Int32.ofNat (x &&& 3).toBitVec.toNat := by
    apply Int32.toBitVec_inj.mp
    show _ = BitVec.ofNat 32 _
    rw [BitVec.ofNat_toNat]; simp
  rw [e]
  exact t ⟨_, h⟩
theorem own_narc {x : Int32} (h : ¬ x < 0 ∧ ¬ (255 : Int32) < x) : nar .char x = x := by
  have h1 := h.1
  have h2 := h.2
  rw [Int32.lt_iff_toInt_lt, show (0 : Int32).toInt = 0 from rfl] at h1
  rw [Int32.lt_iff_toInt_lt, show (255 : Int32).toInt = 255 from rfl] at h2
  obtain ⟨k, rfl⟩ : ∃ k : Fin 256, x = Int32.ofNat k.val := ⟨⟨x.toInt.toNat, by omega⟩, by
    rw [← Int32.toInt_inj, Int32.toInt_ofNat_of_lt (by omega)]
    show x.toInt = ((x.toInt.toNat : Nat) : Int)
    omega⟩
  clear h h1 h2
  revert k
  decide +kernel
/-- the bytes of a String of at most three chars -/
def own_sh (nn : Int32) (vs : List Value) : Prop := (nn = 0 ∧ vs = []) ∨ (∃ u0, nn = 1 ∧ vs = [.int u0]) ∨ (∃ u0 u1, nn = 2 ∧ vs = [.int u0, .int u1]) ∨ (∃ u0 u1 u2, nn = 3 ∧ vs = [.int u0, .int u1, .int u2])
def own_hv : List Value → Int32
  | [] => 0
  | [.int a] => a &&& 255
  | [.int a, .int b] => (31 * (0 + (a &&& 255))) + (b &&& 255)
  | [.int a, .int b, .int d] => (31 * ((31 * (0 + (a &&& 255))) + (b &&& 255))) + (d &&& 255)
  | _ => 0
/-- what is known of a short Latin-1 String's bytes, apart from the heap -/
def own_op (Z : State) (cs : List Int32) (nn : Int32) (vs : List Value) (kb : ClassId) : Prop := StrChars.Road.CodA cs 0 nn vs ∧ own_sh nn vs ∧ (nn = 0 ∨ Z.vm.findClass "[B" = some kb) ∧ (∀ c ∈ cs, ¬ c < 0 ∧ ¬ (65535 : Int32) < c) ∧ cs.length ≤ 3
theorem own_op.vs {Z : State} {cs : List Int32} {nn nn' : Int32} {vs vs' : List Value} {kb kb' : ClassId} (A : own_op Z cs nn vs kb) (B : own_op Z cs nn' vs' kb') : vs = vs' := by
  rcases A.1 with ⟨-, -, a, -⟩ | ⟨a, -⟩
  · rcases B.1 with ⟨-, -, b, -⟩ | ⟨b, -⟩
    · rw [a, b]
    · exact absurd b (by decide)
  · exact absurd a (by decide)
theorem own_op.le {Z : State} {cs : List Int32} {nn : Int32} {vs : List Value} {kb : ClassId} (A : own_op Z cs nn vs kb) : cs.length ≤ 4000 := Nat.le_trans A.2.2.2.2 (by decide)
theorem own_op.short {Z : State} {cs : List Int32} {nn : Int32} {vs : List Value} {kb : ClassId} (A : own_op Z cs nn vs kb) : ¬ (256 : Int32) < Int32.ofNat cs.length := by
  have q := A.2.2.2.2
  have r : cs.length = 0 ∨ cs.length = 1 ∨ cs.length = 2 ∨ cs.length = 3 := by omega
  rcases r with r | r | r | r <;> rw [r] <;> decide
theorem own_exaB {Z : State} {h : Heap} {t : Addr} {kb : ClassId} {n : Int32} {vs : List Value} {d : Value} (V : Arv Z h t kb .byte n vs d) (q : Z.vm.findClass "[B" = some kb) : Exa Z h t "[B" := by
  obtain ⟨c, A, rfl, -⟩ := V
  obtain ⟨-, k, hk, comp, hkind⟩ := A.2.1
  exact ⟨c, k, A.1, q, hk, A.plain, fun z => by rw [hkind] at z; cases z⟩
def own_QX (Z : State) (x : Addr) (N : Int32) (bs : List Int32) (h : Heap) (n0 : Nat) (v : Option Value) (h' : Heap) (L : List Loc) : Prop := v = none ∧ Fr n0 L ∧ Keep h h' [x] ∧ Exa Z h' x "java/lang/String" ∧ Fld Z h' x "java/lang/String" "coder" "B" (.int 0) ∧
  (∃ (t : Addr) (kb : ClassId), n0 ≤ t ∧ h.size ≤ t ∧ ¬ t = x ∧ Fld Z h' x "java/lang/String" "value" "[B" (.ref t) ∧ Arv Z h' t kb .byte N (bs.map Value.int) (.int 0) ∧ Z.vm.findClass "[B" = some kb) ∧
  ∀ (O n d : String) (w : Value), Fld Z h x O n d w → Jvm.RoadKit.slotOf Z O n d ≠ Jvm.RoadKit.slotOf Z "java/lang/String" "value" "[B" → Jvm.RoadKit.slotOf Z O n d ≠ Jvm.RoadKit.slotOf Z "java/lang/String" "coder" "B" → Fld Z h' x O n d w
theorem own_n32 {n : Nat} (h : n ≤ 4000) : (Int32.ofNat n).toNatClampNeg = n := by
  simp only [Int32.toNatClampNeg, Int32.toInt_ofNat_of_lt (show n < 2 ^ 31 by omega)]; rfl
theorem own_backX {p : Program} {l : Launch} {e : Env} {R : Room} {s : State} {args : Array Value} {below : List Frame} {len W : Nat} {Z : State} {a0 : Array Value} {h : Heap} (hZ : Z.Warmed39 s.vm) (hw : ∀ d ∈ StrChars.Road.words, d.before a0 Z = true) {kI : Nat} (wi : (Jvm.Cond.instantiable "java/lang/String" kI).before a0 Z = true)
    {x b : Addr} {kC : ClassId} {cs bs : List Int32} {d v0 c0 : Value} {z N : Int32} {n n0 : Nat} (hx0 : n0 ≤ x) (hh0 : n0 ≤ h.size) (E : Exa Z h x "java/lang/String") (V : Fld Z h x "java/lang/String" "value" "[B" v0) (C : Fld Z h x "java/lang/String" "coder" "B" c0) (K : Arv Z h b kC .char N (cs.map Value.int) d) (S : Sta Z h "java/lang/String" "COMPACT_STRINGS" "Z" (.int z)) (hz : ¬ z = 0)
    (hn : cs.length = n) (hN : N = Int32.ofNat n) (l0 : 0 < n) (l2 : n ≤ 4000) (hp : ∀ c ∈ cs, ¬ c < 0 ∧ ¬ (255 : Int32) < c) (hb : bs = cs.map (fun c => c.toInt8.toInt32)) (hfr : 4 ≤ R.frames) (hlo : W + 65 ≤ R.locals) :
    Back l R p e below s args (⟨"java/lang/String", "<init>", "([C)V"⟩ : MethodName) len W (fun P a => a = #[.ref x, .ref b] ∧ P.U.heap = h ∧ P.cells + 1 ≤ R.cells ∧ P.slots + n ≤ R.slots)
      (fun P _ v B => ∃ L, own_QX Z x N bs h n0 v B.U.heap L ∧ B.locs = P.locs ++ L ∧ B.cells = P.cells + 1 ∧ B.slots = P.slots + n) := by
  subst hn hN hb
  refine Back.mono (StrChars.Road.backArv hZ hw wi E V C K S hz (own_n32 l2) l0 (by omega) (fun c hc => (hp c hc).2) hfr hlo) (fun P a hp => hp) (fun P a v B hp hq => ?_)
  obtain ⟨L, ⟨q1, q2, q3, -, q5, q6, q7, ⟨kb, v1, v2⟩, q9⟩, r⟩ := hq
  refine ⟨L, ⟨q1, fun y hy => by rw [q2 y hy]; exact hx0, q3, q5, q7, ⟨h.size, kb, hh0, Nat.le_refl _, Nat.ne_of_gt E.lt, q6, ?_, v1⟩, q9⟩, r⟩
  rw [List.map_map]
  exact v2
def own_cs (bits n : Int32) : List Int32 := if n = (0 : Int32) then [] else if n = (1 : Int32) then [((bits &&& (255 : Int32)).toUInt32.toUInt16.toUInt32.toInt32)] else if n = (2 : Int32) then [((bits &&& (255 : Int32)).toUInt32.toUInt16.toUInt32.toInt32), ((((bits.toUInt32 >>> ((8 : Int32) &&& 31).toUInt32).toInt32) &&& (255 : Int32)).toUInt32.toUInt16.toUInt32.toInt32)] else [((bits &&& (255 : Int32)).toUInt32.toUInt16.toUInt32.toInt32), ((((bits.toUInt32 >>> ((8 : Int32) &&& 31).toUInt32).toInt32) &&& (255 : Int32)).toUInt32.toUInt16.toUInt32.toInt32), ((((bits.toUInt32 >>> ((16 : Int32) &&& 31).toUInt32).toInt32) &&& (255 : Int32)).toUInt32.toUInt16.toUInt32.toInt32)]
def own_sl (vs : List Value) : Int32 := (own_hv vs ^^^ ((own_hv vs).toUInt32 >>> ((16 : Int32) &&& 31).toUInt32).toInt32) &&& (1023 : Int32)
theorem own_slb (vs : List Value) : ¬ own_sl vs < 0 ∧ (own_sl vs).toNatClampNeg < 1024 := by
  unfold own_sl
  generalize (own_hv vs ^^^ ((own_hv vs).toUInt32 >>> ((16 : Int32) &&& 31).toUInt32).toInt32) = x
  have h : (x &&& 1023).toBitVec.toNat < 1024 := by
    simp only [Int32.toBitVec_and, BitVec.toNat_and]
    exact Nat.lt_succ_of_le Nat.and_le_right
  have e : (x &&& 1023).toInt = ((x &&& 1023).toBitVec.toNat : Int) := by
    show (x &&& 1023).toBitVec.toInt = _
    rw [BitVec.toInt_eq_toNat_of_lt (by omega)]
  refine ⟨?_, ?_⟩
  · rw [Int32.lt_iff_toInt_lt, e, show (0 : Int32).toInt = 0 from rfl]
    omega
  · show (x &&& 1023).toInt.toNat < 1024
    rw [e]
    omega
theorem own_inb {vs : List Value} {n : Nat} (S : n = (1024 : Int32).toNatClampNeg) : ¬ (own_sl vs < 0 ∨ n ≤ (own_sl vs).toNatClampNeg) := fun q => by
  have r := own_slb vs
  rw [show (1024 : Int32).toNatClampNeg = 1024 from rfl] at S
  rcases q with q | q
  · exact r.1 q
  · have := r.2
    omega
theorem d3_0 : decode jdk_42_method_149_code 0 = .ok (.aload_n 0, 1) := by decide +kernel
theorem d3_1 : decode jdk_42_method_149_code 1 = .ok (.invokespecial 1, 3) := by decide +kernel
theorem d3_4 : decode jdk_42_method_149_code 4 = .ok (.iload_n 3, 1) := by decide +kernel
theorem d3_5 : decode jdk_42_method_149_code 5 = .ok (.ifCond .ne 22, 3) := by decide +kernel
theorem d3_8 : decode jdk_42_method_149_code 8 = .ok (.aload_n 0, 1) := by decide +kernel
theorem d3_9 : decode jdk_42_method_149_code 9 = .ok (.ldc 7, 2) := by decide +kernel
theorem d3_11 : decode jdk_42_method_149_code 11 = .ok (.getfield 9, 3) := by decide +kernel
theorem d3_14 : decode jdk_42_method_149_code 14 = .ok (.putfield 9, 3) := by decide +kernel
theorem d3_17 : decode jdk_42_method_149_code 17 = .ok (.aload_n 0, 1) := by decide +kernel
theorem d3_18 : decode jdk_42_method_149_code 18 = .ok (.ldc 7, 2) := by decide +kernel
theorem d3_20 : decode jdk_42_method_149_code 20 = .ok (.getfield 15, 3) := by decide +kernel
theorem d3_23 : decode jdk_42_method_149_code 23 = .ok (.putfield 15, 3) := by decide +kernel
theorem d3_26 : decode jdk_42_method_149_code 26 = .ok (.return_, 1) := by decide +kernel
theorem d3_27 : decode jdk_42_method_149_code 27 = .ok (.getstatic 38, 3) := by decide +kernel
theorem d3_30 : decode jdk_42_method_149_code 30 = .ok (.ifCond .eq 28, 3) := by decide +kernel
theorem d3_33 : decode jdk_42_method_149_code 33 = .ok (.aload_n 1, 1) := by decide +kernel
theorem d3_34 : decode jdk_42_method_149_code 34 = .ok (.iload_n 2, 1) := by decide +kernel
theorem d3_35 : decode jdk_42_method_149_code 35 = .ok (.iload_n 3, 1) := by decide +kernel
theorem d3_36 : decode jdk_42_method_149_code 36 = .ok (.invokestatic 177, 3) := by decide +kernel
theorem d3_39 : decode jdk_42_method_149_code 39 = .ok (.astore 5, 2) := by decide +kernel
theorem d3_41 : decode jdk_42_method_149_code 41 = .ok (.aload_n 0, 1) := by decide +kernel
theorem d3_42 : decode jdk_42_method_149_code 42 = .ok (.aload 5, 2) := by decide +kernel
theorem d3_44 : decode jdk_42_method_149_code 44 = .ok (.iload_n 3, 1) := by decide +kernel
theorem d3_45 : decode jdk_42_method_149_code 45 = .ok (.invokestatic 47, 3) := by decide +kernel
theorem d3_48 : decode jdk_42_method_149_code 48 = .ok (.putfield 15, 3) := by decide +kernel
theorem d3_51 : decode jdk_42_method_149_code 51 = .ok (.aload_n 0, 1) := by decide +kernel
theorem d3_52 : decode jdk_42_method_149_code 52 = .ok (.aload 5, 2) := by decide +kernel
theorem d3_54 : decode jdk_42_method_149_code 54 = .ok (.putfield 9, 3) := by decide +kernel
theorem d3_57 : decode jdk_42_method_149_code 57 = .ok (.return_, 1) := by decide +kernel
theorem d3_58 : decode jdk_42_method_149_code 58 = .ok (.aload_n 0, 1) := by decide +kernel
theorem d3_59 : decode jdk_42_method_149_code 59 = .ok (.iconst 1, 1) := by decide +kernel
theorem d3_60 : decode jdk_42_method_149_code 60 = .ok (.putfield 15, 3) := by decide +kernel
theorem d3_63 : decode jdk_42_method_149_code 63 = .ok (.aload_n 0, 1) := by decide +kernel
theorem d3_64 : decode jdk_42_method_149_code 64 = .ok (.aload_n 1, 1) := by decide +kernel
theorem d3_65 : decode jdk_42_method_149_code 65 = .ok (.iload_n 2, 1) := by decide +kernel
theorem d3_66 : decode jdk_42_method_149_code 66 = .ok (.iload_n 3, 1) := by decide +kernel
theorem d3_67 : decode jdk_42_method_149_code 67 = .ok (.invokestatic 180, 3) := by decide +kernel
theorem d3_70 : decode jdk_42_method_149_code 70 = .ok (.putfield 9, 3) := by decide +kernel
theorem d3_73 : decode jdk_42_method_149_code 73 = .ok (.return_, 1) := by decide +kernel
theorem pn_java_lang_String : plainName "java/lang/String" = true := by first | (simp [plainName, overriddenIn]; done) | decide +kernel
def Q_rmE4 (Z : State) (x : Addr) (b : Addr) (h0 : Heap) (n0 : Nat) (v : Option Value) (vm : Vm) (h : Heap) (L : List Loc) : Prop := v = none ∧ Fr n0 L ∧ Keep h0 h [x] ∧ Safe Z consts_1 vm h x ∧ (∃ (t_x : Addr) (kb_x : ClassId), Exa Z h x "java/lang/String" ∧ Fld Z h x "java/lang/String" "value" "[B" (.ref t_x) ∧ Fld Z h x "java/lang/String" "coder" "B" (.int (0 : Int32)) ∧ Arv Z h t_x kb_x .byte (0 : Int32) [] (.int (0 : Int32)) ∧ Fld Z h x "java/lang/String" "hash" "I" (.int (0 : Int32)) ∧ Fld Z h x "java/lang/String" "hashIsZero" "Z" (.int (0 : Int32)))
theorem pd_2829V : parseMethodDescriptor "()V" = some ⟨[], none⟩ := by decide +kernel
theorem pd_285bBI29B : parseMethodDescriptor "([BI)B" = some ⟨[(.array .byte), .int], some .byte⟩ := by decide +kernel
theorem pd_285bCII295bB : parseMethodDescriptor "([CII)[B" = some ⟨[(.array .char), .int, .int], some (.array .byte)⟩ := by decide +kernel
set_option maxRecDepth 65536 in
set_option maxHeartbeats 40000000 in
theorem rmE4 (l : Launch) (Z : State) (a0 : Array Value) (hw : ∀ d ∈ tables_1, d.before a0 Z = true) (ws : List Jvm.Cond) (x : Addr) (b : Addr) (h0 : Heap) (n0 : Nat) (O0 : Old Z n0 h0) (F_value_x : Fld Z h0 x "java/lang/String" "value" "[B" .null) (F_coder_x : Fld Z h0 x "java/lang/String" "coder" "B" (.int (0 : Int32))) (F_hash_x : Fld Z h0 x "java/lang/String" "hash" "I" (.int (0 : Int32))) (F_hashIsZero_x : Fld Z h0 x "java/lang/String" "hashIsZero" "Z" (.int (0 : Int32))) (E_x : Exa Z h0 x "java/lang/String") (ge_x : n0 ≤ x) :
    MetFree l (⟨"java/lang/String", "<init>", "([CIILjava/lang/Void;)V"⟩ : MethodName) (head1 (Jvm.Cond.code (⟨"java/lang/String", "<init>", "([CIILjava/lang/Void;)V"⟩ : MethodName) jdk_42_method_149_code 6 none :: ws) ({ frames := 1, cells := 4, slots := 8, locals := 40 } : Room)) (fun ar' U => ar' = #[(.ref x), (.ref b), (.int (0 : Int32)), (.int (0 : Int32)), .null] ∧ Z.Warmed39 U.vm ∧ U.heap = h0 ∧ CHv Z consts_1 U.vm h0) (fun _ _ _ _ _ => True) (fun _ U o U' => ∃ v L, o = .returned v ∧ (Q_rmE4 Z x b h0 n0) v U'.vm U'.heap L ∧ CHr Z consts_1 U.vm U.heap U'.vm U'.heap ∧ ReturnedEndW U o U' L ({ frames := 1, cells := 4, slots := 8, locals := 40 } : Room).cells ({ frames := 1, cells := 4, slots := 8, locals := 40 } : Room).slots) := by
  refine MetFree.of_bodySF (plainFor_of_name pn_java_lang_String) hisR ?_
  intro p e s m args below meth c s₁ Bd hml0 hP hK
  obtain ⟨rfl, hZ, hh, hCH0⟩ := hP
  have hx := Bd.exec
  have hby := Bd.bytes
  have hlk := BodyLoose.notSynchronized Bd
  have hml : c.maxLocals = 6 := hml0
  have hown : s.vm.findClass "java/lang/String" = some m.cls := findClass_of_methodNamed Bd.named
  have hnm := (name_of_methodNamed Bd.named Bd.method).1
  have X0 : Stand p l e ({ frames := 1, cells := 4, slots := 8, locals := 40 } : Room) (s.setVm s.vm) m #[(.ref x), (.ref b), (.int (0 : Int32)), (.int (0 : Int32)), .null] below meth c s₁ [] 0 0 := Stand.of_body Bd
  have e0 : s₁.heap = h0 := by rw [← hh, Bd.state]; rfl
  have N0 := Fr.nil n0
  have Z0 : n0 ≤ h0.size := O0.1 ▸ O0.2.1
  have hEL : EW Z a0 consts_1 := own_EW hw
  have wS := own_wS hw
  have es : s.heap = h0 := hh
  have hS : s.Since s.vm h0.size := (State.WarmedH.refl s).since _
  have hk : h0.size ≤ h0.size := Nat.le_refl _
  have CR : CHr Z consts_1 s.vm h0 s.vm h0 := CHr.refl hCH0
  show OEndsW p e below s Z consts_1 ({ frames := 1, cells := 4, slots := 8, locals := 40 } : Room).cells ({ frames := 1, cells := 4, slots := 8, locals := 40 } : Room).slots (Q_rmE4 Z x b h0 n0) (s₁.setTop (entryFrame m #[(.ref x), (.ref b), (.int (0 : Int32)), (.int (0 : Int32)), .null] 6))
  refine OEndsW.via (fun _ k_ => castTop (show entryFrame m #[(.ref x), (.ref b), (.int (0 : Int32)), (.int (0 : Int32)), .null] 6 = (mkF m 0 #[.val (.ref x), .val (.ref b), .val (.int (0 : Int32)), .val (.int (0 : Int32)), .val .null, .unset] []) by first | (simp [entryFrame, mkF, argsToLocals, Value.category, maxLocals]; done) | rfl) k_) ?_
  have Od := O0
  have Kp := Keep.refl h0 [x]
  have sf_x : Safe Z consts_1 s.vm h0 x := own_safe_null hZ.alike E_x F_value_x
  show OEndsW p e below s _ _ _ _ _ (s₁.setTop (mkF m 0 #[.val (.ref x), .val (.ref b), .val (.int (0 : Int32)), .val (.int (0 : Int32)), .val .null, .unset] []))
  refine OEndsW.via (fun _ k_ => XS.aloadN X0.here hx rfl (hb hby d3_0) rfl rfl k_) ?_
  show OEndsW p e below s _ _ _ _ _ (s₁.setTop (mkF m 1 #[.val (.ref x), .val (.ref b), .val (.int (0 : Int32)), .val (.int (0 : Int32)), .val .null, .unset] [(.ref x)]))
  obtain ⟨T1, X1, e1, st1⟩ := initO X0 hx hZ hown (hw _ (List.mem_of_getElem? (i := 15) rfl)) (hw _ (List.mem_of_getElem? (i := 16) rfl)) (hw _ (List.mem_of_getElem? (i := 17) rfl)) e0 (g := (mkF m 1 #[.val (.ref x), .val (.ref b), .val (.int (0 : Int32)), .val (.int (0 : Int32)), .val .null, .unset] [(.ref x)])) rfl (by rw [hml]; rfl) rfl (hb hby d3_1) (by decide) (W := 0) (by show 2 * 0 + _ ≤ _; exact Nat.le_of_eq rfl) (by decide)
  refine OEndsW.via (fun _ k_ => st1 _ k_) ?_
  show OEndsW p e below s _ _ _ _ _ (T1.setTop (mkF m 4 #[.val (.ref x), .val (.ref b), .val (.int (0 : Int32)), .val (.int (0 : Int32)), .val .null, .unset] []))
  refine OEndsW.via (fun _ k_ => XS.iloadN X1.here hx rfl (hb hby d3_4) rfl k_) ?_
  show OEndsW p e below s _ _ _ _ _ (T1.setTop (mkF m 5 #[.val (.ref x), .val (.ref b), .val (.int (0 : Int32)), .val (.int (0 : Int32)), .val .null, .unset] [(.int (0 : Int32))]))
  refine OEndsW.via (fun _ k_ => XS.ifNo X1.here hx rfl (hb hby d3_5) rfl ((if0 _ _).trans (teq (by decide : (0 : Int32) = (0 : Int32))).2) k_) ?_
  show OEndsW p e below s _ _ _ _ _ (T1.setTop (mkF m 8 #[.val (.ref x), .val (.ref b), .val (.int (0 : Int32)), .val (.int (0 : Int32)), .val .null, .unset] []))
  refine OEndsW.via (fun _ k_ => XS.aloadN X1.here hx rfl (hb hby d3_8) rfl rfl k_) ?_
  show OEndsW p e below s _ _ _ _ _ (T1.setTop (mkF m 9 #[.val (.ref x), .val (.ref b), .val (.int (0 : Int32)), .val (.int (0 : Int32)), .val .null, .unset] [(.ref x)]))
  obtain ⟨q2, T2, h2, k12, qv2, kq2, X2, e2, E2, hS2, hk2, hZ2, hown2, E_q2, C_q2, V_q2, K_q2, la2, lb2, CH2, Lt2, hsafe2, st2⟩ := ldcCH X1 hx hZ hown (hw _ (List.mem_of_getElem? (i := 34) rfl)) wS e1 hS hk hEL (by decide : ("java/lang/String", 7) ∈ consts_1) CR.1 (vs := []) (z := (0 : Int32)) (by decide) (by decide) (by decide) (g := (mkF m 9 #[.val (.ref x), .val (.ref b), .val (.int (0 : Int32)), .val (.int (0 : Int32)), .val .null, .unset] [(.ref x)])) rfl (hb hby d3_9) (n := 0) (by decide) (by decide) (by decide) (by decide)
  replace sf_x := CH2.safe F_value_x.lt sf_x
  have ne_x_q2 := (hsafe2 _ sf_x).1
  have ne_x_qv2 := (hsafe2 _ sf_x).2
  replace Od := Od.ext E2
  replace Kp := Kp.ext E2
  replace F_value_x := Fld.ext E2 F_value_x
  replace F_coder_x := Fld.ext E2 F_coder_x
  replace E_x := Exa.ext E2 E_x
  replace F_hash_x := Fld.ext E2 F_hash_x
  replace F_hashIsZero_x := Fld.ext E2 F_hashIsZero_x
  replace CR := CR.trans CH2
  replace hS := hS2
  replace hk := hk2
  replace hZ := hZ2
  replace hown := hown2
  refine OEndsW.via (fun _ k_ => st2 _ k_) ?_
  show OEndsW p e below s _ _ _ _ _ (T2.setTop (mkF m 11 #[.val (.ref x), .val (.ref b), .val (.int (0 : Int32)), .val (.int (0 : Int32)), .val .null, .unset] [(.ref q2), (.ref x)]))
  obtain ⟨T3, X3, e3, st3⟩ := getF X2 hx hZ hown (host := "") (Or.inl (hw _ (List.mem_of_getElem? (i := 32) rfl))) Via.refl e2 V_q2 (g := (mkF m 11 #[.val (.ref x), .val (.ref b), .val (.int (0 : Int32)), .val (.int (0 : Int32)), .val .null, .unset] [(.ref q2), (.ref x)])) rfl rfl (hb hby d3_11)
  refine OEndsW.via (fun _ k_ => st3 _ k_) ?_
  show OEndsW p e below s _ _ _ _ _ (T3.setTop (mkF m 14 #[.val (.ref x), .val (.ref b), .val (.int (0 : Int32)), .val (.int (0 : Int32)), .val .null, .unset] [(.ref qv2), (.ref x)]))
  obtain ⟨T4, h4, X4, e4, W4, st4⟩ := putF X3 hx hZ hown (host := "") (Or.inl (hw _ (List.mem_of_getElem? (i := 32) rfl))) Via.refl e3 F_value_x E_x (Or.inr ⟨(hw _ (List.mem_of_getElem? (i := 33) rfl)), rfl, hnm⟩) (hw _ (List.mem_of_getElem? (i := 5) rfl)) (ty := (.array .byte)) (by decide) rfl rfl (g := (mkF m 14 #[.val (.ref x), .val (.ref b), .val (.int (0 : Int32)), .val (.int (0 : Int32)), .val .null, .unset] [(.ref qv2), (.ref x)])) rfl rfl (hb hby d3_14)
  have N4 := Fr.snoc X4 N0 ge_x
  have sfw4 := sf_x
  replace hk := Nat.le_trans hk (Keep.of_wr W4).1
  replace Od := Od.wr W4 ge_x
  replace Kp := Kp.wr W4 (Or.inl (by simp))
  replace F_value_x := Fld.same W4 F_value_x
  replace F_coder_x := Fld.other W4 F_coder_x (Or.inr (slot_ne (Or.inr (hw _ (List.mem_of_getElem? (i := 31) rfl))) (Or.inr (hw _ (List.mem_of_getElem? (i := 33) rfl))) (by decide) (t := .byte) (t' := (.array .byte)) (by decide) (by decide)))
  replace E_x := Exa.wr W4 E_x
  replace F_hash_x := Fld.other W4 F_hash_x (Or.inr (slot_ne (Or.inl (hw _ (List.mem_of_getElem? (i := 82) rfl))) (Or.inr (hw _ (List.mem_of_getElem? (i := 33) rfl))) (by decide) (t := .int) (t' := (.array .byte)) (by decide) (by decide)))
  replace F_hashIsZero_x := Fld.other W4 F_hashIsZero_x (Or.inr (slot_ne (Or.inl (hw _ (List.mem_of_getElem? (i := 84) rfl))) (Or.inr (hw _ (List.mem_of_getElem? (i := 33) rfl))) (by decide) (t := .boolean) (t' := (.array .byte)) (by decide) (by decide)))
  replace sf_x := Safe.wr W4 sfw4 CR.1 sf_x
  replace E_q2 := Exa.wr W4 E_q2
  replace C_q2 := Fld.other W4 C_q2 (Or.inl (Ne.symm ne_x_q2))
  replace V_q2 := Fld.other W4 V_q2 (Or.inl (Ne.symm ne_x_q2))
  replace K_q2 := K_q2.other W4 (Ne.symm ne_x_qv2)
  replace CR := CR.trans (CHr.wr W4 sfw4 CR.1)
  refine OEndsW.via (fun _ k_ => st4 _ k_) ?_
  show OEndsW p e below s _ _ _ _ _ (T4.setTop (mkF m 17 #[.val (.ref x), .val (.ref b), .val (.int (0 : Int32)), .val (.int (0 : Int32)), .val .null, .unset] []))
  refine OEndsW.via (fun _ k_ => XS.aloadN X4.here hx rfl (hb hby d3_17) rfl rfl k_) ?_
  show OEndsW p e below s _ _ _ _ _ (T4.setTop (mkF m 18 #[.val (.ref x), .val (.ref b), .val (.int (0 : Int32)), .val (.int (0 : Int32)), .val .null, .unset] [(.ref x)]))
  obtain ⟨q5, T5, h5, k15, qv5, kq5, X5, e5, E5, hS5, hk5, hZ5, hown5, E_q5, C_q5, V_q5, K_q5, la5, lb5, CH5, Lt5, hsafe5, st5⟩ := ldcCH X4 hx hZ hown (hw _ (List.mem_of_getElem? (i := 34) rfl)) wS e4 hS hk hEL (by decide : ("java/lang/String", 7) ∈ consts_1) CR.1 (vs := []) (z := (0 : Int32)) (by decide) (by decide) (by decide) (g := (mkF m 18 #[.val (.ref x), .val (.ref b), .val (.int (0 : Int32)), .val (.int (0 : Int32)), .val .null, .unset] [(.ref x)])) rfl (hb hby d3_18) (n := 0) (by decide) (by decide) (by decide) (by decide)
  replace sf_x := CH5.safe F_value_x.lt sf_x
  have ne_x_q5 := (hsafe5 _ sf_x).1
  have ne_x_qv5 := (hsafe5 _ sf_x).2
  replace Od := Od.ext E5
  replace Kp := Kp.ext E5
  replace F_value_x := Fld.ext E5 F_value_x
  replace F_coder_x := Fld.ext E5 F_coder_x
  replace E_x := Exa.ext E5 E_x
  replace F_hash_x := Fld.ext E5 F_hash_x
  replace F_hashIsZero_x := Fld.ext E5 F_hashIsZero_x
  replace E_q2 := Exa.ext E5 E_q2
  replace C_q2 := Fld.ext E5 C_q2
  replace V_q2 := Fld.ext E5 V_q2
  replace K_q2 := K_q2.ext E5
  replace CR := CR.trans CH5
  replace hS := hS5
  replace hk := hk5
  replace hZ := hZ5
  replace hown := hown5
  refine OEndsW.via (fun _ k_ => st5 _ k_) ?_
  show OEndsW p e below s _ _ _ _ _ (T5.setTop (mkF m 20 #[.val (.ref x), .val (.ref b), .val (.int (0 : Int32)), .val (.int (0 : Int32)), .val .null, .unset] [(.ref q5), (.ref x)]))
  obtain ⟨T6, X6, e6, st6⟩ := getF X5 hx hZ hown (host := "") (Or.inl (hw _ (List.mem_of_getElem? (i := 30) rfl))) Via.refl e5 C_q5 (g := (mkF m 20 #[.val (.ref x), .val (.ref b), .val (.int (0 : Int32)), .val (.int (0 : Int32)), .val .null, .unset] [(.ref q5), (.ref x)])) rfl rfl (hb hby d3_20)
  refine OEndsW.via (fun _ k_ => st6 _ k_) ?_
  show OEndsW p e below s _ _ _ _ _ (T6.setTop (mkF m 23 #[.val (.ref x), .val (.ref b), .val (.int (0 : Int32)), .val (.int (0 : Int32)), .val .null, .unset] [(.int (0 : Int32)), (.ref x)]))
  obtain ⟨T7, h7, X7, e7, W7, st7⟩ := putFN X6 hx hZ hown (hw _ (List.mem_of_getElem? (i := 30) rfl)) Via.refl e6 F_coder_x E_x (Or.inr ⟨(hw _ (List.mem_of_getElem? (i := 31) rfl)), rfl, hnm⟩) (hw _ (List.mem_of_getElem? (i := 5) rfl)) (ty := .byte) (v' := (.int (0 : Int32))) (by decide) rfl rfl (g := (mkF m 23 #[.val (.ref x), .val (.ref b), .val (.int (0 : Int32)), .val (.int (0 : Int32)), .val .null, .unset] [(.int (0 : Int32)), (.ref x)])) rfl rfl (hb hby d3_23)
  have N7 := Fr.snoc X7 N4 ge_x
  have sfw7 := sf_x
  replace hk := Nat.le_trans hk (Keep.of_wr W7).1
  replace Od := Od.wr W7 ge_x
  replace Kp := Kp.wr W7 (Or.inl (by simp))
  replace F_value_x := Fld.other W7 F_value_x (Or.inr (slot_ne (Or.inr (hw _ (List.mem_of_getElem? (i := 33) rfl))) (Or.inr (hw _ (List.mem_of_getElem? (i := 31) rfl))) (by decide) (t := (.array .byte)) (t' := .byte) (by decide) (by decide)))
  replace F_coder_x := Fld.same W7 F_coder_x
  replace E_x := Exa.wr W7 E_x
  replace F_hash_x := Fld.other W7 F_hash_x (Or.inr (slot_ne (Or.inl (hw _ (List.mem_of_getElem? (i := 82) rfl))) (Or.inr (hw _ (List.mem_of_getElem? (i := 31) rfl))) (by decide) (t := .int) (t' := .byte) (by decide) (by decide)))
  replace F_hashIsZero_x := Fld.other W7 F_hashIsZero_x (Or.inr (slot_ne (Or.inl (hw _ (List.mem_of_getElem? (i := 84) rfl))) (Or.inr (hw _ (List.mem_of_getElem? (i := 31) rfl))) (by decide) (t := .boolean) (t' := .byte) (by decide) (by decide)))
  replace sf_x := Safe.wr W7 sfw7 CR.1 sf_x
  replace E_q2 := Exa.wr W7 E_q2
  replace C_q2 := Fld.other W7 C_q2 (Or.inl (Ne.symm ne_x_q2))
  replace V_q2 := Fld.other W7 V_q2 (Or.inl (Ne.symm ne_x_q2))
  replace K_q2 := K_q2.other W7 (Ne.symm ne_x_qv2)
  replace E_q5 := Exa.wr W7 E_q5
  replace C_q5 := Fld.other W7 C_q5 (Or.inl (Ne.symm ne_x_q5))
  replace V_q5 := Fld.other W7 V_q5 (Or.inl (Ne.symm ne_x_q5))
  replace K_q5 := K_q5.other W7 (Ne.symm ne_x_qv5)
  replace CR := CR.trans (CHr.wr W7 sfw7 CR.1)
  refine OEndsW.via (fun _ k_ => st7 _ k_) ?_
  show OEndsW p e below s _ _ _ _ _ (T7.setTop (mkF m 26 #[.val (.ref x), .val (.ref b), .val (.int (0 : Int32)), .val (.int (0 : Int32)), .val .null, .unset] []))
  refine OEndsW.retV X7 hx hlk hS hk hZ hEL e7 es CR Bd.returns (hb hby d3_26) ?_ (by decide) (by decide)
  rw [e7]
  have sfE := (CHv.at X7 hZ hEL CR.1).safe E_x.lt sf_x
  exact ⟨rfl, N7, Kp, sfE, _, _, E_x, F_value_x, F_coder_x, K_q2, F_hash_x, F_hashIsZero_x⟩
theorem d2_0 : decode jdk_42_method_3_code 0 = .ok (.aload_n 0, 1) := by decide +kernel
theorem d2_1 : decode jdk_42_method_3_code 1 = .ok (.aload_n 1, 1) := by decide +kernel
theorem d2_2 : decode jdk_42_method_3_code 2 = .ok (.iconst 0, 1) := by decide +kernel
theorem d2_3 : decode jdk_42_method_3_code 3 = .ok (.aload_n 1, 1) := by decide +kernel
theorem d2_4 : decode jdk_42_method_3_code 4 = .ok (.arraylength, 1) := by decide +kernel
theorem d2_5 : decode jdk_42_method_3_code 5 = .ok (.aconst_null, 1) := by decide +kernel
theorem d2_6 : decode jdk_42_method_3_code 6 = .ok (.invokespecial 27, 3) := by decide +kernel
theorem d2_9 : decode jdk_42_method_3_code 9 = .ok (.return_, 1) := by decide +kernel
def Q_rmE1 (Z : State) (x : Addr) (b : Addr) (kC : ClassId) (dC : Value) (h0 : Heap) (n0 : Nat) (v : Option Value) (vm : Vm) (h : Heap) (L : List Loc) : Prop := v = none ∧ Fr n0 L ∧ Keep h0 h [x] ∧ Safe Z consts_1 vm h x ∧ (∃ (t_x : Addr) (kb_x : ClassId), Exa Z h x "java/lang/String" ∧ Fld Z h x "java/lang/String" "value" "[B" (.ref t_x) ∧ Fld Z h x "java/lang/String" "coder" "B" (.int (0 : Int32)) ∧ Arv Z h t_x kb_x .byte (0 : Int32) [] (.int (0 : Int32)) ∧ Fld Z h x "java/lang/String" "hash" "I" (.int (0 : Int32)) ∧ Fld Z h x "java/lang/String" "hashIsZero" "Z" (.int (0 : Int32)))
theorem pd_285bCIILjava2flang2fVoid3b29V : parseMethodDescriptor "([CIILjava/lang/Void;)V" = some ⟨[(.array .char), .int, .int, (.object "java/lang/Void")], none⟩ := by decide +kernel
set_option maxRecDepth 65536 in
set_option maxHeartbeats 40000000 in
theorem rmE1 (l : Launch) (Z : State) (a0 : Array Value) (hw : ∀ d ∈ tables_1, d.before a0 Z = true) (ws : List Jvm.Cond) (x : Addr) (b : Addr) (kC : ClassId) (dC : Value) (h0 : Heap) (n0 : Nat) (O0 : Old Z n0 h0) (F_value_x : Fld Z h0 x "java/lang/String" "value" "[B" .null) (F_coder_x : Fld Z h0 x "java/lang/String" "coder" "B" (.int (0 : Int32))) (F_hash_x : Fld Z h0 x "java/lang/String" "hash" "I" (.int (0 : Int32))) (F_hashIsZero_x : Fld Z h0 x "java/lang/String" "hashIsZero" "Z" (.int (0 : Int32))) (E_x : Exa Z h0 x "java/lang/String") (ge_x : n0 ≤ x) (V_b : Arv Z h0 b kC .char (0 : Int32) [] dC) :
    MetFree l (⟨"java/lang/String", "<init>", "([C)V"⟩ : MethodName) (head1 (Jvm.Cond.code (⟨"java/lang/String", "<init>", "([C)V"⟩ : MethodName) jdk_42_method_3_code 2 none :: ws) ({ frames := 2, cells := 4, slots := 8, locals := 64 } : Room)) (fun ar' U => ar' = #[(.ref x), (.ref b)] ∧ Z.Warmed39 U.vm ∧ U.heap = h0 ∧ CHv Z consts_1 U.vm h0) (fun _ _ _ _ _ => True) (fun _ U o U' => ∃ v L, o = .returned v ∧ (Q_rmE1 Z x b kC dC h0 n0) v U'.vm U'.heap L ∧ CHr Z consts_1 U.vm U.heap U'.vm U'.heap ∧ ReturnedEndW U o U' L ({ frames := 2, cells := 4, slots := 8, locals := 64 } : Room).cells ({ frames := 2, cells := 4, slots := 8, locals := 64 } : Room).slots) := by
  refine MetFree.of_bodySF (plainFor_of_name pn_java_lang_String) hisR ?_
  intro p e s m args below meth c s₁ Bd hml0 hP hK
  obtain ⟨rfl, hZ, hh, hCH0⟩ := hP
  have hx := Bd.exec
  have hby := Bd.bytes
  have hlk := BodyLoose.notSynchronized Bd
  have hml : c.maxLocals = 2 := hml0
  have hown : s.vm.findClass "java/lang/String" = some m.cls := findClass_of_methodNamed Bd.named
  have hnm := (name_of_methodNamed Bd.named Bd.method).1
  have X0 : Stand p l e ({ frames := 2, cells := 4, slots := 8, locals := 64 } : Room) (s.setVm s.vm) m #[(.ref x), (.ref b)] below meth c s₁ [] 0 0 := Stand.of_body Bd
  have e0 : s₁.heap = h0 := by rw [← hh, Bd.state]; rfl
  have N0 := Fr.nil n0
  have Z0 : n0 ≤ h0.size := O0.1 ▸ O0.2.1
  have hEL : EW Z a0 consts_1 := own_EW hw
  have wS := own_wS hw
  have es : s.heap = h0 := hh
  have hS : s.Since s.vm h0.size := (State.WarmedH.refl s).since _
  have hk : h0.size ≤ h0.size := Nat.le_refl _
  have CR : CHr Z consts_1 s.vm h0 s.vm h0 := CHr.refl hCH0
  show OEndsW p e below s Z consts_1 ({ frames := 2, cells := 4, slots := 8, locals := 64 } : Room).cells ({ frames := 2, cells := 4, slots := 8, locals := 64 } : Room).slots (Q_rmE1 Z x b kC dC h0 n0) (s₁.setTop (entryFrame m #[(.ref x), (.ref b)] 2))
  refine OEndsW.via (fun _ k_ => castTop (show entryFrame m #[(.ref x), (.ref b)] 2 = (mkF m 0 #[.val (.ref x), .val (.ref b)] []) by first | (simp [entryFrame, mkF, argsToLocals, Value.category, maxLocals]; done) | rfl) k_) ?_
  obtain ⟨cl, Ar, qA, Sa, MA, HA, GA⟩ := V_b
  show OEndsW p e below s _ _ _ _ _ (s₁.setTop (mkF m 0 #[.val (.ref x), .val (.ref b)] []))
  refine OEndsW.via (fun _ k_ => XS.aloadN X0.here hx rfl (hb hby d2_0) rfl rfl k_) ?_
  show OEndsW p e below s _ _ _ _ _ (s₁.setTop (mkF m 1 #[.val (.ref x), .val (.ref b)] [(.ref x)]))
  refine OEndsW.via (fun _ k_ => XS.aloadN X0.here hx rfl (hb hby d2_1) rfl rfl k_) ?_
  show OEndsW p e below s _ _ _ _ _ (s₁.setTop (mkF m 2 #[.val (.ref x), .val (.ref b)] [(.ref b), (.ref x)]))
  refine OEndsW.via (fun _ k_ => XS.iconst X0.here hx rfl (hb hby d2_2) k_) ?_
  show OEndsW p e below s _ _ _ _ _ (s₁.setTop (mkF m 3 #[.val (.ref x), .val (.ref b)] [(.int (0 : Int32)), (.ref b), (.ref x)]))
  refine OEndsW.via (fun _ k_ => XS.aloadN X0.here hx rfl (hb hby d2_3) rfl rfl k_) ?_
  show OEndsW p e below s _ _ _ _ _ (s₁.setTop (mkF m 4 #[.val (.ref x), .val (.ref b)] [(.ref b), (.int (0 : Int32)), (.ref b), (.ref x)]))
  refine OEndsW.via (fun _ k_ => X0.arraylength hx (by rw [e0]; exact Ar.1) (State.isArrayOf_alike hZ.alike Ar.2.1) (g := (mkF m 4 #[.val (.ref x), .val (.ref b)] [(.ref b), (.int (0 : Int32)), (.ref b), (.ref x)])) rfl rfl (hb hby d2_4) _ k_) ?_
  rw [len_of Sa MA]
  show OEndsW p e below s _ _ _ _ _ (s₁.setTop (mkF m 5 #[.val (.ref x), .val (.ref b)] [(.int (0 : Int32)), (.int (0 : Int32)), (.ref b), (.ref x)]))
  refine OEndsW.via (fun _ k_ => XS.aconstNull X0.here hx rfl (hb hby d2_5) k_) ?_
  show OEndsW p e below s _ _ _ _ _ (s₁.setTop (mkF m 6 #[.val (.ref x), .val (.ref b)] [.null, (.int (0 : Int32)), (.int (0 : Int32)), (.ref b), (.ref x)]))
  obtain ⟨_, _, ⟨T1, L1, k1, n1⟩, -, X1, S1, G1, ⟨Lc1, hQ1, l1, y1, z1, CH1⟩, st1⟩ := X0.specialBackS hx (y := (⟨"java/lang/String", "<init>", "([CIILjava/lang/Void;)V"⟩ : MethodName)) rfl hown (mvT hZ (hw _ (List.mem_of_getElem? (i := 11) rfl))) (mvT hZ (hw _ (List.mem_of_getElem? (i := 12) rfl))) (mvT hZ (hw _ (List.mem_of_getElem? (i := 14) rfl))) (by decide) (own_backOfSV (W := 0) (rmE4 l Z a0 hw [] x b h0 n0 O0 F_value_x F_coder_x F_hash_x F_hashIsZero_x E_x ge_x) hZ (hw _ (List.mem_of_getElem? (i := 14) rfl)) (hw _ (List.mem_of_getElem? (i := 6) rfl)) (by decide) (by decide) hEL CR.1) (g := (mkF m 6 #[.val (.ref x), .val (.ref b)] [.null, (.int (0 : Int32)), (.int (0 : Int32)), (.ref b), (.ref x)])) rfl (by rw [hml]; rfl) (Steps.refl _) (a := x) (argsL := [(.ref b), (.int (0 : Int32)), (.int (0 : Int32)), .null]) (rest := []) (lenOf pd_285bCIILjava2flang2fVoid3b29V rfl) rfl (by show 2 * 0 + _ ≤ _; exact Nat.le_of_eq rfl) (hb hby d2_6) (fun _ _ => ⟨rfl, e0, Nat.le_of_ble_eq_true rfl, Nat.le_of_ble_eq_true rfl⟩)
  dsimp only [Pt.U, Pt.locs, Pt.cells, Pt.slots] at X1 S1 G1 l1 y1 z1 st1 hQ1 CH1
  subst l1 y1 z1
  obtain ⟨X1, hS, hZ, hown⟩ := rebS hS (by rw [e0]; exact hk) X1 S1 G1 hZ hown
  replace CR := CR.trans CH1
  replace hk := Nat.le_refl T1.heap.size
  obtain ⟨rfl, N1q, K1, sf_x, t_x, kb_x, E_x, OO1⟩ := hQ1
  have N1 := Fr.app N0 N1q
  refine OEndsW.via (fun _ k_ => st1.trans k_) ?_
  show OEndsW p e below s _ _ _ _ _ (T1.setTop (mkF m 9 #[.val (.ref x), .val (.ref b)] []))
  refine OEndsW.retV X1 hx hlk hS hk hZ hEL rfl es CR Bd.returns (hb hby d2_9) ?_ (by decide) (by decide)
  have sfE := (CHv.at X1 hZ hEL CR.1).safe E_x.lt sf_x
  exact ⟨rfl, N1, K1, sfE, t_x, kb_x, E_x, OO1⟩
theorem d14_0 : decode jdk_42_method_154_code 0 = .ok (.getstatic 38, 3) := by decide +kernel
theorem d14_3 : decode jdk_42_method_154_code 3 = .ok (.ifCond .eq 14, 3) := by decide +kernel
theorem d14_6 : decode jdk_42_method_154_code 6 = .ok (.aload_n 0, 1) := by decide +kernel
theorem d14_7 : decode jdk_42_method_154_code 7 = .ok (.getfield 15, 3) := by decide +kernel
theorem d14_10 : decode jdk_42_method_154_code 10 = .ok (.ifCond .ne 7, 3) := by decide +kernel
theorem d14_13 : decode jdk_42_method_154_code 13 = .ok (.iconst 1, 1) := by decide +kernel
theorem d14_14 : decode jdk_42_method_154_code 14 = .ok (.goto 4, 3) := by decide +kernel
theorem d14_17 : decode jdk_42_method_154_code 17 = .ok (.iconst 0, 1) := by decide +kernel
theorem d14_18 : decode jdk_42_method_154_code 18 = .ok (.ireturn, 1) := by decide +kernel
set_option maxRecDepth 65536 in
set_option maxHeartbeats 40000000 in
theorem rmIL (l : Launch) (Z : State) (a0 : Array Value) (hw : ∀ d ∈ tables_1, d.before a0 Z = true) (ws : List Jvm.Cond) (x : Addr) (G1 : Int32) (h0 : Heap) (n0 : Nat) (O0 : Old Z n0 h0) (S_CS : Sta Z Z.heap "java/lang/String" "COMPACT_STRINGS" "Z" (.int G1)) (nz_CS : ¬ (G1 = (0 : Int32))) (C_x : Fld Z h0 x "java/lang/String" "coder" "B" (.int (0 : Int32))) :
    MetFree l (⟨"java/lang/String", "isLatin1", "()Z"⟩ : MethodName) (head1 (Jvm.Cond.code (⟨"java/lang/String", "isLatin1", "()Z"⟩ : MethodName) jdk_42_method_154_code 1 (some .boolean) :: ws) ({ frames := 0, cells := 0, slots := 0, locals := 0 } : Room)) (fun ar' U => ar' = #[(.ref x)] ∧ Z.Warmed39 U.vm ∧ U.heap = h0) (fun _ _ _ _ _ => True) (fun _ U o U' => ∃ v L, o = .returned v ∧ (QA (some (.int 1)) h0 n0) v U'.heap L ∧ FrameEnd U o U' L ({ frames := 0, cells := 0, slots := 0, locals := 0 } : Room).cells ({ frames := 0, cells := 0, slots := 0, locals := 0 } : Room).slots) := by
  refine MetFree.of_bodySF (plainFor_of_name pn_java_lang_String) hisR ?_
  intro p e s m args below meth c s₁ Bd hml0 hP hK
  obtain ⟨rfl, hZ, hh⟩ := hP
  have hx := Bd.exec
  have hby := Bd.bytes
  have hlk := BodyLoose.notSynchronized Bd
  have hml : c.maxLocals = 1 := hml0
  have hown : s.vm.findClass "java/lang/String" = some m.cls := findClass_of_methodNamed Bd.named
  have hnm := (name_of_methodNamed Bd.named Bd.method).1
  have X0 : Stand p l e ({ frames := 0, cells := 0, slots := 0, locals := 0 } : Room) s m #[(.ref x)] below meth c s₁ [] 0 0 := Stand.of_body Bd
  have e0 : s₁.heap = h0 := by rw [← hh, Bd.state]; rfl
  have N0 := Fr.nil n0
  have Z0 : n0 ≤ h0.size := O0.1 ▸ O0.2.1
  show OEnds p e below s ({ frames := 0, cells := 0, slots := 0, locals := 0 } : Room).cells ({ frames := 0, cells := 0, slots := 0, locals := 0 } : Room).slots (QA (some (.int 1)) h0 n0) (s₁.setTop (entryFrame m #[(.ref x)] 1))
  refine OEnds.via (fun _ k_ => castTop (show entryFrame m #[(.ref x)] 1 = (mkF m 0 #[.val (.ref x)] []) by first | (simp [entryFrame, mkF, argsToLocals, Value.category, maxLocals]; done) | rfl) k_) ?_
  obtain ⟨T1, X1, e1, st1⟩ := getS2 X0 hx hZ hown (host := "") (Or.inl (hw _ (List.mem_of_getElem? (i := 18) rfl))) Via.refl e0 (Sta.ext O0.2 S_CS) (g := (mkF m 0 #[.val (.ref x)] [])) rfl (hb hby d14_0)
  refine OEnds.via (fun _ k_ => st1 _ k_) ?_
  show OEnds p e below s _ _ _ (T1.setTop (mkF m 3 #[.val (.ref x)] [(.int G1)]))
  refine OEnds.via (fun _ k_ => XS.ifNo X1.here hx rfl (hb hby d14_3) rfl ((if0 _ _).trans (feq nz_CS).1) k_) ?_
  show OEnds p e below s _ _ _ (T1.setTop (mkF m 6 #[.val (.ref x)] []))
  refine OEnds.via (fun _ k_ => XS.aloadN X1.here hx rfl (hb hby d14_6) rfl rfl k_) ?_
  show OEnds p e below s _ _ _ (T1.setTop (mkF m 7 #[.val (.ref x)] [(.ref x)]))
  obtain ⟨T2, X2, e2, st2⟩ := getF X1 hx hZ hown (host := "") (Or.inl (hw _ (List.mem_of_getElem? (i := 30) rfl))) Via.refl e1 C_x (g := (mkF m 7 #[.val (.ref x)] [(.ref x)])) rfl rfl (hb hby d14_7)
  refine OEnds.via (fun _ k_ => st2 _ k_) ?_
  show OEnds p e below s _ _ _ (T2.setTop (mkF m 10 #[.val (.ref x)] [(.int (0 : Int32))]))
  refine OEnds.via (fun _ k_ => XS.ifNo X2.here hx rfl (hb hby d14_10) rfl ((if0 _ _).trans (teq (by decide : (0 : Int32) = (0 : Int32))).2) k_) ?_
  show OEnds p e below s _ _ _ (T2.setTop (mkF m 13 #[.val (.ref x)] []))
  refine OEnds.via (fun _ k_ => XS.iconst X2.here hx rfl (hb hby d14_13) k_) ?_
  show OEnds p e below s _ _ _ (T2.setTop (mkF m 14 #[.val (.ref x)] [(.int (1 : Int32))]))
  refine OEnds.via (fun _ k_ => XS.goto X2.here hx rfl (pc0 := 14) (pc' := 18) rfl (hb hby d14_14) (by decide) (by decide) k_) ?_
  show OEnds p e below s _ _ _ (T2.setTop (mkF m 18 #[.val (.ref x)] [(.int (1 : Int32))]))
  refine OEnds.retN X2 hx hlk (t := .boolean) Bd.returns (by simp) (hb hby d14_18) ?_ (by decide) (by decide)
  exact ⟨rfl, N0, e2⟩
theorem d19_0 : decode jdk_48_method_5_code 0 = .ok (.iload_n 2, 1) := by decide +kernel
theorem d19_1 : decode jdk_48_method_5_code 1 = .ok (.iload_n 3, 1) := by decide +kernel
theorem d19_2 : decode jdk_48_method_5_code 2 = .ok (.iadd, 1) := by decide +kernel
theorem d19_3 : decode jdk_48_method_5_code 3 = .ok (.istore 4, 2) := by decide +kernel
theorem d19_5 : decode jdk_48_method_5_code 5 = .ok (.iload_n 2, 1) := by decide +kernel
theorem d19_6 : decode jdk_48_method_5_code 6 = .ok (.istore 5, 2) := by decide +kernel
theorem d19_8 : decode jdk_48_method_5_code 8 = .ok (.iload 5, 2) := by decide +kernel
theorem d19_10 : decode jdk_48_method_5_code 10 = .ok (.iload 4, 2) := by decide +kernel
theorem d19_12 : decode jdk_48_method_5_code 12 = .ok (.if_icmp .ge 23, 3) := by decide +kernel
theorem d19_15 : decode jdk_48_method_5_code 15 = .ok (.bipush 31, 2) := by decide +kernel
theorem d19_17 : decode jdk_48_method_5_code 17 = .ok (.iload_n 0, 1) := by decide +kernel
theorem d19_18 : decode jdk_48_method_5_code 18 = .ok (.imul, 1) := by decide +kernel
theorem d19_19 : decode jdk_48_method_5_code 19 = .ok (.aload_n 1, 1) := by decide +kernel
theorem d19_20 : decode jdk_48_method_5_code 20 = .ok (.iload 5, 2) := by decide +kernel
theorem d19_22 : decode jdk_48_method_5_code 22 = .ok (.baload, 1) := by decide +kernel
theorem d19_23 : decode jdk_48_method_5_code 23 = .ok (.sipush 255, 3) := by decide +kernel
theorem d19_26 : decode jdk_48_method_5_code 26 = .ok (.iand, 1) := by decide +kernel
theorem d19_27 : decode jdk_48_method_5_code 27 = .ok (.iadd, 1) := by decide +kernel
theorem d19_28 : decode jdk_48_method_5_code 28 = .ok (.istore_n 0, 1) := by decide +kernel
theorem d19_29 : decode jdk_48_method_5_code 29 = .ok (.iinc 5 1, 3) := by decide +kernel
theorem d19_32 : decode jdk_48_method_5_code 32 = .ok (.goto (-24), 3) := by decide +kernel
theorem d19_35 : decode jdk_48_method_5_code 35 = .ok (.iload_n 0, 1) := by decide +kernel
theorem d19_36 : decode jdk_48_method_5_code 36 = .ok (.ireturn, 1) := by decide +kernel
theorem pn_jdk_internal_util_ArraysSupport : plainName "jdk/internal/util/ArraysSupport" = true := by first | (simp [plainName, overriddenIn]; done) | decide +kernel
set_option maxRecDepth 65536 in
set_option maxHeartbeats 40000000 in
theorem rmSH2 (l : Launch) (Z : State) (a0 : Array Value) (hw : ∀ d ∈ tables_1, d.before a0 Z = true) (ws : List Jvm.Cond) (t : Addr) (kb : ClassId) (u0 : Int32) (u1 : Int32) (h0 : Heap) (n0 : Nat) (O0 : Old Z n0 h0) (V_t : Arv Z h0 t kb .byte (2 : Int32) [(.int u0), (.int u1)] (.int (0 : Int32))) :
    MetFree l (⟨"jdk/internal/util/ArraysSupport", "signedHashCode", "(I[BII)I"⟩ : MethodName) (head1 (Jvm.Cond.code (⟨"jdk/internal/util/ArraysSupport", "signedHashCode", "(I[BII)I"⟩ : MethodName) jdk_48_method_5_code 6 (some .int) :: ws) ({ frames := 0, cells := 0, slots := 0, locals := 0 } : Room)) (fun ar' U => ar' = #[(.int (0 : Int32)), (.ref t), (.int (0 : Int32)), (.int (2 : Int32))] ∧ Z.Warmed39 U.vm ∧ U.heap = h0) (fun _ _ _ _ _ => True) (fun _ U o U' => ∃ v L, o = .returned v ∧ (QA (some (.int (own_hv [(.int u0), (.int u1)]))) h0 n0) v U'.heap L ∧ FrameEnd U o U' L ({ frames := 0, cells := 0, slots := 0, locals := 0 } : Room).cells ({ frames := 0, cells := 0, slots := 0, locals := 0 } : Room).slots) := by
  refine MetFree.of_bodySF (plainFor_of_name pn_jdk_internal_util_ArraysSupport) hisR ?_
  intro p e s m args below meth c s₁ Bd hml0 hP hK
  obtain ⟨rfl, hZ, hh⟩ := hP
  have hx := Bd.exec
  have hby := Bd.bytes
  have hlk := BodyLoose.notSynchronized Bd
  have hml : c.maxLocals = 6 := hml0
  have hown : s.vm.findClass "jdk/internal/util/ArraysSupport" = some m.cls := findClass_of_methodNamed Bd.named
  have hnm := (name_of_methodNamed Bd.named Bd.method).1
  have X0 : Stand p l e ({ frames := 0, cells := 0, slots := 0, locals := 0 } : Room) s m #[(.int (0 : Int32)), (.ref t), (.int (0 : Int32)), (.int (2 : Int32))] below meth c s₁ [] 0 0 := Stand.of_body Bd
  have e0 : s₁.heap = h0 := by rw [← hh, Bd.state]; rfl
  have N0 := Fr.nil n0
  have Z0 : n0 ≤ h0.size := O0.1 ▸ O0.2.1
  show OEnds p e below s ({ frames := 0, cells := 0, slots := 0, locals := 0 } : Room).cells ({ frames := 0, cells := 0, slots := 0, locals := 0 } : Room).slots (QA (some (.int (own_hv [(.int u0), (.int u1)]))) h0 n0) (s₁.setTop (entryFrame m #[(.int (0 : Int32)), (.ref t), (.int (0 : Int32)), (.int (2 : Int32))] 6))
  refine OEnds.via (fun _ k_ => castTop (show entryFrame m #[(.int (0 : Int32)), (.ref t), (.int (0 : Int32)), (.int (2 : Int32))] 6 = (mkF m 0 #[.val (.int (0 : Int32)), .val (.ref t), .val (.int (0 : Int32)), .val (.int (2 : Int32)), .unset, .unset] []) by first | (simp [entryFrame, mkF, argsToLocals, Value.category, maxLocals]; done) | rfl) k_) ?_
  refine OEnds.via (fun _ k_ => XS.iloadN X0.here hx rfl (hb hby d19_0) rfl k_) ?_
  show OEnds p e below s _ _ _ (s₁.setTop (mkF m 1 #[.val (.int (0 : Int32)), .val (.ref t), .val (.int (0 : Int32)), .val (.int (2 : Int32)), .unset, .unset] [(.int (0 : Int32))]))
  refine OEnds.via (fun _ k_ => XS.iloadN X0.here hx rfl (hb hby d19_1) rfl k_) ?_
  show OEnds p e below s _ _ _ (s₁.setTop (mkF m 2 #[.val (.int (0 : Int32)), .val (.ref t), .val (.int (0 : Int32)), .val (.int (2 : Int32)), .unset, .unset] [(.int (2 : Int32)), (.int (0 : Int32))]))
  refine OEnds.via (fun _ k_ => XS.iadd X0.here hx rfl (hb hby d19_2) rfl k_) ?_
  show OEnds p e below s _ _ _ (s₁.setTop (mkF m 3 #[.val (.int (0 : Int32)), .val (.ref t), .val (.int (0 : Int32)), .val (.int (2 : Int32)), .unset, .unset] [(.int (2 : Int32))]))
  refine OEnds.via (fun _ k_ => XS.istore X0.here hx rfl (hb hby d19_3) rfl (l' := #[.val (.int (0 : Int32)), .val (.ref t), .val (.int (0 : Int32)), .val (.int (2 : Int32)), .val (.int (2 : Int32)), .unset]) rfl k_) ?_
  show OEnds p e below s _ _ _ (s₁.setTop (mkF m 5 #[.val (.int (0 : Int32)), .val (.ref t), .val (.int (0 : Int32)), .val (.int (2 : Int32)), .val (.int (2 : Int32)), .unset] []))
  refine OEnds.via (fun _ k_ => XS.iloadN X0.here hx rfl (hb hby d19_5) rfl k_) ?_
  show OEnds p e below s _ _ _ (s₁.setTop (mkF m 6 #[.val (.int (0 : Int32)), .val (.ref t), .val (.int (0 : Int32)), .val (.int (2 : Int32)), .val (.int (2 : Int32)), .unset] [(.int (0 : Int32))]))
  refine OEnds.via (fun _ k_ => XS.istore X0.here hx rfl (hb hby d19_6) rfl (l' := #[.val (.int (0 : Int32)), .val (.ref t), .val (.int (0 : Int32)), .val (.int (2 : Int32)), .val (.int (2 : Int32)), .val (.int (0 : Int32))]) rfl k_) ?_
  show OEnds p e below s _ _ _ (s₁.setTop (mkF m 8 #[.val (.int (0 : Int32)), .val (.ref t), .val (.int (0 : Int32)), .val (.int (2 : Int32)), .val (.int (2 : Int32)), .val (.int (0 : Int32))] []))
  refine OEnds.via (fun _ k_ => XS.iload X0.here hx rfl (hb hby d19_8) rfl k_) ?_
  show OEnds p e below s _ _ _ (s₁.setTop (mkF m 10 #[.val (.int (0 : Int32)), .val (.ref t), .val (.int (0 : Int32)), .val (.int (2 : Int32)), .val (.int (2 : Int32)), .val (.int (0 : Int32))] [(.int (0 : Int32))]))
  refine OEnds.via (fun _ k_ => XS.iload X0.here hx rfl (hb hby d19_10) rfl k_) ?_
  show OEnds p e below s _ _ _ (s₁.setTop (mkF m 12 #[.val (.int (0 : Int32)), .val (.ref t), .val (.int (0 : Int32)), .val (.int (2 : Int32)), .val (.int (2 : Int32)), .val (.int (0 : Int32))] [(.int (2 : Int32)), (.int (0 : Int32))]))
  refine OEnds.via (fun _ k_ => XS.icmpNo X0.here hx rfl (hb hby d19_12) rfl (tlt (by decide : (0 : Int32) < (2 : Int32))).2.1 k_) ?_
  show OEnds p e below s _ _ _ (s₁.setTop (mkF m 15 #[.val (.int (0 : Int32)), .val (.ref t), .val (.int (0 : Int32)), .val (.int (2 : Int32)), .val (.int (2 : Int32)), .val (.int (0 : Int32))] []))
  refine OEnds.via (fun _ k_ => XS.bipush X0.here hx rfl (hb hby d19_15) k_) ?_
  show OEnds p e below s _ _ _ (s₁.setTop (mkF m 17 #[.val (.int (0 : Int32)), .val (.ref t), .val (.int (0 : Int32)), .val (.int (2 : Int32)), .val (.int (2 : Int32)), .val (.int (0 : Int32))] [(.int (31 : Int32))]))
  refine OEnds.via (fun _ k_ => XS.iloadN X0.here hx rfl (hb hby d19_17) rfl k_) ?_
  show OEnds p e below s _ _ _ (s₁.setTop (mkF m 18 #[.val (.int (0 : Int32)), .val (.ref t), .val (.int (0 : Int32)), .val (.int (2 : Int32)), .val (.int (2 : Int32)), .val (.int (0 : Int32))] [(.int (0 : Int32)), (.int (31 : Int32))]))
  refine OEnds.via (fun _ k_ => XS.imul X0.here hx rfl (hb hby d19_18) rfl k_) ?_
  show OEnds p e below s _ _ _ (s₁.setTop (mkF m 19 #[.val (.int (0 : Int32)), .val (.ref t), .val (.int (0 : Int32)), .val (.int (2 : Int32)), .val (.int (2 : Int32)), .val (.int (0 : Int32))] [(.int (0 : Int32))]))
  refine OEnds.via (fun _ k_ => XS.aloadN X0.here hx rfl (hb hby d19_19) rfl rfl k_) ?_
  show OEnds p e below s _ _ _ (s₁.setTop (mkF m 20 #[.val (.int (0 : Int32)), .val (.ref t), .val (.int (0 : Int32)), .val (.int (2 : Int32)), .val (.int (2 : Int32)), .val (.int (0 : Int32))] [(.ref t), (.int (0 : Int32))]))
  refine OEnds.via (fun _ k_ => XS.iload X0.here hx rfl (hb hby d19_20) rfl k_) ?_
  show OEnds p e below s _ _ _ (s₁.setTop (mkF m 22 #[.val (.int (0 : Int32)), .val (.ref t), .val (.int (0 : Int32)), .val (.int (2 : Int32)), .val (.int (2 : Int32)), .val (.int (0 : Int32))] [(.int (0 : Int32)), (.ref t), (.int (0 : Int32))]))
  have V1c := V_t
  obtain ⟨cl1, Ar1, q1, S1, M1, H1, -⟩ := V1c
  refine OEnds.via (fun _ k_ => X0.baloadBytes hx (j := (0 : Int32)) (v := (.int u0)) (by rw [e0]; exact Ar1.1) (State.isArrayOf_alike hZ.alike Ar1.2.1) Ar1.2.2 (inb_of S1 ⟨by decide, by decide⟩) (H1 0 (by rw [S1]; decide)) (g := (mkF m 22 #[.val (.int (0 : Int32)), .val (.ref t), .val (.int (0 : Int32)), .val (.int (2 : Int32)), .val (.int (2 : Int32)), .val (.int (0 : Int32))] [(.int (0 : Int32)), (.ref t), (.int (0 : Int32))])) rfl rfl (hb hby d19_22) _ k_) ?_
  show OEnds p e below s _ _ _ (s₁.setTop (mkF m 23 #[.val (.int (0 : Int32)), .val (.ref t), .val (.int (0 : Int32)), .val (.int (2 : Int32)), .val (.int (2 : Int32)), .val (.int (0 : Int32))] [(.int u0), (.int (0 : Int32))]))
  refine OEnds.via (fun _ k_ => XS.sipush X0.here hx rfl (hb hby d19_23) k_) ?_
  show OEnds p e below s _ _ _ (s₁.setTop (mkF m 26 #[.val (.int (0 : Int32)), .val (.ref t), .val (.int (0 : Int32)), .val (.int (2 : Int32)), .val (.int (2 : Int32)), .val (.int (0 : Int32))] [(.int (255 : Int32)), (.int u0), (.int (0 : Int32))]))
  refine OEnds.via (fun _ k_ => XS.iand X0.here hx rfl (hb hby d19_26) rfl k_) ?_
  show OEnds p e below s _ _ _ (s₁.setTop (mkF m 27 #[.val (.int (0 : Int32)), .val (.ref t), .val (.int (0 : Int32)), .val (.int (2 : Int32)), .val (.int (2 : Int32)), .val (.int (0 : Int32))] [(.int (u0 &&& (255 : Int32))), (.int (0 : Int32))]))
  refine OEnds.via (fun _ k_ => XS.iadd X0.here hx rfl (hb hby d19_27) rfl k_) ?_
  show OEnds p e below s _ _ _ (s₁.setTop (mkF m 28 #[.val (.int (0 : Int32)), .val (.ref t), .val (.int (0 : Int32)), .val (.int (2 : Int32)), .val (.int (2 : Int32)), .val (.int (0 : Int32))] [(.int ((0 : Int32) + (u0 &&& (255 : Int32))))]))
  refine OEnds.via (fun _ k_ => XS.istoreN X0.here hx rfl (hb hby d19_28) rfl (l' := #[.val (.int ((0 : Int32) + (u0 &&& (255 : Int32)))), .val (.ref t), .val (.int (0 : Int32)), .val (.int (2 : Int32)), .val (.int (2 : Int32)), .val (.int (0 : Int32))]) rfl k_) ?_
  show OEnds p e below s _ _ _ (s₁.setTop (mkF m 29 #[.val (.int ((0 : Int32) + (u0 &&& (255 : Int32)))), .val (.ref t), .val (.int (0 : Int32)), .val (.int (2 : Int32)), .val (.int (2 : Int32)), .val (.int (0 : Int32))] []))
  refine OEnds.via (fun _ k_ => XS.iinc X0.here hx rfl (hb hby d19_29) rfl (l' := #[.val (.int ((0 : Int32) + (u0 &&& (255 : Int32)))), .val (.ref t), .val (.int (0 : Int32)), .val (.int (2 : Int32)), .val (.int (2 : Int32)), .val (.int (1 : Int32))]) rfl k_) ?_
  show OEnds p e below s _ _ _ (s₁.setTop (mkF m 32 #[.val (.int ((0 : Int32) + (u0 &&& (255 : Int32)))), .val (.ref t), .val (.int (0 : Int32)), .val (.int (2 : Int32)), .val (.int (2 : Int32)), .val (.int (1 : Int32))] []))
  refine OEnds.via (fun _ k_ => XS.goto X0.here hx rfl (pc0 := 32) (pc' := 8) rfl (hb hby d19_32) (by decide) (by decide) k_) ?_
  show OEnds p e below s _ _ _ (s₁.setTop (mkF m 8 #[.val (.int ((0 : Int32) + (u0 &&& (255 : Int32)))), .val (.ref t), .val (.int (0 : Int32)), .val (.int (2 : Int32)), .val (.int (2 : Int32)), .val (.int (1 : Int32))] []))
  refine OEnds.via (fun _ k_ => XS.iload X0.here hx rfl (hb hby d19_8) rfl k_) ?_
  show OEnds p e below s _ _ _ (s₁.setTop (mkF m 10 #[.val (.int ((0 : Int32) + (u0 &&& (255 : Int32)))), .val (.ref t), .val (.int (0 : Int32)), .val (.int (2 : Int32)), .val (.int (2 : Int32)), .val (.int (1 : Int32))] [(.int (1 : Int32))]))
  refine OEnds.via (fun _ k_ => XS.iload X0.here hx rfl (hb hby d19_10) rfl k_) ?_
  show OEnds p e below s _ _ _ (s₁.setTop (mkF m 12 #[.val (.int ((0 : Int32) + (u0 &&& (255 : Int32)))), .val (.ref t), .val (.int (0 : Int32)), .val (.int (2 : Int32)), .val (.int (2 : Int32)), .val (.int (1 : Int32))] [(.int (2 : Int32)), (.int (1 : Int32))]))
  refine OEnds.via (fun _ k_ => XS.icmpNo X0.here hx rfl (hb hby d19_12) rfl (tlt (by decide : (1 : Int32) < (2 : Int32))).2.1 k_) ?_
  show OEnds p e below s _ _ _ (s₁.setTop (mkF m 15 #[.val (.int ((0 : Int32) + (u0 &&& (255 : Int32)))), .val (.ref t), .val (.int (0 : Int32)), .val (.int (2 : Int32)), .val (.int (2 : Int32)), .val (.int (1 : Int32))] []))
  refine OEnds.via (fun _ k_ => XS.bipush X0.here hx rfl (hb hby d19_15) k_) ?_
  show OEnds p e below s _ _ _ (s₁.setTop (mkF m 17 #[.val (.int ((0 : Int32) + (u0 &&& (255 : Int32)))), .val (.ref t), .val (.int (0 : Int32)), .val (.int (2 : Int32)), .val (.int (2 : Int32)), .val (.int (1 : Int32))] [(.int (31 : Int32))]))
  refine OEnds.via (fun _ k_ => XS.iloadN X0.here hx rfl (hb hby d19_17) rfl k_) ?_
  show OEnds p e below s _ _ _ (s₁.setTop (mkF m 18 #[.val (.int ((0 : Int32) + (u0 &&& (255 : Int32)))), .val (.ref t), .val (.int (0 : Int32)), .val (.int (2 : Int32)), .val (.int (2 : Int32)), .val (.int (1 : Int32))] [(.int ((0 : Int32) + (u0 &&& (255 : Int32)))), (.int (31 : Int32))]))
  refine OEnds.via (fun _ k_ => XS.imul X0.here hx rfl (hb hby d19_18) rfl k_) ?_
  show OEnds p e below s _ _ _ (s₁.setTop (mkF m 19 #[.val (.int ((0 : Int32) + (u0 &&& (255 : Int32)))), .val (.ref t), .val (.int (0 : Int32)), .val (.int (2 : Int32)), .val (.int (2 : Int32)), .val (.int (1 : Int32))] [(.int ((31 : Int32) * ((0 : Int32) + (u0 &&& (255 : Int32)))))]))
  refine OEnds.via (fun _ k_ => XS.aloadN X0.here hx rfl (hb hby d19_19) rfl rfl k_) ?_
  show OEnds p e below s _ _ _ (s₁.setTop (mkF m 20 #[.val (.int ((0 : Int32) + (u0 &&& (255 : Int32)))), .val (.ref t), .val (.int (0 : Int32)), .val (.int (2 : Int32)), .val (.int (2 : Int32)), .val (.int (1 : Int32))] [(.ref t), (.int ((31 : Int32) * ((0 : Int32) + (u0 &&& (255 : Int32)))))]))
  refine OEnds.via (fun _ k_ => XS.iload X0.here hx rfl (hb hby d19_20) rfl k_) ?_
  show OEnds p e below s _ _ _ (s₁.setTop (mkF m 22 #[.val (.int ((0 : Int32) + (u0 &&& (255 : Int32)))), .val (.ref t), .val (.int (0 : Int32)), .val (.int (2 : Int32)), .val (.int (2 : Int32)), .val (.int (1 : Int32))] [(.int (1 : Int32)), (.ref t), (.int ((31 : Int32) * ((0 : Int32) + (u0 &&& (255 : Int32)))))]))
  have V2c := V_t
  obtain ⟨cl2, Ar2, q2, S2, M2, H2, -⟩ := V2c
  refine OEnds.via (fun _ k_ => X0.baloadBytes hx (j := (1 : Int32)) (v := (.int u1)) (by rw [e0]; exact Ar2.1) (State.isArrayOf_alike hZ.alike Ar2.2.1) Ar2.2.2 (inb_of S2 ⟨by decide, by decide⟩) (H2 1 (by rw [S2]; decide)) (g := (mkF m 22 #[.val (.int ((0 : Int32) + (u0 &&& (255 : Int32)))), .val (.ref t), .val (.int (0 : Int32)), .val (.int (2 : Int32)), .val (.int (2 : Int32)), .val (.int (1 : Int32))] [(.int (1 : Int32)), (.ref t), (.int ((31 : Int32) * ((0 : Int32) + (u0 &&& (255 : Int32)))))])) rfl rfl (hb hby d19_22) _ k_) ?_
  show OEnds p e below s _ _ _ (s₁.setTop (mkF m 23 #[.val (.int ((0 : Int32) + (u0 &&& (255 : Int32)))), .val (.ref t), .val (.int (0 : Int32)), .val (.int (2 : Int32)), .val (.int (2 : Int32)), .val (.int (1 : Int32))] [(.int u1), (.int ((31 : Int32) * ((0 : Int32) + (u0 &&& (255 : Int32)))))]))
  refine OEnds.via (fun _ k_ => XS.sipush X0.here hx rfl (hb hby d19_23) k_) ?_
  show OEnds p e below s _ _ _ (s₁.setTop (mkF m 26 #[.val (.int ((0 : Int32) + (u0 &&& (255 : Int32)))), .val (.ref t), .val (.int (0 : Int32)), .val (.int (2 : Int32)), .val (.int (2 : Int32)), .val (.int (1 : Int32))] [(.int (255 : Int32)), (.int u1), (.int ((31 : Int32) * ((0 : Int32) + (u0 &&& (255 : Int32)))))]))
  refine OEnds.via (fun _ k_ => XS.iand X0.here hx rfl (hb hby d19_26) rfl k_) ?_
  show OEnds p e below s _ _ _ (s₁.setTop (mkF m 27 #[.val (.int ((0 : Int32) + (u0 &&& (255 : Int32)))), .val (.ref t), .val (.int (0 : Int32)), .val (.int (2 : Int32)), .val (.int (2 : Int32)), .val (.int (1 : Int32))] [(.int (u1 &&& (255 : Int32))), (.int ((31 : Int32) * ((0 : Int32) + (u0 &&& (255 : Int32)))))]))
  refine OEnds.via (fun _ k_ => XS.iadd X0.here hx rfl (hb hby d19_27) rfl k_) ?_
  show OEnds p e below s _ _ _ (s₁.setTop (mkF m 28 #[.val (.int ((0 : Int32) + (u0 &&& (255 : Int32)))), .val (.ref t), .val (.int (0 : Int32)), .val (.int (2 : Int32)), .val (.int (2 : Int32)), .val (.int (1 : Int32))] [(.int (((31 : Int32) * ((0 : Int32) + (u0 &&& (255 : Int32)))) + (u1 &&& (255 : Int32))))]))
  refine OEnds.via (fun _ k_ => XS.istoreN X0.here hx rfl (hb hby d19_28) rfl (l' := #[.val (.int (((31 : Int32) * ((0 : Int32) + (u0 &&& (255 : Int32)))) + (u1 &&& (255 : Int32)))), .val (.ref t), .val (.int (0 : Int32)), .val (.int (2 : Int32)), .val (.int (2 : Int32)), .val (.int (1 : Int32))]) rfl k_) ?_
  show OEnds p e below s _ _ _ (s₁.setTop (mkF m 29 #[.val (.int (((31 : Int32) * ((0 : Int32) + (u0 &&& (255 : Int32)))) + (u1 &&& (255 : Int32)))), .val (.ref t), .val (.int (0 : Int32)), .val (.int (2 : Int32)), .val (.int (2 : Int32)), .val (.int (1 : Int32))] []))
  refine OEnds.via (fun _ k_ => XS.iinc X0.here hx rfl (hb hby d19_29) rfl (l' := #[.val (.int (((31 : Int32) * ((0 : Int32) + (u0 &&& (255 : Int32)))) + (u1 &&& (255 : Int32)))), .val (.ref t), .val (.int (0 : Int32)), .val (.int (2 : Int32)), .val (.int (2 : Int32)), .val (.int (2 : Int32))]) rfl k_) ?_
  show OEnds p e below s _ _ _ (s₁.setTop (mkF m 32 #[.val (.int (((31 : Int32) * ((0 : Int32) + (u0 &&& (255 : Int32)))) + (u1 &&& (255 : Int32)))), .val (.ref t), .val (.int (0 : Int32)), .val (.int (2 : Int32)), .val (.int (2 : Int32)), .val (.int (2 : Int32))] []))
  refine OEnds.via (fun _ k_ => XS.goto X0.here hx rfl (pc0 := 32) (pc' := 8) rfl (hb hby d19_32) (by decide) (by decide) k_) ?_
  show OEnds p e below s _ _ _ (s₁.setTop (mkF m 8 #[.val (.int (((31 : Int32) * ((0 : Int32) + (u0 &&& (255 : Int32)))) + (u1 &&& (255 : Int32)))), .val (.ref t), .val (.int (0 : Int32)), .val (.int (2 : Int32)), .val (.int (2 : Int32)), .val (.int (2 : Int32))] []))
  refine OEnds.via (fun _ k_ => XS.iload X0.here hx rfl (hb hby d19_8) rfl k_) ?_
  show OEnds p e below s _ _ _ (s₁.setTop (mkF m 10 #[.val (.int (((31 : Int32) * ((0 : Int32) + (u0 &&& (255 : Int32)))) + (u1 &&& (255 : Int32)))), .val (.ref t), .val (.int (0 : Int32)), .val (.int (2 : Int32)), .val (.int (2 : Int32)), .val (.int (2 : Int32))] [(.int (2 : Int32))]))
  refine OEnds.via (fun _ k_ => XS.iload X0.here hx rfl (hb hby d19_10) rfl k_) ?_
  show OEnds p e below s _ _ _ (s₁.setTop (mkF m 12 #[.val (.int (((31 : Int32) * ((0 : Int32) + (u0 &&& (255 : Int32)))) + (u1 &&& (255 : Int32)))), .val (.ref t), .val (.int (0 : Int32)), .val (.int (2 : Int32)), .val (.int (2 : Int32)), .val (.int (2 : Int32))] [(.int (2 : Int32)), (.int (2 : Int32))]))
  refine OEnds.via (fun _ k_ => XS.icmpYes X0.here hx rfl (pc0 := 12) (pc' := 35) rfl (hb hby d19_12) rfl (flt (by decide : ¬ ((2 : Int32) < (2 : Int32)))).2.1 (by decide) (by decide) k_) ?_
  show OEnds p e below s _ _ _ (s₁.setTop (mkF m 35 #[.val (.int (((31 : Int32) * ((0 : Int32) + (u0 &&& (255 : Int32)))) + (u1 &&& (255 : Int32)))), .val (.ref t), .val (.int (0 : Int32)), .val (.int (2 : Int32)), .val (.int (2 : Int32)), .val (.int (2 : Int32))] []))
  refine OEnds.via (fun _ k_ => XS.iloadN X0.here hx rfl (hb hby d19_35) rfl k_) ?_
  show OEnds p e below s _ _ _ (s₁.setTop (mkF m 36 #[.val (.int (((31 : Int32) * ((0 : Int32) + (u0 &&& (255 : Int32)))) + (u1 &&& (255 : Int32)))), .val (.ref t), .val (.int (0 : Int32)), .val (.int (2 : Int32)), .val (.int (2 : Int32)), .val (.int (2 : Int32))] [(.int (((31 : Int32) * ((0 : Int32) + (u0 &&& (255 : Int32)))) + (u1 &&& (255 : Int32))))]))
  refine OEnds.retI X0 hx hlk Bd.returns (hb hby d19_36) ?_ (by decide) (by decide)
  exact ⟨rfl, N0, e0⟩
theorem d18_0 : decode jdk_48_method_4_code 0 = .ok (.iload 4, 2) := by decide +kernel
theorem d18_2 : decode jdk_48_method_4_code 2 = .ok (.tableswitch 127 4 10 #[42, 55, 127, 127, 88, 101, 114], 42) := by decide +kernel
theorem d18_44 : decode jdk_48_method_4_code 44 = .ok (.iload_n 3, 1) := by decide +kernel
theorem d18_45 : decode jdk_48_method_4_code 45 = .ok (.aload_n 0, 1) := by decide +kernel
theorem d18_46 : decode jdk_48_method_4_code 46 = .ok (.checkcast 60, 3) := by decide +kernel
theorem d18_49 : decode jdk_48_method_4_code 49 = .ok (.iload_n 1, 1) := by decide +kernel
theorem d18_50 : decode jdk_48_method_4_code 50 = .ok (.iload_n 2, 1) := by decide +kernel
theorem d18_51 : decode jdk_48_method_4_code 51 = .ok (.invokestatic 62, 3) := by decide +kernel
theorem d18_54 : decode jdk_48_method_4_code 54 = .ok (.goto 103, 3) := by decide +kernel
theorem d18_57 : decode jdk_48_method_4_code 57 = .ok (.aload_n 0, 1) := by decide +kernel
theorem d18_58 : decode jdk_48_method_4_code 58 = .ok (.instanceof 60, 3) := by decide +kernel
theorem d18_61 : decode jdk_48_method_4_code 61 = .ok (.ifCond .eq 16, 3) := by decide +kernel
theorem d18_64 : decode jdk_48_method_4_code 64 = .ok (.iload_n 3, 1) := by decide +kernel
theorem d18_65 : decode jdk_48_method_4_code 65 = .ok (.aload_n 0, 1) := by decide +kernel
theorem d18_66 : decode jdk_48_method_4_code 66 = .ok (.checkcast 60, 3) := by decide +kernel
theorem d18_69 : decode jdk_48_method_4_code 69 = .ok (.iload_n 1, 1) := by decide +kernel
theorem d18_70 : decode jdk_48_method_4_code 70 = .ok (.iload_n 2, 1) := by decide +kernel
theorem d18_71 : decode jdk_48_method_4_code 71 = .ok (.invokestatic 66, 3) := by decide +kernel
theorem d18_74 : decode jdk_48_method_4_code 74 = .ok (.goto 83, 3) := by decide +kernel
theorem d18_77 : decode jdk_48_method_4_code 77 = .ok (.iload_n 3, 1) := by decide +kernel
theorem d18_78 : decode jdk_48_method_4_code 78 = .ok (.aload_n 0, 1) := by decide +kernel
theorem d18_79 : decode jdk_48_method_4_code 79 = .ok (.checkcast 69, 3) := by decide +kernel
theorem d18_82 : decode jdk_48_method_4_code 82 = .ok (.iload_n 1, 1) := by decide +kernel
theorem d18_83 : decode jdk_48_method_4_code 83 = .ok (.iload_n 2, 1) := by decide +kernel
theorem d18_84 : decode jdk_48_method_4_code 84 = .ok (.invokestatic 71, 3) := by decide +kernel
theorem d18_87 : decode jdk_48_method_4_code 87 = .ok (.goto 70, 3) := by decide +kernel
theorem d18_90 : decode jdk_48_method_4_code 90 = .ok (.iload_n 3, 1) := by decide +kernel
theorem d18_91 : decode jdk_48_method_4_code 91 = .ok (.aload_n 0, 1) := by decide +kernel
theorem d18_92 : decode jdk_48_method_4_code 92 = .ok (.checkcast 60, 3) := by decide +kernel
theorem d18_95 : decode jdk_48_method_4_code 95 = .ok (.iload_n 1, 1) := by decide +kernel
theorem d18_96 : decode jdk_48_method_4_code 96 = .ok (.iload_n 2, 1) := by decide +kernel
theorem d18_97 : decode jdk_48_method_4_code 97 = .ok (.invokestatic 75, 3) := by decide +kernel
theorem d18_100 : decode jdk_48_method_4_code 100 = .ok (.goto 57, 3) := by decide +kernel
theorem d18_103 : decode jdk_48_method_4_code 103 = .ok (.iload_n 3, 1) := by decide +kernel
theorem d18_104 : decode jdk_48_method_4_code 104 = .ok (.aload_n 0, 1) := by decide +kernel
theorem d18_105 : decode jdk_48_method_4_code 105 = .ok (.checkcast 77, 3) := by decide +kernel
theorem d18_108 : decode jdk_48_method_4_code 108 = .ok (.iload_n 1, 1) := by decide +kernel
theorem d18_109 : decode jdk_48_method_4_code 109 = .ok (.iload_n 2, 1) := by decide +kernel
theorem d18_110 : decode jdk_48_method_4_code 110 = .ok (.invokestatic 79, 3) := by decide +kernel
theorem d18_113 : decode jdk_48_method_4_code 113 = .ok (.goto 44, 3) := by decide +kernel
theorem d18_116 : decode jdk_48_method_4_code 116 = .ok (.iload_n 3, 1) := by decide +kernel
theorem d18_117 : decode jdk_48_method_4_code 117 = .ok (.aload_n 0, 1) := by decide +kernel
theorem d18_118 : decode jdk_48_method_4_code 118 = .ok (.checkcast 82, 3) := by decide +kernel
theorem d18_121 : decode jdk_48_method_4_code 121 = .ok (.iload_n 1, 1) := by decide +kernel
theorem d18_122 : decode jdk_48_method_4_code 122 = .ok (.iload_n 2, 1) := by decide +kernel
theorem d18_123 : decode jdk_48_method_4_code 123 = .ok (.invokestatic 84, 3) := by decide +kernel
theorem d18_126 : decode jdk_48_method_4_code 126 = .ok (.goto 31, 3) := by decide +kernel
theorem d18_129 : decode jdk_48_method_4_code 129 = .ok (.new 87, 3) := by decide +kernel
theorem d18_132 : decode jdk_48_method_4_code 132 = .ok (.dup, 1) := by decide +kernel
theorem d18_133 : decode jdk_48_method_4_code 133 = .ok (.new 89, 3) := by decide +kernel
theorem d18_136 : decode jdk_48_method_4_code 136 = .ok (.dup, 1) := by decide +kernel
theorem d18_137 : decode jdk_48_method_4_code 137 = .ok (.invokespecial 91, 3) := by decide +kernel
theorem d18_140 : decode jdk_48_method_4_code 140 = .ok (.ldc 92, 2) := by decide +kernel
theorem d18_142 : decode jdk_48_method_4_code 142 = .ok (.invokevirtual 94, 3) := by decide +kernel
theorem d18_145 : decode jdk_48_method_4_code 145 = .ok (.iload 4, 2) := by decide +kernel
theorem d18_147 : decode jdk_48_method_4_code 147 = .ok (.invokevirtual 98, 3) := by decide +kernel
theorem d18_150 : decode jdk_48_method_4_code 150 = .ok (.invokevirtual 101, 3) := by decide +kernel
theorem d18_153 : decode jdk_48_method_4_code 153 = .ok (.invokespecial 105, 3) := by decide +kernel
theorem d18_156 : decode jdk_48_method_4_code 156 = .ok (.athrow, 1) := by decide +kernel
theorem d18_157 : decode jdk_48_method_4_code 157 = .ok (.ireturn, 1) := by decide +kernel
theorem pd_28I5bBII29I : parseMethodDescriptor "(I[BII)I" = some ⟨[.int, (.array .byte), .int, .int], some .int⟩ := by decide +kernel
set_option maxRecDepth 65536 in
set_option maxHeartbeats 40000000 in
theorem rmVH2 (l : Launch) (Z : State) (a0 : Array Value) (hw : ∀ d ∈ tables_1, d.before a0 Z = true) (ws : List Jvm.Cond) (t : Addr) (kb : ClassId) (u0 : Int32) (u1 : Int32) (h0 : Heap) (n0 : Nat) (O0 : Old Z n0 h0) (V_t : Arv Z h0 t kb .byte (2 : Int32) [(.int u0), (.int u1)] (.int (0 : Int32))) (hkb : Z.vm.findClass "[B" = some kb) :
    MetFree l (⟨"jdk/internal/util/ArraysSupport", "vectorizedHashCode", "(Ljava/lang/Object;IIII)I"⟩ : MethodName) (head1 (Jvm.Cond.code (⟨"jdk/internal/util/ArraysSupport", "vectorizedHashCode", "(Ljava/lang/Object;IIII)I"⟩ : MethodName) jdk_48_method_4_code 5 (some .int) :: ws) ({ frames := 1, cells := 0, slots := 0, locals := 24 } : Room)) (fun ar' U => ar' = #[(.ref t), (.int (0 : Int32)), (.int (2 : Int32)), (.int (0 : Int32)), (.int (4 : Int32))] ∧ Z.Warmed39 U.vm ∧ U.heap = h0) (fun _ _ _ _ _ => True) (fun _ U o U' => ∃ v L, o = .returned v ∧ (QA (some (.int (own_hv [(.int u0), (.int u1)]))) h0 n0) v U'.heap L ∧ FrameEnd U o U' L ({ frames := 1, cells := 0, slots := 0, locals := 24 } : Room).cells ({ frames := 1, cells := 0, slots := 0, locals := 24 } : Room).slots) := by
  refine MetFree.of_bodySF (plainFor_of_name pn_jdk_internal_util_ArraysSupport) hisR ?_
  intro p e s m args below meth c s₁ Bd hml0 hP hK
  obtain ⟨rfl, hZ, hh⟩ := hP
  have hx := Bd.exec
  have hby := Bd.bytes
  have hlk := BodyLoose.notSynchronized Bd
  have hml : c.maxLocals = 5 := hml0
  have hown : s.vm.findClass "jdk/internal/util/ArraysSupport" = some m.cls := findClass_of_methodNamed Bd.named
  have hnm := (name_of_methodNamed Bd.named Bd.method).1
  have X0 : Stand p l e ({ frames := 1, cells := 0, slots := 0, locals := 24 } : Room) s m #[(.ref t), (.int (0 : Int32)), (.int (2 : Int32)), (.int (0 : Int32)), (.int (4 : Int32))] below meth c s₁ [] 0 0 := Stand.of_body Bd
  have e0 : s₁.heap = h0 := by rw [← hh, Bd.state]; rfl
  have N0 := Fr.nil n0
  have Z0 : n0 ≤ h0.size := O0.1 ▸ O0.2.1
  show OEnds p e below s ({ frames := 1, cells := 0, slots := 0, locals := 24 } : Room).cells ({ frames := 1, cells := 0, slots := 0, locals := 24 } : Room).slots (QA (some (.int (own_hv [(.int u0), (.int u1)]))) h0 n0) (s₁.setTop (entryFrame m #[(.ref t), (.int (0 : Int32)), (.int (2 : Int32)), (.int (0 : Int32)), (.int (4 : Int32))] 5))
  refine OEnds.via (fun _ k_ => castTop (show entryFrame m #[(.ref t), (.int (0 : Int32)), (.int (2 : Int32)), (.int (0 : Int32)), (.int (4 : Int32))] 5 = (mkF m 0 #[.val (.ref t), .val (.int (0 : Int32)), .val (.int (2 : Int32)), .val (.int (0 : Int32)), .val (.int (4 : Int32))] []) by first | (simp [entryFrame, mkF, argsToLocals, Value.category, maxLocals]; done) | rfl) k_) ?_
  have E_t := own_exaB V_t hkb
  show OEnds p e below s _ _ _ (s₁.setTop (mkF m 0 #[.val (.ref t), .val (.int (0 : Int32)), .val (.int (2 : Int32)), .val (.int (0 : Int32)), .val (.int (4 : Int32))] []))
  refine OEnds.via (fun _ k_ => XS.iload X0.here hx rfl (hb hby d18_0) rfl k_) ?_
  show OEnds p e below s _ _ _ (s₁.setTop (mkF m 2 #[.val (.ref t), .val (.int (0 : Int32)), .val (.int (2 : Int32)), .val (.int (0 : Int32)), .val (.int (4 : Int32))] [(.int (4 : Int32))]))
  refine OEnds.via (fun _ k_ => X0.tableswitchIn hx (g := (mkF m 2 #[.val (.ref t), .val (.int (0 : Int32)), .val (.int (2 : Int32)), .val (.int (0 : Int32)), .val (.int (4 : Int32))] [(.int (4 : Int32))])) rfl rfl (hb hby d18_2) (by decide) (off := 42) rfl (show (0 : Int) ≤ 2 + 42 by decide) _ k_) ?_
  show OEnds p e below s _ _ _ (s₁.setTop (mkF m 44 #[.val (.ref t), .val (.int (0 : Int32)), .val (.int (2 : Int32)), .val (.int (0 : Int32)), .val (.int (4 : Int32))] []))
  refine OEnds.via (fun _ k_ => XS.iloadN X0.here hx rfl (hb hby d18_44) rfl k_) ?_
  show OEnds p e below s _ _ _ (s₁.setTop (mkF m 45 #[.val (.ref t), .val (.int (0 : Int32)), .val (.int (2 : Int32)), .val (.int (0 : Int32)), .val (.int (4 : Int32))] [(.int (0 : Int32))]))
  refine OEnds.via (fun _ k_ => XS.aloadN X0.here hx rfl (hb hby d18_45) rfl rfl k_) ?_
  show OEnds p e below s _ _ _ (s₁.setTop (mkF m 46 #[.val (.ref t), .val (.int (0 : Int32)), .val (.int (2 : Int32)), .val (.int (0 : Int32)), .val (.int (4 : Int32))] [(.ref t), (.int (0 : Int32))]))
  obtain ⟨T1, X1, e1, st1⟩ := castY X0 hx hZ hown (hw _ (List.mem_of_getElem? (i := 107) rfl)) e0 (Ins.self E_t) (g := (mkF m 46 #[.val (.ref t), .val (.int (0 : Int32)), .val (.int (2 : Int32)), .val (.int (0 : Int32)), .val (.int (4 : Int32))] [(.ref t), (.int (0 : Int32))])) rfl rfl (hb hby d18_46)
  refine OEnds.via (fun _ k_ => st1 _ k_) ?_
  show OEnds p e below s _ _ _ (T1.setTop (mkF m 49 #[.val (.ref t), .val (.int (0 : Int32)), .val (.int (2 : Int32)), .val (.int (0 : Int32)), .val (.int (4 : Int32))] [(.ref t), (.int (0 : Int32))]))
  refine OEnds.via (fun _ k_ => XS.iloadN X1.here hx rfl (hb hby d18_49) rfl k_) ?_
  show OEnds p e below s _ _ _ (T1.setTop (mkF m 50 #[.val (.ref t), .val (.int (0 : Int32)), .val (.int (2 : Int32)), .val (.int (0 : Int32)), .val (.int (4 : Int32))] [(.int (0 : Int32)), (.ref t), (.int (0 : Int32))]))
  refine OEnds.via (fun _ k_ => XS.iloadN X1.here hx rfl (hb hby d18_50) rfl k_) ?_
  show OEnds p e below s _ _ _ (T1.setTop (mkF m 51 #[.val (.ref t), .val (.int (0 : Int32)), .val (.int (2 : Int32)), .val (.int (0 : Int32)), .val (.int (4 : Int32))] [(.int (2 : Int32)), (.int (0 : Int32)), (.ref t), (.int (0 : Int32))]))
  obtain ⟨_, _, ⟨T2, L2, k2, n2⟩, -, X2, ⟨Lc2, hQ2, l2, y2, z2⟩, st2⟩ := Jvm.LawKit.callS X1 hx (y := (⟨"jdk/internal/util/ArraysSupport", "signedHashCode", "(I[BII)I"⟩ : MethodName)) hown (mvT hZ (hw _ (List.mem_of_getElem? (i := 109) rfl))) (mvT hZ (hw _ (List.mem_of_getElem? (i := 110) rfl))) (mvT hZ (hw _ (List.mem_of_getElem? (i := 105) rfl))) (mvT hZ (hw _ (List.mem_of_getElem? (i := 111) rfl))) (by decide) (backOf (W := 0) (rmSH2 l Z a0 hw [] t kb u0 u1 h0 n0 O0 V_t) hZ (hw _ (List.mem_of_getElem? (i := 111) rfl)) (hw _ (List.mem_of_getElem? (i := 105) rfl)) (by decide) (by decide)) (g := (mkF m 51 #[.val (.ref t), .val (.int (0 : Int32)), .val (.int (2 : Int32)), .val (.int (0 : Int32)), .val (.int (4 : Int32))] [(.int (2 : Int32)), (.int (0 : Int32)), (.ref t), (.int (0 : Int32))])) rfl (by rw [hml]; rfl) (argsL := [(.int (0 : Int32)), (.ref t), (.int (0 : Int32)), (.int (2 : Int32))]) (rest := []) (lenOf pd_28I5bBII29I rfl) rfl (by show 2 * 0 + _ ≤ _; exact Nat.le_of_eq rfl) (hb hby d18_51) (fun _ _ => ⟨rfl, e1, Nat.le_of_ble_eq_true rfl, Nat.le_of_ble_eq_true rfl⟩)
  dsimp only [Pt.U, Pt.locs, Pt.cells, Pt.slots] at X2 l2 y2 z2 st2 hQ2
  subst l2 y2 z2
  obtain ⟨rfl, N2q, e2⟩ := hQ2
  have N2 := Fr.app N0 N2q
  refine OEnds.via (fun _ k_ => st2 _ k_) ?_
  show OEnds p e below s _ _ _ (T2.setTop (mkF m 54 #[.val (.ref t), .val (.int (0 : Int32)), .val (.int (2 : Int32)), .val (.int (0 : Int32)), .val (.int (4 : Int32))] [(.int (own_hv [(.int u0), (.int u1)]))]))
  refine OEnds.via (fun _ k_ => XS.goto X2.here hx rfl (pc0 := 54) (pc' := 157) rfl (hb hby d18_54) (by decide) (by decide) k_) ?_
  show OEnds p e below s _ _ _ (T2.setTop (mkF m 157 #[.val (.ref t), .val (.int (0 : Int32)), .val (.int (2 : Int32)), .val (.int (0 : Int32)), .val (.int (4 : Int32))] [(.int (own_hv [(.int u0), (.int u1)]))]))
  refine OEnds.retI X2 hx hlk Bd.returns (hb hby d18_157) ?_ (by decide) (by decide)
  exact ⟨rfl, N2, e2⟩
set_option maxRecDepth 65536 in
set_option maxHeartbeats 40000000 in
theorem rmSH3 (l : Launch) (Z : State) (a0 : Array Value) (hw : ∀ d ∈ tables_1, d.before a0 Z = true) (ws : List Jvm.Cond) (t : Addr) (kb : ClassId) (u0 : Int32) (u1 : Int32) (u2 : Int32) (h0 : Heap) (n0 : Nat) (O0 : Old Z n0 h0) (V_t : Arv Z h0 t kb .byte (3 : Int32) [(.int u0), (.int u1), (.int u2)] (.int (0 : Int32))) :
    MetFree l (⟨"jdk/internal/util/ArraysSupport", "signedHashCode", "(I[BII)I"⟩ : MethodName) (head1 (Jvm.Cond.code (⟨"jdk/internal/util/ArraysSupport", "signedHashCode", "(I[BII)I"⟩ : MethodName) jdk_48_method_5_code 6 (some .int) :: ws) ({ frames := 0, cells := 0, slots := 0, locals := 0 } : Room)) (fun ar' U => ar' = #[(.int (0 : Int32)), (.ref t), (.int (0 : Int32)), (.int (3 : Int32))] ∧ Z.Warmed39 U.vm ∧ U.heap = h0) (fun _ _ _ _ _ => True) (fun _ U o U' => ∃ v L, o = .returned v ∧ (QA (some (.int (own_hv [(.int u0), (.int u1), (.int u2)]))) h0 n0) v U'.heap L ∧ FrameEnd U o U' L ({ frames := 0, cells := 0, slots := 0, locals := 0 } : Room).cells ({ frames := 0, cells := 0, slots := 0, locals := 0 } : Room).slots) := by
  refine MetFree.of_bodySF (plainFor_of_name pn_jdk_internal_util_ArraysSupport) hisR ?_
  intro p e s m args below meth c s₁ Bd hml0 hP hK
  obtain ⟨rfl, hZ, hh⟩ := hP
  have hx := Bd.exec
  have hby := Bd.bytes
  have hlk := BodyLoose.notSynchronized Bd
  have hml : c.maxLocals = 6 := hml0
  have hown : s.vm.findClass "jdk/internal/util/ArraysSupport" = some m.cls := findClass_of_methodNamed Bd.named
  have hnm := (name_of_methodNamed Bd.named Bd.method).1
  have X0 : Stand p l e ({ frames := 0, cells := 0, slots := 0, locals := 0 } : Room) s m #[(.int (0 : Int32)), (.ref t), (.int (0 : Int32)), (.int (3 : Int32))] below meth c s₁ [] 0 0 := Stand.of_body Bd
  have e0 : s₁.heap = h0 := by rw [← hh, Bd.state]; rfl
  have N0 := Fr.nil n0
  have Z0 : n0 ≤ h0.size := O0.1 ▸ O0.2.1
  show OEnds p e below s ({ frames := 0, cells := 0, slots := 0, locals := 0 } : Room).cells ({ frames := 0, cells := 0, slots := 0, locals := 0 } : Room).slots (QA (some (.int (own_hv [(.int u0), (.int u1), (.int u2)]))) h0 n0) (s₁.setTop (entryFrame m #[(.int (0 : Int32)), (.ref t), (.int (0 : Int32)), (.int (3 : Int32))] 6))
  refine OEnds.via (fun _ k_ => castTop (show entryFrame m #[(.int (0 : Int32)), (.ref t), (.int (0 : Int32)), (.int (3 : Int32))] 6 = (mkF m 0 #[.val (.int (0 : Int32)), .val (.ref t), .val (.int (0 : Int32)), .val (.int (3 : Int32)), .unset, .unset] []) by first | (simp [entryFrame, mkF, argsToLocals, Value.category, maxLocals]; done) | rfl) k_) ?_
  refine OEnds.via (fun _ k_ => XS.iloadN X0.here hx rfl (hb hby d19_0) rfl k_) ?_
  show OEnds p e below s _ _ _ (s₁.setTop (mkF m 1 #[.val (.int (0 : Int32)), .val (.ref t), .val (.int (0 : Int32)), .val (.int (3 : Int32)), .unset, .unset] [(.int (0 : Int32))]))
  refine OEnds.via (fun _ k_ => XS.iloadN X0.here hx rfl (hb hby d19_1) rfl k_) ?_
  show OEnds p e below s _ _ _ (s₁.setTop (mkF m 2 #[.val (.int (0 : Int32)), .val (.ref t), .val (.int (0 : Int32)), .val (.int (3 : Int32)), .unset, .unset] [(.int (3 : Int32)), (.int (0 : Int32))]))
  refine OEnds.via (fun _ k_ => XS.iadd X0.here hx rfl (hb hby d19_2) rfl k_) ?_
  show OEnds p e below s _ _ _ (s₁.setTop (mkF m 3 #[.val (.int (0 : Int32)), .val (.ref t), .val (.int (0 : Int32)), .val (.int (3 : Int32)), .unset, .unset] [(.int (3 : Int32))]))
  refine OEnds.via (fun _ k_ => XS.istore X0.here hx rfl (hb hby d19_3) rfl (l' := #[.val (.int (0 : Int32)), .val (.ref t), .val (.int (0 : Int32)), .val (.int (3 : Int32)), .val (.int (3 : Int32)), .unset]) rfl k_) ?_
  show OEnds p e below s _ _ _ (s₁.setTop (mkF m 5 #[.val (.int (0 : Int32)), .val (.ref t), .val (.int (0 : Int32)), .val (.int (3 : Int32)), .val (.int (3 : Int32)), .unset] []))
  refine OEnds.via (fun _ k_ => XS.iloadN X0.here hx rfl (hb hby d19_5) rfl k_) ?_
  show OEnds p e below s _ _ _ (s₁.setTop (mkF m 6 #[.val (.int (0 : Int32)), .val (.ref t), .val (.int (0 : Int32)), .val (.int (3 : Int32)), .val (.int (3 : Int32)), .unset] [(.int (0 : Int32))]))
  refine OEnds.via (fun _ k_ => XS.istore X0.here hx rfl (hb hby d19_6) rfl (l' := #[.val (.int (0 : Int32)), .val (.ref t), .val (.int (0 : Int32)), .val (.int (3 : Int32)), .val (.int (3 : Int32)), .val (.int (0 : Int32))]) rfl k_) ?_
  show OEnds p e below s _ _ _ (s₁.setTop (mkF m 8 #[.val (.int (0 : Int32)), .val (.ref t), .val (.int (0 : Int32)), .val (.int (3 : Int32)), .val (.int (3 : Int32)), .val (.int (0 : Int32))] []))
  refine OEnds.via (fun _ k_ => XS.iload X0.here hx rfl (hb hby d19_8) rfl k_) ?_
  show OEnds p e below s _ _ _ (s₁.setTop (mkF m 10 #[.val (.int (0 : Int32)), .val (.ref t), .val (.int (0 : Int32)), .val (.int (3 : Int32)), .val (.int (3 : Int32)), .val (.int (0 : Int32))] [(.int (0 : Int32))]))
  refine OEnds.via (fun _ k_ => XS.iload X0.here hx rfl (hb hby d19_10) rfl k_) ?_
  show OEnds p e below s _ _ _ (s₁.setTop (mkF m 12 #[.val (.int (0 : Int32)), .val (.ref t), .val (.int (0 : Int32)), .val (.int (3 : Int32)), .val (.int (3 : Int32)), .val (.int (0 : Int32))] [(.int (3 : Int32)), (.int (0 : Int32))]))
  refine OEnds.via (fun _ k_ => XS.icmpNo X0.here hx rfl (hb hby d19_12) rfl (tlt (by decide : (0 : Int32) < (3 : Int32))).2.1 k_) ?_
  show OEnds p e below s _ _ _ (s₁.setTop (mkF m 15 #[.val (.int (0 : Int32)), .val (.ref t), .val (.int (0 : Int32)), .val (.int (3 : Int32)), .val (.int (3 : Int32)), .val (.int (0 : Int32))] []))
  refine OEnds.via (fun _ k_ => XS.bipush X0.here hx rfl (hb hby d19_15) k_) ?_
  show OEnds p e below s _ _ _ (s₁.setTop (mkF m 17 #[.val (.int (0 : Int32)), .val (.ref t), .val (.int (0 : Int32)), .val (.int (3 : Int32)), .val (.int (3 : Int32)), .val (.int (0 : Int32))] [(.int (31 : Int32))]))
  refine OEnds.via (fun _ k_ => XS.iloadN X0.here hx rfl (hb hby d19_17) rfl k_) ?_
  show OEnds p e below s _ _ _ (s₁.setTop (mkF m 18 #[.val (.int (0 : Int32)), .val (.ref t), .val (.int (0 : Int32)), .val (.int (3 : Int32)), .val (.int (3 : Int32)), .val (.int (0 : Int32))] [(.int (0 : Int32)), (.int (31 : Int32))]))
  refine OEnds.via (fun _ k_ => XS.imul X0.here hx rfl (hb hby d19_18) rfl k_) ?_
  show OEnds p e below s _ _ _ (s₁.setTop (mkF m 19 #[.val (.int (0 : Int32)), .val (.ref t), .val (.int (0 : Int32)), .val (.int (3 : Int32)), .val (.int (3 : Int32)), .val (.int (0 : Int32))] [(.int (0 : Int32))]))
  refine OEnds.via (fun _ k_ => XS.aloadN X0.here hx rfl (hb hby d19_19) rfl rfl k_) ?_
  show OEnds p e below s _ _ _ (s₁.setTop (mkF m 20 #[.val (.int (0 : Int32)), .val (.ref t), .val (.int (0 : Int32)), .val (.int (3 : Int32)), .val (.int (3 : Int32)), .val (.int (0 : Int32))] [(.ref t), (.int (0 : Int32))]))
  refine OEnds.via (fun _ k_ => XS.iload X0.here hx rfl (hb hby d19_20) rfl k_) ?_
  show OEnds p e below s _ _ _ (s₁.setTop (mkF m 22 #[.val (.int (0 : Int32)), .val (.ref t), .val (.int (0 : Int32)), .val (.int (3 : Int32)), .val (.int (3 : Int32)), .val (.int (0 : Int32))] [(.int (0 : Int32)), (.ref t), (.int (0 : Int32))]))
  have V1c := V_t
  obtain ⟨cl1, Ar1, q1, S1, M1, H1, -⟩ := V1c
  refine OEnds.via (fun _ k_ => X0.baloadBytes hx (j := (0 : Int32)) (v := (.int u0)) (by rw [e0]; exact Ar1.1) (State.isArrayOf_alike hZ.alike Ar1.2.1) Ar1.2.2 (inb_of S1 ⟨by decide, by decide⟩) (H1 0 (by rw [S1]; decide)) (g := (mkF m 22 #[.val (.int (0 : Int32)), .val (.ref t), .val (.int (0 : Int32)), .val (.int (3 : Int32)), .val (.int (3 : Int32)), .val (.int (0 : Int32))] [(.int (0 : Int32)), (.ref t), (.int (0 : Int32))])) rfl rfl (hb hby d19_22) _ k_) ?_
  show OEnds p e below s _ _ _ (s₁.setTop (mkF m 23 #[.val (.int (0 : Int32)), .val (.ref t), .val (.int (0 : Int32)), .val (.int (3 : Int32)), .val (.int (3 : Int32)), .val (.int (0 : Int32))] [(.int u0), (.int (0 : Int32))]))
  refine OEnds.via (fun _ k_ => XS.sipush X0.here hx rfl (hb hby d19_23) k_) ?_
  show OEnds p e below s _ _ _ (s₁.setTop (mkF m 26 #[.val (.int (0 : Int32)), .val (.ref t), .val (.int (0 : Int32)), .val (.int (3 : Int32)), .val (.int (3 : Int32)), .val (.int (0 : Int32))] [(.int (255 : Int32)), (.int u0), (.int (0 : Int32))]))
  refine OEnds.via (fun _ k_ => XS.iand X0.here hx rfl (hb hby d19_26) rfl k_) ?_
  show OEnds p e below s _ _ _ (s₁.setTop (mkF m 27 #[.val (.int (0 : Int32)), .val (.ref t), .val (.int (0 : Int32)), .val (.int (3 : Int32)), .val (.int (3 : Int32)), .val (.int (0 : Int32))] [(.int (u0 &&& (255 : Int32))), (.int (0 : Int32))]))
  refine OEnds.via (fun _ k_ => XS.iadd X0.here hx rfl (hb hby d19_27) rfl k_) ?_
  show OEnds p e below s _ _ _ (s₁.setTop (mkF m 28 #[.val (.int (0 : Int32)), .val (.ref t), .val (.int (0 : Int32)), .val (.int (3 : Int32)), .val (.int (3 : Int32)), .val (.int (0 : Int32))] [(.int ((0 : Int32) + (u0 &&& (255 : Int32))))]))
  refine OEnds.via (fun _ k_ => XS.istoreN X0.here hx rfl (hb hby d19_28) rfl (l' := #[.val (.int ((0 : Int32) + (u0 &&& (255 : Int32)))), .val (.ref t), .val (.int (0 : Int32)), .val (.int (3 : Int32)), .val (.int (3 : Int32)), .val (.int (0 : Int32))]) rfl k_) ?_
  show OEnds p e below s _ _ _ (s₁.setTop (mkF m 29 #[.val (.int ((0 : Int32) + (u0 &&& (255 : Int32)))), .val (.ref t), .val (.int (0 : Int32)), .val (.int (3 : Int32)), .val (.int (3 : Int32)), .val (.int (0 : Int32))] []))
  refine OEnds.via (fun _ k_ => XS.iinc X0.here hx rfl (hb hby d19_29) rfl (l' := #[.val (.int ((0 : Int32) + (u0 &&& (255 : Int32)))), .val (.ref t), .val (.int (0 : Int32)), .val (.int (3 : Int32)), .val (.int (3 : Int32)), .val (.int (1 : Int32))]) rfl k_) ?_
  show OEnds p e below s _ _ _ (s₁.setTop (mkF m 32 #[.val (.int ((0 : Int32) + (u0 &&& (255 : Int32)))), .val (.ref t), .val (.int (0 : Int32)), .val (.int (3 : Int32)), .val (.int (3 : Int32)), .val (.int (1 : Int32))] []))
  refine OEnds.via (fun _ k_ => XS.goto X0.here hx rfl (pc0 := 32) (pc' := 8) rfl (hb hby d19_32) (by decide) (by decide) k_) ?_
  show OEnds p e below s _ _ _ (s₁.setTop (mkF m 8 #[.val (.int ((0 : Int32) + (u0 &&& (255 : Int32)))), .val (.ref t), .val (.int (0 : Int32)), .val (.int (3 : Int32)), .val (.int (3 : Int32)), .val (.int (1 : Int32))] []))
  refine OEnds.via (fun _ k_ => XS.iload X0.here hx rfl (hb hby d19_8) rfl k_) ?_
  show OEnds p e below s _ _ _ (s₁.setTop (mkF m 10 #[.val (.int ((0 : Int32) + (u0 &&& (255 : Int32)))), .val (.ref t), .val (.int (0 : Int32)), .val (.int (3 : Int32)), .val (.int (3 : Int32)), .val (.int (1 : Int32))] [(.int (1 : Int32))]))
  refine OEnds.via (fun _ k_ => XS.iload X0.here hx rfl (hb hby d19_10) rfl k_) ?_
  show OEnds p e below s _ _ _ (s₁.setTop (mkF m 12 #[.val (.int ((0 : Int32) + (u0 &&& (255 : Int32)))), .val (.ref t), .val (.int (0 : Int32)), .val (.int (3 : Int32)), .val (.int (3 : Int32)), .val (.int (1 : Int32))] [(.int (3 : Int32)), (.int (1 : Int32))]))
  refine OEnds.via (fun _ k_ => XS.icmpNo X0.here hx rfl (hb hby d19_12) rfl (tlt (by decide : (1 : Int32) < (3 : Int32))).2.1 k_) ?_
  show OEnds p e below s _ _ _ (s₁.setTop (mkF m 15 #[.val (.int ((0 : Int32) + (u0 &&& (255 : Int32)))), .val (.ref t), .val (.int (0 : Int32)), .val (.int (3 : Int32)), .val (.int (3 : Int32)), .val (.int (1 : Int32))] []))
  refine OEnds.via (fun _ k_ => XS.bipush X0.here hx rfl (hb hby d19_15) k_) ?_
  show OEnds p e below s _ _ _ (s₁.setTop (mkF m 17 #[.val (.int ((0 : Int32) + (u0 &&& (255 : Int32)))), .val (.ref t), .val (.int (0 : Int32)), .val (.int (3 : Int32)), .val (.int (3 : Int32)), .val (.int (1 : Int32))] [(.int (31 : Int32))]))
  refine OEnds.via (fun _ k_ => XS.iloadN X0.here hx rfl (hb hby d19_17) rfl k_) ?_
  show OEnds p e below s _ _ _ (s₁.setTop (mkF m 18 #[.val (.int ((0 : Int32) + (u0 &&& (255 : Int32)))), .val (.ref t), .val (.int (0 : Int32)), .val (.int (3 : Int32)), .val (.int (3 : Int32)), .val (.int (1 : Int32))] [(.int ((0 : Int32) + (u0 &&& (255 : Int32)))), (.int (31 : Int32))]))
  refine OEnds.via (fun _ k_ => XS.imul X0.here hx rfl (hb hby d19_18) rfl k_) ?_
  show OEnds p e below s _ _ _ (s₁.setTop (mkF m 19 #[.val (.int ((0 : Int32) + (u0 &&& (255 : Int32)))), .val (.ref t), .val (.int (0 : Int32)), .val (.int (3 : Int32)), .val (.int (3 : Int32)), .val (.int (1 : Int32))] [(.int ((31 : Int32) * ((0 : Int32) + (u0 &&& (255 : Int32)))))]))
  refine OEnds.via (fun _ k_ => XS.aloadN X0.here hx rfl (hb hby d19_19) rfl rfl k_) ?_
  show OEnds p e below s _ _ _ (s₁.setTop (mkF m 20 #[.val (.int ((0 : Int32) + (u0 &&& (255 : Int32)))), .val (.ref t), .val (.int (0 : Int32)), .val (.int (3 : Int32)), .val (.int (3 : Int32)), .val (.int (1 : Int32))] [(.ref t), (.int ((31 : Int32) * ((0 : Int32) + (u0 &&& (255 : Int32)))))]))
  refine OEnds.via (fun _ k_ => XS.iload X0.here hx rfl (hb hby d19_20) rfl k_) ?_
  show OEnds p e below s _ _ _ (s₁.setTop (mkF m 22 #[.val (.int ((0 : Int32) + (u0 &&& (255 : Int32)))), .val (.ref t), .val (.int (0 : Int32)), .val (.int (3 : Int32)), .val (.int (3 : Int32)), .val (.int (1 : Int32))] [(.int (1 : Int32)), (.ref t), (.int ((31 : Int32) * ((0 : Int32) + (u0 &&& (255 : Int32)))))]))
  have V2c := V_t
  obtain ⟨cl2, Ar2, q2, S2, M2, H2, -⟩ := V2c
  refine OEnds.via (fun _ k_ => X0.baloadBytes hx (j := (1 : Int32)) (v := (.int u1)) (by rw [e0]; exact Ar2.1) (State.isArrayOf_alike hZ.alike Ar2.2.1) Ar2.2.2 (inb_of S2 ⟨by decide, by decide⟩) (H2 1 (by rw [S2]; decide)) (g := (mkF m 22 #[.val (.int ((0 : Int32) + (u0 &&& (255 : Int32)))), .val (.ref t), .val (.int (0 : Int32)), .val (.int (3 : Int32)), .val (.int (3 : Int32)), .val (.int (1 : Int32))] [(.int (1 : Int32)), (.ref t), (.int ((31 : Int32) * ((0 : Int32) + (u0 &&& (255 : Int32)))))])) rfl rfl (hb hby d19_22) _ k_) ?_
  show OEnds p e below s _ _ _ (s₁.setTop (mkF m 23 #[.val (.int ((0 : Int32) + (u0 &&& (255 : Int32)))), .val (.ref t), .val (.int (0 : Int32)), .val (.int (3 : Int32)), .val (.int (3 : Int32)), .val (.int (1 : Int32))] [(.int u1), (.int ((31 : Int32) * ((0 : Int32) + (u0 &&& (255 : Int32)))))]))
  refine OEnds.via (fun _ k_ => XS.sipush X0.here hx rfl (hb hby d19_23) k_) ?_
  show OEnds p e below s _ _ _ (s₁.setTop (mkF m 26 #[.val (.int ((0 : Int32) + (u0 &&& (255 : Int32)))), .val (.ref t), .val (.int (0 : Int32)), .val (.int (3 : Int32)), .val (.int (3 : Int32)), .val (.int (1 : Int32))] [(.int (255 : Int32)), (.int u1), (.int ((31 : Int32) * ((0 : Int32) + (u0 &&& (255 : Int32)))))]))
  refine OEnds.via (fun _ k_ => XS.iand X0.here hx rfl (hb hby d19_26) rfl k_) ?_
  show OEnds p e below s _ _ _ (s₁.setTop (mkF m 27 #[.val (.int ((0 : Int32) + (u0 &&& (255 : Int32)))), .val (.ref t), .val (.int (0 : Int32)), .val (.int (3 : Int32)), .val (.int (3 : Int32)), .val (.int (1 : Int32))] [(.int (u1 &&& (255 : Int32))), (.int ((31 : Int32) * ((0 : Int32) + (u0 &&& (255 : Int32)))))]))
  refine OEnds.via (fun _ k_ => XS.iadd X0.here hx rfl (hb hby d19_27) rfl k_) ?_
  show OEnds p e below s _ _ _ (s₁.setTop (mkF m 28 #[.val (.int ((0 : Int32) + (u0 &&& (255 : Int32)))), .val (.ref t), .val (.int (0 : Int32)), .val (.int (3 : Int32)), .val (.int (3 : Int32)), .val (.int (1 : Int32))] [(.int (((31 : Int32) * ((0 : Int32) + (u0 &&& (255 : Int32)))) + (u1 &&& (255 : Int32))))]))
  refine OEnds.via (fun _ k_ => XS.istoreN X0.here hx rfl (hb hby d19_28) rfl (l' := #[.val (.int (((31 : Int32) * ((0 : Int32) + (u0 &&& (255 : Int32)))) + (u1 &&& (255 : Int32)))), .val (.ref t), .val (.int (0 : Int32)), .val (.int (3 : Int32)), .val (.int (3 : Int32)), .val (.int (1 : Int32))]) rfl k_) ?_
  show OEnds p e below s _ _ _ (s₁.setTop (mkF m 29 #[.val (.int (((31 : Int32) * ((0 : Int32) + (u0 &&& (255 : Int32)))) + (u1 &&& (255 : Int32)))), .val (.ref t), .val (.int (0 : Int32)), .val (.int (3 : Int32)), .val (.int (3 : Int32)), .val (.int (1 : Int32))] []))
  refine OEnds.via (fun _ k_ => XS.iinc X0.here hx rfl (hb hby d19_29) rfl (l' := #[.val (.int (((31 : Int32) * ((0 : Int32) + (u0 &&& (255 : Int32)))) + (u1 &&& (255 : Int32)))), .val (.ref t), .val (.int (0 : Int32)), .val (.int (3 : Int32)), .val (.int (3 : Int32)), .val (.int (2 : Int32))]) rfl k_) ?_
  show OEnds p e below s _ _ _ (s₁.setTop (mkF m 32 #[.val (.int (((31 : Int32) * ((0 : Int32) + (u0 &&& (255 : Int32)))) + (u1 &&& (255 : Int32)))), .val (.ref t), .val (.int (0 : Int32)), .val (.int (3 : Int32)), .val (.int (3 : Int32)), .val (.int (2 : Int32))] []))
  refine OEnds.via (fun _ k_ => XS.goto X0.here hx rfl (pc0 := 32) (pc' := 8) rfl (hb hby d19_32) (by decide) (by decide) k_) ?_
  show OEnds p e below s _ _ _ (s₁.setTop (mkF m 8 #[.val (.int (((31 : Int32) * ((0 : Int32) + (u0 &&& (255 : Int32)))) + (u1 &&& (255 : Int32)))), .val (.ref t), .val (.int (0 : Int32)), .val (.int (3 : Int32)), .val (.int (3 : Int32)), .val (.int (2 : Int32))] []))
  refine OEnds.via (fun _ k_ => XS.iload X0.here hx rfl (hb hby d19_8) rfl k_) ?_
  show OEnds p e below s _ _ _ (s₁.setTop (mkF m 10 #[.val (.int (((31 : Int32) * ((0 : Int32) + (u0 &&& (255 : Int32)))) + (u1 &&& (255 : Int32)))), .val (.ref t), .val (.int (0 : Int32)), .val (.int (3 : Int32)), .val (.int (3 : Int32)), .val (.int (2 : Int32))] [(.int (2 : Int32))]))
  refine OEnds.via (fun _ k_ => XS.iload X0.here hx rfl (hb hby d19_10) rfl k_) ?_
  show OEnds p e below s _ _ _ (s₁.setTop (mkF m 12 #[.val (.int (((31 : Int32) * ((0 : Int32) + (u0 &&& (255 : Int32)))) + (u1 &&& (255 : Int32)))), .val (.ref t), .val (.int (0 : Int32)), .val (.int (3 : Int32)), .val (.int (3 : Int32)), .val (.int (2 : Int32))] [(.int (3 : Int32)), (.int (2 : Int32))]))
  refine OEnds.via (fun _ k_ => XS.icmpNo X0.here hx rfl (hb hby d19_12) rfl (tlt (by decide : (2 : Int32) < (3 : Int32))).2.1 k_) ?_
  show OEnds p e below s _ _ _ (s₁.setTop (mkF m 15 #[.val (.int (((31 : Int32) * ((0 : Int32) + (u0 &&& (255 : Int32)))) + (u1 &&& (255 : Int32)))), .val (.ref t), .val (.int (0 : Int32)), .val (.int (3 : Int32)), .val (.int (3 : Int32)), .val (.int (2 : Int32))] []))
  refine OEnds.via (fun _ k_ => XS.bipush X0.here hx rfl (hb hby d19_15) k_) ?_
  show OEnds p e below s _ _ _ (s₁.setTop (mkF m 17 #[.val (.int (((31 : Int32) * ((0 : Int32) + (u0 &&& (255 : Int32)))) + (u1 &&& (255 : Int32)))), .val (.ref t), .val (.int (0 : Int32)), .val (.int (3 : Int32)), .val (.int (3 : Int32)), .val (.int (2 : Int32))] [(.int (31 : Int32))]))
  refine OEnds.via (fun _ k_ => XS.iloadN X0.here hx rfl (hb hby d19_17) rfl k_) ?_
  show OEnds p e below s _ _ _ (s₁.setTop (mkF m 18 #[.val (.int (((31 : Int32) * ((0 : Int32) + (u0 &&& (255 : Int32)))) + (u1 &&& (255 : Int32)))), .val (.ref t), .val (.int (0 : Int32)), .val (.int (3 : Int32)), .val (.int (3 : Int32)), .val (.int (2 : Int32))] [(.int (((31 : Int32) * ((0 : Int32) + (u0 &&& (255 : Int32)))) + (u1 &&& (255 : Int32)))), (.int (31 : Int32))]))
  refine OEnds.via (fun _ k_ => XS.imul X0.here hx rfl (hb hby d19_18) rfl k_) ?_
  show OEnds p e below s _ _ _ (s₁.setTop (mkF m 19 #[.val (.int (((31 : Int32) * ((0 : Int32) + (u0 &&& (255 : Int32)))) + (u1 &&& (255 : Int32)))), .val (.ref t), .val (.int (0 : Int32)), .val (.int (3 : Int32)), .val (.int (3 : Int32)), .val (.int (2 : Int32))] [(.int ((31 : Int32) * (((31 : Int32) * ((0 : Int32) + (u0 &&& (255 : Int32)))) + (u1 &&& (255 : Int32)))))]))
  refine OEnds.via (fun _ k_ => XS.aloadN X0.here hx rfl (hb hby d19_19) rfl rfl k_) ?_
  show OEnds p e below s _ _ _ (s₁.setTop (mkF m 20 #[.val (.int (((31 : Int32) * ((0 : Int32) + (u0 &&& (255 : Int32)))) + (u1 &&& (255 : Int32)))), .val (.ref t), .val (.int (0 : Int32)), .val (.int (3 : Int32)), .val (.int (3 : Int32)), .val (.int (2 : Int32))] [(.ref t), (.int ((31 : Int32) * (((31 : Int32) * ((0 : Int32) + (u0 &&& (255 : Int32)))) + (u1 &&& (255 : Int32)))))]))
  refine OEnds.via (fun _ k_ => XS.iload X0.here hx rfl (hb hby d19_20) rfl k_) ?_
  show OEnds p e below s _ _ _ (s₁.setTop (mkF m 22 #[.val (.int (((31 : Int32) * ((0 : Int32) + (u0 &&& (255 : Int32)))) + (u1 &&& (255 : Int32)))), .val (.ref t), .val (.int (0 : Int32)), .val (.int (3 : Int32)), .val (.int (3 : Int32)), .val (.int (2 : Int32))] [(.int (2 : Int32)), (.ref t), (.int ((31 : Int32) * (((31 : Int32) * ((0 : Int32) + (u0 &&& (255 : Int32)))) + (u1 &&& (255 : Int32)))))]))
  have V3c := V_t
  obtain ⟨cl3, Ar3, q3, S3, M3, H3, -⟩ := V3c
  refine OEnds.via (fun _ k_ => X0.baloadBytes hx (j := (2 : Int32)) (v := (.int u2)) (by rw [e0]; exact Ar3.1) (State.isArrayOf_alike hZ.alike Ar3.2.1) Ar3.2.2 (inb_of S3 ⟨by decide, by decide⟩) (H3 2 (by rw [S3]; decide)) (g := (mkF m 22 #[.val (.int (((31 : Int32) * ((0 : Int32) + (u0 &&& (255 : Int32)))) + (u1 &&& (255 : Int32)))), .val (.ref t), .val (.int (0 : Int32)), .val (.int (3 : Int32)), .val (.int (3 : Int32)), .val (.int (2 : Int32))] [(.int (2 : Int32)), (.ref t), (.int ((31 : Int32) * (((31 : Int32) * ((0 : Int32) + (u0 &&& (255 : Int32)))) + (u1 &&& (255 : Int32)))))])) rfl rfl (hb hby d19_22) _ k_) ?_
  show OEnds p e below s _ _ _ (s₁.setTop (mkF m 23 #[.val (.int (((31 : Int32) * ((0 : Int32) + (u0 &&& (255 : Int32)))) + (u1 &&& (255 : Int32)))), .val (.ref t), .val (.int (0 : Int32)), .val (.int (3 : Int32)), .val (.int (3 : Int32)), .val (.int (2 : Int32))] [(.int u2), (.int ((31 : Int32) * (((31 : Int32) * ((0 : Int32) + (u0 &&& (255 : Int32)))) + (u1 &&& (255 : Int32)))))]))
  refine OEnds.via (fun _ k_ => XS.sipush X0.here hx rfl (hb hby d19_23) k_) ?_
  show OEnds p e below s _ _ _ (s₁.setTop (mkF m 26 #[.val (.int (((31 : Int32) * ((0 : Int32) + (u0 &&& (255 : Int32)))) + (u1 &&& (255 : Int32)))), .val (.ref t), .val (.int (0 : Int32)), .val (.int (3 : Int32)), .val (.int (3 : Int32)), .val (.int (2 : Int32))] [(.int (255 : Int32)), (.int u2), (.int ((31 : Int32) * (((31 : Int32) * ((0 : Int32) + (u0 &&& (255 : Int32)))) + (u1 &&& (255 : Int32)))))]))
  refine OEnds.via (fun _ k_ => XS.iand X0.here hx rfl (hb hby d19_26) rfl k_) ?_
  show OEnds p e below s _ _ _ (s₁.setTop (mkF m 27 #[.val (.int (((31 : Int32) * ((0 : Int32) + (u0 &&& (255 : Int32)))) + (u1 &&& (255 : Int32)))), .val (.ref t), .val (.int (0 : Int32)), .val (.int (3 : Int32)), .val (.int (3 : Int32)), .val (.int (2 : Int32))] [(.int (u2 &&& (255 : Int32))), (.int ((31 : Int32) * (((31 : Int32) * ((0 : Int32) + (u0 &&& (255 : Int32)))) + (u1 &&& (255 : Int32)))))]))
  refine OEnds.via (fun _ k_ => XS.iadd X0.here hx rfl (hb hby d19_27) rfl k_) ?_
  show OEnds p e below s _ _ _ (s₁.setTop (mkF m 28 #[.val (.int (((31 : Int32) * ((0 : Int32) + (u0 &&& (255 : Int32)))) + (u1 &&& (255 : Int32)))), .val (.ref t), .val (.int (0 : Int32)), .val (.int (3 : Int32)), .val (.int (3 : Int32)), .val (.int (2 : Int32))] [(.int (((31 : Int32) * (((31 : Int32) * ((0 : Int32) + (u0 &&& (255 : Int32)))) + (u1 &&& (255 : Int32)))) + (u2 &&& (255 : Int32))))]))
  refine OEnds.via (fun _ k_ => XS.istoreN X0.here hx rfl (hb hby d19_28) rfl (l' := #[.val (.int (((31 : Int32) * (((31 : Int32) * ((0 : Int32) + (u0 &&& (255 : Int32)))) + (u1 &&& (255 : Int32)))) + (u2 &&& (255 : Int32)))), .val (.ref t), .val (.int (0 : Int32)), .val (.int (3 : Int32)), .val (.int (3 : Int32)), .val (.int (2 : Int32))]) rfl k_) ?_
  show OEnds p e below s _ _ _ (s₁.setTop (mkF m 29 #[.val (.int (((31 : Int32) * (((31 : Int32) * ((0 : Int32) + (u0 &&& (255 : Int32)))) + (u1 &&& (255 : Int32)))) + (u2 &&& (255 : Int32)))), .val (.ref t), .val (.int (0 : Int32)), .val (.int (3 : Int32)), .val (.int (3 : Int32)), .val (.int (2 : Int32))] []))
  refine OEnds.via (fun _ k_ => XS.iinc X0.here hx rfl (hb hby d19_29) rfl (l' := #[.val (.int (((31 : Int32) * (((31 : Int32) * ((0 : Int32) + (u0 &&& (255 : Int32)))) + (u1 &&& (255 : Int32)))) + (u2 &&& (255 : Int32)))), .val (.ref t), .val (.int (0 : Int32)), .val (.int (3 : Int32)), .val (.int (3 : Int32)), .val (.int (3 : Int32))]) rfl k_) ?_
  show OEnds p e below s _ _ _ (s₁.setTop (mkF m 32 #[.val (.int (((31 : Int32) * (((31 : Int32) * ((0 : Int32) + (u0 &&& (255 : Int32)))) + (u1 &&& (255 : Int32)))) + (u2 &&& (255 : Int32)))), .val (.ref t), .val (.int (0 : Int32)), .val (.int (3 : Int32)), .val (.int (3 : Int32)), .val (.int (3 : Int32))] []))
  refine OEnds.via (fun _ k_ => XS.goto X0.here hx rfl (pc0 := 32) (pc' := 8) rfl (hb hby d19_32) (by decide) (by decide) k_) ?_
  show OEnds p e below s _ _ _ (s₁.setTop (mkF m 8 #[.val (.int (((31 : Int32) * (((31 : Int32) * ((0 : Int32) + (u0 &&& (255 : Int32)))) + (u1 &&& (255 : Int32)))) + (u2 &&& (255 : Int32)))), .val (.ref t), .val (.int (0 : Int32)), .val (.int (3 : Int32)), .val (.int (3 : Int32)), .val (.int (3 : Int32))] []))
  refine OEnds.via (fun _ k_ => XS.iload X0.here hx rfl (hb hby d19_8) rfl k_) ?_
  show OEnds p e below s _ _ _ (s₁.setTop (mkF m 10 #[.val (.int (((31 : Int32) * (((31 : Int32) * ((0 : Int32) + (u0 &&& (255 : Int32)))) + (u1 &&& (255 : Int32)))) + (u2 &&& (255 : Int32)))), .val (.ref t), .val (.int (0 : Int32)), .val (.int (3 : Int32)), .val (.int (3 : Int32)), .val (.int (3 : Int32))] [(.int (3 : Int32))]))
  refine OEnds.via (fun _ k_ => XS.iload X0.here hx rfl (hb hby d19_10) rfl k_) ?_
  show OEnds p e below s _ _ _ (s₁.setTop (mkF m 12 #[.val (.int (((31 : Int32) * (((31 : Int32) * ((0 : Int32) + (u0 &&& (255 : Int32)))) + (u1 &&& (255 : Int32)))) + (u2 &&& (255 : Int32)))), .val (.ref t), .val (.int (0 : Int32)), .val (.int (3 : Int32)), .val (.int (3 : Int32)), .val (.int (3 : Int32))] [(.int (3 : Int32)), (.int (3 : Int32))]))
  refine OEnds.via (fun _ k_ => XS.icmpYes X0.here hx rfl (pc0 := 12) (pc' := 35) rfl (hb hby d19_12) rfl (flt (by decide : ¬ ((3 : Int32) < (3 : Int32)))).2.1 (by decide) (by decide) k_) ?_
  show OEnds p e below s _ _ _ (s₁.setTop (mkF m 35 #[.val (.int (((31 : Int32) * (((31 : Int32) * ((0 : Int32) + (u0 &&& (255 : Int32)))) + (u1 &&& (255 : Int32)))) + (u2 &&& (255 : Int32)))), .val (.ref t), .val (.int (0 : Int32)), .val (.int (3 : Int32)), .val (.int (3 : Int32)), .val (.int (3 : Int32))] []))
  refine OEnds.via (fun _ k_ => XS.iloadN X0.here hx rfl (hb hby d19_35) rfl k_) ?_
  show OEnds p e below s _ _ _ (s₁.setTop (mkF m 36 #[.val (.int (((31 : Int32) * (((31 : Int32) * ((0 : Int32) + (u0 &&& (255 : Int32)))) + (u1 &&& (255 : Int32)))) + (u2 &&& (255 : Int32)))), .val (.ref t), .val (.int (0 : Int32)), .val (.int (3 : Int32)), .val (.int (3 : Int32)), .val (.int (3 : Int32))] [(.int (((31 : Int32) * (((31 : Int32) * ((0 : Int32) + (u0 &&& (255 : Int32)))) + (u1 &&& (255 : Int32)))) + (u2 &&& (255 : Int32))))]))
  refine OEnds.retI X0 hx hlk Bd.returns (hb hby d19_36) ?_ (by decide) (by decide)
  exact ⟨rfl, N0, e0⟩
set_option maxRecDepth 65536 in
set_option maxHeartbeats 40000000 in
theorem rmVH3 (l : Launch) (Z : State) (a0 : Array Value) (hw : ∀ d ∈ tables_1, d.before a0 Z = true) (ws : List Jvm.Cond) (t : Addr) (kb : ClassId) (u0 : Int32) (u1 : Int32) (u2 : Int32) (h0 : Heap) (n0 : Nat) (O0 : Old Z n0 h0) (V_t : Arv Z h0 t kb .byte (3 : Int32) [(.int u0), (.int u1), (.int u2)] (.int (0 : Int32))) (hkb : Z.vm.findClass "[B" = some kb) :
    MetFree l (⟨"jdk/internal/util/ArraysSupport", "vectorizedHashCode", "(Ljava/lang/Object;IIII)I"⟩ : MethodName) (head1 (Jvm.Cond.code (⟨"jdk/internal/util/ArraysSupport", "vectorizedHashCode", "(Ljava/lang/Object;IIII)I"⟩ : MethodName) jdk_48_method_4_code 5 (some .int) :: ws) ({ frames := 1, cells := 0, slots := 0, locals := 24 } : Room)) (fun ar' U => ar' = #[(.ref t), (.int (0 : Int32)), (.int (3 : Int32)), (.int (0 : Int32)), (.int (4 : Int32))] ∧ Z.Warmed39 U.vm ∧ U.heap = h0) (fun _ _ _ _ _ => True) (fun _ U o U' => ∃ v L, o = .returned v ∧ (QA (some (.int (own_hv [(.int u0), (.int u1), (.int u2)]))) h0 n0) v U'.heap L ∧ FrameEnd U o U' L ({ frames := 1, cells := 0, slots := 0, locals := 24 } : Room).cells ({ frames := 1, cells := 0, slots := 0, locals := 24 } : Room).slots) := by
  refine MetFree.of_bodySF (plainFor_of_name pn_jdk_internal_util_ArraysSupport) hisR ?_
  intro p e s m args below meth c s₁ Bd hml0 hP hK
  obtain ⟨rfl, hZ, hh⟩ := hP
  have hx := Bd.exec
  have hby := Bd.bytes
  have hlk := BodyLoose.notSynchronized Bd
  have hml : c.maxLocals = 5 := hml0
  have hown : s.vm.findClass "jdk/internal/util/ArraysSupport" = some m.cls := findClass_of_methodNamed Bd.named
  have hnm := (name_of_methodNamed Bd.named Bd.method).1
  have X0 : Stand p l e ({ frames := 1, cells := 0, slots := 0, locals := 24 } : Room) s m #[(.ref t), (.int (0 : Int32)), (.int (3 : Int32)), (.int (0 : Int32)), (.int (4 : Int32))] below meth c s₁ [] 0 0 := Stand.of_body Bd
  have e0 : s₁.heap = h0 := by rw [← hh, Bd.state]; rfl
  have N0 := Fr.nil n0
  have Z0 : n0 ≤ h0.size := O0.1 ▸ O0.2.1
  show OEnds p e below s ({ frames := 1, cells := 0, slots := 0, locals := 24 } : Room).cells ({ frames := 1, cells := 0, slots := 0, locals := 24 } : Room).slots (QA (some (.int (own_hv [(.int u0), (.int u1), (.int u2)]))) h0 n0) (s₁.setTop (entryFrame m #[(.ref t), (.int (0 : Int32)), (.int (3 : Int32)), (.int (0 : Int32)), (.int (4 : Int32))] 5))
  refine OEnds.via (fun _ k_ => castTop (show entryFrame m #[(.ref t), (.int (0 : Int32)), (.int (3 : Int32)), (.int (0 : Int32)), (.int (4 : Int32))] 5 = (mkF m 0 #[.val (.ref t), .val (.int (0 : Int32)), .val (.int (3 : Int32)), .val (.int (0 : Int32)), .val (.int (4 : Int32))] []) by first | (simp [entryFrame, mkF, argsToLocals, Value.category, maxLocals]; done) | rfl) k_) ?_
  have E_t := own_exaB V_t hkb
  show OEnds p e below s _ _ _ (s₁.setTop (mkF m 0 #[.val (.ref t), .val (.int (0 : Int32)), .val (.int (3 : Int32)), .val (.int (0 : Int32)), .val (.int (4 : Int32))] []))
  refine OEnds.via (fun _ k_ => XS.iload X0.here hx rfl (hb hby d18_0) rfl k_) ?_
  show OEnds p e below s _ _ _ (s₁.setTop (mkF m 2 #[.val (.ref t), .val (.int (0 : Int32)), .val (.int (3 : Int32)), .val (.int (0 : Int32)), .val (.int (4 : Int32))] [(.int (4 : Int32))]))
  refine OEnds.via (fun _ k_ => X0.tableswitchIn hx (g := (mkF m 2 #[.val (.ref t), .val (.int (0 : Int32)), .val (.int (3 : Int32)), .val (.int (0 : Int32)), .val (.int (4 : Int32))] [(.int (4 : Int32))])) rfl rfl (hb hby d18_2) (by decide) (off := 42) rfl (show (0 : Int) ≤ 2 + 42 by decide) _ k_) ?_
  show OEnds p e below s _ _ _ (s₁.setTop (mkF m 44 #[.val (.ref t), .val (.int (0 : Int32)), .val (.int (3 : Int32)), .val (.int (0 : Int32)), .val (.int (4 : Int32))] []))
  refine OEnds.via (fun _ k_ => XS.iloadN X0.here hx rfl (hb hby d18_44) rfl k_) ?_
  show OEnds p e below s _ _ _ (s₁.setTop (mkF m 45 #[.val (.ref t), .val (.int (0 : Int32)), .val (.int (3 : Int32)), .val (.int (0 : Int32)), .val (.int (4 : Int32))] [(.int (0 : Int32))]))
  refine OEnds.via (fun _ k_ => XS.aloadN X0.here hx rfl (hb hby d18_45) rfl rfl k_) ?_
  show OEnds p e below s _ _ _ (s₁.setTop (mkF m 46 #[.val (.ref t), .val (.int (0 : Int32)), .val (.int (3 : Int32)), .val (.int (0 : Int32)), .val (.int (4 : Int32))] [(.ref t), (.int (0 : Int32))]))
  obtain ⟨T1, X1, e1, st1⟩ := castY X0 hx hZ hown (hw _ (List.mem_of_getElem? (i := 107) rfl)) e0 (Ins.self E_t) (g := (mkF m 46 #[.val (.ref t), .val (.int (0 : Int32)), .val (.int (3 : Int32)), .val (.int (0 : Int32)), .val (.int (4 : Int32))] [(.ref t), (.int (0 : Int32))])) rfl rfl (hb hby d18_46)
  refine OEnds.via (fun _ k_ => st1 _ k_) ?_
  show OEnds p e below s _ _ _ (T1.setTop (mkF m 49 #[.val (.ref t), .val (.int (0 : Int32)), .val (.int (3 : Int32)), .val (.int (0 : Int32)), .val (.int (4 : Int32))] [(.ref t), (.int (0 : Int32))]))
  refine OEnds.via (fun _ k_ => XS.iloadN X1.here hx rfl (hb hby d18_49) rfl k_) ?_
  show OEnds p e below s _ _ _ (T1.setTop (mkF m 50 #[.val (.ref t), .val (.int (0 : Int32)), .val (.int (3 : Int32)), .val (.int (0 : Int32)), .val (.int (4 : Int32))] [(.int (0 : Int32)), (.ref t), (.int (0 : Int32))]))
  refine OEnds.via (fun _ k_ => XS.iloadN X1.here hx rfl (hb hby d18_50) rfl k_) ?_
  show OEnds p e below s _ _ _ (T1.setTop (mkF m 51 #[.val (.ref t), .val (.int (0 : Int32)), .val (.int (3 : Int32)), .val (.int (0 : Int32)), .val (.int (4 : Int32))] [(.int (3 : Int32)), (.int (0 : Int32)), (.ref t), (.int (0 : Int32))]))
  obtain ⟨_, _, ⟨T2, L2, k2, n2⟩, -, X2, ⟨Lc2, hQ2, l2, y2, z2⟩, st2⟩ := Jvm.LawKit.callS X1 hx (y := (⟨"jdk/internal/util/ArraysSupport", "signedHashCode", "(I[BII)I"⟩ : MethodName)) hown (mvT hZ (hw _ (List.mem_of_getElem? (i := 109) rfl))) (mvT hZ (hw _ (List.mem_of_getElem? (i := 110) rfl))) (mvT hZ (hw _ (List.mem_of_getElem? (i := 105) rfl))) (mvT hZ (hw _ (List.mem_of_getElem? (i := 111) rfl))) (by decide) (backOf (W := 0) (rmSH3 l Z a0 hw [] t kb u0 u1 u2 h0 n0 O0 V_t) hZ (hw _ (List.mem_of_getElem? (i := 111) rfl)) (hw _ (List.mem_of_getElem? (i := 105) rfl)) (by decide) (by decide)) (g := (mkF m 51 #[.val (.ref t), .val (.int (0 : Int32)), .val (.int (3 : Int32)), .val (.int (0 : Int32)), .val (.int (4 : Int32))] [(.int (3 : Int32)), (.int (0 : Int32)), (.ref t), (.int (0 : Int32))])) rfl (by rw [hml]; rfl) (argsL := [(.int (0 : Int32)), (.ref t), (.int (0 : Int32)), (.int (3 : Int32))]) (rest := []) (lenOf pd_28I5bBII29I rfl) rfl (by show 2 * 0 + _ ≤ _; exact Nat.le_of_eq rfl) (hb hby d18_51) (fun _ _ => ⟨rfl, e1, Nat.le_of_ble_eq_true rfl, Nat.le_of_ble_eq_true rfl⟩)
  dsimp only [Pt.U, Pt.locs, Pt.cells, Pt.slots] at X2 l2 y2 z2 st2 hQ2
  subst l2 y2 z2
  obtain ⟨rfl, N2q, e2⟩ := hQ2
  have N2 := Fr.app N0 N2q
  refine OEnds.via (fun _ k_ => st2 _ k_) ?_
  show OEnds p e below s _ _ _ (T2.setTop (mkF m 54 #[.val (.ref t), .val (.int (0 : Int32)), .val (.int (3 : Int32)), .val (.int (0 : Int32)), .val (.int (4 : Int32))] [(.int (own_hv [(.int u0), (.int u1), (.int u2)]))]))
  refine OEnds.via (fun _ k_ => XS.goto X2.here hx rfl (pc0 := 54) (pc' := 157) rfl (hb hby d18_54) (by decide) (by decide) k_) ?_
  show OEnds p e below s _ _ _ (T2.setTop (mkF m 157 #[.val (.ref t), .val (.int (0 : Int32)), .val (.int (3 : Int32)), .val (.int (0 : Int32)), .val (.int (4 : Int32))] [(.int (own_hv [(.int u0), (.int u1), (.int u2)]))]))
  refine OEnds.retI X2 hx hlk Bd.returns (hb hby d18_157) ?_ (by decide) (by decide)
  exact ⟨rfl, N2, e2⟩
theorem d15_0 : decode jdk_43_method_21_code 0 = .ok (.aload_n 0, 1) := by decide +kernel
theorem d15_1 : decode jdk_43_method_21_code 1 = .ok (.arraylength, 1) := by decide +kernel
theorem d15_2 : decode jdk_43_method_21_code 2 = .ok (.lookupswitch 40 #[(0, 26), (1, 30)], 26) := by decide +kernel
theorem d15_28 : decode jdk_43_method_21_code 28 = .ok (.iconst 0, 1) := by decide +kernel
theorem d15_29 : decode jdk_43_method_21_code 29 = .ok (.goto 22, 3) := by decide +kernel
theorem d15_32 : decode jdk_43_method_21_code 32 = .ok (.aload_n 0, 1) := by decide +kernel
theorem d15_33 : decode jdk_43_method_21_code 33 = .ok (.iconst 0, 1) := by decide +kernel
theorem d15_34 : decode jdk_43_method_21_code 34 = .ok (.baload, 1) := by decide +kernel
theorem d15_35 : decode jdk_43_method_21_code 35 = .ok (.sipush 255, 3) := by decide +kernel
theorem d15_38 : decode jdk_43_method_21_code 38 = .ok (.iand, 1) := by decide +kernel
theorem d15_39 : decode jdk_43_method_21_code 39 = .ok (.goto 12, 3) := by decide +kernel
theorem d15_42 : decode jdk_43_method_21_code 42 = .ok (.aload_n 0, 1) := by decide +kernel
theorem d15_43 : decode jdk_43_method_21_code 43 = .ok (.iconst 0, 1) := by decide +kernel
theorem d15_44 : decode jdk_43_method_21_code 44 = .ok (.aload_n 0, 1) := by decide +kernel
theorem d15_45 : decode jdk_43_method_21_code 45 = .ok (.arraylength, 1) := by decide +kernel
theorem d15_46 : decode jdk_43_method_21_code 46 = .ok (.iconst 0, 1) := by decide +kernel
theorem d15_47 : decode jdk_43_method_21_code 47 = .ok (.iconst 4, 1) := by decide +kernel
theorem d15_48 : decode jdk_43_method_21_code 48 = .ok (.invokestatic 84, 3) := by decide +kernel
theorem d15_51 : decode jdk_43_method_21_code 51 = .ok (.ireturn, 1) := by decide +kernel
theorem pn_java_lang_StringLatin1 : plainName "java/lang/StringLatin1" = true := by first | (simp [plainName, overriddenIn]; done) | decide +kernel
theorem pd_28Ljava2flang2fObject3bIIII29I : parseMethodDescriptor "(Ljava/lang/Object;IIII)I" = some ⟨[(.object "java/lang/Object"), .int, .int, .int, .int], some .int⟩ := by decide +kernel
set_option maxRecDepth 65536 in
set_option maxHeartbeats 40000000 in
theorem rmLH (l : Launch) (Z : State) (a0 : Array Value) (hw : ∀ d ∈ tables_1, d.before a0 Z = true) (ws : List Jvm.Cond) (t : Addr) (kb : ClassId) (nn : Int32) (vs : List Value) (h0 : Heap) (n0 : Nat) (O0 : Old Z n0 h0) (V_t : Arv Z h0 t kb .byte nn vs (.int (0 : Int32))) (hsh : own_sh nn vs) (hkb : nn = 0 ∨ Z.vm.findClass "[B" = some kb) :
    MetFree l (⟨"java/lang/StringLatin1", "hashCode", "([B)I"⟩ : MethodName) (head1 (Jvm.Cond.code (⟨"java/lang/StringLatin1", "hashCode", "([B)I"⟩ : MethodName) jdk_43_method_21_code 1 (some .int) :: ws) ({ frames := 2, cells := 0, slots := 0, locals := 48 } : Room)) (fun ar' U => ar' = #[(.ref t)] ∧ Z.Warmed39 U.vm ∧ U.heap = h0) (fun _ _ _ _ _ => True) (fun _ U o U' => ∃ v L, o = .returned v ∧ (QA (some (.int (own_hv vs))) h0 n0) v U'.heap L ∧ FrameEnd U o U' L ({ frames := 2, cells := 0, slots := 0, locals := 48 } : Room).cells ({ frames := 2, cells := 0, slots := 0, locals := 48 } : Room).slots) := by
  refine MetFree.of_bodySF (plainFor_of_name pn_java_lang_StringLatin1) hisR ?_
  intro p e s m args below meth c s₁ Bd hml0 hP hK
  obtain ⟨rfl, hZ, hh⟩ := hP
  have hx := Bd.exec
  have hby := Bd.bytes
  have hlk := BodyLoose.notSynchronized Bd
  have hml : c.maxLocals = 1 := hml0
  have hown : s.vm.findClass "java/lang/StringLatin1" = some m.cls := findClass_of_methodNamed Bd.named
  have hnm := (name_of_methodNamed Bd.named Bd.method).1
  have X0 : Stand p l e ({ frames := 2, cells := 0, slots := 0, locals := 48 } : Room) s m #[(.ref t)] below meth c s₁ [] 0 0 := Stand.of_body Bd
  have e0 : s₁.heap = h0 := by rw [← hh, Bd.state]; rfl
  have N0 := Fr.nil n0
  have Z0 : n0 ≤ h0.size := O0.1 ▸ O0.2.1
  show OEnds p e below s ({ frames := 2, cells := 0, slots := 0, locals := 48 } : Room).cells ({ frames := 2, cells := 0, slots := 0, locals := 48 } : Room).slots (QA (some (.int (own_hv vs))) h0 n0) (s₁.setTop (entryFrame m #[(.ref t)] 1))
  refine OEnds.via (fun _ k_ => castTop (show entryFrame m #[(.ref t)] 1 = (mkF m 0 #[.val (.ref t)] []) by first | (simp [entryFrame, mkF, argsToLocals, Value.category, maxLocals]; done) | rfl) k_) ?_
  rcases hsh with ⟨rfl, rfl⟩ | ⟨u0, rfl, rfl⟩ | ⟨u0, u1, rfl, rfl⟩ | ⟨u0, u1, u2, rfl, rfl⟩
  · skip
    show OEnds p e below s _ _ _ (s₁.setTop (mkF m 0 #[.val (.ref t)] []))
    refine OEnds.via (fun _ k_ => XS.aloadN X0.here hx rfl (hb hby d15_0) rfl rfl k_) ?_
    show OEnds p e below s _ _ _ (s₁.setTop (mkF m 1 #[.val (.ref t)] [(.ref t)]))
    have V1c := V_t
    obtain ⟨cl1, Ar1, q1, S1, M1, H1, -⟩ := V1c
    refine OEnds.via (fun _ k_ => X0.arraylength hx (by rw [e0]; exact Ar1.1) (State.isArrayOf_alike hZ.alike Ar1.2.1) (g := (mkF m 1 #[.val (.ref t)] [(.ref t)])) rfl rfl (hb hby d15_1) _ k_) ?_
    rw [len_of S1 M1]
    show OEnds p e below s _ _ _ (s₁.setTop (mkF m 2 #[.val (.ref t)] [(.int (0 : Int32))]))
    refine OEnds.via (fun _ k_ => X0.lookupswitchHit hx (g := (mkF m 2 #[.val (.ref t)] [(.int (0 : Int32))])) rfl rfl (hb hby d15_2) (by decide) (a := 0) (off := 26) rfl (show (0 : Int) ≤ 2 + 26 by decide) _ k_) ?_
    show OEnds p e below s _ _ _ (s₁.setTop (mkF m 28 #[.val (.ref t)] []))
    refine OEnds.via (fun _ k_ => XS.iconst X0.here hx rfl (hb hby d15_28) k_) ?_
    show OEnds p e below s _ _ _ (s₁.setTop (mkF m 29 #[.val (.ref t)] [(.int (0 : Int32))]))
    refine OEnds.via (fun _ k_ => XS.goto X0.here hx rfl (pc0 := 29) (pc' := 51) rfl (hb hby d15_29) (by decide) (by decide) k_) ?_
    show OEnds p e below s _ _ _ (s₁.setTop (mkF m 51 #[.val (.ref t)] [(.int (0 : Int32))]))
    refine OEnds.retI X0 hx hlk Bd.returns (hb hby d15_51) ?_ (by decide) (by decide)
    exact ⟨rfl, N0, e0⟩
  · skip
    show OEnds p e below s _ _ _ (s₁.setTop (mkF m 0 #[.val (.ref t)] []))
    refine OEnds.via (fun _ k_ => XS.aloadN X0.here hx rfl (hb hby d15_0) rfl rfl k_) ?_
    show OEnds p e below s _ _ _ (s₁.setTop (mkF m 1 #[.val (.ref t)] [(.ref t)]))
    have V2c := V_t
    obtain ⟨cl2, Ar2, q2, S2, M2, H2, -⟩ := V2c
    refine OEnds.via (fun _ k_ => X0.arraylength hx (by rw [e0]; exact Ar2.1) (State.isArrayOf_alike hZ.alike Ar2.2.1) (g := (mkF m 1 #[.val (.ref t)] [(.ref t)])) rfl rfl (hb hby d15_1) _ k_) ?_
    rw [len_of S2 M2]
    show OEnds p e below s _ _ _ (s₁.setTop (mkF m 2 #[.val (.ref t)] [(.int (1 : Int32))]))
    refine OEnds.via (fun _ k_ => X0.lookupswitchHit hx (g := (mkF m 2 #[.val (.ref t)] [(.int (1 : Int32))])) rfl rfl (hb hby d15_2) (by decide) (a := 1) (off := 30) rfl (show (0 : Int) ≤ 2 + 30 by decide) _ k_) ?_
    show OEnds p e below s _ _ _ (s₁.setTop (mkF m 32 #[.val (.ref t)] []))
    refine OEnds.via (fun _ k_ => XS.aloadN X0.here hx rfl (hb hby d15_32) rfl rfl k_) ?_
    show OEnds p e below s _ _ _ (s₁.setTop (mkF m 33 #[.val (.ref t)] [(.ref t)]))
    refine OEnds.via (fun _ k_ => XS.iconst X0.here hx rfl (hb hby d15_33) k_) ?_
    show OEnds p e below s _ _ _ (s₁.setTop (mkF m 34 #[.val (.ref t)] [(.int (0 : Int32)), (.ref t)]))
    have V3c := V_t
    obtain ⟨cl3, Ar3, q3, S3, M3, H3, -⟩ := V3c
    refine OEnds.via (fun _ k_ => X0.baloadBytes hx (j := (0 : Int32)) (v := (.int u0)) (by rw [e0]; exact Ar3.1) (State.isArrayOf_alike hZ.alike Ar3.2.1) Ar3.2.2 (inb_of S3 ⟨by decide, by decide⟩) (H3 0 (by rw [S3]; decide)) (g := (mkF m 34 #[.val (.ref t)] [(.int (0 : Int32)), (.ref t)])) rfl rfl (hb hby d15_34) _ k_) ?_
    show OEnds p e below s _ _ _ (s₁.setTop (mkF m 35 #[.val (.ref t)] [(.int u0)]))
    refine OEnds.via (fun _ k_ => XS.sipush X0.here hx rfl (hb hby d15_35) k_) ?_
    show OEnds p e below s _ _ _ (s₁.setTop (mkF m 38 #[.val (.ref t)] [(.int (255 : Int32)), (.int u0)]))
    refine OEnds.via (fun _ k_ => XS.iand X0.here hx rfl (hb hby d15_38) rfl k_) ?_
    show OEnds p e below s _ _ _ (s₁.setTop (mkF m 39 #[.val (.ref t)] [(.int (u0 &&& (255 : Int32)))]))
    refine OEnds.via (fun _ k_ => XS.goto X0.here hx rfl (pc0 := 39) (pc' := 51) rfl (hb hby d15_39) (by decide) (by decide) k_) ?_
    show OEnds p e below s _ _ _ (s₁.setTop (mkF m 51 #[.val (.ref t)] [(.int (u0 &&& (255 : Int32)))]))
    refine OEnds.retI X0 hx hlk Bd.returns (hb hby d15_51) ?_ (by decide) (by decide)
    exact ⟨rfl, N0, e0⟩
  · skip
    show OEnds p e below s _ _ _ (s₁.setTop (mkF m 0 #[.val (.ref t)] []))
    refine OEnds.via (fun _ k_ => XS.aloadN X0.here hx rfl (hb hby d15_0) rfl rfl k_) ?_
    show OEnds p e below s _ _ _ (s₁.setTop (mkF m 1 #[.val (.ref t)] [(.ref t)]))
    have V4c := V_t
    obtain ⟨cl4, Ar4, q4, S4, M4, H4, -⟩ := V4c
    refine OEnds.via (fun _ k_ => X0.arraylength hx (by rw [e0]; exact Ar4.1) (State.isArrayOf_alike hZ.alike Ar4.2.1) (g := (mkF m 1 #[.val (.ref t)] [(.ref t)])) rfl rfl (hb hby d15_1) _ k_) ?_
    rw [len_of S4 M4]
    show OEnds p e below s _ _ _ (s₁.setTop (mkF m 2 #[.val (.ref t)] [(.int (2 : Int32))]))
    refine OEnds.via (fun _ k_ => X0.lookupswitchMiss hx (g := (mkF m 2 #[.val (.ref t)] [(.int (2 : Int32))])) rfl rfl (hb hby d15_2) (by decide) rfl (show (0 : Int) ≤ 2 + 40 by decide) _ k_) ?_
    show OEnds p e below s _ _ _ (s₁.setTop (mkF m 42 #[.val (.ref t)] []))
    refine OEnds.via (fun _ k_ => XS.aloadN X0.here hx rfl (hb hby d15_42) rfl rfl k_) ?_
    show OEnds p e below s _ _ _ (s₁.setTop (mkF m 43 #[.val (.ref t)] [(.ref t)]))
    refine OEnds.via (fun _ k_ => XS.iconst X0.here hx rfl (hb hby d15_43) k_) ?_
    show OEnds p e below s _ _ _ (s₁.setTop (mkF m 44 #[.val (.ref t)] [(.int (0 : Int32)), (.ref t)]))
    refine OEnds.via (fun _ k_ => XS.aloadN X0.here hx rfl (hb hby d15_44) rfl rfl k_) ?_
    show OEnds p e below s _ _ _ (s₁.setTop (mkF m 45 #[.val (.ref t)] [(.ref t), (.int (0 : Int32)), (.ref t)]))
    have V5c := V_t
    obtain ⟨cl5, Ar5, q5, S5, M5, H5, -⟩ := V5c
    refine OEnds.via (fun _ k_ => X0.arraylength hx (by rw [e0]; exact Ar5.1) (State.isArrayOf_alike hZ.alike Ar5.2.1) (g := (mkF m 45 #[.val (.ref t)] [(.ref t), (.int (0 : Int32)), (.ref t)])) rfl rfl (hb hby d15_45) _ k_) ?_
    rw [len_of S5 M5]
    show OEnds p e below s _ _ _ (s₁.setTop (mkF m 46 #[.val (.ref t)] [(.int (2 : Int32)), (.int (0 : Int32)), (.ref t)]))
    refine OEnds.via (fun _ k_ => XS.iconst X0.here hx rfl (hb hby d15_46) k_) ?_
    show OEnds p e below s _ _ _ (s₁.setTop (mkF m 47 #[.val (.ref t)] [(.int (0 : Int32)), (.int (2 : Int32)), (.int (0 : Int32)), (.ref t)]))
    refine OEnds.via (fun _ k_ => XS.iconst X0.here hx rfl (hb hby d15_47) k_) ?_
    show OEnds p e below s _ _ _ (s₁.setTop (mkF m 48 #[.val (.ref t)] [(.int (4 : Int32)), (.int (0 : Int32)), (.int (2 : Int32)), (.int (0 : Int32)), (.ref t)]))
    obtain ⟨_, _, ⟨T6, L6, k6, n6⟩, -, X6, ⟨Lc6, hQ6, l6, y6, z6⟩, st6⟩ := Jvm.LawKit.callS X0 hx (y := (⟨"jdk/internal/util/ArraysSupport", "vectorizedHashCode", "(Ljava/lang/Object;IIII)I"⟩ : MethodName)) hown (mvT hZ (hw _ (List.mem_of_getElem? (i := 103) rfl))) (mvT hZ (hw _ (List.mem_of_getElem? (i := 104) rfl))) (mvT hZ (hw _ (List.mem_of_getElem? (i := 105) rfl))) (mvT hZ (hw _ (List.mem_of_getElem? (i := 106) rfl))) (by decide) (backOf (W := 0) (rmVH2 l Z a0 hw [] t kb u0 u1 h0 n0 O0 V_t (hkb.resolve_left (by decide))) hZ (hw _ (List.mem_of_getElem? (i := 106) rfl)) (hw _ (List.mem_of_getElem? (i := 105) rfl)) (by decide) (by decide)) (g := (mkF m 48 #[.val (.ref t)] [(.int (4 : Int32)), (.int (0 : Int32)), (.int (2 : Int32)), (.int (0 : Int32)), (.ref t)])) rfl (by rw [hml]; rfl) (argsL := [(.ref t), (.int (0 : Int32)), (.int (2 : Int32)), (.int (0 : Int32)), (.int (4 : Int32))]) (rest := []) (lenOf pd_28Ljava2flang2fObject3bIIII29I rfl) rfl (by show 2 * 0 + _ ≤ _; exact Nat.le_of_eq rfl) (hb hby d15_48) (fun _ _ => ⟨rfl, e0, Nat.le_of_ble_eq_true rfl, Nat.le_of_ble_eq_true rfl⟩)
    dsimp only [Pt.U, Pt.locs, Pt.cells, Pt.slots] at X6 l6 y6 z6 st6 hQ6
    subst l6 y6 z6
    obtain ⟨rfl, N6q, e6⟩ := hQ6
    have N6 := Fr.app N0 N6q
    refine OEnds.via (fun _ k_ => st6 _ k_) ?_
    show OEnds p e below s _ _ _ (T6.setTop (mkF m 51 #[.val (.ref t)] [(.int (own_hv [(.int u0), (.int u1)]))]))
    refine OEnds.retI X6 hx hlk Bd.returns (hb hby d15_51) ?_ (by decide) (by decide)
    exact ⟨rfl, N6, e6⟩
  · skip
    show OEnds p e below s _ _ _ (s₁.setTop (mkF m 0 #[.val (.ref t)] []))
    refine OEnds.via (fun _ k_ => XS.aloadN X0.here hx rfl (hb hby d15_0) rfl rfl k_) ?_
    show OEnds p e below s _ _ _ (s₁.setTop (mkF m 1 #[.val (.ref t)] [(.ref t)]))
    have V7c := V_t
    obtain ⟨cl7, Ar7, q7, S7, M7, H7, -⟩ := V7c
    refine OEnds.via (fun _ k_ => X0.arraylength hx (by rw [e0]; exact Ar7.1) (State.isArrayOf_alike hZ.alike Ar7.2.1) (g := (mkF m 1 #[.val (.ref t)] [(.ref t)])) rfl rfl (hb hby d15_1) _ k_) ?_
    rw [len_of S7 M7]
    show OEnds p e below s _ _ _ (s₁.setTop (mkF m 2 #[.val (.ref t)] [(.int (3 : Int32))]))
    refine OEnds.via (fun _ k_ => X0.lookupswitchMiss hx (g := (mkF m 2 #[.val (.ref t)] [(.int (3 : Int32))])) rfl rfl (hb hby d15_2) (by decide) rfl (show (0 : Int) ≤ 2 + 40 by decide) _ k_) ?_
    show OEnds p e below s _ _ _ (s₁.setTop (mkF m 42 #[.val (.ref t)] []))
    refine OEnds.via (fun _ k_ => XS.aloadN X0.here hx rfl (hb hby d15_42) rfl rfl k_) ?_
    show OEnds p e below s _ _ _ (s₁.setTop (mkF m 43 #[.val (.ref t)] [(.ref t)]))
    refine OEnds.via (fun _ k_ => XS.iconst X0.here hx rfl (hb hby d15_43) k_) ?_
    show OEnds p e below s _ _ _ (s₁.setTop (mkF m 44 #[.val (.ref t)] [(.int (0 : Int32)), (.ref t)]))
    refine OEnds.via (fun _ k_ => XS.aloadN X0.here hx rfl (hb hby d15_44) rfl rfl k_) ?_
    show OEnds p e below s _ _ _ (s₁.setTop (mkF m 45 #[.val (.ref t)] [(.ref t), (.int (0 : Int32)), (.ref t)]))
    have V8c := V_t
    obtain ⟨cl8, Ar8, q8, S8, M8, H8, -⟩ := V8c
    refine OEnds.via (fun _ k_ => X0.arraylength hx (by rw [e0]; exact Ar8.1) (State.isArrayOf_alike hZ.alike Ar8.2.1) (g := (mkF m 45 #[.val (.ref t)] [(.ref t), (.int (0 : Int32)), (.ref t)])) rfl rfl (hb hby d15_45) _ k_) ?_
    rw [len_of S8 M8]
    show OEnds p e below s _ _ _ (s₁.setTop (mkF m 46 #[.val (.ref t)] [(.int (3 : Int32)), (.int (0 : Int32)), (.ref t)]))
    refine OEnds.via (fun _ k_ => XS.iconst X0.here hx rfl (hb hby d15_46) k_) ?_
    show OEnds p e below s _ _ _ (s₁.setTop (mkF m 47 #[.val (.ref t)] [(.int (0 : Int32)), (.int (3 : Int32)), (.int (0 : Int32)), (.ref t)]))
    refine OEnds.via (fun _ k_ => XS.iconst X0.here hx rfl (hb hby d15_47) k_) ?_
    show OEnds p e below s _ _ _ (s₁.setTop (mkF m 48 #[.val (.ref t)] [(.int (4 : Int32)), (.int (0 : Int32)), (.int (3 : Int32)), (.int (0 : Int32)), (.ref t)]))
    obtain ⟨_, _, ⟨T9, L9, k9, n9⟩, -, X9, ⟨Lc9, hQ9, l9, y9, z9⟩, st9⟩ := Jvm.LawKit.callS X0 hx (y := (⟨"jdk/internal/util/ArraysSupport", "vectorizedHashCode", "(Ljava/lang/Object;IIII)I"⟩ : MethodName)) hown (mvT hZ (hw _ (List.mem_of_getElem? (i := 103) rfl))) (mvT hZ (hw _ (List.mem_of_getElem? (i := 104) rfl))) (mvT hZ (hw _ (List.mem_of_getElem? (i := 105) rfl))) (mvT hZ (hw _ (List.mem_of_getElem? (i := 106) rfl))) (by decide) (backOf (W := 0) (rmVH3 l Z a0 hw [] t kb u0 u1 u2 h0 n0 O0 V_t (hkb.resolve_left (by decide))) hZ (hw _ (List.mem_of_getElem? (i := 106) rfl)) (hw _ (List.mem_of_getElem? (i := 105) rfl)) (by decide) (by decide)) (g := (mkF m 48 #[.val (.ref t)] [(.int (4 : Int32)), (.int (0 : Int32)), (.int (3 : Int32)), (.int (0 : Int32)), (.ref t)])) rfl (by rw [hml]; rfl) (argsL := [(.ref t), (.int (0 : Int32)), (.int (3 : Int32)), (.int (0 : Int32)), (.int (4 : Int32))]) (rest := []) (lenOf pd_28Ljava2flang2fObject3bIIII29I rfl) rfl (by show 2 * 0 + _ ≤ _; exact Nat.le_of_eq rfl) (hb hby d15_48) (fun _ _ => ⟨rfl, e0, Nat.le_of_ble_eq_true rfl, Nat.le_of_ble_eq_true rfl⟩)
    dsimp only [Pt.U, Pt.locs, Pt.cells, Pt.slots] at X9 l9 y9 z9 st9 hQ9
    subst l9 y9 z9
    obtain ⟨rfl, N9q, e9⟩ := hQ9
    have N9 := Fr.app N0 N9q
    refine OEnds.via (fun _ k_ => st9 _ k_) ?_
    show OEnds p e below s _ _ _ (T9.setTop (mkF m 51 #[.val (.ref t)] [(.int (own_hv [(.int u0), (.int u1), (.int u2)]))]))
    refine OEnds.retI X9 hx hlk Bd.returns (hb hby d15_51) ?_ (by decide) (by decide)
    exact ⟨rfl, N9, e9⟩
theorem d13_0 : decode jdk_42_method_78_code 0 = .ok (.aload_n 0, 1) := by decide +kernel
theorem d13_1 : decode jdk_42_method_78_code 1 = .ok (.getfield 19, 3) := by decide +kernel
theorem d13_4 : decode jdk_42_method_78_code 4 = .ok (.istore_n 1, 1) := by decide +kernel
theorem d13_5 : decode jdk_42_method_78_code 5 = .ok (.iload_n 1, 1) := by decide +kernel
theorem d13_6 : decode jdk_42_method_78_code 6 = .ok (.ifCond .ne 52, 3) := by decide +kernel
theorem d13_9 : decode jdk_42_method_78_code 9 = .ok (.aload_n 0, 1) := by decide +kernel
theorem d13_10 : decode jdk_42_method_78_code 10 = .ok (.getfield 23, 3) := by decide +kernel
theorem d13_13 : decode jdk_42_method_78_code 13 = .ok (.ifCond .ne 45, 3) := by decide +kernel
theorem d13_16 : decode jdk_42_method_78_code 16 = .ok (.aload_n 0, 1) := by decide +kernel
theorem d13_17 : decode jdk_42_method_78_code 17 = .ok (.invokevirtual 492, 3) := by decide +kernel
theorem d13_20 : decode jdk_42_method_78_code 20 = .ok (.ifCond .eq 13, 3) := by decide +kernel
theorem d13_23 : decode jdk_42_method_78_code 23 = .ok (.aload_n 0, 1) := by decide +kernel
theorem d13_24 : decode jdk_42_method_78_code 24 = .ok (.getfield 9, 3) := by decide +kernel
theorem d13_27 : decode jdk_42_method_78_code 27 = .ok (.invokestatic 628, 3) := by decide +kernel
theorem d13_30 : decode jdk_42_method_78_code 30 = .ok (.goto 10, 3) := by decide +kernel
theorem d13_33 : decode jdk_42_method_78_code 33 = .ok (.aload_n 0, 1) := by decide +kernel
theorem d13_34 : decode jdk_42_method_78_code 34 = .ok (.getfield 9, 3) := by decide +kernel
theorem d13_37 : decode jdk_42_method_78_code 37 = .ok (.invokestatic 632, 3) := by decide +kernel
theorem d13_40 : decode jdk_42_method_78_code 40 = .ok (.istore_n 1, 1) := by decide +kernel
theorem d13_41 : decode jdk_42_method_78_code 41 = .ok (.iload_n 1, 1) := by decide +kernel
theorem d13_42 : decode jdk_42_method_78_code 42 = .ok (.ifCond .ne 11, 3) := by decide +kernel
theorem d13_45 : decode jdk_42_method_78_code 45 = .ok (.aload_n 0, 1) := by decide +kernel
theorem d13_46 : decode jdk_42_method_78_code 46 = .ok (.iconst 1, 1) := by decide +kernel
theorem d13_47 : decode jdk_42_method_78_code 47 = .ok (.putfield 23, 3) := by decide +kernel
theorem d13_50 : decode jdk_42_method_78_code 50 = .ok (.goto 8, 3) := by decide +kernel
theorem d13_53 : decode jdk_42_method_78_code 53 = .ok (.aload_n 0, 1) := by decide +kernel
theorem d13_54 : decode jdk_42_method_78_code 54 = .ok (.iload_n 1, 1) := by decide +kernel
theorem d13_55 : decode jdk_42_method_78_code 55 = .ok (.putfield 19, 3) := by decide +kernel
theorem d13_58 : decode jdk_42_method_78_code 58 = .ok (.iload_n 1, 1) := by decide +kernel
theorem d13_59 : decode jdk_42_method_78_code 59 = .ok (.ireturn, 1) := by decide +kernel
def Q_rmH (Z : State) (x : Addr) (t_x : Addr) (kb_x : ClassId) (nn_x : Int32) (vs_x : List Value) (G1 : Int32) (cs : List Int32) (h0 : Heap) (n0 : Nat) (v : Option Value) (h : Heap) (L : List Loc) : Prop := v = some (.int (own_hv vs_x)) ∧ Fr n0 L ∧ Keep h0 h [x] ∧ Exa Z h x "java/lang/String" ∧ Fld Z h x "java/lang/String" "value" "[B" (.ref t_x) ∧ Fld Z h x "java/lang/String" "coder" "B" (.int (0 : Int32))
theorem pd_2829Z : parseMethodDescriptor "()Z" = some ⟨[], some .boolean⟩ := by decide +kernel
theorem pd_285bB29I : parseMethodDescriptor "([B)I" = some ⟨[(.array .byte)], some .int⟩ := by decide +kernel
set_option maxRecDepth 65536 in
set_option maxHeartbeats 40000000 in
theorem rmH (l : Launch) (Z : State) (a0 : Array Value) (hw : ∀ d ∈ tables_1, d.before a0 Z = true) (ws : List Jvm.Cond) (x : Addr) (t_x : Addr) (kb_x : ClassId) (nn_x : Int32) (vs_x : List Value) (G1 : Int32) (cs : List Int32) (h0 : Heap) (n0 : Nat) (O0 : Old Z n0 h0) (S_CS : Sta Z Z.heap "java/lang/String" "COMPACT_STRINGS" "Z" (.int G1)) (nz_CS : ¬ (G1 = (0 : Int32))) (E_x : Exa Z h0 x "java/lang/String") (V_x : Fld Z h0 x "java/lang/String" "value" "[B" (.ref t_x)) (C_x : Fld Z h0 x "java/lang/String" "coder" "B" (.int (0 : Int32))) (K_x : Arv Z h0 t_x kb_x .byte nn_x vs_x (.int (0 : Int32))) (hp_x : own_op Z cs nn_x vs_x kb_x) (F_hash_x : Fld Z h0 x "java/lang/String" "hash" "I" (.int (0 : Int32))) (F_hashIsZero_x : Fld Z h0 x "java/lang/String" "hashIsZero" "Z" (.int (0 : Int32))) (ge_x : n0 ≤ x) :
    MetFree l (⟨"java/lang/String", "hashCode", "()I"⟩ : MethodName) (head1 (Jvm.Cond.code (⟨"java/lang/String", "hashCode", "()I"⟩ : MethodName) jdk_42_method_78_code 2 (some .int) :: ws) ({ frames := 3, cells := 0, slots := 0, locals := 70 } : Room)) (fun ar' U => ar' = #[(.ref x)] ∧ Z.Warmed39 U.vm ∧ U.heap = h0) (fun _ _ _ _ _ => True) (fun _ U o U' => ∃ v L, o = .returned v ∧ (Q_rmH Z x t_x kb_x nn_x vs_x G1 cs h0 n0) v U'.heap L ∧ FrameEnd U o U' L ({ frames := 3, cells := 0, slots := 0, locals := 70 } : Room).cells ({ frames := 3, cells := 0, slots := 0, locals := 70 } : Room).slots) := by
  refine MetFree.of_bodySF (plainFor_of_name pn_java_lang_String) hisR ?_
  intro p e s m args below meth c s₁ Bd hml0 hP hK
  obtain ⟨rfl, hZ, hh⟩ := hP
  have hx := Bd.exec
  have hby := Bd.bytes
  have hlk := BodyLoose.notSynchronized Bd
  have hml : c.maxLocals = 2 := hml0
  have hown : s.vm.findClass "java/lang/String" = some m.cls := findClass_of_methodNamed Bd.named
  have hnm := (name_of_methodNamed Bd.named Bd.method).1
  have X0 : Stand p l e ({ frames := 3, cells := 0, slots := 0, locals := 70 } : Room) s m #[(.ref x)] below meth c s₁ [] 0 0 := Stand.of_body Bd
  have e0 : s₁.heap = h0 := by rw [← hh, Bd.state]; rfl
  have N0 := Fr.nil n0
  have Z0 : n0 ≤ h0.size := O0.1 ▸ O0.2.1
  show OEnds p e below s ({ frames := 3, cells := 0, slots := 0, locals := 70 } : Room).cells ({ frames := 3, cells := 0, slots := 0, locals := 70 } : Room).slots (Q_rmH Z x t_x kb_x nn_x vs_x G1 cs h0 n0) (s₁.setTop (entryFrame m #[(.ref x)] 2))
  refine OEnds.via (fun _ k_ => castTop (show entryFrame m #[(.ref x)] 2 = (mkF m 0 #[.val (.ref x), .unset] []) by first | (simp [entryFrame, mkF, argsToLocals, Value.category, maxLocals]; done) | rfl) k_) ?_
  have Kp := Keep.refl h0 [x]
  show OEnds p e below s _ _ _ (s₁.setTop (mkF m 0 #[.val (.ref x), .unset] []))
  refine OEnds.via (fun _ k_ => XS.aloadN X0.here hx rfl (hb hby d13_0) rfl rfl k_) ?_
  show OEnds p e below s _ _ _ (s₁.setTop (mkF m 1 #[.val (.ref x), .unset] [(.ref x)]))
  obtain ⟨T1, X1, e1, st1⟩ := getF X0 hx hZ hown (host := "") (Or.inl (hw _ (List.mem_of_getElem? (i := 81) rfl))) Via.refl e0 F_hash_x (g := (mkF m 1 #[.val (.ref x), .unset] [(.ref x)])) rfl rfl (hb hby d13_1)
  refine OEnds.via (fun _ k_ => st1 _ k_) ?_
  show OEnds p e below s _ _ _ (T1.setTop (mkF m 4 #[.val (.ref x), .unset] [(.int (0 : Int32))]))
  refine OEnds.via (fun _ k_ => XS.istoreN X1.here hx rfl (hb hby d13_4) rfl (l' := #[.val (.ref x), .val (.int (0 : Int32))]) rfl k_) ?_
  show OEnds p e below s _ _ _ (T1.setTop (mkF m 5 #[.val (.ref x), .val (.int (0 : Int32))] []))
  refine OEnds.via (fun _ k_ => XS.iloadN X1.here hx rfl (hb hby d13_5) rfl k_) ?_
  show OEnds p e below s _ _ _ (T1.setTop (mkF m 6 #[.val (.ref x), .val (.int (0 : Int32))] [(.int (0 : Int32))]))
  refine OEnds.via (fun _ k_ => XS.ifNo X1.here hx rfl (hb hby d13_6) rfl ((if0 _ _).trans (teq (by decide : (0 : Int32) = (0 : Int32))).2) k_) ?_
  show OEnds p e below s _ _ _ (T1.setTop (mkF m 9 #[.val (.ref x), .val (.int (0 : Int32))] []))
  refine OEnds.via (fun _ k_ => XS.aloadN X1.here hx rfl (hb hby d13_9) rfl rfl k_) ?_
  show OEnds p e below s _ _ _ (T1.setTop (mkF m 10 #[.val (.ref x), .val (.int (0 : Int32))] [(.ref x)]))
  obtain ⟨T2, X2, e2, st2⟩ := getF X1 hx hZ hown (host := "") (Or.inl (hw _ (List.mem_of_getElem? (i := 83) rfl))) Via.refl e1 F_hashIsZero_x (g := (mkF m 10 #[.val (.ref x), .val (.int (0 : Int32))] [(.ref x)])) rfl rfl (hb hby d13_10)
  refine OEnds.via (fun _ k_ => st2 _ k_) ?_
  show OEnds p e below s _ _ _ (T2.setTop (mkF m 13 #[.val (.ref x), .val (.int (0 : Int32))] [(.int (0 : Int32))]))
  refine OEnds.via (fun _ k_ => XS.ifNo X2.here hx rfl (hb hby d13_13) rfl ((if0 _ _).trans (teq (by decide : (0 : Int32) = (0 : Int32))).2) k_) ?_
  show OEnds p e below s _ _ _ (T2.setTop (mkF m 16 #[.val (.ref x), .val (.int (0 : Int32))] []))
  refine OEnds.via (fun _ k_ => XS.aloadN X2.here hx rfl (hb hby d13_16) rfl rfl k_) ?_
  show OEnds p e below s _ _ _ (T2.setTop (mkF m 17 #[.val (.ref x), .val (.int (0 : Int32))] [(.ref x)]))
  obtain ⟨cq3, kq3, q3a, q3b, q3c⟩ := isOf hZ e2 E_x
  obtain ⟨_, _, ⟨T3, L3, k3, n3⟩, -, X3, ⟨Lc3, hQ3, l3, y3, z3⟩, st3⟩ := X2.virtualBack hx (y := (⟨"java/lang/String", "isLatin1", "()Z"⟩ : MethodName)) (z := (⟨"java/lang/String", "isLatin1", "()Z"⟩ : MethodName)) hown (mvT hZ (hw _ (List.mem_of_getElem? (i := 85) rfl))) (mvT hZ (hw _ (List.mem_of_getElem? (i := 86) rfl))) (notFace_of_selects (args := #[]) (mvT hZ (hw _ (List.mem_of_getElem? (i := 88) rfl)))) (mvT hZ (hw _ (List.mem_of_getElem? (i := 88) rfl))) (mvT hZ (hw _ (List.mem_of_getElem? (i := 87) rfl))) (by decide) (backOf (W := 0) (rmIL l Z a0 hw [] x G1 h0 n0 O0 S_CS nz_CS C_x) hZ (hw _ (List.mem_of_getElem? (i := 89) rfl)) (hw _ (List.mem_of_getElem? (i := 6) rfl)) (by decide) (by decide)) q3a q3c (g := (mkF m 17 #[.val (.ref x), .val (.int (0 : Int32))] [(.ref x)])) rfl (by rw [hml]; rfl) (Steps.refl _) (argsL := []) (rest := []) (lenOf pd_2829Z rfl) rfl (by show 2 * 0 + _ ≤ _; exact Nat.le_of_eq rfl) (hb hby d13_17) (fun _ _ => ⟨rfl, e2, Nat.le_of_ble_eq_true rfl, Nat.le_of_ble_eq_true rfl⟩)
  dsimp only [Pt.U, Pt.locs, Pt.cells, Pt.slots] at X3 l3 y3 z3 st3 hQ3
  subst l3 y3 z3
  obtain ⟨rfl, N3q, e3⟩ := hQ3
  have N3 := Fr.app N0 N3q
  refine OEnds.via (fun _ k_ => st3.trans k_) ?_
  show OEnds p e below s _ _ _ (T3.setTop (mkF m 20 #[.val (.ref x), .val (.int (0 : Int32))] [(.int (1 : Int32))]))
  refine OEnds.via (fun _ k_ => XS.ifNo X3.here hx rfl (hb hby d13_20) rfl ((if0 _ _).trans (feq (by decide : ¬ ((1 : Int32) = (0 : Int32)))).1) k_) ?_
  show OEnds p e below s _ _ _ (T3.setTop (mkF m 23 #[.val (.ref x), .val (.int (0 : Int32))] []))
  refine OEnds.via (fun _ k_ => XS.aloadN X3.here hx rfl (hb hby d13_23) rfl rfl k_) ?_
  show OEnds p e below s _ _ _ (T3.setTop (mkF m 24 #[.val (.ref x), .val (.int (0 : Int32))] [(.ref x)]))
  obtain ⟨T4, X4, e4, st4⟩ := getF X3 hx hZ hown (host := "") (Or.inl (hw _ (List.mem_of_getElem? (i := 32) rfl))) Via.refl e3 V_x (g := (mkF m 24 #[.val (.ref x), .val (.int (0 : Int32))] [(.ref x)])) rfl rfl (hb hby d13_24)
  refine OEnds.via (fun _ k_ => st4 _ k_) ?_
  show OEnds p e below s _ _ _ (T4.setTop (mkF m 27 #[.val (.ref x), .val (.int (0 : Int32))] [(.ref t_x)]))
  obtain ⟨_, _, ⟨T5, L5, k5, n5⟩, -, X5, ⟨Lc5, hQ5, l5, y5, z5⟩, st5⟩ := Jvm.LawKit.callS X4 hx (y := (⟨"java/lang/StringLatin1", "hashCode", "([B)I"⟩ : MethodName)) hown (mvT hZ (hw _ (List.mem_of_getElem? (i := 90) rfl))) (mvT hZ (hw _ (List.mem_of_getElem? (i := 91) rfl))) (mvT hZ (hw _ (List.mem_of_getElem? (i := 92) rfl))) (mvT hZ (hw _ (List.mem_of_getElem? (i := 93) rfl))) (by decide) (backOf (W := 0) (rmLH l Z a0 hw [] t_x kb_x nn_x vs_x h0 n0 O0 K_x hp_x.2.1 hp_x.2.2.1) hZ (hw _ (List.mem_of_getElem? (i := 93) rfl)) (hw _ (List.mem_of_getElem? (i := 92) rfl)) (by decide) (by decide)) (g := (mkF m 27 #[.val (.ref x), .val (.int (0 : Int32))] [(.ref t_x)])) rfl (by rw [hml]; rfl) (argsL := [(.ref t_x)]) (rest := []) (lenOf pd_285bB29I rfl) rfl (by show 2 * 0 + _ ≤ _; exact Nat.le_of_eq rfl) (hb hby d13_27) (fun _ _ => ⟨rfl, e4, Nat.le_of_ble_eq_true rfl, Nat.le_of_ble_eq_true rfl⟩)
  dsimp only [Pt.U, Pt.locs, Pt.cells, Pt.slots] at X5 l5 y5 z5 st5 hQ5
  subst l5 y5 z5
  obtain ⟨rfl, N5q, e5⟩ := hQ5
  have N5 := Fr.app N3 N5q
  refine OEnds.via (fun _ k_ => st5 _ k_) ?_
  show OEnds p e below s _ _ _ (T5.setTop (mkF m 30 #[.val (.ref x), .val (.int (0 : Int32))] [(.int (own_hv vs_x))]))
  refine OEnds.via (fun _ k_ => XS.goto X5.here hx rfl (pc0 := 30) (pc' := 40) rfl (hb hby d13_30) (by decide) (by decide) k_) ?_
  show OEnds p e below s _ _ _ (T5.setTop (mkF m 40 #[.val (.ref x), .val (.int (0 : Int32))] [(.int (own_hv vs_x))]))
  refine OEnds.via (fun _ k_ => XS.istoreN X5.here hx rfl (hb hby d13_40) rfl (l' := #[.val (.ref x), .val (.int (own_hv vs_x))]) rfl k_) ?_
  show OEnds p e below s _ _ _ (T5.setTop (mkF m 41 #[.val (.ref x), .val (.int (own_hv vs_x))] []))
  refine OEnds.via (fun _ k_ => XS.iloadN X5.here hx rfl (hb hby d13_41) rfl k_) ?_
  show OEnds p e below s _ _ _ (T5.setTop (mkF m 42 #[.val (.ref x), .val (.int (own_hv vs_x))] [(.int (own_hv vs_x))]))
  by_cases hc42_5 : (own_hv vs_x) = (0 : Int32)
  · skip
    refine OEnds.via (fun _ k_ => XS.ifNo X5.here hx rfl (hb hby d13_42) rfl ((if0 _ _).trans (teq hc42_5).2) k_) ?_
    show OEnds p e below s _ _ _ (T5.setTop (mkF m 45 #[.val (.ref x), .val (.int (own_hv vs_x))] []))
    refine OEnds.via (fun _ k_ => XS.aloadN X5.here hx rfl (hb hby d13_45) rfl rfl k_) ?_
    show OEnds p e below s _ _ _ (T5.setTop (mkF m 46 #[.val (.ref x), .val (.int (own_hv vs_x))] [(.ref x)]))
    refine OEnds.via (fun _ k_ => XS.iconst X5.here hx rfl (hb hby d13_46) k_) ?_
    show OEnds p e below s _ _ _ (T5.setTop (mkF m 47 #[.val (.ref x), .val (.int (own_hv vs_x))] [(.int (1 : Int32)), (.ref x)]))
    obtain ⟨T7, h7, X7, e7, W7, st7⟩ := putFN X5 hx hZ hown (hw _ (List.mem_of_getElem? (i := 83) rfl)) Via.refl e5 F_hashIsZero_x E_x (Or.inl (hw _ (List.mem_of_getElem? (i := 84) rfl))) (hw _ (List.mem_of_getElem? (i := 5) rfl)) (ty := .boolean) (v' := (.int (1 : Int32))) (by decide) rfl rfl (g := (mkF m 47 #[.val (.ref x), .val (.int (own_hv vs_x))] [(.int (1 : Int32)), (.ref x)])) rfl rfl (hb hby d13_47)
    have N7 := Fr.snoc X7 N5 ge_x
    have ne_t_x_x : t_x ≠ x := (Ne.symm (Exa.neArv E_x K_x (hw _ (List.mem_of_getElem? (i := 5) rfl))))
    replace E_x := Exa.wr W7 E_x
    replace V_x := Fld.other W7 V_x (Or.inr (slot_ne (Or.inr (hw _ (List.mem_of_getElem? (i := 33) rfl))) (Or.inl (hw _ (List.mem_of_getElem? (i := 84) rfl))) (by decide) (t := (.array .byte)) (t' := .boolean) (by decide) (by decide)))
    replace C_x := Fld.other W7 C_x (Or.inr (slot_ne (Or.inr (hw _ (List.mem_of_getElem? (i := 31) rfl))) (Or.inl (hw _ (List.mem_of_getElem? (i := 84) rfl))) (by decide) (t := .byte) (t' := .boolean) (by decide) (by decide)))
    replace K_x := K_x.other W7 ne_t_x_x
    replace F_hash_x := Fld.other W7 F_hash_x (Or.inr (slot_ne (Or.inl (hw _ (List.mem_of_getElem? (i := 82) rfl))) (Or.inl (hw _ (List.mem_of_getElem? (i := 84) rfl))) (by decide) (t := .int) (t' := .boolean) (by decide) (by decide)))
    replace F_hashIsZero_x := Fld.same W7 F_hashIsZero_x
    replace Kp := Kp.wr W7 (Or.inl (by simp))
    refine OEnds.via (fun _ k_ => st7 _ k_) ?_
    show OEnds p e below s _ _ _ (T7.setTop (mkF m 50 #[.val (.ref x), .val (.int (own_hv vs_x))] []))
    refine OEnds.via (fun _ k_ => XS.goto X7.here hx rfl (pc0 := 50) (pc' := 58) rfl (hb hby d13_50) (by decide) (by decide) k_) ?_
    show OEnds p e below s _ _ _ (T7.setTop (mkF m 58 #[.val (.ref x), .val (.int (own_hv vs_x))] []))
    refine OEnds.via (fun _ k_ => XS.iloadN X7.here hx rfl (hb hby d13_58) rfl k_) ?_
    show OEnds p e below s _ _ _ (T7.setTop (mkF m 59 #[.val (.ref x), .val (.int (own_hv vs_x))] [(.int (own_hv vs_x))]))
    refine OEnds.retI X7 hx hlk Bd.returns (hb hby d13_59) ?_ (by decide) (by decide)
    rw [e7]
    exact ⟨rfl, N7, Kp, E_x, V_x, C_x⟩
  · skip
    refine OEnds.via (fun _ k_ => XS.ifYes X5.here hx rfl (pc0 := 42) (pc' := 53) rfl (hb hby d13_42) rfl ((if0 _ _).trans (feq hc42_5).2) (by decide) (by decide) k_) ?_
    show OEnds p e below s _ _ _ (T5.setTop (mkF m 53 #[.val (.ref x), .val (.int (own_hv vs_x))] []))
    refine OEnds.via (fun _ k_ => XS.aloadN X5.here hx rfl (hb hby d13_53) rfl rfl k_) ?_
    show OEnds p e below s _ _ _ (T5.setTop (mkF m 54 #[.val (.ref x), .val (.int (own_hv vs_x))] [(.ref x)]))
    refine OEnds.via (fun _ k_ => XS.iloadN X5.here hx rfl (hb hby d13_54) rfl k_) ?_
    show OEnds p e below s _ _ _ (T5.setTop (mkF m 55 #[.val (.ref x), .val (.int (own_hv vs_x))] [(.int (own_hv vs_x)), (.ref x)]))
    obtain ⟨T8, h8, X8, e8, W8, st8⟩ := putF X5 hx hZ hown (host := "") (Or.inl (hw _ (List.mem_of_getElem? (i := 81) rfl))) Via.refl e5 F_hash_x E_x (Or.inl (hw _ (List.mem_of_getElem? (i := 82) rfl))) (hw _ (List.mem_of_getElem? (i := 5) rfl)) (ty := .int) (by decide) rfl rfl (g := (mkF m 55 #[.val (.ref x), .val (.int (own_hv vs_x))] [(.int (own_hv vs_x)), (.ref x)])) rfl rfl (hb hby d13_55)
    have N8 := Fr.snoc X8 N5 ge_x
    have ne_t_x_x : t_x ≠ x := (Ne.symm (Exa.neArv E_x K_x (hw _ (List.mem_of_getElem? (i := 5) rfl))))
    replace E_x := Exa.wr W8 E_x
    replace V_x := Fld.other W8 V_x (Or.inr (slot_ne (Or.inr (hw _ (List.mem_of_getElem? (i := 33) rfl))) (Or.inl (hw _ (List.mem_of_getElem? (i := 82) rfl))) (by decide) (t := (.array .byte)) (t' := .int) (by decide) (by decide)))
    replace C_x := Fld.other W8 C_x (Or.inr (slot_ne (Or.inr (hw _ (List.mem_of_getElem? (i := 31) rfl))) (Or.inl (hw _ (List.mem_of_getElem? (i := 82) rfl))) (by decide) (t := .byte) (t' := .int) (by decide) (by decide)))
    replace K_x := K_x.other W8 ne_t_x_x
    replace F_hash_x := Fld.same W8 F_hash_x
    replace F_hashIsZero_x := Fld.other W8 F_hashIsZero_x (Or.inr (slot_ne (Or.inl (hw _ (List.mem_of_getElem? (i := 84) rfl))) (Or.inl (hw _ (List.mem_of_getElem? (i := 82) rfl))) (by decide) (t := .boolean) (t' := .int) (by decide) (by decide)))
    replace Kp := Kp.wr W8 (Or.inl (by simp))
    refine OEnds.via (fun _ k_ => st8 _ k_) ?_
    show OEnds p e below s _ _ _ (T8.setTop (mkF m 58 #[.val (.ref x), .val (.int (own_hv vs_x))] []))
    refine OEnds.via (fun _ k_ => XS.iloadN X8.here hx rfl (hb hby d13_58) rfl k_) ?_
    show OEnds p e below s _ _ _ (T8.setTop (mkF m 59 #[.val (.ref x), .val (.int (own_hv vs_x))] [(.int (own_hv vs_x))]))
    refine OEnds.retI X8 hx hlk Bd.returns (hb hby d13_59) ?_ (by decide) (by decide)
    rw [e8]
    exact ⟨rfl, N8, Kp, E_x, V_x, C_x⟩
theorem d1_0 : decode method_2_code 0 = .ok (.iload_n 0, 1) := by decide +kernel
theorem d1_1 : decode method_2_code 1 = .ok (.sipush 255, 3) := by decide +kernel
theorem d1_4 : decode method_2_code 4 = .ok (.iand, 1) := by decide +kernel
theorem d1_5 : decode method_2_code 5 = .ok (.i2c, 1) := by decide +kernel
theorem d1_6 : decode method_2_code 6 = .ok (.istore_n 2, 1) := by decide +kernel
theorem d1_7 : decode method_2_code 7 = .ok (.iload_n 0, 1) := by decide +kernel
theorem d1_8 : decode method_2_code 8 = .ok (.bipush 8, 2) := by decide +kernel
theorem d1_10 : decode method_2_code 10 = .ok (.iushr, 1) := by decide +kernel
theorem d1_11 : decode method_2_code 11 = .ok (.sipush 255, 3) := by decide +kernel
theorem d1_14 : decode method_2_code 14 = .ok (.iand, 1) := by decide +kernel
theorem d1_15 : decode method_2_code 15 = .ok (.i2c, 1) := by decide +kernel
theorem d1_16 : decode method_2_code 16 = .ok (.istore_n 3, 1) := by decide +kernel
theorem d1_17 : decode method_2_code 17 = .ok (.iload_n 0, 1) := by decide +kernel
theorem d1_18 : decode method_2_code 18 = .ok (.bipush 16, 2) := by decide +kernel
theorem d1_20 : decode method_2_code 20 = .ok (.iushr, 1) := by decide +kernel
theorem d1_21 : decode method_2_code 21 = .ok (.sipush 255, 3) := by decide +kernel
theorem d1_24 : decode method_2_code 24 = .ok (.iand, 1) := by decide +kernel
theorem d1_25 : decode method_2_code 25 = .ok (.i2c, 1) := by decide +kernel
theorem d1_26 : decode method_2_code 26 = .ok (.istore 4, 2) := by decide +kernel
theorem d1_28 : decode method_2_code 28 = .ok (.iload_n 1, 1) := by decide +kernel
theorem d1_29 : decode method_2_code 29 = .ok (.ifCond .ne 14, 3) := by decide +kernel
theorem d1_32 : decode method_2_code 32 = .ok (.new 7, 3) := by decide +kernel
theorem d1_35 : decode method_2_code 35 = .ok (.dup, 1) := by decide +kernel
theorem d1_36 : decode method_2_code 36 = .ok (.iconst 0, 1) := by decide +kernel
theorem d1_37 : decode method_2_code 37 = .ok (.newarray .char, 2) := by decide +kernel
theorem d1_39 : decode method_2_code 39 = .ok (.invokespecial 9, 3) := by decide +kernel
theorem d1_42 : decode method_2_code 42 = .ok (.areturn, 1) := by decide +kernel
theorem d1_43 : decode method_2_code 43 = .ok (.iload_n 1, 1) := by decide +kernel
theorem d1_44 : decode method_2_code 44 = .ok (.iconst 1, 1) := by decide +kernel
theorem d1_45 : decode method_2_code 45 = .ok (.if_icmp .ne 18, 3) := by decide +kernel
theorem d1_48 : decode method_2_code 48 = .ok (.new 7, 3) := by decide +kernel
theorem d1_51 : decode method_2_code 51 = .ok (.dup, 1) := by decide +kernel
theorem d1_52 : decode method_2_code 52 = .ok (.iconst 1, 1) := by decide +kernel
theorem d1_53 : decode method_2_code 53 = .ok (.newarray .char, 2) := by decide +kernel
theorem d1_55 : decode method_2_code 55 = .ok (.dup, 1) := by decide +kernel
theorem d1_56 : decode method_2_code 56 = .ok (.iconst 0, 1) := by decide +kernel
theorem d1_57 : decode method_2_code 57 = .ok (.iload_n 2, 1) := by decide +kernel
theorem d1_58 : decode method_2_code 58 = .ok (.castore, 1) := by decide +kernel
theorem d1_59 : decode method_2_code 59 = .ok (.invokespecial 9, 3) := by decide +kernel
theorem d1_62 : decode method_2_code 62 = .ok (.areturn, 1) := by decide +kernel
theorem d1_63 : decode method_2_code 63 = .ok (.iload_n 1, 1) := by decide +kernel
theorem d1_64 : decode method_2_code 64 = .ok (.iconst 2, 1) := by decide +kernel
theorem d1_65 : decode method_2_code 65 = .ok (.if_icmp .ne 22, 3) := by decide +kernel
theorem d1_68 : decode method_2_code 68 = .ok (.new 7, 3) := by decide +kernel
theorem d1_71 : decode method_2_code 71 = .ok (.dup, 1) := by decide +kernel
theorem d1_72 : decode method_2_code 72 = .ok (.iconst 2, 1) := by decide +kernel
theorem d1_73 : decode method_2_code 73 = .ok (.newarray .char, 2) := by decide +kernel
theorem d1_75 : decode method_2_code 75 = .ok (.dup, 1) := by decide +kernel
theorem d1_76 : decode method_2_code 76 = .ok (.iconst 0, 1) := by decide +kernel
theorem d1_77 : decode method_2_code 77 = .ok (.iload_n 2, 1) := by decide +kernel
theorem d1_78 : decode method_2_code 78 = .ok (.castore, 1) := by decide +kernel
theorem d1_79 : decode method_2_code 79 = .ok (.dup, 1) := by decide +kernel
theorem d1_80 : decode method_2_code 80 = .ok (.iconst 1, 1) := by decide +kernel
theorem d1_81 : decode method_2_code 81 = .ok (.iload_n 3, 1) := by decide +kernel
theorem d1_82 : decode method_2_code 82 = .ok (.castore, 1) := by decide +kernel
theorem d1_83 : decode method_2_code 83 = .ok (.invokespecial 9, 3) := by decide +kernel
theorem d1_86 : decode method_2_code 86 = .ok (.areturn, 1) := by decide +kernel
theorem d1_87 : decode method_2_code 87 = .ok (.new 7, 3) := by decide +kernel
theorem d1_90 : decode method_2_code 90 = .ok (.dup, 1) := by decide +kernel
theorem d1_91 : decode method_2_code 91 = .ok (.iconst 3, 1) := by decide +kernel
theorem d1_92 : decode method_2_code 92 = .ok (.newarray .char, 2) := by decide +kernel
theorem d1_94 : decode method_2_code 94 = .ok (.dup, 1) := by decide +kernel
theorem d1_95 : decode method_2_code 95 = .ok (.iconst 0, 1) := by decide +kernel
theorem d1_96 : decode method_2_code 96 = .ok (.iload_n 2, 1) := by decide +kernel
theorem d1_97 : decode method_2_code 97 = .ok (.castore, 1) := by decide +kernel
theorem d1_98 : decode method_2_code 98 = .ok (.dup, 1) := by decide +kernel
theorem d1_99 : decode method_2_code 99 = .ok (.iconst 1, 1) := by decide +kernel
theorem d1_100 : decode method_2_code 100 = .ok (.iload_n 3, 1) := by decide +kernel
theorem d1_101 : decode method_2_code 101 = .ok (.castore, 1) := by decide +kernel
theorem d1_102 : decode method_2_code 102 = .ok (.dup, 1) := by decide +kernel
theorem d1_103 : decode method_2_code 103 = .ok (.iconst 2, 1) := by decide +kernel
theorem d1_104 : decode method_2_code 104 = .ok (.iload 4, 2) := by decide +kernel
theorem d1_106 : decode method_2_code 106 = .ok (.castore, 1) := by decide +kernel
theorem d1_107 : decode method_2_code 107 = .ok (.invokespecial 9, 3) := by decide +kernel
theorem d1_110 : decode method_2_code 110 = .ok (.areturn, 1) := by decide +kernel
theorem pn_com_example_ranked_settings_rankedsettings_LookupPlansGetPinLaw : plainName "com/example/ranked_settings/rankedsettings/LookupPlansGetPinLaw" = true := by first | (simp [plainName, overriddenIn]; done) | decide +kernel
def Q_rmS (Z : State) (bits : Int32) (nl : Int32) (G1 : Int32) (h0 : Heap) (n0 : Nat) (v : Option Value) (vm : Vm) (h : Heap) (L : List Loc) : Prop := ∃ (x t_x : Addr) (kb_x : ClassId) (nn_x : Int32) (vs_x : List Value), v = some (.ref x) ∧ Fr n0 L ∧ Keep h0 h [] ∧ n0 ≤ x ∧ h0.size ≤ x ∧ Safe Z consts_1 vm h x ∧ Exa Z h x "java/lang/String" ∧ Fld Z h x "java/lang/String" "value" "[B" (.ref t_x) ∧ Fld Z h x "java/lang/String" "coder" "B" (.int (0 : Int32)) ∧ Arv Z h t_x kb_x .byte nn_x vs_x (.int (0 : Int32)) ∧ own_op Z (own_cs bits nl) nn_x vs_x kb_x ∧ Fld Z h x "java/lang/String" "hash" "I" (.int (0 : Int32)) ∧ Fld Z h x "java/lang/String" "hashIsZero" "Z" (.int (0 : Int32))
theorem pd_285bC29V : parseMethodDescriptor "([C)V" = some ⟨[(.array .char)], none⟩ := by decide +kernel
set_option maxRecDepth 65536 in
set_option maxHeartbeats 40000000 in
theorem rmS (l : Launch) (Z : State) (a0 : Array Value) (hw : ∀ d ∈ tables_1, d.before a0 Z = true) (ws : List Jvm.Cond) (bits : Int32) (nl : Int32) (G1 : Int32) (h0 : Heap) (n0 : Nat) (O0 : Old Z n0 h0) (S_CS : Sta Z Z.heap "java/lang/String" "COMPACT_STRINGS" "Z" (.int G1)) (nz_CS : ¬ (G1 = (0 : Int32))) :
    MetFree l (⟨"com/example/ranked_settings/rankedsettings/LookupPlansGetPinLaw", "str", "(II)Ljava/lang/String;"⟩ : MethodName) (head1 (Jvm.Cond.code (⟨"com/example/ranked_settings/rankedsettings/LookupPlansGetPinLaw", "str", "(II)Ljava/lang/String;"⟩ : MethodName) method_2_code 5 (some (.object "java/lang/String")) :: ws) ({ frames := 5, cells := 8, slots := 32, locals := 120 } : Room)) (fun ar' U => ar' = #[(.int bits), (.int nl)] ∧ Z.Warmed39 U.vm ∧ U.heap = h0 ∧ CHv Z consts_1 U.vm h0) (fun _ _ _ _ _ => True) (fun _ U o U' => ∃ v L, o = .returned v ∧ (Q_rmS Z bits nl G1 h0 n0) v U'.vm U'.heap L ∧ CHr Z consts_1 U.vm U.heap U'.vm U'.heap ∧ ReturnedEndW U o U' L ({ frames := 5, cells := 8, slots := 32, locals := 120 } : Room).cells ({ frames := 5, cells := 8, slots := 32, locals := 120 } : Room).slots) := by
  refine MetFree.of_bodySF (plainFor_of_name pn_com_example_ranked_settings_rankedsettings_LookupPlansGetPinLaw) hisR ?_
  intro p e s m args below meth c s₁ Bd hml0 hP hK
  obtain ⟨rfl, hZ, hh, hCH0⟩ := hP
  have hx := Bd.exec
  have hby := Bd.bytes
  have hlk := BodyLoose.notSynchronized Bd
  have hml : c.maxLocals = 5 := hml0
  have hown : s.vm.findClass "com/example/ranked_settings/rankedsettings/LookupPlansGetPinLaw" = some m.cls := findClass_of_methodNamed Bd.named
  have hnm := (name_of_methodNamed Bd.named Bd.method).1
  have X0 : Stand p l e ({ frames := 5, cells := 8, slots := 32, locals := 120 } : Room) (s.setVm s.vm) m #[(.int bits), (.int nl)] below meth c s₁ [] 0 0 := Stand.of_body Bd
  have e0 : s₁.heap = h0 := by rw [← hh, Bd.state]; rfl
  have N0 := Fr.nil n0
  have Z0 : n0 ≤ h0.size := O0.1 ▸ O0.2.1
  have hEL : EW Z a0 consts_1 := own_EW hw
  have wS := own_wS hw
  have es : s.heap = h0 := hh
  have hS : s.Since s.vm h0.size := (State.WarmedH.refl s).since _
  have hk : h0.size ≤ h0.size := Nat.le_refl _
  have CR : CHr Z consts_1 s.vm h0 s.vm h0 := CHr.refl hCH0
  show OEndsW p e below s Z consts_1 ({ frames := 5, cells := 8, slots := 32, locals := 120 } : Room).cells ({ frames := 5, cells := 8, slots := 32, locals := 120 } : Room).slots (Q_rmS Z bits nl G1 h0 n0) (s₁.setTop (entryFrame m #[(.int bits), (.int nl)] 5))
  refine OEndsW.via (fun _ k_ => castTop (show entryFrame m #[(.int bits), (.int nl)] 5 = (mkF m 0 #[.val (.int bits), .val (.int nl), .unset, .unset, .unset] []) by first | (simp [entryFrame, mkF, argsToLocals, Value.category, maxLocals]; done) | rfl) k_) ?_
  have hws : ∀ d ∈ StrChars.Road.words, d.before a0 Z = true := fun d hd => hw d ((by decide +kernel : ∀ d ∈ StrChars.Road.words, d ∈ tables_1) d hd)
  have Od := O0
  have Kp := Keep.refl h0 []
  show OEndsW p e below s _ _ _ _ _ (s₁.setTop (mkF m 0 #[.val (.int bits), .val (.int nl), .unset, .unset, .unset] []))
  refine OEndsW.via (fun _ k_ => XS.iloadN X0.here hx rfl (hb hby d1_0) rfl k_) ?_
  show OEndsW p e below s _ _ _ _ _ (s₁.setTop (mkF m 1 #[.val (.int bits), .val (.int nl), .unset, .unset, .unset] [(.int bits)]))
  refine OEndsW.via (fun _ k_ => XS.sipush X0.here hx rfl (hb hby d1_1) k_) ?_
  show OEndsW p e below s _ _ _ _ _ (s₁.setTop (mkF m 4 #[.val (.int bits), .val (.int nl), .unset, .unset, .unset] [(.int (255 : Int32)), (.int bits)]))
  refine OEndsW.via (fun _ k_ => XS.iand X0.here hx rfl (hb hby d1_4) rfl k_) ?_
  show OEndsW p e below s _ _ _ _ _ (s₁.setTop (mkF m 5 #[.val (.int bits), .val (.int nl), .unset, .unset, .unset] [(.int (bits &&& (255 : Int32)))]))
  refine OEndsW.via (fun _ k_ => XS.i2c X0.here hx rfl (hb hby d1_5) rfl k_) ?_
  show OEndsW p e below s _ _ _ _ _ (s₁.setTop (mkF m 6 #[.val (.int bits), .val (.int nl), .unset, .unset, .unset] [(.int ((bits &&& (255 : Int32)).toUInt32.toUInt16.toUInt32.toInt32))]))
  refine OEndsW.via (fun _ k_ => XS.istoreN X0.here hx rfl (hb hby d1_6) rfl (l' := #[.val (.int bits), .val (.int nl), .val (.int ((bits &&& (255 : Int32)).toUInt32.toUInt16.toUInt32.toInt32)), .unset, .unset]) rfl k_) ?_
  show OEndsW p e below s _ _ _ _ _ (s₁.setTop (mkF m 7 #[.val (.int bits), .val (.int nl), .val (.int ((bits &&& (255 : Int32)).toUInt32.toUInt16.toUInt32.toInt32)), .unset, .unset] []))
  refine OEndsW.via (fun _ k_ => XS.iloadN X0.here hx rfl (hb hby d1_7) rfl k_) ?_
  show OEndsW p e below s _ _ _ _ _ (s₁.setTop (mkF m 8 #[.val (.int bits), .val (.int nl), .val (.int ((bits &&& (255 : Int32)).toUInt32.toUInt16.toUInt32.toInt32)), .unset, .unset] [(.int bits)]))
  refine OEndsW.via (fun _ k_ => XS.bipush X0.here hx rfl (hb hby d1_8) k_) ?_
  show OEndsW p e below s _ _ _ _ _ (s₁.setTop (mkF m 10 #[.val (.int bits), .val (.int nl), .val (.int ((bits &&& (255 : Int32)).toUInt32.toUInt16.toUInt32.toInt32)), .unset, .unset] [(.int (8 : Int32)), (.int bits)]))
  refine OEndsW.via (fun _ k_ => XS.iushr X0.here hx rfl (hb hby d1_10) rfl k_) ?_
  show OEndsW p e below s _ _ _ _ _ (s₁.setTop (mkF m 11 #[.val (.int bits), .val (.int nl), .val (.int ((bits &&& (255 : Int32)).toUInt32.toUInt16.toUInt32.toInt32)), .unset, .unset] [(.int ((bits.toUInt32 >>> ((8 : Int32) &&& 31).toUInt32).toInt32))]))
  refine OEndsW.via (fun _ k_ => XS.sipush X0.here hx rfl (hb hby d1_11) k_) ?_
  show OEndsW p e below s _ _ _ _ _ (s₁.setTop (mkF m 14 #[.val (.int bits), .val (.int nl), .val (.int ((bits &&& (255 : Int32)).toUInt32.toUInt16.toUInt32.toInt32)), .unset, .unset] [(.int (255 : Int32)), (.int ((bits.toUInt32 >>> ((8 : Int32) &&& 31).toUInt32).toInt32))]))
  refine OEndsW.via (fun _ k_ => XS.iand X0.here hx rfl (hb hby d1_14) rfl k_) ?_
  show OEndsW p e below s _ _ _ _ _ (s₁.setTop (mkF m 15 #[.val (.int bits), .val (.int nl), .val (.int ((bits &&& (255 : Int32)).toUInt32.toUInt16.toUInt32.toInt32)), .unset, .unset] [(.int (((bits.toUInt32 >>> ((8 : Int32) &&& 31).toUInt32).toInt32) &&& (255 : Int32)))]))
  refine OEndsW.via (fun _ k_ => XS.i2c X0.here hx rfl (hb hby d1_15) rfl k_) ?_
  show OEndsW p e below s _ _ _ _ _ (s₁.setTop (mkF m 16 #[.val (.int bits), .val (.int nl), .val (.int ((bits &&& (255 : Int32)).toUInt32.toUInt16.toUInt32.toInt32)), .unset, .unset] [(.int ((((bits.toUInt32 >>> ((8 : Int32) &&& 31).toUInt32).toInt32) &&& (255 : Int32)).toUInt32.toUInt16.toUInt32.toInt32))]))
  refine OEndsW.via (fun _ k_ => XS.istoreN X0.here hx rfl (hb hby d1_16) rfl (l' := #[.val (.int bits), .val (.int nl), .val (.int ((bits &&& (255 : Int32)).toUInt32.toUInt16.toUInt32.toInt32)), .val (.int ((((bits.toUInt32 >>> ((8 : Int32) &&& 31).toUInt32).toInt32) &&& (255 : Int32)).toUInt32.toUInt16.toUInt32.toInt32)), .unset]) rfl k_) ?_
  show OEndsW p e below s _ _ _ _ _ (s₁.setTop (mkF m 17 #[.val (.int bits), .val (.int nl), .val (.int ((bits &&& (255 : Int32)).toUInt32.toUInt16.toUInt32.toInt32)), .val (.int ((((bits.toUInt32 >>> ((8 : Int32) &&& 31).toUInt32).toInt32) &&& (255 : Int32)).toUInt32.toUInt16.toUInt32.toInt32)), .unset] []))
  refine OEndsW.via (fun _ k_ => XS.iloadN X0.here hx rfl (hb hby d1_17) rfl k_) ?_
  show OEndsW p e below s _ _ _ _ _ (s₁.setTop (mkF m 18 #[.val (.int bits), .val (.int nl), .val (.int ((bits &&& (255 : Int32)).toUInt32.toUInt16.toUInt32.toInt32)), .val (.int ((((bits.toUInt32 >>> ((8 : Int32) &&& 31).toUInt32).toInt32) &&& (255 : Int32)).toUInt32.toUInt16.toUInt32.toInt32)), .unset] [(.int bits)]))
  refine OEndsW.via (fun _ k_ => XS.bipush X0.here hx rfl (hb hby d1_18) k_) ?_
  show OEndsW p e below s _ _ _ _ _ (s₁.setTop (mkF m 20 #[.val (.int bits), .val (.int nl), .val (.int ((bits &&& (255 : Int32)).toUInt32.toUInt16.toUInt32.toInt32)), .val (.int ((((bits.toUInt32 >>> ((8 : Int32) &&& 31).toUInt32).toInt32) &&& (255 : Int32)).toUInt32.toUInt16.toUInt32.toInt32)), .unset] [(.int (16 : Int32)), (.int bits)]))
  refine OEndsW.via (fun _ k_ => XS.iushr X0.here hx rfl (hb hby d1_20) rfl k_) ?_
  show OEndsW p e below s _ _ _ _ _ (s₁.setTop (mkF m 21 #[.val (.int bits), .val (.int nl), .val (.int ((bits &&& (255 : Int32)).toUInt32.toUInt16.toUInt32.toInt32)), .val (.int ((((bits.toUInt32 >>> ((8 : Int32) &&& 31).toUInt32).toInt32) &&& (255 : Int32)).toUInt32.toUInt16.toUInt32.toInt32)), .unset] [(.int ((bits.toUInt32 >>> ((16 : Int32) &&& 31).toUInt32).toInt32))]))
  refine OEndsW.via (fun _ k_ => XS.sipush X0.here hx rfl (hb hby d1_21) k_) ?_
  show OEndsW p e below s _ _ _ _ _ (s₁.setTop (mkF m 24 #[.val (.int bits), .val (.int nl), .val (.int ((bits &&& (255 : Int32)).toUInt32.toUInt16.toUInt32.toInt32)), .val (.int ((((bits.toUInt32 >>> ((8 : Int32) &&& 31).toUInt32).toInt32) &&& (255 : Int32)).toUInt32.toUInt16.toUInt32.toInt32)), .unset] [(.int (255 : Int32)), (.int ((bits.toUInt32 >>> ((16 : Int32) &&& 31).toUInt32).toInt32))]))
  refine OEndsW.via (fun _ k_ => XS.iand X0.here hx rfl (hb hby d1_24) rfl k_) ?_
  show OEndsW p e below s _ _ _ _ _ (s₁.setTop (mkF m 25 #[.val (.int bits), .val (.int nl), .val (.int ((bits &&& (255 : Int32)).toUInt32.toUInt16.toUInt32.toInt32)), .val (.int ((((bits.toUInt32 >>> ((8 : Int32) &&& 31).toUInt32).toInt32) &&& (255 : Int32)).toUInt32.toUInt16.toUInt32.toInt32)), .unset] [(.int (((bits.toUInt32 >>> ((16 : Int32) &&& 31).toUInt32).toInt32) &&& (255 : Int32)))]))
  refine OEndsW.via (fun _ k_ => XS.i2c X0.here hx rfl (hb hby d1_25) rfl k_) ?_
  show OEndsW p e below s _ _ _ _ _ (s₁.setTop (mkF m 26 #[.val (.int bits), .val (.int nl), .val (.int ((bits &&& (255 : Int32)).toUInt32.toUInt16.toUInt32.toInt32)), .val (.int ((((bits.toUInt32 >>> ((8 : Int32) &&& 31).toUInt32).toInt32) &&& (255 : Int32)).toUInt32.toUInt16.toUInt32.toInt32)), .unset] [(.int ((((bits.toUInt32 >>> ((16 : Int32) &&& 31).toUInt32).toInt32) &&& (255 : Int32)).toUInt32.toUInt16.toUInt32.toInt32))]))
  refine OEndsW.via (fun _ k_ => XS.istore X0.here hx rfl (hb hby d1_26) rfl (l' := #[.val (.int bits), .val (.int nl), .val (.int ((bits &&& (255 : Int32)).toUInt32.toUInt16.toUInt32.toInt32)), .val (.int ((((bits.toUInt32 >>> ((8 : Int32) &&& 31).toUInt32).toInt32) &&& (255 : Int32)).toUInt32.toUInt16.toUInt32.toInt32)), .val (.int ((((bits.toUInt32 >>> ((16 : Int32) &&& 31).toUInt32).toInt32) &&& (255 : Int32)).toUInt32.toUInt16.toUInt32.toInt32))]) rfl k_) ?_
  show OEndsW p e below s _ _ _ _ _ (s₁.setTop (mkF m 28 #[.val (.int bits), .val (.int nl), .val (.int ((bits &&& (255 : Int32)).toUInt32.toUInt16.toUInt32.toInt32)), .val (.int ((((bits.toUInt32 >>> ((8 : Int32) &&& 31).toUInt32).toInt32) &&& (255 : Int32)).toUInt32.toUInt16.toUInt32.toInt32)), .val (.int ((((bits.toUInt32 >>> ((16 : Int32) &&& 31).toUInt32).toInt32) &&& (255 : Int32)).toUInt32.toUInt16.toUInt32.toInt32))] []))
  refine OEndsW.via (fun _ k_ => XS.iloadN X0.here hx rfl (hb hby d1_28) rfl k_) ?_
  show OEndsW p e below s _ _ _ _ _ (s₁.setTop (mkF m 29 #[.val (.int bits), .val (.int nl), .val (.int ((bits &&& (255 : Int32)).toUInt32.toUInt16.toUInt32.toInt32)), .val (.int ((((bits.toUInt32 >>> ((8 : Int32) &&& 31).toUInt32).toInt32) &&& (255 : Int32)).toUInt32.toUInt16.toUInt32.toInt32)), .val (.int ((((bits.toUInt32 >>> ((16 : Int32) &&& 31).toUInt32).toInt32) &&& (255 : Int32)).toUInt32.toUInt16.toUInt32.toInt32))] [(.int nl)]))
  by_cases hc29_0 : nl = (0 : Int32)
  · skip
    refine OEndsW.via (fun _ k_ => XS.ifNo X0.here hx rfl (hb hby d1_29) rfl ((if0 _ _).trans (teq hc29_0).2) k_) ?_
    show OEndsW p e below s _ _ _ _ _ (s₁.setTop (mkF m 32 #[.val (.int bits), .val (.int nl), .val (.int ((bits &&& (255 : Int32)).toUInt32.toUInt16.toUInt32.toInt32)), .val (.int ((((bits.toUInt32 >>> ((8 : Int32) &&& 31).toUInt32).toInt32) &&& (255 : Int32)).toUInt32.toUInt16.toUInt32.toInt32)), .val (.int ((((bits.toUInt32 >>> ((16 : Int32) &&& 31).toUInt32).toInt32) &&& (255 : Int32)).toUInt32.toUInt16.toUInt32.toInt32))] []))
    obtain ⟨T2, h2, X2, e2, E2, A2, D2, -, st2⟩ := newO X0 hx hZ hown (hw _ (List.mem_of_getElem? (i := 4) rfl)) (hw _ (List.mem_of_getElem? (i := 5) rfl)) (hw _ (List.mem_of_getElem? (i := 6) rfl)) e0 (g := (mkF m 32 #[.val (.int bits), .val (.int nl), .val (.int ((bits &&& (255 : Int32)).toUInt32.toUInt16.toUInt32.toInt32)), .val (.int ((((bits.toUInt32 >>> ((8 : Int32) &&& 31).toUInt32).toInt32) &&& (255 : Int32)).toUInt32.toUInt16.toUInt32.toInt32)), .val (.int ((((bits.toUInt32 >>> ((16 : Int32) &&& 31).toUInt32).toInt32) &&& (255 : Int32)).toUInt32.toUInt16.toUInt32.toInt32))] [])) rfl (hb hby d1_32) (by decide) (by decide)
    obtain ⟨b2, g2⟩ : ∃ z, z = h0.size := ⟨_, rfl⟩
    have ge_b2 : n0 ≤ b2 := Nat.le_trans (Od.1 ▸ Od.2.1) (Nat.le_of_eq g2.symm)
    have sz_b2 : h0.size ≤ b2 := Nat.le_trans Kp.1 (Nat.le_of_eq g2.symm)
    have sf_b2 : Safe Z consts_1 _ h0 b2 := Safe.new (EL := consts_1) (vm := s.vm) (Nat.le_of_eq g2.symm)
    rw [← g2] at A2 D2 st2
    replace hk := Nat.le_trans hk E2.1
    replace Od := Od.ext E2
    replace Kp := Kp.ext E2
    replace sf_b2 := Safe.ext E2 CR.1 sf_b2
    replace CR := CR.trans (CHr.ext E2 CR.1)
    have E_b2 : Exa Z h2 b2 "java/lang/String" := A2
    have F_coder_b2 : Fld Z h2 b2 "java/lang/String" "coder" "B" (.int (0 : Int32)) := D2 (Or.inr (hw _ (List.mem_of_getElem? (i := 31) rfl))) (ty := .byte) (by decide)
    have F_value_b2 : Fld Z h2 b2 "java/lang/String" "value" "[B" .null := D2 (Or.inr (hw _ (List.mem_of_getElem? (i := 33) rfl))) (ty := (.array .byte)) (by decide)
    have F_hash_b2 : Fld Z h2 b2 "java/lang/String" "hash" "I" (.int (0 : Int32)) := D2 (Or.inl (hw _ (List.mem_of_getElem? (i := 82) rfl))) (ty := .int) (by decide)
    have F_hashIsZero_b2 : Fld Z h2 b2 "java/lang/String" "hashIsZero" "Z" (.int (0 : Int32)) := D2 (Or.inl (hw _ (List.mem_of_getElem? (i := 84) rfl))) (ty := .boolean) (by decide)
    refine OEndsW.via (fun _ k_ => st2 _ k_) ?_
    show OEndsW p e below s _ _ _ _ _ (T2.setTop (mkF m 35 #[.val (.int bits), .val (.int nl), .val (.int ((bits &&& (255 : Int32)).toUInt32.toUInt16.toUInt32.toInt32)), .val (.int ((((bits.toUInt32 >>> ((8 : Int32) &&& 31).toUInt32).toInt32) &&& (255 : Int32)).toUInt32.toUInt16.toUInt32.toInt32)), .val (.int ((((bits.toUInt32 >>> ((16 : Int32) &&& 31).toUInt32).toInt32) &&& (255 : Int32)).toUInt32.toUInt16.toUInt32.toInt32))] [(.ref b2)]))
    refine OEndsW.via (fun _ k_ => XS.dup X2.here hx rfl (hb hby d1_35) rfl rfl k_) ?_
    show OEndsW p e below s _ _ _ _ _ (T2.setTop (mkF m 36 #[.val (.int bits), .val (.int nl), .val (.int ((bits &&& (255 : Int32)).toUInt32.toUInt16.toUInt32.toInt32)), .val (.int ((((bits.toUInt32 >>> ((8 : Int32) &&& 31).toUInt32).toInt32) &&& (255 : Int32)).toUInt32.toUInt16.toUInt32.toInt32)), .val (.int ((((bits.toUInt32 >>> ((16 : Int32) &&& 31).toUInt32).toInt32) &&& (255 : Int32)).toUInt32.toUInt16.toUInt32.toInt32))] [(.ref b2), (.ref b2)]))
    refine OEndsW.via (fun _ k_ => XS.iconst X2.here hx rfl (hb hby d1_36) k_) ?_
    show OEndsW p e below s _ _ _ _ _ (T2.setTop (mkF m 37 #[.val (.int bits), .val (.int nl), .val (.int ((bits &&& (255 : Int32)).toUInt32.toUInt16.toUInt32.toInt32)), .val (.int ((((bits.toUInt32 >>> ((8 : Int32) &&& 31).toUInt32).toInt32) &&& (255 : Int32)).toUInt32.toUInt16.toUInt32.toInt32)), .val (.int ((((bits.toUInt32 >>> ((16 : Int32) &&& 31).toUInt32).toInt32) &&& (255 : Int32)).toUInt32.toUInt16.toUInt32.toInt32))] [(.int (0 : Int32)), (.ref b2), (.ref b2)]))
    obtain ⟨T3, h3, k3, X3, e3, E3, A3, st3⟩ := newP X2 hx hZ (hw _ (List.mem_of_getElem? (i := 7) rfl)) e2 (g := (mkF m 37 #[.val (.int bits), .val (.int nl), .val (.int ((bits &&& (255 : Int32)).toUInt32.toUInt16.toUInt32.toInt32)), .val (.int ((((bits.toUInt32 >>> ((8 : Int32) &&& 31).toUInt32).toInt32) &&& (255 : Int32)).toUInt32.toUInt16.toUInt32.toInt32)), .val (.int ((((bits.toUInt32 >>> ((16 : Int32) &&& 31).toUInt32).toInt32) &&& (255 : Int32)).toUInt32.toUInt16.toUInt32.toInt32))] [(.int (0 : Int32)), (.ref b2), (.ref b2)])) rfl (hb hby d1_37) rfl (by decide) (cap := 0) (by decide) (by decide) (by decide) (by decide)
    obtain ⟨b3, g3⟩ : ∃ z, z = h2.size := ⟨_, rfl⟩
    have ne_b2_b3 : b2 ≠ b3 := Nat.ne_of_lt (Nat.lt_of_lt_of_le E_b2.lt (Nat.le_of_eq g3.symm))
    have ge_b3 : n0 ≤ b3 := Nat.le_trans (Od.1 ▸ Od.2.1) (Nat.le_of_eq g3.symm)
    have sz_b3 : h0.size ≤ b3 := Nat.le_trans Kp.1 (Nat.le_of_eq g3.symm)
    have sf_b3 : Safe Z consts_1 _ h2 b3 := Safe.new (EL := consts_1) (vm := s.vm) (Nat.le_of_eq g3.symm)
    rw [← g3] at A3 st3
    replace hk := Nat.le_trans hk E3.1
    replace Od := Od.ext E3
    replace Kp := Kp.ext E3
    replace sf_b2 := Safe.ext E3 CR.1 sf_b2
    replace E_b2 := Exa.ext E3 E_b2
    replace F_coder_b2 := Fld.ext E3 F_coder_b2
    replace F_value_b2 := Fld.ext E3 F_value_b2
    replace F_hash_b2 := Fld.ext E3 F_hash_b2
    replace F_hashIsZero_b2 := Fld.ext E3 F_hashIsZero_b2
    replace sf_b3 := Safe.ext E3 CR.1 sf_b3
    replace CR := CR.trans (CHr.ext E3 CR.1)
    have V_b3 : Arv Z h3 b3 k3 .char (0 : Int32) [] (.int (0 : Int32)) := (Arv.new A3 (by decide)).pad (pad_rep [] (.int (0 : Int32)) 0)
    refine OEndsW.via (fun _ k_ => st3 _ k_) ?_
    show OEndsW p e below s _ _ _ _ _ (T3.setTop (mkF m 39 #[.val (.int bits), .val (.int nl), .val (.int ((bits &&& (255 : Int32)).toUInt32.toUInt16.toUInt32.toInt32)), .val (.int ((((bits.toUInt32 >>> ((8 : Int32) &&& 31).toUInt32).toInt32) &&& (255 : Int32)).toUInt32.toUInt16.toUInt32.toInt32)), .val (.int ((((bits.toUInt32 >>> ((16 : Int32) &&& 31).toUInt32).toInt32) &&& (255 : Int32)).toUInt32.toUInt16.toUInt32.toInt32))] [(.ref b3), (.ref b2), (.ref b2)]))
    obtain ⟨_, _, ⟨T4, L4, k4, n4⟩, -, X4, S4, G4, ⟨Lc4, hQ4, l4, y4, z4, CH4⟩, st4⟩ := X3.specialBackS hx (y := (⟨"java/lang/String", "<init>", "([C)V"⟩ : MethodName)) rfl hown (mvT hZ (hw _ (List.mem_of_getElem? (i := 8) rfl))) (mvT hZ (hw _ (List.mem_of_getElem? (i := 9) rfl))) (mvT hZ (hw _ (List.mem_of_getElem? (i := 10) rfl))) (by decide) (own_backOfSV (W := 1) (rmE1 l Z a0 hw [] b2 b3 k3 (.int (0 : Int32)) h3 n0 Od F_value_b2 F_coder_b2 F_hash_b2 F_hashIsZero_b2 E_b2 ge_b2 V_b3) hZ (hw _ (List.mem_of_getElem? (i := 10) rfl)) (hw _ (List.mem_of_getElem? (i := 6) rfl)) (by decide) (by decide) hEL CR.1) (g := (mkF m 39 #[.val (.int bits), .val (.int nl), .val (.int ((bits &&& (255 : Int32)).toUInt32.toUInt16.toUInt32.toInt32)), .val (.int ((((bits.toUInt32 >>> ((8 : Int32) &&& 31).toUInt32).toInt32) &&& (255 : Int32)).toUInt32.toUInt16.toUInt32.toInt32)), .val (.int ((((bits.toUInt32 >>> ((16 : Int32) &&& 31).toUInt32).toInt32) &&& (255 : Int32)).toUInt32.toUInt16.toUInt32.toInt32))] [(.ref b3), (.ref b2), (.ref b2)])) rfl (by rw [hml]; rfl) (Steps.refl _) (a := b2) (argsL := [(.ref b3)]) (rest := [(.ref b2)]) (lenOf pd_285bC29V rfl) rfl (by show 2 * 0 + _ ≤ _; exact Nat.le_of_eq rfl) (hb hby d1_39) (fun _ _ => ⟨rfl, e3, Nat.le_of_ble_eq_true rfl, Nat.le_of_ble_eq_true rfl⟩)
    dsimp only [Pt.U, Pt.locs, Pt.cells, Pt.slots] at X4 S4 G4 l4 y4 z4 st4 hQ4 CH4
    subst l4 y4 z4
    replace sf_b2 := CH4.safe E_b2.lt sf_b2
    replace sf_b3 := CH4.safe V_b3.lt sf_b3
    obtain ⟨X4, hS, hZ, hown⟩ := rebS hS (by rw [e3]; exact hk) X4 S4 G4 hZ hown
    replace CR := CR.trans CH4
    replace hk := Nat.le_refl T4.heap.size
    obtain ⟨rfl, N4q, K4, sfn4, t_b2, kb_b2, E4x, V_b2, C_b2, K_b2, F_hash_b2, F_hashIsZero_b2⟩ := hQ4
    have N4 := Fr.app N0 N4q
    replace Od := Od.keep K4 (allS ge_b2 all0)
    replace Kp := Kp.trans K4 (allS (Or.inr sz_b2) all0)
    replace E_b2 := E_b2.keep K4
    replace V_b3 := V_b3.keep K4 (ninS (Ne.symm ne_b2_b3) nin0)
    refine OEndsW.via (fun _ k_ => st4.trans k_) ?_
    show OEndsW p e below s _ _ _ _ _ (T4.setTop (mkF m 42 #[.val (.int bits), .val (.int nl), .val (.int ((bits &&& (255 : Int32)).toUInt32.toUInt16.toUInt32.toInt32)), .val (.int ((((bits.toUInt32 >>> ((8 : Int32) &&& 31).toUInt32).toInt32) &&& (255 : Int32)).toUInt32.toUInt16.toUInt32.toInt32)), .val (.int ((((bits.toUInt32 >>> ((16 : Int32) &&& 31).toUInt32).toInt32) &&& (255 : Int32)).toUInt32.toUInt16.toUInt32.toInt32))] [(.ref b2)]))
    refine OEndsW.retR X4 hx hlk hS hk hZ hEL rfl es CR Bd.returns rfl rfl (hb hby d1_42) ?_ (by decide) (by decide)
    have sfE := (CHv.at X4 hZ hEL CR.1).safe E_b2.lt sfn4
    have hcs : own_cs bits nl = ([] : List Int32) := by simp only [own_cs, if_pos hc29_0]
    have hpx : own_op Z (own_cs bits nl) (0 : Int32) [] kb_b2 := by rw [hcs]; exact ⟨Or.inl ⟨rfl, rfl, rfl, fun _ q => nomatch q⟩, Or.inl ⟨rfl, rfl⟩, Or.inl rfl, own_all0, by decide⟩
    exact ⟨b2, t_b2, kb_b2, _, _, rfl, N4, Kp, ge_b2, sz_b2, sfE, E_b2, V_b2, C_b2, K_b2, hpx, F_hash_b2, F_hashIsZero_b2⟩
  · skip
    refine OEndsW.via (fun _ k_ => XS.ifYes X0.here hx rfl (pc0 := 29) (pc' := 43) rfl (hb hby d1_29) rfl ((if0 _ _).trans (feq hc29_0).2) (by decide) (by decide) k_) ?_
    show OEndsW p e below s _ _ _ _ _ (s₁.setTop (mkF m 43 #[.val (.int bits), .val (.int nl), .val (.int ((bits &&& (255 : Int32)).toUInt32.toUInt16.toUInt32.toInt32)), .val (.int ((((bits.toUInt32 >>> ((8 : Int32) &&& 31).toUInt32).toInt32) &&& (255 : Int32)).toUInt32.toUInt16.toUInt32.toInt32)), .val (.int ((((bits.toUInt32 >>> ((16 : Int32) &&& 31).toUInt32).toInt32) &&& (255 : Int32)).toUInt32.toUInt16.toUInt32.toInt32))] []))
    refine OEndsW.via (fun _ k_ => XS.iloadN X0.here hx rfl (hb hby d1_43) rfl k_) ?_
    show OEndsW p e below s _ _ _ _ _ (s₁.setTop (mkF m 44 #[.val (.int bits), .val (.int nl), .val (.int ((bits &&& (255 : Int32)).toUInt32.toUInt16.toUInt32.toInt32)), .val (.int ((((bits.toUInt32 >>> ((8 : Int32) &&& 31).toUInt32).toInt32) &&& (255 : Int32)).toUInt32.toUInt16.toUInt32.toInt32)), .val (.int ((((bits.toUInt32 >>> ((16 : Int32) &&& 31).toUInt32).toInt32) &&& (255 : Int32)).toUInt32.toUInt16.toUInt32.toInt32))] [(.int nl)]))
    refine OEndsW.via (fun _ k_ => XS.iconst X0.here hx rfl (hb hby d1_44) k_) ?_
    show OEndsW p e below s _ _ _ _ _ (s₁.setTop (mkF m 45 #[.val (.int bits), .val (.int nl), .val (.int ((bits &&& (255 : Int32)).toUInt32.toUInt16.toUInt32.toInt32)), .val (.int ((((bits.toUInt32 >>> ((8 : Int32) &&& 31).toUInt32).toInt32) &&& (255 : Int32)).toUInt32.toUInt16.toUInt32.toInt32)), .val (.int ((((bits.toUInt32 >>> ((16 : Int32) &&& 31).toUInt32).toInt32) &&& (255 : Int32)).toUInt32.toUInt16.toUInt32.toInt32))] [(.int (1 : Int32)), (.int nl)]))
    by_cases hc45_4 : nl = (1 : Int32)
    · skip
      refine OEndsW.via (fun _ k_ => XS.icmpNo X0.here hx rfl (hb hby d1_45) rfl (teq hc45_4).2 k_) ?_
      show OEndsW p e below s _ _ _ _ _ (s₁.setTop (mkF m 48 #[.val (.int bits), .val (.int nl), .val (.int ((bits &&& (255 : Int32)).toUInt32.toUInt16.toUInt32.toInt32)), .val (.int ((((bits.toUInt32 >>> ((8 : Int32) &&& 31).toUInt32).toInt32) &&& (255 : Int32)).toUInt32.toUInt16.toUInt32.toInt32)), .val (.int ((((bits.toUInt32 >>> ((16 : Int32) &&& 31).toUInt32).toInt32) &&& (255 : Int32)).toUInt32.toUInt16.toUInt32.toInt32))] []))
      obtain ⟨T6, h6, X6, e6, E6, A6, D6, -, st6⟩ := newO X0 hx hZ hown (hw _ (List.mem_of_getElem? (i := 4) rfl)) (hw _ (List.mem_of_getElem? (i := 5) rfl)) (hw _ (List.mem_of_getElem? (i := 6) rfl)) e0 (g := (mkF m 48 #[.val (.int bits), .val (.int nl), .val (.int ((bits &&& (255 : Int32)).toUInt32.toUInt16.toUInt32.toInt32)), .val (.int ((((bits.toUInt32 >>> ((8 : Int32) &&& 31).toUInt32).toInt32) &&& (255 : Int32)).toUInt32.toUInt16.toUInt32.toInt32)), .val (.int ((((bits.toUInt32 >>> ((16 : Int32) &&& 31).toUInt32).toInt32) &&& (255 : Int32)).toUInt32.toUInt16.toUInt32.toInt32))] [])) rfl (hb hby d1_48) (by decide) (by decide)
      obtain ⟨b6, g6⟩ : ∃ z, z = h0.size := ⟨_, rfl⟩
      have ge_b6 : n0 ≤ b6 := Nat.le_trans (Od.1 ▸ Od.2.1) (Nat.le_of_eq g6.symm)
      have sz_b6 : h0.size ≤ b6 := Nat.le_trans Kp.1 (Nat.le_of_eq g6.symm)
      have sf_b6 : Safe Z consts_1 _ h0 b6 := Safe.new (EL := consts_1) (vm := s.vm) (Nat.le_of_eq g6.symm)
      rw [← g6] at A6 D6 st6
      replace hk := Nat.le_trans hk E6.1
      replace Od := Od.ext E6
      replace Kp := Kp.ext E6
      replace sf_b6 := Safe.ext E6 CR.1 sf_b6
      replace CR := CR.trans (CHr.ext E6 CR.1)
      have E_b6 : Exa Z h6 b6 "java/lang/String" := A6
      have F_coder_b6 : Fld Z h6 b6 "java/lang/String" "coder" "B" (.int (0 : Int32)) := D6 (Or.inr (hw _ (List.mem_of_getElem? (i := 31) rfl))) (ty := .byte) (by decide)
      have F_value_b6 : Fld Z h6 b6 "java/lang/String" "value" "[B" .null := D6 (Or.inr (hw _ (List.mem_of_getElem? (i := 33) rfl))) (ty := (.array .byte)) (by decide)
      have F_hash_b6 : Fld Z h6 b6 "java/lang/String" "hash" "I" (.int (0 : Int32)) := D6 (Or.inl (hw _ (List.mem_of_getElem? (i := 82) rfl))) (ty := .int) (by decide)
      have F_hashIsZero_b6 : Fld Z h6 b6 "java/lang/String" "hashIsZero" "Z" (.int (0 : Int32)) := D6 (Or.inl (hw _ (List.mem_of_getElem? (i := 84) rfl))) (ty := .boolean) (by decide)
      refine OEndsW.via (fun _ k_ => st6 _ k_) ?_
      show OEndsW p e below s _ _ _ _ _ (T6.setTop (mkF m 51 #[.val (.int bits), .val (.int nl), .val (.int ((bits &&& (255 : Int32)).toUInt32.toUInt16.toUInt32.toInt32)), .val (.int ((((bits.toUInt32 >>> ((8 : Int32) &&& 31).toUInt32).toInt32) &&& (255 : Int32)).toUInt32.toUInt16.toUInt32.toInt32)), .val (.int ((((bits.toUInt32 >>> ((16 : Int32) &&& 31).toUInt32).toInt32) &&& (255 : Int32)).toUInt32.toUInt16.toUInt32.toInt32))] [(.ref b6)]))
      refine OEndsW.via (fun _ k_ => XS.dup X6.here hx rfl (hb hby d1_51) rfl rfl k_) ?_
      show OEndsW p e below s _ _ _ _ _ (T6.setTop (mkF m 52 #[.val (.int bits), .val (.int nl), .val (.int ((bits &&& (255 : Int32)).toUInt32.toUInt16.toUInt32.toInt32)), .val (.int ((((bits.toUInt32 >>> ((8 : Int32) &&& 31).toUInt32).toInt32) &&& (255 : Int32)).toUInt32.toUInt16.toUInt32.toInt32)), .val (.int ((((bits.toUInt32 >>> ((16 : Int32) &&& 31).toUInt32).toInt32) &&& (255 : Int32)).toUInt32.toUInt16.toUInt32.toInt32))] [(.ref b6), (.ref b6)]))
      refine OEndsW.via (fun _ k_ => XS.iconst X6.here hx rfl (hb hby d1_52) k_) ?_
      show OEndsW p e below s _ _ _ _ _ (T6.setTop (mkF m 53 #[.val (.int bits), .val (.int nl), .val (.int ((bits &&& (255 : Int32)).toUInt32.toUInt16.toUInt32.toInt32)), .val (.int ((((bits.toUInt32 >>> ((8 : Int32) &&& 31).toUInt32).toInt32) &&& (255 : Int32)).toUInt32.toUInt16.toUInt32.toInt32)), .val (.int ((((bits.toUInt32 >>> ((16 : Int32) &&& 31).toUInt32).toInt32) &&& (255 : Int32)).toUInt32.toUInt16.toUInt32.toInt32))] [(.int (1 : Int32)), (.ref b6), (.ref b6)]))
      obtain ⟨T7, h7, k7, X7, e7, E7, A7, st7⟩ := newP X6 hx hZ (hw _ (List.mem_of_getElem? (i := 7) rfl)) e6 (g := (mkF m 53 #[.val (.int bits), .val (.int nl), .val (.int ((bits &&& (255 : Int32)).toUInt32.toUInt16.toUInt32.toInt32)), .val (.int ((((bits.toUInt32 >>> ((8 : Int32) &&& 31).toUInt32).toInt32) &&& (255 : Int32)).toUInt32.toUInt16.toUInt32.toInt32)), .val (.int ((((bits.toUInt32 >>> ((16 : Int32) &&& 31).toUInt32).toInt32) &&& (255 : Int32)).toUInt32.toUInt16.toUInt32.toInt32))] [(.int (1 : Int32)), (.ref b6), (.ref b6)])) rfl (hb hby d1_53) rfl (by decide) (cap := 1) (by decide) (by decide) (by decide) (by decide)
      obtain ⟨b7, g7⟩ : ∃ z, z = h6.size := ⟨_, rfl⟩
      have ne_b6_b7 : b6 ≠ b7 := Nat.ne_of_lt (Nat.lt_of_lt_of_le E_b6.lt (Nat.le_of_eq g7.symm))
      have ge_b7 : n0 ≤ b7 := Nat.le_trans (Od.1 ▸ Od.2.1) (Nat.le_of_eq g7.symm)
      have sz_b7 : h0.size ≤ b7 := Nat.le_trans Kp.1 (Nat.le_of_eq g7.symm)
      have sf_b7 : Safe Z consts_1 _ h6 b7 := Safe.new (EL := consts_1) (vm := s.vm) (Nat.le_of_eq g7.symm)
      rw [← g7] at A7 st7
      replace hk := Nat.le_trans hk E7.1
      replace Od := Od.ext E7
      replace Kp := Kp.ext E7
      replace sf_b6 := Safe.ext E7 CR.1 sf_b6
      replace E_b6 := Exa.ext E7 E_b6
      replace F_coder_b6 := Fld.ext E7 F_coder_b6
      replace F_value_b6 := Fld.ext E7 F_value_b6
      replace F_hash_b6 := Fld.ext E7 F_hash_b6
      replace F_hashIsZero_b6 := Fld.ext E7 F_hashIsZero_b6
      replace sf_b7 := Safe.ext E7 CR.1 sf_b7
      replace CR := CR.trans (CHr.ext E7 CR.1)
      have V_b7 : Arv Z h7 b7 k7 .char (1 : Int32) [(.int (0 : Int32))] (.int (0 : Int32)) := (Arv.new A7 (by decide)).pad (pad_rep [] (.int (0 : Int32)) 1)
      refine OEndsW.via (fun _ k_ => st7 _ k_) ?_
      show OEndsW p e below s _ _ _ _ _ (T7.setTop (mkF m 55 #[.val (.int bits), .val (.int nl), .val (.int ((bits &&& (255 : Int32)).toUInt32.toUInt16.toUInt32.toInt32)), .val (.int ((((bits.toUInt32 >>> ((8 : Int32) &&& 31).toUInt32).toInt32) &&& (255 : Int32)).toUInt32.toUInt16.toUInt32.toInt32)), .val (.int ((((bits.toUInt32 >>> ((16 : Int32) &&& 31).toUInt32).toInt32) &&& (255 : Int32)).toUInt32.toUInt16.toUInt32.toInt32))] [(.ref b7), (.ref b6), (.ref b6)]))
      refine OEndsW.via (fun _ k_ => XS.dup X7.here hx rfl (hb hby d1_55) rfl rfl k_) ?_
      show OEndsW p e below s _ _ _ _ _ (T7.setTop (mkF m 56 #[.val (.int bits), .val (.int nl), .val (.int ((bits &&& (255 : Int32)).toUInt32.toUInt16.toUInt32.toInt32)), .val (.int ((((bits.toUInt32 >>> ((8 : Int32) &&& 31).toUInt32).toInt32) &&& (255 : Int32)).toUInt32.toUInt16.toUInt32.toInt32)), .val (.int ((((bits.toUInt32 >>> ((16 : Int32) &&& 31).toUInt32).toInt32) &&& (255 : Int32)).toUInt32.toUInt16.toUInt32.toInt32))] [(.ref b7), (.ref b7), (.ref b6), (.ref b6)]))
      refine OEndsW.via (fun _ k_ => XS.iconst X7.here hx rfl (hb hby d1_56) k_) ?_
      show OEndsW p e below s _ _ _ _ _ (T7.setTop (mkF m 57 #[.val (.int bits), .val (.int nl), .val (.int ((bits &&& (255 : Int32)).toUInt32.toUInt16.toUInt32.toInt32)), .val (.int ((((bits.toUInt32 >>> ((8 : Int32) &&& 31).toUInt32).toInt32) &&& (255 : Int32)).toUInt32.toUInt16.toUInt32.toInt32)), .val (.int ((((bits.toUInt32 >>> ((16 : Int32) &&& 31).toUInt32).toInt32) &&& (255 : Int32)).toUInt32.toUInt16.toUInt32.toInt32))] [(.int (0 : Int32)), (.ref b7), (.ref b7), (.ref b6), (.ref b6)]))
      refine OEndsW.via (fun _ k_ => XS.iloadN X7.here hx rfl (hb hby d1_57) rfl k_) ?_
      show OEndsW p e below s _ _ _ _ _ (T7.setTop (mkF m 58 #[.val (.int bits), .val (.int nl), .val (.int ((bits &&& (255 : Int32)).toUInt32.toUInt16.toUInt32.toInt32)), .val (.int ((((bits.toUInt32 >>> ((8 : Int32) &&& 31).toUInt32).toInt32) &&& (255 : Int32)).toUInt32.toUInt16.toUInt32.toInt32)), .val (.int ((((bits.toUInt32 >>> ((16 : Int32) &&& 31).toUInt32).toInt32) &&& (255 : Int32)).toUInt32.toUInt16.toUInt32.toInt32))] [(.int ((bits &&& (255 : Int32)).toUInt32.toUInt16.toUInt32.toInt32)), (.int (0 : Int32)), (.ref b7), (.ref b7), (.ref b6), (.ref b6)]))
      obtain ⟨cl8, Ar8, q8, S8, M8, H8, G8⟩ := V_b7
      obtain ⟨T8, h8, X8, e8, W8, st8⟩ := stC X7 hx hZ e7 Ar8 (j := (0 : Int32)) (inb_of S8 ⟨by decide, by decide⟩) (g := (mkF m 58 #[.val (.int bits), .val (.int nl), .val (.int ((bits &&& (255 : Int32)).toUInt32.toUInt16.toUInt32.toInt32)), .val (.int ((((bits.toUInt32 >>> ((8 : Int32) &&& 31).toUInt32).toInt32) &&& (255 : Int32)).toUInt32.toUInt16.toUInt32.toInt32)), .val (.int ((((bits.toUInt32 >>> ((16 : Int32) &&& 31).toUInt32).toInt32) &&& (255 : Int32)).toUInt32.toUInt16.toUInt32.toInt32))] [(.int ((bits &&& (255 : Int32)).toUInt32.toUInt16.toUInt32.toInt32)), (.int (0 : Int32)), (.ref b7), (.ref b7), (.ref b6), (.ref b6)])) rfl rfl (hb hby d1_58)
      have V_b7 : Arv Z h8 b7 k7 .char (1 : Int32) [(.int (nar .char ((bits &&& (255 : Int32)).toUInt32.toUInt16.toUInt32.toInt32)))] (.int (0 : Int32)) := Arv.set Ar8 q8 S8 M8 H8 G8 (fits_nar_char _) W8 0 rfl (Nat.le_of_ble_eq_true rfl)
      have N8 := Fr.snoc X8 N0 ge_b7
      have sfw8 := (Safe.arr (EL := consts_1) hZ.alike Ar8 (by decide))
      replace hk := Nat.le_trans hk (Keep.of_wr W8).1
      replace Od := Od.wr W8 ge_b7
      replace Kp := Kp.wr W8 (Or.inr sz_b7)
      replace sf_b6 := Safe.wr W8 sfw8 CR.1 sf_b6
      replace E_b6 := Exa.wr W8 E_b6
      replace F_coder_b6 := Fld.other W8 F_coder_b6 (Or.inl ne_b6_b7)
      replace F_value_b6 := Fld.other W8 F_value_b6 (Or.inl ne_b6_b7)
      replace F_hash_b6 := Fld.other W8 F_hash_b6 (Or.inl ne_b6_b7)
      replace F_hashIsZero_b6 := Fld.other W8 F_hashIsZero_b6 (Or.inl ne_b6_b7)
      replace sf_b7 := Safe.wr W8 sfw8 CR.1 sf_b7
      replace CR := CR.trans (CHr.wr W8 sfw8 CR.1)
      refine OEndsW.via (fun _ k_ => st8 _ k_) ?_
      show OEndsW p e below s _ _ _ _ _ (T8.setTop (mkF m 59 #[.val (.int bits), .val (.int nl), .val (.int ((bits &&& (255 : Int32)).toUInt32.toUInt16.toUInt32.toInt32)), .val (.int ((((bits.toUInt32 >>> ((8 : Int32) &&& 31).toUInt32).toInt32) &&& (255 : Int32)).toUInt32.toUInt16.toUInt32.toInt32)), .val (.int ((((bits.toUInt32 >>> ((16 : Int32) &&& 31).toUInt32).toInt32) &&& (255 : Int32)).toUInt32.toUInt16.toUInt32.toInt32))] [(.ref b7), (.ref b6), (.ref b6)]))
      rw [own_narc (own_and255 _)] at V_b7
      have hp0_b6 : ∀ c ∈ ([((bits &&& (255 : Int32)).toUInt32.toUInt16.toUInt32.toInt32)] : List Int32), ¬ c < 0 ∧ ¬ (255 : Int32) < c := (own_allS (own_and255 _) own_all0)
      obtain ⟨_, _, ⟨T9, L9, k9, n9⟩, -, X9, ⟨Lc9, hQ9, l9, y9, z9⟩, st9⟩ := X8.specialBack hx (y := (⟨"java/lang/String", "<init>", "([C)V"⟩ : MethodName)) rfl hown (mvT hZ (hw _ (List.mem_of_getElem? (i := 8) rfl))) (mvT hZ (hw _ (List.mem_of_getElem? (i := 9) rfl))) (mvT hZ (hw _ (List.mem_of_getElem? (i := 10) rfl))) (by decide) (own_backX (W := 1) hZ hws (kI := 4) (hw _ (List.mem_of_getElem? (i := 5) rfl)) (cs := [((bits &&& (255 : Int32)).toUInt32.toUInt16.toUInt32.toInt32)]) (bs := ([((bits &&& (255 : Int32)).toUInt32.toUInt16.toUInt32.toInt32)] : List Int32).map (fun c => c.toInt8.toInt32)) (n := 1) ge_b6 (Od.1 ▸ Od.2.1) E_b6 F_value_b6 F_coder_b6 V_b7 (Sta.ext Od.2 S_CS) nz_CS rfl rfl (by decide) (by decide) hp0_b6 rfl (by decide) (by decide)) (g := (mkF m 59 #[.val (.int bits), .val (.int nl), .val (.int ((bits &&& (255 : Int32)).toUInt32.toUInt16.toUInt32.toInt32)), .val (.int ((((bits.toUInt32 >>> ((8 : Int32) &&& 31).toUInt32).toInt32) &&& (255 : Int32)).toUInt32.toUInt16.toUInt32.toInt32)), .val (.int ((((bits.toUInt32 >>> ((16 : Int32) &&& 31).toUInt32).toInt32) &&& (255 : Int32)).toUInt32.toUInt16.toUInt32.toInt32))] [(.ref b7), (.ref b6), (.ref b6)])) rfl (by rw [hml]; rfl) (Steps.refl _) (a := b6) (argsL := [(.ref b7)]) (rest := [(.ref b6)]) (lenOf pd_285bC29V rfl) rfl (by show 2 * 0 + _ ≤ _; exact Nat.le_of_eq rfl) (hb hby d1_59) (fun _ _ => ⟨rfl, e8, Nat.le_of_ble_eq_true rfl, Nat.le_of_ble_eq_true rfl⟩)
      dsimp only [Pt.U, Pt.locs, Pt.cells, Pt.slots] at X9 l9 y9 z9 st9 hQ9
      subst l9 y9 z9
      obtain ⟨rfl, N9q, K9, -, C_b6, ⟨t_b6, kb_b6, ge_t_b6, sz_t_b6, ntx_b6, V_b6, K_b6, fB_b6⟩, pre9⟩ := hQ9
      have F9_hash_b6 := pre9 _ _ _ _ F_hash_b6 (Jvm.RoadKit.slot_ne (Or.inl (hw _ (List.mem_of_getElem? (i := 82) rfl))) (Or.inr (hw _ (List.mem_of_getElem? (i := 33) rfl))) (by decide) (t := .int) (t' := (.array .byte)) (by decide) (by decide)) (Jvm.RoadKit.slot_ne (Or.inl (hw _ (List.mem_of_getElem? (i := 82) rfl))) (Or.inr (hw _ (List.mem_of_getElem? (i := 31) rfl))) (by decide) (t := .int) (t' := .byte) (by decide) (by decide))
      have F9_hashIsZero_b6 := pre9 _ _ _ _ F_hashIsZero_b6 (Jvm.RoadKit.slot_ne (Or.inl (hw _ (List.mem_of_getElem? (i := 84) rfl))) (Or.inr (hw _ (List.mem_of_getElem? (i := 33) rfl))) (by decide) (t := .boolean) (t' := (.array .byte)) (by decide) (by decide)) (Jvm.RoadKit.slot_ne (Or.inl (hw _ (List.mem_of_getElem? (i := 84) rfl))) (Or.inr (hw _ (List.mem_of_getElem? (i := 31) rfl))) (by decide) (t := .boolean) (t' := .byte) (by decide) (by decide))
      have ne_b6_t_b6 : b6 ≠ t_b6 := Nat.ne_of_lt (Nat.lt_of_lt_of_le E_b6.lt sz_t_b6)
      have ne_b7_t_b6 : b7 ≠ t_b6 := Nat.ne_of_lt (Nat.lt_of_lt_of_le V_b7.lt sz_t_b6)
      have N9 := Fr.app N8 N9q
      have sfk9 : ∀ x ∈ ([b6] : List Addr), Safe Z consts_1 s.vm h8 x := (allS sf_b6 all0)
      replace hk := Nat.le_trans hk K9.1
      replace Od := Od.keep K9 (allS ge_b6 all0)
      replace Kp := Kp.trans K9 (allS (Or.inr sz_b6) all0)
      replace sf_b6 := Safe.keep K9 sfk9 CR.1 sf_b6
      replace E_b6 := E_b6.keep K9
      replace sf_b7 := Safe.keep K9 sfk9 CR.1 sf_b7
      replace V_b7 := V_b7.keep K9 (ninS (Ne.symm ne_b6_b7) nin0)
      replace CR := CR.trans (CHr.keep K9 sfk9 CR.1)
      have F_hash_b6 := F9_hash_b6
      have F_hashIsZero_b6 := F9_hashIsZero_b6
      refine OEndsW.via (fun _ k_ => st9.trans k_) ?_
      show OEndsW p e below s _ _ _ _ _ (T9.setTop (mkF m 62 #[.val (.int bits), .val (.int nl), .val (.int ((bits &&& (255 : Int32)).toUInt32.toUInt16.toUInt32.toInt32)), .val (.int ((((bits.toUInt32 >>> ((8 : Int32) &&& 31).toUInt32).toInt32) &&& (255 : Int32)).toUInt32.toUInt16.toUInt32.toInt32)), .val (.int ((((bits.toUInt32 >>> ((16 : Int32) &&& 31).toUInt32).toInt32) &&& (255 : Int32)).toUInt32.toUInt16.toUInt32.toInt32))] [(.ref b6)]))
      refine OEndsW.retR X9 hx hlk hS hk hZ hEL rfl es CR Bd.returns rfl rfl (hb hby d1_62) ?_ (by decide) (by decide)
      have sfE := (CHv.at X9 hZ hEL CR.1).safe E_b6.lt sf_b6
      have hcs : own_cs bits nl = [((bits &&& (255 : Int32)).toUInt32.toUInt16.toUInt32.toInt32)] := by simp only [own_cs, if_neg hc29_0, if_pos hc45_4]
      have hpx : own_op Z (own_cs bits nl) (1 : Int32) ((([((bits &&& (255 : Int32)).toUInt32.toUInt16.toUInt32.toInt32)] : List Int32).map (fun c => c.toInt8.toInt32)).map Value.int) kb_b6 := by rw [hcs]; exact ⟨StrChars.Road.codOf (n := 1) rfl (fun c hc => (hp0_b6 c hc).2), Or.inr (Or.inl ⟨_, rfl, rfl⟩), Or.inr fB_b6, own_up _ hp0_b6, Nat.le_of_ble_eq_true rfl⟩
      exact ⟨b6, t_b6, kb_b6, _, _, rfl, N9, Kp, ge_b6, sz_b6, sfE, E_b6, V_b6, C_b6, K_b6, hpx, F_hash_b6, F_hashIsZero_b6⟩
    · skip
      refine OEndsW.via (fun _ k_ => XS.icmpYes X0.here hx rfl (pc0 := 45) (pc' := 63) rfl (hb hby d1_45) rfl (feq hc45_4).2 (by decide) (by decide) k_) ?_
      show OEndsW p e below s _ _ _ _ _ (s₁.setTop (mkF m 63 #[.val (.int bits), .val (.int nl), .val (.int ((bits &&& (255 : Int32)).toUInt32.toUInt16.toUInt32.toInt32)), .val (.int ((((bits.toUInt32 >>> ((8 : Int32) &&& 31).toUInt32).toInt32) &&& (255 : Int32)).toUInt32.toUInt16.toUInt32.toInt32)), .val (.int ((((bits.toUInt32 >>> ((16 : Int32) &&& 31).toUInt32).toInt32) &&& (255 : Int32)).toUInt32.toUInt16.toUInt32.toInt32))] []))
      refine OEndsW.via (fun _ k_ => XS.iloadN X0.here hx rfl (hb hby d1_63) rfl k_) ?_
      show OEndsW p e below s _ _ _ _ _ (s₁.setTop (mkF m 64 #[.val (.int bits), .val (.int nl), .val (.int ((bits &&& (255 : Int32)).toUInt32.toUInt16.toUInt32.toInt32)), .val (.int ((((bits.toUInt32 >>> ((8 : Int32) &&& 31).toUInt32).toInt32) &&& (255 : Int32)).toUInt32.toUInt16.toUInt32.toInt32)), .val (.int ((((bits.toUInt32 >>> ((16 : Int32) &&& 31).toUInt32).toInt32) &&& (255 : Int32)).toUInt32.toUInt16.toUInt32.toInt32))] [(.int nl)]))
      refine OEndsW.via (fun _ k_ => XS.iconst X0.here hx rfl (hb hby d1_64) k_) ?_
      show OEndsW p e below s _ _ _ _ _ (s₁.setTop (mkF m 65 #[.val (.int bits), .val (.int nl), .val (.int ((bits &&& (255 : Int32)).toUInt32.toUInt16.toUInt32.toInt32)), .val (.int ((((bits.toUInt32 >>> ((8 : Int32) &&& 31).toUInt32).toInt32) &&& (255 : Int32)).toUInt32.toUInt16.toUInt32.toInt32)), .val (.int ((((bits.toUInt32 >>> ((16 : Int32) &&& 31).toUInt32).toInt32) &&& (255 : Int32)).toUInt32.toUInt16.toUInt32.toInt32))] [(.int (2 : Int32)), (.int nl)]))
      by_cases hc65_9 : nl = (2 : Int32)
      · skip
        refine OEndsW.via (fun _ k_ => XS.icmpNo X0.here hx rfl (hb hby d1_65) rfl (teq hc65_9).2 k_) ?_
        show OEndsW p e below s _ _ _ _ _ (s₁.setTop (mkF m 68 #[.val (.int bits), .val (.int nl), .val (.int ((bits &&& (255 : Int32)).toUInt32.toUInt16.toUInt32.toInt32)), .val (.int ((((bits.toUInt32 >>> ((8 : Int32) &&& 31).toUInt32).toInt32) &&& (255 : Int32)).toUInt32.toUInt16.toUInt32.toInt32)), .val (.int ((((bits.toUInt32 >>> ((16 : Int32) &&& 31).toUInt32).toInt32) &&& (255 : Int32)).toUInt32.toUInt16.toUInt32.toInt32))] []))
        obtain ⟨T11, h11, X11, e11, E11, A11, D11, -, st11⟩ := newO X0 hx hZ hown (hw _ (List.mem_of_getElem? (i := 4) rfl)) (hw _ (List.mem_of_getElem? (i := 5) rfl)) (hw _ (List.mem_of_getElem? (i := 6) rfl)) e0 (g := (mkF m 68 #[.val (.int bits), .val (.int nl), .val (.int ((bits &&& (255 : Int32)).toUInt32.toUInt16.toUInt32.toInt32)), .val (.int ((((bits.toUInt32 >>> ((8 : Int32) &&& 31).toUInt32).toInt32) &&& (255 : Int32)).toUInt32.toUInt16.toUInt32.toInt32)), .val (.int ((((bits.toUInt32 >>> ((16 : Int32) &&& 31).toUInt32).toInt32) &&& (255 : Int32)).toUInt32.toUInt16.toUInt32.toInt32))] [])) rfl (hb hby d1_68) (by decide) (by decide)
        obtain ⟨b11, g11⟩ : ∃ z, z = h0.size := ⟨_, rfl⟩
        have ge_b11 : n0 ≤ b11 := Nat.le_trans (Od.1 ▸ Od.2.1) (Nat.le_of_eq g11.symm)
        have sz_b11 : h0.size ≤ b11 := Nat.le_trans Kp.1 (Nat.le_of_eq g11.symm)
        have sf_b11 : Safe Z consts_1 _ h0 b11 := Safe.new (EL := consts_1) (vm := s.vm) (Nat.le_of_eq g11.symm)
        rw [← g11] at A11 D11 st11
        replace hk := Nat.le_trans hk E11.1
        replace Od := Od.ext E11
        replace Kp := Kp.ext E11
        replace sf_b11 := Safe.ext E11 CR.1 sf_b11
        replace CR := CR.trans (CHr.ext E11 CR.1)
        have E_b11 : Exa Z h11 b11 "java/lang/String" := A11
        have F_coder_b11 : Fld Z h11 b11 "java/lang/String" "coder" "B" (.int (0 : Int32)) := D11 (Or.inr (hw _ (List.mem_of_getElem? (i := 31) rfl))) (ty := .byte) (by decide)
        have F_value_b11 : Fld Z h11 b11 "java/lang/String" "value" "[B" .null := D11 (Or.inr (hw _ (List.mem_of_getElem? (i := 33) rfl))) (ty := (.array .byte)) (by decide)
        have F_hash_b11 : Fld Z h11 b11 "java/lang/String" "hash" "I" (.int (0 : Int32)) := D11 (Or.inl (hw _ (List.mem_of_getElem? (i := 82) rfl))) (ty := .int) (by decide)
        have F_hashIsZero_b11 : Fld Z h11 b11 "java/lang/String" "hashIsZero" "Z" (.int (0 : Int32)) := D11 (Or.inl (hw _ (List.mem_of_getElem? (i := 84) rfl))) (ty := .boolean) (by decide)
        refine OEndsW.via (fun _ k_ => st11 _ k_) ?_
        show OEndsW p e below s _ _ _ _ _ (T11.setTop (mkF m 71 #[.val (.int bits), .val (.int nl), .val (.int ((bits &&& (255 : Int32)).toUInt32.toUInt16.toUInt32.toInt32)), .val (.int ((((bits.toUInt32 >>> ((8 : Int32) &&& 31).toUInt32).toInt32) &&& (255 : Int32)).toUInt32.toUInt16.toUInt32.toInt32)), .val (.int ((((bits.toUInt32 >>> ((16 : Int32) &&& 31).toUInt32).toInt32) &&& (255 : Int32)).toUInt32.toUInt16.toUInt32.toInt32))] [(.ref b11)]))
        refine OEndsW.via (fun _ k_ => XS.dup X11.here hx rfl (hb hby d1_71) rfl rfl k_) ?_
        show OEndsW p e below s _ _ _ _ _ (T11.setTop (mkF m 72 #[.val (.int bits), .val (.int nl), .val (.int ((bits &&& (255 : Int32)).toUInt32.toUInt16.toUInt32.toInt32)), .val (.int ((((bits.toUInt32 >>> ((8 : Int32) &&& 31).toUInt32).toInt32) &&& (255 : Int32)).toUInt32.toUInt16.toUInt32.toInt32)), .val (.int ((((bits.toUInt32 >>> ((16 : Int32) &&& 31).toUInt32).toInt32) &&& (255 : Int32)).toUInt32.toUInt16.toUInt32.toInt32))] [(.ref b11), (.ref b11)]))
        refine OEndsW.via (fun _ k_ => XS.iconst X11.here hx rfl (hb hby d1_72) k_) ?_
        show OEndsW p e below s _ _ _ _ _ (T11.setTop (mkF m 73 #[.val (.int bits), .val (.int nl), .val (.int ((bits &&& (255 : Int32)).toUInt32.toUInt16.toUInt32.toInt32)), .val (.int ((((bits.toUInt32 >>> ((8 : Int32) &&& 31).toUInt32).toInt32) &&& (255 : Int32)).toUInt32.toUInt16.toUInt32.toInt32)), .val (.int ((((bits.toUInt32 >>> ((16 : Int32) &&& 31).toUInt32).toInt32) &&& (255 : Int32)).toUInt32.toUInt16.toUInt32.toInt32))] [(.int (2 : Int32)), (.ref b11), (.ref b11)]))
        obtain ⟨T12, h12, k12, X12, e12, E12, A12, st12⟩ := newP X11 hx hZ (hw _ (List.mem_of_getElem? (i := 7) rfl)) e11 (g := (mkF m 73 #[.val (.int bits), .val (.int nl), .val (.int ((bits &&& (255 : Int32)).toUInt32.toUInt16.toUInt32.toInt32)), .val (.int ((((bits.toUInt32 >>> ((8 : Int32) &&& 31).toUInt32).toInt32) &&& (255 : Int32)).toUInt32.toUInt16.toUInt32.toInt32)), .val (.int ((((bits.toUInt32 >>> ((16 : Int32) &&& 31).toUInt32).toInt32) &&& (255 : Int32)).toUInt32.toUInt16.toUInt32.toInt32))] [(.int (2 : Int32)), (.ref b11), (.ref b11)])) rfl (hb hby d1_73) rfl (by decide) (cap := 2) (by decide) (by decide) (by decide) (by decide)
        obtain ⟨b12, g12⟩ : ∃ z, z = h11.size := ⟨_, rfl⟩
        have ne_b11_b12 : b11 ≠ b12 := Nat.ne_of_lt (Nat.lt_of_lt_of_le E_b11.lt (Nat.le_of_eq g12.symm))
        have ge_b12 : n0 ≤ b12 := Nat.le_trans (Od.1 ▸ Od.2.1) (Nat.le_of_eq g12.symm)
        have sz_b12 : h0.size ≤ b12 := Nat.le_trans Kp.1 (Nat.le_of_eq g12.symm)
        have sf_b12 : Safe Z consts_1 _ h11 b12 := Safe.new (EL := consts_1) (vm := s.vm) (Nat.le_of_eq g12.symm)
        rw [← g12] at A12 st12
        replace hk := Nat.le_trans hk E12.1
        replace Od := Od.ext E12
        replace Kp := Kp.ext E12
        replace sf_b11 := Safe.ext E12 CR.1 sf_b11
        replace E_b11 := Exa.ext E12 E_b11
        replace F_coder_b11 := Fld.ext E12 F_coder_b11
        replace F_value_b11 := Fld.ext E12 F_value_b11
        replace F_hash_b11 := Fld.ext E12 F_hash_b11
        replace F_hashIsZero_b11 := Fld.ext E12 F_hashIsZero_b11
        replace sf_b12 := Safe.ext E12 CR.1 sf_b12
        replace CR := CR.trans (CHr.ext E12 CR.1)
        have V_b12 : Arv Z h12 b12 k12 .char (2 : Int32) [(.int (0 : Int32)), (.int (0 : Int32))] (.int (0 : Int32)) := (Arv.new A12 (by decide)).pad (pad_rep [] (.int (0 : Int32)) 2)
        refine OEndsW.via (fun _ k_ => st12 _ k_) ?_
        show OEndsW p e below s _ _ _ _ _ (T12.setTop (mkF m 75 #[.val (.int bits), .val (.int nl), .val (.int ((bits &&& (255 : Int32)).toUInt32.toUInt16.toUInt32.toInt32)), .val (.int ((((bits.toUInt32 >>> ((8 : Int32) &&& 31).toUInt32).toInt32) &&& (255 : Int32)).toUInt32.toUInt16.toUInt32.toInt32)), .val (.int ((((bits.toUInt32 >>> ((16 : Int32) &&& 31).toUInt32).toInt32) &&& (255 : Int32)).toUInt32.toUInt16.toUInt32.toInt32))] [(.ref b12), (.ref b11), (.ref b11)]))
        refine OEndsW.via (fun _ k_ => XS.dup X12.here hx rfl (hb hby d1_75) rfl rfl k_) ?_
        show OEndsW p e below s _ _ _ _ _ (T12.setTop (mkF m 76 #[.val (.int bits), .val (.int nl), .val (.int ((bits &&& (255 : Int32)).toUInt32.toUInt16.toUInt32.toInt32)), .val (.int ((((bits.toUInt32 >>> ((8 : Int32) &&& 31).toUInt32).toInt32) &&& (255 : Int32)).toUInt32.toUInt16.toUInt32.toInt32)), .val (.int ((((bits.toUInt32 >>> ((16 : Int32) &&& 31).toUInt32).toInt32) &&& (255 : Int32)).toUInt32.toUInt16.toUInt32.toInt32))] [(.ref b12), (.ref b12), (.ref b11), (.ref b11)]))
        refine OEndsW.via (fun _ k_ => XS.iconst X12.here hx rfl (hb hby d1_76) k_) ?_
        show OEndsW p e below s _ _ _ _ _ (T12.setTop (mkF m 77 #[.val (.int bits), .val (.int nl), .val (.int ((bits &&& (255 : Int32)).toUInt32.toUInt16.toUInt32.toInt32)), .val (.int ((((bits.toUInt32 >>> ((8 : Int32) &&& 31).toUInt32).toInt32) &&& (255 : Int32)).toUInt32.toUInt16.toUInt32.toInt32)), .val (.int ((((bits.toUInt32 >>> ((16 : Int32) &&& 31).toUInt32).toInt32) &&& (255 : Int32)).toUInt32.toUInt16.toUInt32.toInt32))] [(.int (0 : Int32)), (.ref b12), (.ref b12), (.ref b11), (.ref b11)]))
        refine OEndsW.via (fun _ k_ => XS.iloadN X12.here hx rfl (hb hby d1_77) rfl k_) ?_
        show OEndsW p e below s _ _ _ _ _ (T12.setTop (mkF m 78 #[.val (.int bits), .val (.int nl), .val (.int ((bits &&& (255 : Int32)).toUInt32.toUInt16.toUInt32.toInt32)), .val (.int ((((bits.toUInt32 >>> ((8 : Int32) &&& 31).toUInt32).toInt32) &&& (255 : Int32)).toUInt32.toUInt16.toUInt32.toInt32)), .val (.int ((((bits.toUInt32 >>> ((16 : Int32) &&& 31).toUInt32).toInt32) &&& (255 : Int32)).toUInt32.toUInt16.toUInt32.toInt32))] [(.int ((bits &&& (255 : Int32)).toUInt32.toUInt16.toUInt32.toInt32)), (.int (0 : Int32)), (.ref b12), (.ref b12), (.ref b11), (.ref b11)]))
        obtain ⟨cl13, Ar13, q13, S13, M13, H13, G13⟩ := V_b12
        obtain ⟨T13, h13, X13, e13, W13, st13⟩ := stC X12 hx hZ e12 Ar13 (j := (0 : Int32)) (inb_of S13 ⟨by decide, by decide⟩) (g := (mkF m 78 #[.val (.int bits), .val (.int nl), .val (.int ((bits &&& (255 : Int32)).toUInt32.toUInt16.toUInt32.toInt32)), .val (.int ((((bits.toUInt32 >>> ((8 : Int32) &&& 31).toUInt32).toInt32) &&& (255 : Int32)).toUInt32.toUInt16.toUInt32.toInt32)), .val (.int ((((bits.toUInt32 >>> ((16 : Int32) &&& 31).toUInt32).toInt32) &&& (255 : Int32)).toUInt32.toUInt16.toUInt32.toInt32))] [(.int ((bits &&& (255 : Int32)).toUInt32.toUInt16.toUInt32.toInt32)), (.int (0 : Int32)), (.ref b12), (.ref b12), (.ref b11), (.ref b11)])) rfl rfl (hb hby d1_78)
        have V_b12 : Arv Z h13 b12 k12 .char (2 : Int32) [(.int (nar .char ((bits &&& (255 : Int32)).toUInt32.toUInt16.toUInt32.toInt32))), (.int (0 : Int32))] (.int (0 : Int32)) := Arv.set Ar13 q13 S13 M13 H13 G13 (fits_nar_char _) W13 0 rfl (Nat.le_of_ble_eq_true rfl)
        have N13 := Fr.snoc X13 N0 ge_b12
        have sfw13 := (Safe.arr (EL := consts_1) hZ.alike Ar13 (by decide))
        replace hk := Nat.le_trans hk (Keep.of_wr W13).1
        replace Od := Od.wr W13 ge_b12
        replace Kp := Kp.wr W13 (Or.inr sz_b12)
        replace sf_b11 := Safe.wr W13 sfw13 CR.1 sf_b11
        replace E_b11 := Exa.wr W13 E_b11
        replace F_coder_b11 := Fld.other W13 F_coder_b11 (Or.inl ne_b11_b12)
        replace F_value_b11 := Fld.other W13 F_value_b11 (Or.inl ne_b11_b12)
        replace F_hash_b11 := Fld.other W13 F_hash_b11 (Or.inl ne_b11_b12)
        replace F_hashIsZero_b11 := Fld.other W13 F_hashIsZero_b11 (Or.inl ne_b11_b12)
        replace sf_b12 := Safe.wr W13 sfw13 CR.1 sf_b12
        replace CR := CR.trans (CHr.wr W13 sfw13 CR.1)
        refine OEndsW.via (fun _ k_ => st13 _ k_) ?_
        show OEndsW p e below s _ _ _ _ _ (T13.setTop (mkF m 79 #[.val (.int bits), .val (.int nl), .val (.int ((bits &&& (255 : Int32)).toUInt32.toUInt16.toUInt32.toInt32)), .val (.int ((((bits.toUInt32 >>> ((8 : Int32) &&& 31).toUInt32).toInt32) &&& (255 : Int32)).toUInt32.toUInt16.toUInt32.toInt32)), .val (.int ((((bits.toUInt32 >>> ((16 : Int32) &&& 31).toUInt32).toInt32) &&& (255 : Int32)).toUInt32.toUInt16.toUInt32.toInt32))] [(.ref b12), (.ref b11), (.ref b11)]))
        refine OEndsW.via (fun _ k_ => XS.dup X13.here hx rfl (hb hby d1_79) rfl rfl k_) ?_
        show OEndsW p e below s _ _ _ _ _ (T13.setTop (mkF m 80 #[.val (.int bits), .val (.int nl), .val (.int ((bits &&& (255 : Int32)).toUInt32.toUInt16.toUInt32.toInt32)), .val (.int ((((bits.toUInt32 >>> ((8 : Int32) &&& 31).toUInt32).toInt32) &&& (255 : Int32)).toUInt32.toUInt16.toUInt32.toInt32)), .val (.int ((((bits.toUInt32 >>> ((16 : Int32) &&& 31).toUInt32).toInt32) &&& (255 : Int32)).toUInt32.toUInt16.toUInt32.toInt32))] [(.ref b12), (.ref b12), (.ref b11), (.ref b11)]))
        refine OEndsW.via (fun _ k_ => XS.iconst X13.here hx rfl (hb hby d1_80) k_) ?_
        show OEndsW p e below s _ _ _ _ _ (T13.setTop (mkF m 81 #[.val (.int bits), .val (.int nl), .val (.int ((bits &&& (255 : Int32)).toUInt32.toUInt16.toUInt32.toInt32)), .val (.int ((((bits.toUInt32 >>> ((8 : Int32) &&& 31).toUInt32).toInt32) &&& (255 : Int32)).toUInt32.toUInt16.toUInt32.toInt32)), .val (.int ((((bits.toUInt32 >>> ((16 : Int32) &&& 31).toUInt32).toInt32) &&& (255 : Int32)).toUInt32.toUInt16.toUInt32.toInt32))] [(.int (1 : Int32)), (.ref b12), (.ref b12), (.ref b11), (.ref b11)]))
        refine OEndsW.via (fun _ k_ => XS.iloadN X13.here hx rfl (hb hby d1_81) rfl k_) ?_
        show OEndsW p e below s _ _ _ _ _ (T13.setTop (mkF m 82 #[.val (.int bits), .val (.int nl), .val (.int ((bits &&& (255 : Int32)).toUInt32.toUInt16.toUInt32.toInt32)), .val (.int ((((bits.toUInt32 >>> ((8 : Int32) &&& 31).toUInt32).toInt32) &&& (255 : Int32)).toUInt32.toUInt16.toUInt32.toInt32)), .val (.int ((((bits.toUInt32 >>> ((16 : Int32) &&& 31).toUInt32).toInt32) &&& (255 : Int32)).toUInt32.toUInt16.toUInt32.toInt32))] [(.int ((((bits.toUInt32 >>> ((8 : Int32) &&& 31).toUInt32).toInt32) &&& (255 : Int32)).toUInt32.toUInt16.toUInt32.toInt32)), (.int (1 : Int32)), (.ref b12), (.ref b12), (.ref b11), (.ref b11)]))
        obtain ⟨cl14, Ar14, q14, S14, M14, H14, G14⟩ := V_b12
        obtain ⟨T14, h14, X14, e14, W14, st14⟩ := stC X13 hx hZ e13 Ar14 (j := (1 : Int32)) (inb_of S14 ⟨by decide, by decide⟩) (g := (mkF m 82 #[.val (.int bits), .val (.int nl), .val (.int ((bits &&& (255 : Int32)).toUInt32.toUInt16.toUInt32.toInt32)), .val (.int ((((bits.toUInt32 >>> ((8 : Int32) &&& 31).toUInt32).toInt32) &&& (255 : Int32)).toUInt32.toUInt16.toUInt32.toInt32)), .val (.int ((((bits.toUInt32 >>> ((16 : Int32) &&& 31).toUInt32).toInt32) &&& (255 : Int32)).toUInt32.toUInt16.toUInt32.toInt32))] [(.int ((((bits.toUInt32 >>> ((8 : Int32) &&& 31).toUInt32).toInt32) &&& (255 : Int32)).toUInt32.toUInt16.toUInt32.toInt32)), (.int (1 : Int32)), (.ref b12), (.ref b12), (.ref b11), (.ref b11)])) rfl rfl (hb hby d1_82)
        have V_b12 : Arv Z h14 b12 k12 .char (2 : Int32) [(.int (nar .char ((bits &&& (255 : Int32)).toUInt32.toUInt16.toUInt32.toInt32))), (.int (nar .char ((((bits.toUInt32 >>> ((8 : Int32) &&& 31).toUInt32).toInt32) &&& (255 : Int32)).toUInt32.toUInt16.toUInt32.toInt32)))] (.int (0 : Int32)) := Arv.set Ar14 q14 S14 M14 H14 G14 (fits_nar_char _) W14 1 rfl (Nat.le_of_ble_eq_true rfl)
        have N14 := Fr.snoc X14 N13 ge_b12
        have sfw14 := (Safe.arr (EL := consts_1) hZ.alike Ar14 (by decide))
        replace hk := Nat.le_trans hk (Keep.of_wr W14).1
        replace Od := Od.wr W14 ge_b12
        replace Kp := Kp.wr W14 (Or.inr sz_b12)
        replace sf_b11 := Safe.wr W14 sfw14 CR.1 sf_b11
        replace E_b11 := Exa.wr W14 E_b11
        replace F_coder_b11 := Fld.other W14 F_coder_b11 (Or.inl ne_b11_b12)
        replace F_value_b11 := Fld.other W14 F_value_b11 (Or.inl ne_b11_b12)
        replace F_hash_b11 := Fld.other W14 F_hash_b11 (Or.inl ne_b11_b12)
        replace F_hashIsZero_b11 := Fld.other W14 F_hashIsZero_b11 (Or.inl ne_b11_b12)
        replace sf_b12 := Safe.wr W14 sfw14 CR.1 sf_b12
        replace CR := CR.trans (CHr.wr W14 sfw14 CR.1)
        refine OEndsW.via (fun _ k_ => st14 _ k_) ?_
        show OEndsW p e below s _ _ _ _ _ (T14.setTop (mkF m 83 #[.val (.int bits), .val (.int nl), .val (.int ((bits &&& (255 : Int32)).toUInt32.toUInt16.toUInt32.toInt32)), .val (.int ((((bits.toUInt32 >>> ((8 : Int32) &&& 31).toUInt32).toInt32) &&& (255 : Int32)).toUInt32.toUInt16.toUInt32.toInt32)), .val (.int ((((bits.toUInt32 >>> ((16 : Int32) &&& 31).toUInt32).toInt32) &&& (255 : Int32)).toUInt32.toUInt16.toUInt32.toInt32))] [(.ref b12), (.ref b11), (.ref b11)]))
        rw [own_narc (own_and255 _)] at V_b12
        rw [own_narc (own_and255 _)] at V_b12
        have hp0_b11 : ∀ c ∈ ([((bits &&& (255 : Int32)).toUInt32.toUInt16.toUInt32.toInt32), ((((bits.toUInt32 >>> ((8 : Int32) &&& 31).toUInt32).toInt32) &&& (255 : Int32)).toUInt32.toUInt16.toUInt32.toInt32)] : List Int32), ¬ c < 0 ∧ ¬ (255 : Int32) < c := (own_allS (own_and255 _) (own_allS (own_and255 _) own_all0))
        obtain ⟨_, _, ⟨T15, L15, k15, n15⟩, -, X15, ⟨Lc15, hQ15, l15, y15, z15⟩, st15⟩ := X14.specialBack hx (y := (⟨"java/lang/String", "<init>", "([C)V"⟩ : MethodName)) rfl hown (mvT hZ (hw _ (List.mem_of_getElem? (i := 8) rfl))) (mvT hZ (hw _ (List.mem_of_getElem? (i := 9) rfl))) (mvT hZ (hw _ (List.mem_of_getElem? (i := 10) rfl))) (by decide) (own_backX (W := 1) hZ hws (kI := 4) (hw _ (List.mem_of_getElem? (i := 5) rfl)) (cs := [((bits &&& (255 : Int32)).toUInt32.toUInt16.toUInt32.toInt32), ((((bits.toUInt32 >>> ((8 : Int32) &&& 31).toUInt32).toInt32) &&& (255 : Int32)).toUInt32.toUInt16.toUInt32.toInt32)]) (bs := ([((bits &&& (255 : Int32)).toUInt32.toUInt16.toUInt32.toInt32), ((((bits.toUInt32 >>> ((8 : Int32) &&& 31).toUInt32).toInt32) &&& (255 : Int32)).toUInt32.toUInt16.toUInt32.toInt32)] : List Int32).map (fun c => c.toInt8.toInt32)) (n := 2) ge_b11 (Od.1 ▸ Od.2.1) E_b11 F_value_b11 F_coder_b11 V_b12 (Sta.ext Od.2 S_CS) nz_CS rfl rfl (by decide) (by decide) hp0_b11 rfl (by decide) (by decide)) (g := (mkF m 83 #[.val (.int bits), .val (.int nl), .val (.int ((bits &&& (255 : Int32)).toUInt32.toUInt16.toUInt32.toInt32)), .val (.int ((((bits.toUInt32 >>> ((8 : Int32) &&& 31).toUInt32).toInt32) &&& (255 : Int32)).toUInt32.toUInt16.toUInt32.toInt32)), .val (.int ((((bits.toUInt32 >>> ((16 : Int32) &&& 31).toUInt32).toInt32) &&& (255 : Int32)).toUInt32.toUInt16.toUInt32.toInt32))] [(.ref b12), (.ref b11), (.ref b11)])) rfl (by rw [hml]; rfl) (Steps.refl _) (a := b11) (argsL := [(.ref b12)]) (rest := [(.ref b11)]) (lenOf pd_285bC29V rfl) rfl (by show 2 * 0 + _ ≤ _; exact Nat.le_of_eq rfl) (hb hby d1_83) (fun _ _ => ⟨rfl, e14, Nat.le_of_ble_eq_true rfl, Nat.le_of_ble_eq_true rfl⟩)
        dsimp only [Pt.U, Pt.locs, Pt.cells, Pt.slots] at X15 l15 y15 z15 st15 hQ15
        subst l15 y15 z15
        obtain ⟨rfl, N15q, K15, -, C_b11, ⟨t_b11, kb_b11, ge_t_b11, sz_t_b11, ntx_b11, V_b11, K_b11, fB_b11⟩, pre15⟩ := hQ15
        have F15_hash_b11 := pre15 _ _ _ _ F_hash_b11 (Jvm.RoadKit.slot_ne (Or.inl (hw _ (List.mem_of_getElem? (i := 82) rfl))) (Or.inr (hw _ (List.mem_of_getElem? (i := 33) rfl))) (by decide) (t := .int) (t' := (.array .byte)) (by decide) (by decide)) (Jvm.RoadKit.slot_ne (Or.inl (hw _ (List.mem_of_getElem? (i := 82) rfl))) (Or.inr (hw _ (List.mem_of_getElem? (i := 31) rfl))) (by decide) (t := .int) (t' := .byte) (by decide) (by decide))
        have F15_hashIsZero_b11 := pre15 _ _ _ _ F_hashIsZero_b11 (Jvm.RoadKit.slot_ne (Or.inl (hw _ (List.mem_of_getElem? (i := 84) rfl))) (Or.inr (hw _ (List.mem_of_getElem? (i := 33) rfl))) (by decide) (t := .boolean) (t' := (.array .byte)) (by decide) (by decide)) (Jvm.RoadKit.slot_ne (Or.inl (hw _ (List.mem_of_getElem? (i := 84) rfl))) (Or.inr (hw _ (List.mem_of_getElem? (i := 31) rfl))) (by decide) (t := .boolean) (t' := .byte) (by decide) (by decide))
        have ne_b11_t_b11 : b11 ≠ t_b11 := Nat.ne_of_lt (Nat.lt_of_lt_of_le E_b11.lt sz_t_b11)
        have ne_b12_t_b11 : b12 ≠ t_b11 := Nat.ne_of_lt (Nat.lt_of_lt_of_le V_b12.lt sz_t_b11)
        have N15 := Fr.app N14 N15q
        have sfk15 : ∀ x ∈ ([b11] : List Addr), Safe Z consts_1 s.vm h14 x := (allS sf_b11 all0)
        replace hk := Nat.le_trans hk K15.1
        replace Od := Od.keep K15 (allS ge_b11 all0)
        replace Kp := Kp.trans K15 (allS (Or.inr sz_b11) all0)
        replace sf_b11 := Safe.keep K15 sfk15 CR.1 sf_b11
        replace E_b11 := E_b11.keep K15
        replace sf_b12 := Safe.keep K15 sfk15 CR.1 sf_b12
        replace V_b12 := V_b12.keep K15 (ninS (Ne.symm ne_b11_b12) nin0)
        replace CR := CR.trans (CHr.keep K15 sfk15 CR.1)
        have F_hash_b11 := F15_hash_b11
        have F_hashIsZero_b11 := F15_hashIsZero_b11
        refine OEndsW.via (fun _ k_ => st15.trans k_) ?_
        show OEndsW p e below s _ _ _ _ _ (T15.setTop (mkF m 86 #[.val (.int bits), .val (.int nl), .val (.int ((bits &&& (255 : Int32)).toUInt32.toUInt16.toUInt32.toInt32)), .val (.int ((((bits.toUInt32 >>> ((8 : Int32) &&& 31).toUInt32).toInt32) &&& (255 : Int32)).toUInt32.toUInt16.toUInt32.toInt32)), .val (.int ((((bits.toUInt32 >>> ((16 : Int32) &&& 31).toUInt32).toInt32) &&& (255 : Int32)).toUInt32.toUInt16.toUInt32.toInt32))] [(.ref b11)]))
        refine OEndsW.retR X15 hx hlk hS hk hZ hEL rfl es CR Bd.returns rfl rfl (hb hby d1_86) ?_ (by decide) (by decide)
        have sfE := (CHv.at X15 hZ hEL CR.1).safe E_b11.lt sf_b11
        have hcs : own_cs bits nl = [((bits &&& (255 : Int32)).toUInt32.toUInt16.toUInt32.toInt32), ((((bits.toUInt32 >>> ((8 : Int32) &&& 31).toUInt32).toInt32) &&& (255 : Int32)).toUInt32.toUInt16.toUInt32.toInt32)] := by simp only [own_cs, if_neg hc29_0, if_neg hc45_4, if_pos hc65_9]
        have hpx : own_op Z (own_cs bits nl) (2 : Int32) ((([((bits &&& (255 : Int32)).toUInt32.toUInt16.toUInt32.toInt32), ((((bits.toUInt32 >>> ((8 : Int32) &&& 31).toUInt32).toInt32) &&& (255 : Int32)).toUInt32.toUInt16.toUInt32.toInt32)] : List Int32).map (fun c => c.toInt8.toInt32)).map Value.int) kb_b11 := by rw [hcs]; exact ⟨StrChars.Road.codOf (n := 2) rfl (fun c hc => (hp0_b11 c hc).2), Or.inr (Or.inr (Or.inl ⟨_, _, rfl, rfl⟩)), Or.inr fB_b11, own_up _ hp0_b11, Nat.le_of_ble_eq_true rfl⟩
        exact ⟨b11, t_b11, kb_b11, _, _, rfl, N15, Kp, ge_b11, sz_b11, sfE, E_b11, V_b11, C_b11, K_b11, hpx, F_hash_b11, F_hashIsZero_b11⟩
      · skip
        refine OEndsW.via (fun _ k_ => XS.icmpYes X0.here hx rfl (pc0 := 65) (pc' := 87) rfl (hb hby d1_65) rfl (feq hc65_9).2 (by decide) (by decide) k_) ?_
        show OEndsW p e below s _ _ _ _ _ (s₁.setTop (mkF m 87 #[.val (.int bits), .val (.int nl), .val (.int ((bits &&& (255 : Int32)).toUInt32.toUInt16.toUInt32.toInt32)), .val (.int ((((bits.toUInt32 >>> ((8 : Int32) &&& 31).toUInt32).toInt32) &&& (255 : Int32)).toUInt32.toUInt16.toUInt32.toInt32)), .val (.int ((((bits.toUInt32 >>> ((16 : Int32) &&& 31).toUInt32).toInt32) &&& (255 : Int32)).toUInt32.toUInt16.toUInt32.toInt32))] []))
        obtain ⟨T16, h16, X16, e16, E16, A16, D16, -, st16⟩ := newO X0 hx hZ hown (hw _ (List.mem_of_getElem? (i := 4) rfl)) (hw _ (List.mem_of_getElem? (i := 5) rfl)) (hw _ (List.mem_of_getElem? (i := 6) rfl)) e0 (g := (mkF m 87 #[.val (.int bits), .val (.int nl), .val (.int ((bits &&& (255 : Int32)).toUInt32.toUInt16.toUInt32.toInt32)), .val (.int ((((bits.toUInt32 >>> ((8 : Int32) &&& 31).toUInt32).toInt32) &&& (255 : Int32)).toUInt32.toUInt16.toUInt32.toInt32)), .val (.int ((((bits.toUInt32 >>> ((16 : Int32) &&& 31).toUInt32).toInt32) &&& (255 : Int32)).toUInt32.toUInt16.toUInt32.toInt32))] [])) rfl (hb hby d1_87) (by decide) (by decide)
        obtain ⟨b16, g16⟩ : ∃ z, z = h0.size := ⟨_, rfl⟩
        have ge_b16 : n0 ≤ b16 := Nat.le_trans (Od.1 ▸ Od.2.1) (Nat.le_of_eq g16.symm)
        have sz_b16 : h0.size ≤ b16 := Nat.le_trans Kp.1 (Nat.le_of_eq g16.symm)
        have sf_b16 : Safe Z consts_1 _ h0 b16 := Safe.new (EL := consts_1) (vm := s.vm) (Nat.le_of_eq g16.symm)
        rw [← g16] at A16 D16 st16
        replace hk := Nat.le_trans hk E16.1
        replace Od := Od.ext E16
        replace Kp := Kp.ext E16
        replace sf_b16 := Safe.ext E16 CR.1 sf_b16
        replace CR := CR.trans (CHr.ext E16 CR.1)
        have E_b16 : Exa Z h16 b16 "java/lang/String" := A16
        have F_coder_b16 : Fld Z h16 b16 "java/lang/String" "coder" "B" (.int (0 : Int32)) := D16 (Or.inr (hw _ (List.mem_of_getElem? (i := 31) rfl))) (ty := .byte) (by decide)
        have F_value_b16 : Fld Z h16 b16 "java/lang/String" "value" "[B" .null := D16 (Or.inr (hw _ (List.mem_of_getElem? (i := 33) rfl))) (ty := (.array .byte)) (by decide)
        have F_hash_b16 : Fld Z h16 b16 "java/lang/String" "hash" "I" (.int (0 : Int32)) := D16 (Or.inl (hw _ (List.mem_of_getElem? (i := 82) rfl))) (ty := .int) (by decide)
        have F_hashIsZero_b16 : Fld Z h16 b16 "java/lang/String" "hashIsZero" "Z" (.int (0 : Int32)) := D16 (Or.inl (hw _ (List.mem_of_getElem? (i := 84) rfl))) (ty := .boolean) (by decide)
        refine OEndsW.via (fun _ k_ => st16 _ k_) ?_
        show OEndsW p e below s _ _ _ _ _ (T16.setTop (mkF m 90 #[.val (.int bits), .val (.int nl), .val (.int ((bits &&& (255 : Int32)).toUInt32.toUInt16.toUInt32.toInt32)), .val (.int ((((bits.toUInt32 >>> ((8 : Int32) &&& 31).toUInt32).toInt32) &&& (255 : Int32)).toUInt32.toUInt16.toUInt32.toInt32)), .val (.int ((((bits.toUInt32 >>> ((16 : Int32) &&& 31).toUInt32).toInt32) &&& (255 : Int32)).toUInt32.toUInt16.toUInt32.toInt32))] [(.ref b16)]))
        refine OEndsW.via (fun _ k_ => XS.dup X16.here hx rfl (hb hby d1_90) rfl rfl k_) ?_
        show OEndsW p e below s _ _ _ _ _ (T16.setTop (mkF m 91 #[.val (.int bits), .val (.int nl), .val (.int ((bits &&& (255 : Int32)).toUInt32.toUInt16.toUInt32.toInt32)), .val (.int ((((bits.toUInt32 >>> ((8 : Int32) &&& 31).toUInt32).toInt32) &&& (255 : Int32)).toUInt32.toUInt16.toUInt32.toInt32)), .val (.int ((((bits.toUInt32 >>> ((16 : Int32) &&& 31).toUInt32).toInt32) &&& (255 : Int32)).toUInt32.toUInt16.toUInt32.toInt32))] [(.ref b16), (.ref b16)]))
        refine OEndsW.via (fun _ k_ => XS.iconst X16.here hx rfl (hb hby d1_91) k_) ?_
        show OEndsW p e below s _ _ _ _ _ (T16.setTop (mkF m 92 #[.val (.int bits), .val (.int nl), .val (.int ((bits &&& (255 : Int32)).toUInt32.toUInt16.toUInt32.toInt32)), .val (.int ((((bits.toUInt32 >>> ((8 : Int32) &&& 31).toUInt32).toInt32) &&& (255 : Int32)).toUInt32.toUInt16.toUInt32.toInt32)), .val (.int ((((bits.toUInt32 >>> ((16 : Int32) &&& 31).toUInt32).toInt32) &&& (255 : Int32)).toUInt32.toUInt16.toUInt32.toInt32))] [(.int (3 : Int32)), (.ref b16), (.ref b16)]))
        obtain ⟨T17, h17, k17, X17, e17, E17, A17, st17⟩ := newP X16 hx hZ (hw _ (List.mem_of_getElem? (i := 7) rfl)) e16 (g := (mkF m 92 #[.val (.int bits), .val (.int nl), .val (.int ((bits &&& (255 : Int32)).toUInt32.toUInt16.toUInt32.toInt32)), .val (.int ((((bits.toUInt32 >>> ((8 : Int32) &&& 31).toUInt32).toInt32) &&& (255 : Int32)).toUInt32.toUInt16.toUInt32.toInt32)), .val (.int ((((bits.toUInt32 >>> ((16 : Int32) &&& 31).toUInt32).toInt32) &&& (255 : Int32)).toUInt32.toUInt16.toUInt32.toInt32))] [(.int (3 : Int32)), (.ref b16), (.ref b16)])) rfl (hb hby d1_92) rfl (by decide) (cap := 3) (by decide) (by decide) (by decide) (by decide)
        obtain ⟨b17, g17⟩ : ∃ z, z = h16.size := ⟨_, rfl⟩
        have ne_b16_b17 : b16 ≠ b17 := Nat.ne_of_lt (Nat.lt_of_lt_of_le E_b16.lt (Nat.le_of_eq g17.symm))
        have ge_b17 : n0 ≤ b17 := Nat.le_trans (Od.1 ▸ Od.2.1) (Nat.le_of_eq g17.symm)
        have sz_b17 : h0.size ≤ b17 := Nat.le_trans Kp.1 (Nat.le_of_eq g17.symm)
        have sf_b17 : Safe Z consts_1 _ h16 b17 := Safe.new (EL := consts_1) (vm := s.vm) (Nat.le_of_eq g17.symm)
        rw [← g17] at A17 st17
        replace hk := Nat.le_trans hk E17.1
        replace Od := Od.ext E17
        replace Kp := Kp.ext E17
        replace sf_b16 := Safe.ext E17 CR.1 sf_b16
        replace E_b16 := Exa.ext E17 E_b16
        replace F_coder_b16 := Fld.ext E17 F_coder_b16
        replace F_value_b16 := Fld.ext E17 F_value_b16
        replace F_hash_b16 := Fld.ext E17 F_hash_b16
        replace F_hashIsZero_b16 := Fld.ext E17 F_hashIsZero_b16
        replace sf_b17 := Safe.ext E17 CR.1 sf_b17
        replace CR := CR.trans (CHr.ext E17 CR.1)
        have V_b17 : Arv Z h17 b17 k17 .char (3 : Int32) [(.int (0 : Int32)), (.int (0 : Int32)), (.int (0 : Int32))] (.int (0 : Int32)) := (Arv.new A17 (by decide)).pad (pad_rep [] (.int (0 : Int32)) 3)
        refine OEndsW.via (fun _ k_ => st17 _ k_) ?_
        show OEndsW p e below s _ _ _ _ _ (T17.setTop (mkF m 94 #[.val (.int bits), .val (.int nl), .val (.int ((bits &&& (255 : Int32)).toUInt32.toUInt16.toUInt32.toInt32)), .val (.int ((((bits.toUInt32 >>> ((8 : Int32) &&& 31).toUInt32).toInt32) &&& (255 : Int32)).toUInt32.toUInt16.toUInt32.toInt32)), .val (.int ((((bits.toUInt32 >>> ((16 : Int32) &&& 31).toUInt32).toInt32) &&& (255 : Int32)).toUInt32.toUInt16.toUInt32.toInt32))] [(.ref b17), (.ref b16), (.ref b16)]))
        refine OEndsW.via (fun _ k_ => XS.dup X17.here hx rfl (hb hby d1_94) rfl rfl k_) ?_
        show OEndsW p e below s _ _ _ _ _ (T17.setTop (mkF m 95 #[.val (.int bits), .val (.int nl), .val (.int ((bits &&& (255 : Int32)).toUInt32.toUInt16.toUInt32.toInt32)), .val (.int ((((bits.toUInt32 >>> ((8 : Int32) &&& 31).toUInt32).toInt32) &&& (255 : Int32)).toUInt32.toUInt16.toUInt32.toInt32)), .val (.int ((((bits.toUInt32 >>> ((16 : Int32) &&& 31).toUInt32).toInt32) &&& (255 : Int32)).toUInt32.toUInt16.toUInt32.toInt32))] [(.ref b17), (.ref b17), (.ref b16), (.ref b16)]))
        refine OEndsW.via (fun _ k_ => XS.iconst X17.here hx rfl (hb hby d1_95) k_) ?_
        show OEndsW p e below s _ _ _ _ _ (T17.setTop (mkF m 96 #[.val (.int bits), .val (.int nl), .val (.int ((bits &&& (255 : Int32)).toUInt32.toUInt16.toUInt32.toInt32)), .val (.int ((((bits.toUInt32 >>> ((8 : Int32) &&& 31).toUInt32).toInt32) &&& (255 : Int32)).toUInt32.toUInt16.toUInt32.toInt32)), .val (.int ((((bits.toUInt32 >>> ((16 : Int32) &&& 31).toUInt32).toInt32) &&& (255 : Int32)).toUInt32.toUInt16.toUInt32.toInt32))] [(.int (0 : Int32)), (.ref b17), (.ref b17), (.ref b16), (.ref b16)]))
        refine OEndsW.via (fun _ k_ => XS.iloadN X17.here hx rfl (hb hby d1_96) rfl k_) ?_
        show OEndsW p e below s _ _ _ _ _ (T17.setTop (mkF m 97 #[.val (.int bits), .val (.int nl), .val (.int ((bits &&& (255 : Int32)).toUInt32.toUInt16.toUInt32.toInt32)), .val (.int ((((bits.toUInt32 >>> ((8 : Int32) &&& 31).toUInt32).toInt32) &&& (255 : Int32)).toUInt32.toUInt16.toUInt32.toInt32)), .val (.int ((((bits.toUInt32 >>> ((16 : Int32) &&& 31).toUInt32).toInt32) &&& (255 : Int32)).toUInt32.toUInt16.toUInt32.toInt32))] [(.int ((bits &&& (255 : Int32)).toUInt32.toUInt16.toUInt32.toInt32)), (.int (0 : Int32)), (.ref b17), (.ref b17), (.ref b16), (.ref b16)]))
        obtain ⟨cl18, Ar18, q18, S18, M18, H18, G18⟩ := V_b17
        obtain ⟨T18, h18, X18, e18, W18, st18⟩ := stC X17 hx hZ e17 Ar18 (j := (0 : Int32)) (inb_of S18 ⟨by decide, by decide⟩) (g := (mkF m 97 #[.val (.int bits), .val (.int nl), .val (.int ((bits &&& (255 : Int32)).toUInt32.toUInt16.toUInt32.toInt32)), .val (.int ((((bits.toUInt32 >>> ((8 : Int32) &&& 31).toUInt32).toInt32) &&& (255 : Int32)).toUInt32.toUInt16.toUInt32.toInt32)), .val (.int ((((bits.toUInt32 >>> ((16 : Int32) &&& 31).toUInt32).toInt32) &&& (255 : Int32)).toUInt32.toUInt16.toUInt32.toInt32))] [(.int ((bits &&& (255 : Int32)).toUInt32.toUInt16.toUInt32.toInt32)), (.int (0 : Int32)), (.ref b17), (.ref b17), (.ref b16), (.ref b16)])) rfl rfl (hb hby d1_97)
        have V_b17 : Arv Z h18 b17 k17 .char (3 : Int32) [(.int (nar .char ((bits &&& (255 : Int32)).toUInt32.toUInt16.toUInt32.toInt32))), (.int (0 : Int32)), (.int (0 : Int32))] (.int (0 : Int32)) := Arv.set Ar18 q18 S18 M18 H18 G18 (fits_nar_char _) W18 0 rfl (Nat.le_of_ble_eq_true rfl)
        have N18 := Fr.snoc X18 N0 ge_b17
        have sfw18 := (Safe.arr (EL := consts_1) hZ.alike Ar18 (by decide))
        replace hk := Nat.le_trans hk (Keep.of_wr W18).1
        replace Od := Od.wr W18 ge_b17
        replace Kp := Kp.wr W18 (Or.inr sz_b17)
        replace sf_b16 := Safe.wr W18 sfw18 CR.1 sf_b16
        replace E_b16 := Exa.wr W18 E_b16
        replace F_coder_b16 := Fld.other W18 F_coder_b16 (Or.inl ne_b16_b17)
        replace F_value_b16 := Fld.other W18 F_value_b16 (Or.inl ne_b16_b17)
        replace F_hash_b16 := Fld.other W18 F_hash_b16 (Or.inl ne_b16_b17)
        replace F_hashIsZero_b16 := Fld.other W18 F_hashIsZero_b16 (Or.inl ne_b16_b17)
        replace sf_b17 := Safe.wr W18 sfw18 CR.1 sf_b17
        replace CR := CR.trans (CHr.wr W18 sfw18 CR.1)
        refine OEndsW.via (fun _ k_ => st18 _ k_) ?_
        show OEndsW p e below s _ _ _ _ _ (T18.setTop (mkF m 98 #[.val (.int bits), .val (.int nl), .val (.int ((bits &&& (255 : Int32)).toUInt32.toUInt16.toUInt32.toInt32)), .val (.int ((((bits.toUInt32 >>> ((8 : Int32) &&& 31).toUInt32).toInt32) &&& (255 : Int32)).toUInt32.toUInt16.toUInt32.toInt32)), .val (.int ((((bits.toUInt32 >>> ((16 : Int32) &&& 31).toUInt32).toInt32) &&& (255 : Int32)).toUInt32.toUInt16.toUInt32.toInt32))] [(.ref b17), (.ref b16), (.ref b16)]))
        refine OEndsW.via (fun _ k_ => XS.dup X18.here hx rfl (hb hby d1_98) rfl rfl k_) ?_
        show OEndsW p e below s _ _ _ _ _ (T18.setTop (mkF m 99 #[.val (.int bits), .val (.int nl), .val (.int ((bits &&& (255 : Int32)).toUInt32.toUInt16.toUInt32.toInt32)), .val (.int ((((bits.toUInt32 >>> ((8 : Int32) &&& 31).toUInt32).toInt32) &&& (255 : Int32)).toUInt32.toUInt16.toUInt32.toInt32)), .val (.int ((((bits.toUInt32 >>> ((16 : Int32) &&& 31).toUInt32).toInt32) &&& (255 : Int32)).toUInt32.toUInt16.toUInt32.toInt32))] [(.ref b17), (.ref b17), (.ref b16), (.ref b16)]))
        refine OEndsW.via (fun _ k_ => XS.iconst X18.here hx rfl (hb hby d1_99) k_) ?_
        show OEndsW p e below s _ _ _ _ _ (T18.setTop (mkF m 100 #[.val (.int bits), .val (.int nl), .val (.int ((bits &&& (255 : Int32)).toUInt32.toUInt16.toUInt32.toInt32)), .val (.int ((((bits.toUInt32 >>> ((8 : Int32) &&& 31).toUInt32).toInt32) &&& (255 : Int32)).toUInt32.toUInt16.toUInt32.toInt32)), .val (.int ((((bits.toUInt32 >>> ((16 : Int32) &&& 31).toUInt32).toInt32) &&& (255 : Int32)).toUInt32.toUInt16.toUInt32.toInt32))] [(.int (1 : Int32)), (.ref b17), (.ref b17), (.ref b16), (.ref b16)]))
        refine OEndsW.via (fun _ k_ => XS.iloadN X18.here hx rfl (hb hby d1_100) rfl k_) ?_
        show OEndsW p e below s _ _ _ _ _ (T18.setTop (mkF m 101 #[.val (.int bits), .val (.int nl), .val (.int ((bits &&& (255 : Int32)).toUInt32.toUInt16.toUInt32.toInt32)), .val (.int ((((bits.toUInt32 >>> ((8 : Int32) &&& 31).toUInt32).toInt32) &&& (255 : Int32)).toUInt32.toUInt16.toUInt32.toInt32)), .val (.int ((((bits.toUInt32 >>> ((16 : Int32) &&& 31).toUInt32).toInt32) &&& (255 : Int32)).toUInt32.toUInt16.toUInt32.toInt32))] [(.int ((((bits.toUInt32 >>> ((8 : Int32) &&& 31).toUInt32).toInt32) &&& (255 : Int32)).toUInt32.toUInt16.toUInt32.toInt32)), (.int (1 : Int32)), (.ref b17), (.ref b17), (.ref b16), (.ref b16)]))
        obtain ⟨cl19, Ar19, q19, S19, M19, H19, G19⟩ := V_b17
        obtain ⟨T19, h19, X19, e19, W19, st19⟩ := stC X18 hx hZ e18 Ar19 (j := (1 : Int32)) (inb_of S19 ⟨by decide, by decide⟩) (g := (mkF m 101 #[.val (.int bits), .val (.int nl), .val (.int ((bits &&& (255 : Int32)).toUInt32.toUInt16.toUInt32.toInt32)), .val (.int ((((bits.toUInt32 >>> ((8 : Int32) &&& 31).toUInt32).toInt32) &&& (255 : Int32)).toUInt32.toUInt16.toUInt32.toInt32)), .val (.int ((((bits.toUInt32 >>> ((16 : Int32) &&& 31).toUInt32).toInt32) &&& (255 : Int32)).toUInt32.toUInt16.toUInt32.toInt32))] [(.int ((((bits.toUInt32 >>> ((8 : Int32) &&& 31).toUInt32).toInt32) &&& (255 : Int32)).toUInt32.toUInt16.toUInt32.toInt32)), (.int (1 : Int32)), (.ref b17), (.ref b17), (.ref b16), (.ref b16)])) rfl rfl (hb hby d1_101)
        have V_b17 : Arv Z h19 b17 k17 .char (3 : Int32) [(.int (nar .char ((bits &&& (255 : Int32)).toUInt32.toUInt16.toUInt32.toInt32))), (.int (nar .char ((((bits.toUInt32 >>> ((8 : Int32) &&& 31).toUInt32).toInt32) &&& (255 : Int32)).toUInt32.toUInt16.toUInt32.toInt32))), (.int (0 : Int32))] (.int (0 : Int32)) := Arv.set Ar19 q19 S19 M19 H19 G19 (fits_nar_char _) W19 1 rfl (Nat.le_of_ble_eq_true rfl)
        have N19 := Fr.snoc X19 N18 ge_b17
        have sfw19 := (Safe.arr (EL := consts_1) hZ.alike Ar19 (by decide))
        replace hk := Nat.le_trans hk (Keep.of_wr W19).1
        replace Od := Od.wr W19 ge_b17
        replace Kp := Kp.wr W19 (Or.inr sz_b17)
        replace sf_b16 := Safe.wr W19 sfw19 CR.1 sf_b16
        replace E_b16 := Exa.wr W19 E_b16
        replace F_coder_b16 := Fld.other W19 F_coder_b16 (Or.inl ne_b16_b17)
        replace F_value_b16 := Fld.other W19 F_value_b16 (Or.inl ne_b16_b17)
        replace F_hash_b16 := Fld.other W19 F_hash_b16 (Or.inl ne_b16_b17)
        replace F_hashIsZero_b16 := Fld.other W19 F_hashIsZero_b16 (Or.inl ne_b16_b17)
        replace sf_b17 := Safe.wr W19 sfw19 CR.1 sf_b17
        replace CR := CR.trans (CHr.wr W19 sfw19 CR.1)
        refine OEndsW.via (fun _ k_ => st19 _ k_) ?_
        show OEndsW p e below s _ _ _ _ _ (T19.setTop (mkF m 102 #[.val (.int bits), .val (.int nl), .val (.int ((bits &&& (255 : Int32)).toUInt32.toUInt16.toUInt32.toInt32)), .val (.int ((((bits.toUInt32 >>> ((8 : Int32) &&& 31).toUInt32).toInt32) &&& (255 : Int32)).toUInt32.toUInt16.toUInt32.toInt32)), .val (.int ((((bits.toUInt32 >>> ((16 : Int32) &&& 31).toUInt32).toInt32) &&& (255 : Int32)).toUInt32.toUInt16.toUInt32.toInt32))] [(.ref b17), (.ref b16), (.ref b16)]))
        refine OEndsW.via (fun _ k_ => XS.dup X19.here hx rfl (hb hby d1_102) rfl rfl k_) ?_
        show OEndsW p e below s _ _ _ _ _ (T19.setTop (mkF m 103 #[.val (.int bits), .val (.int nl), .val (.int ((bits &&& (255 : Int32)).toUInt32.toUInt16.toUInt32.toInt32)), .val (.int ((((bits.toUInt32 >>> ((8 : Int32) &&& 31).toUInt32).toInt32) &&& (255 : Int32)).toUInt32.toUInt16.toUInt32.toInt32)), .val (.int ((((bits.toUInt32 >>> ((16 : Int32) &&& 31).toUInt32).toInt32) &&& (255 : Int32)).toUInt32.toUInt16.toUInt32.toInt32))] [(.ref b17), (.ref b17), (.ref b16), (.ref b16)]))
        refine OEndsW.via (fun _ k_ => XS.iconst X19.here hx rfl (hb hby d1_103) k_) ?_
        show OEndsW p e below s _ _ _ _ _ (T19.setTop (mkF m 104 #[.val (.int bits), .val (.int nl), .val (.int ((bits &&& (255 : Int32)).toUInt32.toUInt16.toUInt32.toInt32)), .val (.int ((((bits.toUInt32 >>> ((8 : Int32) &&& 31).toUInt32).toInt32) &&& (255 : Int32)).toUInt32.toUInt16.toUInt32.toInt32)), .val (.int ((((bits.toUInt32 >>> ((16 : Int32) &&& 31).toUInt32).toInt32) &&& (255 : Int32)).toUInt32.toUInt16.toUInt32.toInt32))] [(.int (2 : Int32)), (.ref b17), (.ref b17), (.ref b16), (.ref b16)]))
        refine OEndsW.via (fun _ k_ => XS.iload X19.here hx rfl (hb hby d1_104) rfl k_) ?_
        show OEndsW p e below s _ _ _ _ _ (T19.setTop (mkF m 106 #[.val (.int bits), .val (.int nl), .val (.int ((bits &&& (255 : Int32)).toUInt32.toUInt16.toUInt32.toInt32)), .val (.int ((((bits.toUInt32 >>> ((8 : Int32) &&& 31).toUInt32).toInt32) &&& (255 : Int32)).toUInt32.toUInt16.toUInt32.toInt32)), .val (.int ((((bits.toUInt32 >>> ((16 : Int32) &&& 31).toUInt32).toInt32) &&& (255 : Int32)).toUInt32.toUInt16.toUInt32.toInt32))] [(.int ((((bits.toUInt32 >>> ((16 : Int32) &&& 31).toUInt32).toInt32) &&& (255 : Int32)).toUInt32.toUInt16.toUInt32.toInt32)), (.int (2 : Int32)), (.ref b17), (.ref b17), (.ref b16), (.ref b16)]))
        obtain ⟨cl20, Ar20, q20, S20, M20, H20, G20⟩ := V_b17
        obtain ⟨T20, h20, X20, e20, W20, st20⟩ := stC X19 hx hZ e19 Ar20 (j := (2 : Int32)) (inb_of S20 ⟨by decide, by decide⟩) (g := (mkF m 106 #[.val (.int bits), .val (.int nl), .val (.int ((bits &&& (255 : Int32)).toUInt32.toUInt16.toUInt32.toInt32)), .val (.int ((((bits.toUInt32 >>> ((8 : Int32) &&& 31).toUInt32).toInt32) &&& (255 : Int32)).toUInt32.toUInt16.toUInt32.toInt32)), .val (.int ((((bits.toUInt32 >>> ((16 : Int32) &&& 31).toUInt32).toInt32) &&& (255 : Int32)).toUInt32.toUInt16.toUInt32.toInt32))] [(.int ((((bits.toUInt32 >>> ((16 : Int32) &&& 31).toUInt32).toInt32) &&& (255 : Int32)).toUInt32.toUInt16.toUInt32.toInt32)), (.int (2 : Int32)), (.ref b17), (.ref b17), (.ref b16), (.ref b16)])) rfl rfl (hb hby d1_106)
        have V_b17 : Arv Z h20 b17 k17 .char (3 : Int32) [(.int (nar .char ((bits &&& (255 : Int32)).toUInt32.toUInt16.toUInt32.toInt32))), (.int (nar .char ((((bits.toUInt32 >>> ((8 : Int32) &&& 31).toUInt32).toInt32) &&& (255 : Int32)).toUInt32.toUInt16.toUInt32.toInt32))), (.int (nar .char ((((bits.toUInt32 >>> ((16 : Int32) &&& 31).toUInt32).toInt32) &&& (255 : Int32)).toUInt32.toUInt16.toUInt32.toInt32)))] (.int (0 : Int32)) := Arv.set Ar20 q20 S20 M20 H20 G20 (fits_nar_char _) W20 2 rfl (Nat.le_of_ble_eq_true rfl)
        have N20 := Fr.snoc X20 N19 ge_b17
        have sfw20 := (Safe.arr (EL := consts_1) hZ.alike Ar20 (by decide))
        replace hk := Nat.le_trans hk (Keep.of_wr W20).1
        replace Od := Od.wr W20 ge_b17
        replace Kp := Kp.wr W20 (Or.inr sz_b17)
        replace sf_b16 := Safe.wr W20 sfw20 CR.1 sf_b16
        replace E_b16 := Exa.wr W20 E_b16
        replace F_coder_b16 := Fld.other W20 F_coder_b16 (Or.inl ne_b16_b17)
        replace F_value_b16 := Fld.other W20 F_value_b16 (Or.inl ne_b16_b17)
        replace F_hash_b16 := Fld.other W20 F_hash_b16 (Or.inl ne_b16_b17)
        replace F_hashIsZero_b16 := Fld.other W20 F_hashIsZero_b16 (Or.inl ne_b16_b17)
        replace sf_b17 := Safe.wr W20 sfw20 CR.1 sf_b17
        replace CR := CR.trans (CHr.wr W20 sfw20 CR.1)
        refine OEndsW.via (fun _ k_ => st20 _ k_) ?_
        show OEndsW p e below s _ _ _ _ _ (T20.setTop (mkF m 107 #[.val (.int bits), .val (.int nl), .val (.int ((bits &&& (255 : Int32)).toUInt32.toUInt16.toUInt32.toInt32)), .val (.int ((((bits.toUInt32 >>> ((8 : Int32) &&& 31).toUInt32).toInt32) &&& (255 : Int32)).toUInt32.toUInt16.toUInt32.toInt32)), .val (.int ((((bits.toUInt32 >>> ((16 : Int32) &&& 31).toUInt32).toInt32) &&& (255 : Int32)).toUInt32.toUInt16.toUInt32.toInt32))] [(.ref b17), (.ref b16), (.ref b16)]))
        rw [own_narc (own_and255 _)] at V_b17
        rw [own_narc (own_and255 _)] at V_b17
        rw [own_narc (own_and255 _)] at V_b17
        have hp0_b16 : ∀ c ∈ ([((bits &&& (255 : Int32)).toUInt32.toUInt16.toUInt32.toInt32), ((((bits.toUInt32 >>> ((8 : Int32) &&& 31).toUInt32).toInt32) &&& (255 : Int32)).toUInt32.toUInt16.toUInt32.toInt32), ((((bits.toUInt32 >>> ((16 : Int32) &&& 31).toUInt32).toInt32) &&& (255 : Int32)).toUInt32.toUInt16.toUInt32.toInt32)] : List Int32), ¬ c < 0 ∧ ¬ (255 : Int32) < c := (own_allS (own_and255 _) (own_allS (own_and255 _) (own_allS (own_and255 _) own_all0)))
        obtain ⟨_, _, ⟨T21, L21, k21, n21⟩, -, X21, ⟨Lc21, hQ21, l21, y21, z21⟩, st21⟩ := X20.specialBack hx (y := (⟨"java/lang/String", "<init>", "([C)V"⟩ : MethodName)) rfl hown (mvT hZ (hw _ (List.mem_of_getElem? (i := 8) rfl))) (mvT hZ (hw _ (List.mem_of_getElem? (i := 9) rfl))) (mvT hZ (hw _ (List.mem_of_getElem? (i := 10) rfl))) (by decide) (own_backX (W := 1) hZ hws (kI := 4) (hw _ (List.mem_of_getElem? (i := 5) rfl)) (cs := [((bits &&& (255 : Int32)).toUInt32.toUInt16.toUInt32.toInt32), ((((bits.toUInt32 >>> ((8 : Int32) &&& 31).toUInt32).toInt32) &&& (255 : Int32)).toUInt32.toUInt16.toUInt32.toInt32), ((((bits.toUInt32 >>> ((16 : Int32) &&& 31).toUInt32).toInt32) &&& (255 : Int32)).toUInt32.toUInt16.toUInt32.toInt32)]) (bs := ([((bits &&& (255 : Int32)).toUInt32.toUInt16.toUInt32.toInt32), ((((bits.toUInt32 >>> ((8 : Int32) &&& 31).toUInt32).toInt32) &&& (255 : Int32)).toUInt32.toUInt16.toUInt32.toInt32), ((((bits.toUInt32 >>> ((16 : Int32) &&& 31).toUInt32).toInt32) &&& (255 : Int32)).toUInt32.toUInt16.toUInt32.toInt32)] : List Int32).map (fun c => c.toInt8.toInt32)) (n := 3) ge_b16 (Od.1 ▸ Od.2.1) E_b16 F_value_b16 F_coder_b16 V_b17 (Sta.ext Od.2 S_CS) nz_CS rfl rfl (by decide) (by decide) hp0_b16 rfl (by decide) (by decide)) (g := (mkF m 107 #[.val (.int bits), .val (.int nl), .val (.int ((bits &&& (255 : Int32)).toUInt32.toUInt16.toUInt32.toInt32)), .val (.int ((((bits.toUInt32 >>> ((8 : Int32) &&& 31).toUInt32).toInt32) &&& (255 : Int32)).toUInt32.toUInt16.toUInt32.toInt32)), .val (.int ((((bits.toUInt32 >>> ((16 : Int32) &&& 31).toUInt32).toInt32) &&& (255 : Int32)).toUInt32.toUInt16.toUInt32.toInt32))] [(.ref b17), (.ref b16), (.ref b16)])) rfl (by rw [hml]; rfl) (Steps.refl _) (a := b16) (argsL := [(.ref b17)]) (rest := [(.ref b16)]) (lenOf pd_285bC29V rfl) rfl (by show 2 * 0 + _ ≤ _; exact Nat.le_of_eq rfl) (hb hby d1_107) (fun _ _ => ⟨rfl, e20, Nat.le_of_ble_eq_true rfl, Nat.le_of_ble_eq_true rfl⟩)
        dsimp only [Pt.U, Pt.locs, Pt.cells, Pt.slots] at X21 l21 y21 z21 st21 hQ21
        subst l21 y21 z21
        obtain ⟨rfl, N21q, K21, -, C_b16, ⟨t_b16, kb_b16, ge_t_b16, sz_t_b16, ntx_b16, V_b16, K_b16, fB_b16⟩, pre21⟩ := hQ21
        have F21_hash_b16 := pre21 _ _ _ _ F_hash_b16 (Jvm.RoadKit.slot_ne (Or.inl (hw _ (List.mem_of_getElem? (i := 82) rfl))) (Or.inr (hw _ (List.mem_of_getElem? (i := 33) rfl))) (by decide) (t := .int) (t' := (.array .byte)) (by decide) (by decide)) (Jvm.RoadKit.slot_ne (Or.inl (hw _ (List.mem_of_getElem? (i := 82) rfl))) (Or.inr (hw _ (List.mem_of_getElem? (i := 31) rfl))) (by decide) (t := .int) (t' := .byte) (by decide) (by decide))
        have F21_hashIsZero_b16 := pre21 _ _ _ _ F_hashIsZero_b16 (Jvm.RoadKit.slot_ne (Or.inl (hw _ (List.mem_of_getElem? (i := 84) rfl))) (Or.inr (hw _ (List.mem_of_getElem? (i := 33) rfl))) (by decide) (t := .boolean) (t' := (.array .byte)) (by decide) (by decide)) (Jvm.RoadKit.slot_ne (Or.inl (hw _ (List.mem_of_getElem? (i := 84) rfl))) (Or.inr (hw _ (List.mem_of_getElem? (i := 31) rfl))) (by decide) (t := .boolean) (t' := .byte) (by decide) (by decide))
        have ne_b16_t_b16 : b16 ≠ t_b16 := Nat.ne_of_lt (Nat.lt_of_lt_of_le E_b16.lt sz_t_b16)
        have ne_b17_t_b16 : b17 ≠ t_b16 := Nat.ne_of_lt (Nat.lt_of_lt_of_le V_b17.lt sz_t_b16)
        have N21 := Fr.app N20 N21q
        have sfk21 : ∀ x ∈ ([b16] : List Addr), Safe Z consts_1 s.vm h20 x := (allS sf_b16 all0)
        replace hk := Nat.le_trans hk K21.1
        replace Od := Od.keep K21 (allS ge_b16 all0)
        replace Kp := Kp.trans K21 (allS (Or.inr sz_b16) all0)
        replace sf_b16 := Safe.keep K21 sfk21 CR.1 sf_b16
        replace E_b16 := E_b16.keep K21
        replace sf_b17 := Safe.keep K21 sfk21 CR.1 sf_b17
        replace V_b17 := V_b17.keep K21 (ninS (Ne.symm ne_b16_b17) nin0)
        replace CR := CR.trans (CHr.keep K21 sfk21 CR.1)
        have F_hash_b16 := F21_hash_b16
        have F_hashIsZero_b16 := F21_hashIsZero_b16
        refine OEndsW.via (fun _ k_ => st21.trans k_) ?_
        show OEndsW p e below s _ _ _ _ _ (T21.setTop (mkF m 110 #[.val (.int bits), .val (.int nl), .val (.int ((bits &&& (255 : Int32)).toUInt32.toUInt16.toUInt32.toInt32)), .val (.int ((((bits.toUInt32 >>> ((8 : Int32) &&& 31).toUInt32).toInt32) &&& (255 : Int32)).toUInt32.toUInt16.toUInt32.toInt32)), .val (.int ((((bits.toUInt32 >>> ((16 : Int32) &&& 31).toUInt32).toInt32) &&& (255 : Int32)).toUInt32.toUInt16.toUInt32.toInt32))] [(.ref b16)]))
        refine OEndsW.retR X21 hx hlk hS hk hZ hEL rfl es CR Bd.returns rfl rfl (hb hby d1_110) ?_ (by decide) (by decide)
        have sfE := (CHv.at X21 hZ hEL CR.1).safe E_b16.lt sf_b16
        have hcs : own_cs bits nl = [((bits &&& (255 : Int32)).toUInt32.toUInt16.toUInt32.toInt32), ((((bits.toUInt32 >>> ((8 : Int32) &&& 31).toUInt32).toInt32) &&& (255 : Int32)).toUInt32.toUInt16.toUInt32.toInt32), ((((bits.toUInt32 >>> ((16 : Int32) &&& 31).toUInt32).toInt32) &&& (255 : Int32)).toUInt32.toUInt16.toUInt32.toInt32)] := by simp only [own_cs, if_neg hc29_0, if_neg hc45_4, if_neg hc65_9]
        have hpx : own_op Z (own_cs bits nl) (3 : Int32) ((([((bits &&& (255 : Int32)).toUInt32.toUInt16.toUInt32.toInt32), ((((bits.toUInt32 >>> ((8 : Int32) &&& 31).toUInt32).toInt32) &&& (255 : Int32)).toUInt32.toUInt16.toUInt32.toInt32), ((((bits.toUInt32 >>> ((16 : Int32) &&& 31).toUInt32).toInt32) &&& (255 : Int32)).toUInt32.toUInt16.toUInt32.toInt32)] : List Int32).map (fun c => c.toInt8.toInt32)).map Value.int) kb_b16 := by rw [hcs]; exact ⟨StrChars.Road.codOf (n := 3) rfl (fun c hc => (hp0_b16 c hc).2), Or.inr (Or.inr (Or.inr ⟨_, _, _, rfl, rfl⟩)), Or.inr fB_b16, own_up _ hp0_b16, Nat.le_of_ble_eq_true rfl⟩
        exact ⟨b16, t_b16, kb_b16, _, _, rfl, N21, Kp, ge_b16, sz_b16, sfE, E_b16, V_b16, C_b16, K_b16, hpx, F_hash_b16, F_hashIsZero_b16⟩
theorem d10_0 : decode jdk_30_method_1_code 0 = .ok (.aload_n 0, 1) := by decide +kernel
theorem d10_1 : decode jdk_30_method_1_code 1 = .ok (.invokespecial 1, 3) := by decide +kernel
theorem d10_4 : decode jdk_30_method_1_code 4 = .ok (.return_, 1) := by decide +kernel
theorem pn_java_lang_Record : plainName "java/lang/Record" = true := by first | (simp [plainName, overriddenIn]; done) | decide +kernel
set_option maxRecDepth 65536 in
set_option maxHeartbeats 40000000 in
theorem rmRec (l : Launch) (Z : State) (a0 : Array Value) (hw : ∀ d ∈ tables_1, d.before a0 Z = true) (ws : List Jvm.Cond) (r : Addr) (h0 : Heap) (n0 : Nat) (O0 : Old Z n0 h0) :
    MetFree l (⟨"java/lang/Record", "<init>", "()V"⟩ : MethodName) (head1 (Jvm.Cond.code (⟨"java/lang/Record", "<init>", "()V"⟩ : MethodName) jdk_30_method_1_code 1 none :: ws) ({ frames := 1, cells := 0, slots := 0, locals := 12 } : Room)) (fun ar' U => ar' = #[(.ref r)] ∧ Z.Warmed39 U.vm ∧ U.heap = h0) (fun _ _ _ _ _ => True) (fun _ U o U' => ∃ v L, o = .returned v ∧ (QA none h0 n0) v U'.heap L ∧ FrameEnd U o U' L ({ frames := 1, cells := 0, slots := 0, locals := 12 } : Room).cells ({ frames := 1, cells := 0, slots := 0, locals := 12 } : Room).slots) := by
  refine MetFree.of_bodySF (plainFor_of_name pn_java_lang_Record) hisR ?_
  intro p e s m args below meth c s₁ Bd hml0 hP hK
  obtain ⟨rfl, hZ, hh⟩ := hP
  have hx := Bd.exec
  have hby := Bd.bytes
  have hlk := BodyLoose.notSynchronized Bd
  have hml : c.maxLocals = 1 := hml0
  have hown : s.vm.findClass "java/lang/Record" = some m.cls := findClass_of_methodNamed Bd.named
  have hnm := (name_of_methodNamed Bd.named Bd.method).1
  have X0 : Stand p l e ({ frames := 1, cells := 0, slots := 0, locals := 12 } : Room) s m #[(.ref r)] below meth c s₁ [] 0 0 := Stand.of_body Bd
  have e0 : s₁.heap = h0 := by rw [← hh, Bd.state]; rfl
  have N0 := Fr.nil n0
  have Z0 : n0 ≤ h0.size := O0.1 ▸ O0.2.1
  show OEnds p e below s ({ frames := 1, cells := 0, slots := 0, locals := 12 } : Room).cells ({ frames := 1, cells := 0, slots := 0, locals := 12 } : Room).slots (QA none h0 n0) (s₁.setTop (entryFrame m #[(.ref r)] 1))
  refine OEnds.via (fun _ k_ => castTop (show entryFrame m #[(.ref r)] 1 = (mkF m 0 #[.val (.ref r)] []) by first | (simp [entryFrame, mkF, argsToLocals, Value.category, maxLocals]; done) | rfl) k_) ?_
  refine OEnds.via (fun _ k_ => XS.aloadN X0.here hx rfl (hb hby d10_0) rfl rfl k_) ?_
  show OEnds p e below s _ _ _ (s₁.setTop (mkF m 1 #[.val (.ref r)] [(.ref r)]))
  obtain ⟨T1, X1, e1, st1⟩ := initO X0 hx hZ hown (hw _ (List.mem_of_getElem? (i := 59) rfl)) (hw _ (List.mem_of_getElem? (i := 16) rfl)) (hw _ (List.mem_of_getElem? (i := 17) rfl)) e0 (g := (mkF m 1 #[.val (.ref r)] [(.ref r)])) rfl (by rw [hml]; rfl) rfl (hb hby d10_1) (by decide) (W := 0) (by show 2 * 0 + _ ≤ _; exact Nat.le_of_eq rfl) (by decide)
  refine OEnds.via (fun _ k_ => st1 _ k_) ?_
  show OEnds p e below s _ _ _ (T1.setTop (mkF m 4 #[.val (.ref r)] []))
  refine OEnds.retV X1 hx hlk Bd.returns (hb hby d10_4) ?_ (by decide) (by decide)
  exact ⟨rfl, N0, e1⟩
theorem d9_0 : decode prog_10_method_1_code 0 = .ok (.aload_n 0, 1) := by decide +kernel
theorem d9_1 : decode prog_10_method_1_code 1 = .ok (.invokespecial 1, 3) := by decide +kernel
theorem d9_4 : decode prog_10_method_1_code 4 = .ok (.aload_n 0, 1) := by decide +kernel
theorem d9_5 : decode prog_10_method_1_code 5 = .ok (.aload_n 1, 1) := by decide +kernel
theorem d9_6 : decode prog_10_method_1_code 6 = .ok (.putfield 7, 3) := by decide +kernel
theorem d9_9 : decode prog_10_method_1_code 9 = .ok (.aload_n 0, 1) := by decide +kernel
theorem d9_10 : decode prog_10_method_1_code 10 = .ok (.aload_n 2, 1) := by decide +kernel
theorem d9_11 : decode prog_10_method_1_code 11 = .ok (.putfield 13, 3) := by decide +kernel
theorem d9_14 : decode prog_10_method_1_code 14 = .ok (.aload_n 0, 1) := by decide +kernel
theorem d9_15 : decode prog_10_method_1_code 15 = .ok (.iload_n 3, 1) := by decide +kernel
theorem d9_16 : decode prog_10_method_1_code 16 = .ok (.putfield 16, 3) := by decide +kernel
theorem d9_19 : decode prog_10_method_1_code 19 = .ok (.aload_n 0, 1) := by decide +kernel
theorem d9_20 : decode prog_10_method_1_code 20 = .ok (.aload 4, 2) := by decide +kernel
theorem d9_22 : decode prog_10_method_1_code 22 = .ok (.putfield 20, 3) := by decide +kernel
theorem d9_25 : decode prog_10_method_1_code 25 = .ok (.return_, 1) := by decide +kernel
theorem pn_com_example_ranked_settings_rankedsettings_LookupPlans_Plan : plainName "com/example/ranked_settings/rankedsettings/LookupPlans$Plan" = true := by first | (simp [plainName, overriddenIn]; done) | decide +kernel
def Q_rmP0 (Z : State) (r : Addr) (x : Addr) (w : Addr) (h0 : Heap) (n0 : Nat) (v : Option Value) (h : Heap) (L : List Loc) : Prop := v = none ∧ Fr n0 L ∧ Keep h0 h [r] ∧ Fld Z h r "com/example/ranked_settings/rankedsettings/LookupPlans$Plan" "name" "Ljava/lang/String;" (.ref x)
set_option maxRecDepth 65536 in
set_option maxHeartbeats 40000000 in
theorem rmP0 (l : Launch) (Z : State) (a0 : Array Value) (hw : ∀ d ∈ tables_1, d.before a0 Z = true) (ws : List Jvm.Cond) (r : Addr) (x : Addr) (w : Addr) (h0 : Heap) (n0 : Nat) (O0 : Old Z n0 h0) (F_name_r : Fld Z h0 r "com/example/ranked_settings/rankedsettings/LookupPlans$Plan" "name" "Ljava/lang/String;" .null) (F_profileName_r : Fld Z h0 r "com/example/ranked_settings/rankedsettings/LookupPlans$Plan" "profileName" "Ljava/lang/String;" .null) (F_answering_r : Fld Z h0 r "com/example/ranked_settings/rankedsettings/LookupPlans$Plan" "answering" "I" (.int (0 : Int32))) (F_value_r : Fld Z h0 r "com/example/ranked_settings/rankedsettings/LookupPlans$Plan" "value" "Ljava/lang/String;" .null) (E_r : Exa Z h0 r "com/example/ranked_settings/rankedsettings/LookupPlans$Plan") (ge_r : n0 ≤ r) :
    MetFree l (⟨"com/example/ranked_settings/rankedsettings/LookupPlans$Plan", "<init>", "(Ljava/lang/String;Ljava/lang/String;ILjava/lang/String;)V"⟩ : MethodName) (head1 (Jvm.Cond.code (⟨"com/example/ranked_settings/rankedsettings/LookupPlans$Plan", "<init>", "(Ljava/lang/String;Ljava/lang/String;ILjava/lang/String;)V"⟩ : MethodName) prog_10_method_1_code 5 none :: ws) ({ frames := 2, cells := 0, slots := 0, locals := 30 } : Room)) (fun ar' U => ar' = #[(.ref r), (.ref x), .null, (.int (1 : Int32)), .null] ∧ Z.Warmed39 U.vm ∧ U.heap = h0) (fun _ _ _ _ _ => True) (fun _ U o U' => ∃ v L, o = .returned v ∧ (Q_rmP0 Z r x w h0 n0) v U'.heap L ∧ FrameEnd U o U' L ({ frames := 2, cells := 0, slots := 0, locals := 30 } : Room).cells ({ frames := 2, cells := 0, slots := 0, locals := 30 } : Room).slots) := by
  refine MetFree.of_bodySF (plainFor_of_name pn_com_example_ranked_settings_rankedsettings_LookupPlans_Plan) hisR ?_
  intro p e s m args below meth c s₁ Bd hml0 hP hK
  obtain ⟨rfl, hZ, hh⟩ := hP
  have hx := Bd.exec
  have hby := Bd.bytes
  have hlk := BodyLoose.notSynchronized Bd
  have hml : c.maxLocals = 5 := hml0
  have hown : s.vm.findClass "com/example/ranked_settings/rankedsettings/LookupPlans$Plan" = some m.cls := findClass_of_methodNamed Bd.named
  have hnm := (name_of_methodNamed Bd.named Bd.method).1
  have X0 : Stand p l e ({ frames := 2, cells := 0, slots := 0, locals := 30 } : Room) s m #[(.ref r), (.ref x), .null, (.int (1 : Int32)), .null] below meth c s₁ [] 0 0 := Stand.of_body Bd
  have e0 : s₁.heap = h0 := by rw [← hh, Bd.state]; rfl
  have N0 := Fr.nil n0
  have Z0 : n0 ≤ h0.size := O0.1 ▸ O0.2.1
  show OEnds p e below s ({ frames := 2, cells := 0, slots := 0, locals := 30 } : Room).cells ({ frames := 2, cells := 0, slots := 0, locals := 30 } : Room).slots (Q_rmP0 Z r x w h0 n0) (s₁.setTop (entryFrame m #[(.ref r), (.ref x), .null, (.int (1 : Int32)), .null] 5))
  refine OEnds.via (fun _ k_ => castTop (show entryFrame m #[(.ref r), (.ref x), .null, (.int (1 : Int32)), .null] 5 = (mkF m 0 #[.val (.ref r), .val (.ref x), .val .null, .val (.int (1 : Int32)), .val .null] []) by first | (simp [entryFrame, mkF, argsToLocals, Value.category, maxLocals]; done) | rfl) k_) ?_
  have Kp := Keep.refl h0 [r]
  show OEnds p e below s _ _ _ (s₁.setTop (mkF m 0 #[.val (.ref r), .val (.ref x), .val .null, .val (.int (1 : Int32)), .val .null] []))
  refine OEnds.via (fun _ k_ => XS.aloadN X0.here hx rfl (hb hby d9_0) rfl rfl k_) ?_
  show OEnds p e below s _ _ _ (s₁.setTop (mkF m 1 #[.val (.ref r), .val (.ref x), .val .null, .val (.int (1 : Int32)), .val .null] [(.ref r)]))
  obtain ⟨_, _, ⟨T1, L1, k1, n1⟩, -, X1, ⟨Lc1, hQ1, l1, y1, z1⟩, st1⟩ := X0.specialBack hx (y := (⟨"java/lang/Record", "<init>", "()V"⟩ : MethodName)) rfl hown (mvT hZ (hw _ (List.mem_of_getElem? (i := 54) rfl))) (mvT hZ (hw _ (List.mem_of_getElem? (i := 55) rfl))) (mvT hZ (hw _ (List.mem_of_getElem? (i := 58) rfl))) (by decide) (backOf (W := 0) (rmRec l Z a0 hw [] r h0 n0 O0 ) hZ (hw _ (List.mem_of_getElem? (i := 58) rfl)) (hw _ (List.mem_of_getElem? (i := 57) rfl)) (by decide) (by decide)) (g := (mkF m 1 #[.val (.ref r), .val (.ref x), .val .null, .val (.int (1 : Int32)), .val .null] [(.ref r)])) rfl (by rw [hml]; rfl) (Steps.refl _) (a := r) (argsL := []) (rest := []) (lenOf pd_2829V rfl) rfl (by show 2 * 0 + _ ≤ _; exact Nat.le_of_eq rfl) (hb hby d9_1) (fun _ _ => ⟨rfl, e0, Nat.le_of_ble_eq_true rfl, Nat.le_of_ble_eq_true rfl⟩)
  dsimp only [Pt.U, Pt.locs, Pt.cells, Pt.slots] at X1 l1 y1 z1 st1 hQ1
  subst l1 y1 z1
  obtain ⟨rfl, N1q, e1⟩ := hQ1
  have N1 := Fr.app N0 N1q
  refine OEnds.via (fun _ k_ => st1.trans k_) ?_
  show OEnds p e below s _ _ _ (T1.setTop (mkF m 4 #[.val (.ref r), .val (.ref x), .val .null, .val (.int (1 : Int32)), .val .null] []))
  refine OEnds.via (fun _ k_ => XS.aloadN X1.here hx rfl (hb hby d9_4) rfl rfl k_) ?_
  show OEnds p e below s _ _ _ (T1.setTop (mkF m 5 #[.val (.ref r), .val (.ref x), .val .null, .val (.int (1 : Int32)), .val .null] [(.ref r)]))
  refine OEnds.via (fun _ k_ => XS.aloadN X1.here hx rfl (hb hby d9_5) rfl rfl k_) ?_
  show OEnds p e below s _ _ _ (T1.setTop (mkF m 6 #[.val (.ref r), .val (.ref x), .val .null, .val (.int (1 : Int32)), .val .null] [(.ref x), (.ref r)]))
  obtain ⟨T2, h2, X2, e2, W2, st2⟩ := putF X1 hx hZ hown (host := "") (Or.inl (hw _ (List.mem_of_getElem? (i := 60) rfl))) Via.refl e1 F_name_r E_r (Or.inr ⟨(hw _ (List.mem_of_getElem? (i := 61) rfl)), rfl, hnm⟩) (hw _ (List.mem_of_getElem? (i := 49) rfl)) (ty := (.object "java/lang/String")) (by decide) rfl rfl (g := (mkF m 6 #[.val (.ref r), .val (.ref x), .val .null, .val (.int (1 : Int32)), .val .null] [(.ref x), (.ref r)])) rfl rfl (hb hby d9_6)
  have N2 := Fr.snoc X2 N1 ge_r
  replace F_name_r := Fld.same W2 F_name_r
  replace F_profileName_r := Fld.other W2 F_profileName_r (Or.inr (slot_ne (Or.inr (hw _ (List.mem_of_getElem? (i := 63) rfl))) (Or.inr (hw _ (List.mem_of_getElem? (i := 61) rfl))) (by decide) (t := (.object "java/lang/String")) (t' := (.object "java/lang/String")) (by decide) (by decide)))
  replace F_answering_r := Fld.other W2 F_answering_r (Or.inr (slot_ne (Or.inr (hw _ (List.mem_of_getElem? (i := 65) rfl))) (Or.inr (hw _ (List.mem_of_getElem? (i := 61) rfl))) (by decide) (t := .int) (t' := (.object "java/lang/String")) (by decide) (by decide)))
  replace F_value_r := Fld.other W2 F_value_r (Or.inr (slot_ne (Or.inr (hw _ (List.mem_of_getElem? (i := 67) rfl))) (Or.inr (hw _ (List.mem_of_getElem? (i := 61) rfl))) (by decide) (t := (.object "java/lang/String")) (t' := (.object "java/lang/String")) (by decide) (by decide)))
  replace E_r := Exa.wr W2 E_r
  replace Kp := Kp.wr W2 (Or.inl (by simp))
  refine OEnds.via (fun _ k_ => st2 _ k_) ?_
  show OEnds p e below s _ _ _ (T2.setTop (mkF m 9 #[.val (.ref r), .val (.ref x), .val .null, .val (.int (1 : Int32)), .val .null] []))
  refine OEnds.via (fun _ k_ => XS.aloadN X2.here hx rfl (hb hby d9_9) rfl rfl k_) ?_
  show OEnds p e below s _ _ _ (T2.setTop (mkF m 10 #[.val (.ref r), .val (.ref x), .val .null, .val (.int (1 : Int32)), .val .null] [(.ref r)]))
  refine OEnds.via (fun _ k_ => XS.aloadN X2.here hx rfl (hb hby d9_10) rfl rfl k_) ?_
  show OEnds p e below s _ _ _ (T2.setTop (mkF m 11 #[.val (.ref r), .val (.ref x), .val .null, .val (.int (1 : Int32)), .val .null] [.null, (.ref r)]))
  obtain ⟨T3, h3, X3, e3, W3, st3⟩ := putF X2 hx hZ hown (host := "") (Or.inl (hw _ (List.mem_of_getElem? (i := 62) rfl))) Via.refl e2 F_profileName_r E_r (Or.inr ⟨(hw _ (List.mem_of_getElem? (i := 63) rfl)), rfl, hnm⟩) (hw _ (List.mem_of_getElem? (i := 49) rfl)) (ty := (.object "java/lang/String")) (by decide) rfl rfl (g := (mkF m 11 #[.val (.ref r), .val (.ref x), .val .null, .val (.int (1 : Int32)), .val .null] [.null, (.ref r)])) rfl rfl (hb hby d9_11)
  have N3 := Fr.snoc X3 N2 ge_r
  replace F_name_r := Fld.other W3 F_name_r (Or.inr (slot_ne (Or.inr (hw _ (List.mem_of_getElem? (i := 61) rfl))) (Or.inr (hw _ (List.mem_of_getElem? (i := 63) rfl))) (by decide) (t := (.object "java/lang/String")) (t' := (.object "java/lang/String")) (by decide) (by decide)))
  replace F_profileName_r := Fld.same W3 F_profileName_r
  replace F_answering_r := Fld.other W3 F_answering_r (Or.inr (slot_ne (Or.inr (hw _ (List.mem_of_getElem? (i := 65) rfl))) (Or.inr (hw _ (List.mem_of_getElem? (i := 63) rfl))) (by decide) (t := .int) (t' := (.object "java/lang/String")) (by decide) (by decide)))
  replace F_value_r := Fld.other W3 F_value_r (Or.inr (slot_ne (Or.inr (hw _ (List.mem_of_getElem? (i := 67) rfl))) (Or.inr (hw _ (List.mem_of_getElem? (i := 63) rfl))) (by decide) (t := (.object "java/lang/String")) (t' := (.object "java/lang/String")) (by decide) (by decide)))
  replace E_r := Exa.wr W3 E_r
  replace Kp := Kp.wr W3 (Or.inl (by simp))
  refine OEnds.via (fun _ k_ => st3 _ k_) ?_
  show OEnds p e below s _ _ _ (T3.setTop (mkF m 14 #[.val (.ref r), .val (.ref x), .val .null, .val (.int (1 : Int32)), .val .null] []))
  refine OEnds.via (fun _ k_ => XS.aloadN X3.here hx rfl (hb hby d9_14) rfl rfl k_) ?_
  show OEnds p e below s _ _ _ (T3.setTop (mkF m 15 #[.val (.ref r), .val (.ref x), .val .null, .val (.int (1 : Int32)), .val .null] [(.ref r)]))
  refine OEnds.via (fun _ k_ => XS.iloadN X3.here hx rfl (hb hby d9_15) rfl k_) ?_
  show OEnds p e below s _ _ _ (T3.setTop (mkF m 16 #[.val (.ref r), .val (.ref x), .val .null, .val (.int (1 : Int32)), .val .null] [(.int (1 : Int32)), (.ref r)]))
  obtain ⟨T4, h4, X4, e4, W4, st4⟩ := putF X3 hx hZ hown (host := "") (Or.inl (hw _ (List.mem_of_getElem? (i := 64) rfl))) Via.refl e3 F_answering_r E_r (Or.inr ⟨(hw _ (List.mem_of_getElem? (i := 65) rfl)), rfl, hnm⟩) (hw _ (List.mem_of_getElem? (i := 49) rfl)) (ty := .int) (by decide) rfl rfl (g := (mkF m 16 #[.val (.ref r), .val (.ref x), .val .null, .val (.int (1 : Int32)), .val .null] [(.int (1 : Int32)), (.ref r)])) rfl rfl (hb hby d9_16)
  have N4 := Fr.snoc X4 N3 ge_r
  replace F_name_r := Fld.other W4 F_name_r (Or.inr (slot_ne (Or.inr (hw _ (List.mem_of_getElem? (i := 61) rfl))) (Or.inr (hw _ (List.mem_of_getElem? (i := 65) rfl))) (by decide) (t := (.object "java/lang/String")) (t' := .int) (by decide) (by decide)))
  replace F_profileName_r := Fld.other W4 F_profileName_r (Or.inr (slot_ne (Or.inr (hw _ (List.mem_of_getElem? (i := 63) rfl))) (Or.inr (hw _ (List.mem_of_getElem? (i := 65) rfl))) (by decide) (t := (.object "java/lang/String")) (t' := .int) (by decide) (by decide)))
  replace F_answering_r := Fld.same W4 F_answering_r
  replace F_value_r := Fld.other W4 F_value_r (Or.inr (slot_ne (Or.inr (hw _ (List.mem_of_getElem? (i := 67) rfl))) (Or.inr (hw _ (List.mem_of_getElem? (i := 65) rfl))) (by decide) (t := (.object "java/lang/String")) (t' := .int) (by decide) (by decide)))
  replace E_r := Exa.wr W4 E_r
  replace Kp := Kp.wr W4 (Or.inl (by simp))
  refine OEnds.via (fun _ k_ => st4 _ k_) ?_
  show OEnds p e below s _ _ _ (T4.setTop (mkF m 19 #[.val (.ref r), .val (.ref x), .val .null, .val (.int (1 : Int32)), .val .null] []))
  refine OEnds.via (fun _ k_ => XS.aloadN X4.here hx rfl (hb hby d9_19) rfl rfl k_) ?_
  show OEnds p e below s _ _ _ (T4.setTop (mkF m 20 #[.val (.ref r), .val (.ref x), .val .null, .val (.int (1 : Int32)), .val .null] [(.ref r)]))
  refine OEnds.via (fun _ k_ => XS.aload X4.here hx rfl (hb hby d9_20) rfl rfl k_) ?_
  show OEnds p e below s _ _ _ (T4.setTop (mkF m 22 #[.val (.ref r), .val (.ref x), .val .null, .val (.int (1 : Int32)), .val .null] [.null, (.ref r)]))
  obtain ⟨T5, h5, X5, e5, W5, st5⟩ := putF X4 hx hZ hown (host := "") (Or.inl (hw _ (List.mem_of_getElem? (i := 66) rfl))) Via.refl e4 F_value_r E_r (Or.inr ⟨(hw _ (List.mem_of_getElem? (i := 67) rfl)), rfl, hnm⟩) (hw _ (List.mem_of_getElem? (i := 49) rfl)) (ty := (.object "java/lang/String")) (by decide) rfl rfl (g := (mkF m 22 #[.val (.ref r), .val (.ref x), .val .null, .val (.int (1 : Int32)), .val .null] [.null, (.ref r)])) rfl rfl (hb hby d9_22)
  have N5 := Fr.snoc X5 N4 ge_r
  replace F_name_r := Fld.other W5 F_name_r (Or.inr (slot_ne (Or.inr (hw _ (List.mem_of_getElem? (i := 61) rfl))) (Or.inr (hw _ (List.mem_of_getElem? (i := 67) rfl))) (by decide) (t := (.object "java/lang/String")) (t' := (.object "java/lang/String")) (by decide) (by decide)))
  replace F_profileName_r := Fld.other W5 F_profileName_r (Or.inr (slot_ne (Or.inr (hw _ (List.mem_of_getElem? (i := 63) rfl))) (Or.inr (hw _ (List.mem_of_getElem? (i := 67) rfl))) (by decide) (t := (.object "java/lang/String")) (t' := (.object "java/lang/String")) (by decide) (by decide)))
  replace F_answering_r := Fld.other W5 F_answering_r (Or.inr (slot_ne (Or.inr (hw _ (List.mem_of_getElem? (i := 65) rfl))) (Or.inr (hw _ (List.mem_of_getElem? (i := 67) rfl))) (by decide) (t := .int) (t' := (.object "java/lang/String")) (by decide) (by decide)))
  replace F_value_r := Fld.same W5 F_value_r
  replace E_r := Exa.wr W5 E_r
  replace Kp := Kp.wr W5 (Or.inl (by simp))
  refine OEnds.via (fun _ k_ => st5 _ k_) ?_
  show OEnds p e below s _ _ _ (T5.setTop (mkF m 25 #[.val (.ref r), .val (.ref x), .val .null, .val (.int (1 : Int32)), .val .null] []))
  refine OEnds.retV X5 hx hlk Bd.returns (hb hby d9_25) ?_ (by decide) (by decide)
  rw [e5]
  exact ⟨rfl, N5, Kp, F_name_r⟩
def Q_rmP1 (Z : State) (r : Addr) (x : Addr) (w : Addr) (h0 : Heap) (n0 : Nat) (v : Option Value) (h : Heap) (L : List Loc) : Prop := v = none ∧ Fr n0 L ∧ Keep h0 h [r] ∧ Fld Z h r "com/example/ranked_settings/rankedsettings/LookupPlans$Plan" "name" "Ljava/lang/String;" (.ref x)
set_option maxRecDepth 65536 in
set_option maxHeartbeats 40000000 in
theorem rmP1 (l : Launch) (Z : State) (a0 : Array Value) (hw : ∀ d ∈ tables_1, d.before a0 Z = true) (ws : List Jvm.Cond) (r : Addr) (x : Addr) (w : Addr) (h0 : Heap) (n0 : Nat) (O0 : Old Z n0 h0) (F_name_r : Fld Z h0 r "com/example/ranked_settings/rankedsettings/LookupPlans$Plan" "name" "Ljava/lang/String;" .null) (F_profileName_r : Fld Z h0 r "com/example/ranked_settings/rankedsettings/LookupPlans$Plan" "profileName" "Ljava/lang/String;" .null) (F_answering_r : Fld Z h0 r "com/example/ranked_settings/rankedsettings/LookupPlans$Plan" "answering" "I" (.int (0 : Int32))) (F_value_r : Fld Z h0 r "com/example/ranked_settings/rankedsettings/LookupPlans$Plan" "value" "Ljava/lang/String;" .null) (E_r : Exa Z h0 r "com/example/ranked_settings/rankedsettings/LookupPlans$Plan") (ge_r : n0 ≤ r) :
    MetFree l (⟨"com/example/ranked_settings/rankedsettings/LookupPlans$Plan", "<init>", "(Ljava/lang/String;Ljava/lang/String;ILjava/lang/String;)V"⟩ : MethodName) (head1 (Jvm.Cond.code (⟨"com/example/ranked_settings/rankedsettings/LookupPlans$Plan", "<init>", "(Ljava/lang/String;Ljava/lang/String;ILjava/lang/String;)V"⟩ : MethodName) prog_10_method_1_code 5 none :: ws) ({ frames := 2, cells := 0, slots := 0, locals := 30 } : Room)) (fun ar' U => ar' = #[(.ref r), (.ref x), (.ref w), (.int (2 : Int32)), (.ref w)] ∧ Z.Warmed39 U.vm ∧ U.heap = h0) (fun _ _ _ _ _ => True) (fun _ U o U' => ∃ v L, o = .returned v ∧ (Q_rmP1 Z r x w h0 n0) v U'.heap L ∧ FrameEnd U o U' L ({ frames := 2, cells := 0, slots := 0, locals := 30 } : Room).cells ({ frames := 2, cells := 0, slots := 0, locals := 30 } : Room).slots) := by
  refine MetFree.of_bodySF (plainFor_of_name pn_com_example_ranked_settings_rankedsettings_LookupPlans_Plan) hisR ?_
  intro p e s m args below meth c s₁ Bd hml0 hP hK
  obtain ⟨rfl, hZ, hh⟩ := hP
  have hx := Bd.exec
  have hby := Bd.bytes
  have hlk := BodyLoose.notSynchronized Bd
  have hml : c.maxLocals = 5 := hml0
  have hown : s.vm.findClass "com/example/ranked_settings/rankedsettings/LookupPlans$Plan" = some m.cls := findClass_of_methodNamed Bd.named
  have hnm := (name_of_methodNamed Bd.named Bd.method).1
  have X0 : Stand p l e ({ frames := 2, cells := 0, slots := 0, locals := 30 } : Room) s m #[(.ref r), (.ref x), (.ref w), (.int (2 : Int32)), (.ref w)] below meth c s₁ [] 0 0 := Stand.of_body Bd
  have e0 : s₁.heap = h0 := by rw [← hh, Bd.state]; rfl
  have N0 := Fr.nil n0
  have Z0 : n0 ≤ h0.size := O0.1 ▸ O0.2.1
  show OEnds p e below s ({ frames := 2, cells := 0, slots := 0, locals := 30 } : Room).cells ({ frames := 2, cells := 0, slots := 0, locals := 30 } : Room).slots (Q_rmP1 Z r x w h0 n0) (s₁.setTop (entryFrame m #[(.ref r), (.ref x), (.ref w), (.int (2 : Int32)), (.ref w)] 5))
  refine OEnds.via (fun _ k_ => castTop (show entryFrame m #[(.ref r), (.ref x), (.ref w), (.int (2 : Int32)), (.ref w)] 5 = (mkF m 0 #[.val (.ref r), .val (.ref x), .val (.ref w), .val (.int (2 : Int32)), .val (.ref w)] []) by first | (simp [entryFrame, mkF, argsToLocals, Value.category, maxLocals]; done) | rfl) k_) ?_
  have Kp := Keep.refl h0 [r]
  show OEnds p e below s _ _ _ (s₁.setTop (mkF m 0 #[.val (.ref r), .val (.ref x), .val (.ref w), .val (.int (2 : Int32)), .val (.ref w)] []))
  refine OEnds.via (fun _ k_ => XS.aloadN X0.here hx rfl (hb hby d9_0) rfl rfl k_) ?_
  show OEnds p e below s _ _ _ (s₁.setTop (mkF m 1 #[.val (.ref r), .val (.ref x), .val (.ref w), .val (.int (2 : Int32)), .val (.ref w)] [(.ref r)]))
  obtain ⟨_, _, ⟨T1, L1, k1, n1⟩, -, X1, ⟨Lc1, hQ1, l1, y1, z1⟩, st1⟩ := X0.specialBack hx (y := (⟨"java/lang/Record", "<init>", "()V"⟩ : MethodName)) rfl hown (mvT hZ (hw _ (List.mem_of_getElem? (i := 54) rfl))) (mvT hZ (hw _ (List.mem_of_getElem? (i := 55) rfl))) (mvT hZ (hw _ (List.mem_of_getElem? (i := 58) rfl))) (by decide) (backOf (W := 0) (rmRec l Z a0 hw [] r h0 n0 O0 ) hZ (hw _ (List.mem_of_getElem? (i := 58) rfl)) (hw _ (List.mem_of_getElem? (i := 57) rfl)) (by decide) (by decide)) (g := (mkF m 1 #[.val (.ref r), .val (.ref x), .val (.ref w), .val (.int (2 : Int32)), .val (.ref w)] [(.ref r)])) rfl (by rw [hml]; rfl) (Steps.refl _) (a := r) (argsL := []) (rest := []) (lenOf pd_2829V rfl) rfl (by show 2 * 0 + _ ≤ _; exact Nat.le_of_eq rfl) (hb hby d9_1) (fun _ _ => ⟨rfl, e0, Nat.le_of_ble_eq_true rfl, Nat.le_of_ble_eq_true rfl⟩)
  dsimp only [Pt.U, Pt.locs, Pt.cells, Pt.slots] at X1 l1 y1 z1 st1 hQ1
  subst l1 y1 z1
  obtain ⟨rfl, N1q, e1⟩ := hQ1
  have N1 := Fr.app N0 N1q
  refine OEnds.via (fun _ k_ => st1.trans k_) ?_
  show OEnds p e below s _ _ _ (T1.setTop (mkF m 4 #[.val (.ref r), .val (.ref x), .val (.ref w), .val (.int (2 : Int32)), .val (.ref w)] []))
  refine OEnds.via (fun _ k_ => XS.aloadN X1.here hx rfl (hb hby d9_4) rfl rfl k_) ?_
  show OEnds p e below s _ _ _ (T1.setTop (mkF m 5 #[.val (.ref r), .val (.ref x), .val (.ref w), .val (.int (2 : Int32)), .val (.ref w)] [(.ref r)]))
  refine OEnds.via (fun _ k_ => XS.aloadN X1.here hx rfl (hb hby d9_5) rfl rfl k_) ?_
  show OEnds p e below s _ _ _ (T1.setTop (mkF m 6 #[.val (.ref r), .val (.ref x), .val (.ref w), .val (.int (2 : Int32)), .val (.ref w)] [(.ref x), (.ref r)]))
  obtain ⟨T2, h2, X2, e2, W2, st2⟩ := putF X1 hx hZ hown (host := "") (Or.inl (hw _ (List.mem_of_getElem? (i := 60) rfl))) Via.refl e1 F_name_r E_r (Or.inr ⟨(hw _ (List.mem_of_getElem? (i := 61) rfl)), rfl, hnm⟩) (hw _ (List.mem_of_getElem? (i := 49) rfl)) (ty := (.object "java/lang/String")) (by decide) rfl rfl (g := (mkF m 6 #[.val (.ref r), .val (.ref x), .val (.ref w), .val (.int (2 : Int32)), .val (.ref w)] [(.ref x), (.ref r)])) rfl rfl (hb hby d9_6)
  have N2 := Fr.snoc X2 N1 ge_r
  replace F_name_r := Fld.same W2 F_name_r
  replace F_profileName_r := Fld.other W2 F_profileName_r (Or.inr (slot_ne (Or.inr (hw _ (List.mem_of_getElem? (i := 63) rfl))) (Or.inr (hw _ (List.mem_of_getElem? (i := 61) rfl))) (by decide) (t := (.object "java/lang/String")) (t' := (.object "java/lang/String")) (by decide) (by decide)))
  replace F_answering_r := Fld.other W2 F_answering_r (Or.inr (slot_ne (Or.inr (hw _ (List.mem_of_getElem? (i := 65) rfl))) (Or.inr (hw _ (List.mem_of_getElem? (i := 61) rfl))) (by decide) (t := .int) (t' := (.object "java/lang/String")) (by decide) (by decide)))
  replace F_value_r := Fld.other W2 F_value_r (Or.inr (slot_ne (Or.inr (hw _ (List.mem_of_getElem? (i := 67) rfl))) (Or.inr (hw _ (List.mem_of_getElem? (i := 61) rfl))) (by decide) (t := (.object "java/lang/String")) (t' := (.object "java/lang/String")) (by decide) (by decide)))
  replace E_r := Exa.wr W2 E_r
  replace Kp := Kp.wr W2 (Or.inl (by simp))
  refine OEnds.via (fun _ k_ => st2 _ k_) ?_
  show OEnds p e below s _ _ _ (T2.setTop (mkF m 9 #[.val (.ref r), .val (.ref x), .val (.ref w), .val (.int (2 : Int32)), .val (.ref w)] []))
  refine OEnds.via (fun _ k_ => XS.aloadN X2.here hx rfl (hb hby d9_9) rfl rfl k_) ?_
  show OEnds p e below s _ _ _ (T2.setTop (mkF m 10 #[.val (.ref r), .val (.ref x), .val (.ref w), .val (.int (2 : Int32)), .val (.ref w)] [(.ref r)]))
  refine OEnds.via (fun _ k_ => XS.aloadN X2.here hx rfl (hb hby d9_10) rfl rfl k_) ?_
  show OEnds p e below s _ _ _ (T2.setTop (mkF m 11 #[.val (.ref r), .val (.ref x), .val (.ref w), .val (.int (2 : Int32)), .val (.ref w)] [(.ref w), (.ref r)]))
  obtain ⟨T3, h3, X3, e3, W3, st3⟩ := putF X2 hx hZ hown (host := "") (Or.inl (hw _ (List.mem_of_getElem? (i := 62) rfl))) Via.refl e2 F_profileName_r E_r (Or.inr ⟨(hw _ (List.mem_of_getElem? (i := 63) rfl)), rfl, hnm⟩) (hw _ (List.mem_of_getElem? (i := 49) rfl)) (ty := (.object "java/lang/String")) (by decide) rfl rfl (g := (mkF m 11 #[.val (.ref r), .val (.ref x), .val (.ref w), .val (.int (2 : Int32)), .val (.ref w)] [(.ref w), (.ref r)])) rfl rfl (hb hby d9_11)
  have N3 := Fr.snoc X3 N2 ge_r
  replace F_name_r := Fld.other W3 F_name_r (Or.inr (slot_ne (Or.inr (hw _ (List.mem_of_getElem? (i := 61) rfl))) (Or.inr (hw _ (List.mem_of_getElem? (i := 63) rfl))) (by decide) (t := (.object "java/lang/String")) (t' := (.object "java/lang/String")) (by decide) (by decide)))
  replace F_profileName_r := Fld.same W3 F_profileName_r
  replace F_answering_r := Fld.other W3 F_answering_r (Or.inr (slot_ne (Or.inr (hw _ (List.mem_of_getElem? (i := 65) rfl))) (Or.inr (hw _ (List.mem_of_getElem? (i := 63) rfl))) (by decide) (t := .int) (t' := (.object "java/lang/String")) (by decide) (by decide)))
  replace F_value_r := Fld.other W3 F_value_r (Or.inr (slot_ne (Or.inr (hw _ (List.mem_of_getElem? (i := 67) rfl))) (Or.inr (hw _ (List.mem_of_getElem? (i := 63) rfl))) (by decide) (t := (.object "java/lang/String")) (t' := (.object "java/lang/String")) (by decide) (by decide)))
  replace E_r := Exa.wr W3 E_r
  replace Kp := Kp.wr W3 (Or.inl (by simp))
  refine OEnds.via (fun _ k_ => st3 _ k_) ?_
  show OEnds p e below s _ _ _ (T3.setTop (mkF m 14 #[.val (.ref r), .val (.ref x), .val (.ref w), .val (.int (2 : Int32)), .val (.ref w)] []))
  refine OEnds.via (fun _ k_ => XS.aloadN X3.here hx rfl (hb hby d9_14) rfl rfl k_) ?_
  show OEnds p e below s _ _ _ (T3.setTop (mkF m 15 #[.val (.ref r), .val (.ref x), .val (.ref w), .val (.int (2 : Int32)), .val (.ref w)] [(.ref r)]))
  refine OEnds.via (fun _ k_ => XS.iloadN X3.here hx rfl (hb hby d9_15) rfl k_) ?_
  show OEnds p e below s _ _ _ (T3.setTop (mkF m 16 #[.val (.ref r), .val (.ref x), .val (.ref w), .val (.int (2 : Int32)), .val (.ref w)] [(.int (2 : Int32)), (.ref r)]))
  obtain ⟨T4, h4, X4, e4, W4, st4⟩ := putF X3 hx hZ hown (host := "") (Or.inl (hw _ (List.mem_of_getElem? (i := 64) rfl))) Via.refl e3 F_answering_r E_r (Or.inr ⟨(hw _ (List.mem_of_getElem? (i := 65) rfl)), rfl, hnm⟩) (hw _ (List.mem_of_getElem? (i := 49) rfl)) (ty := .int) (by decide) rfl rfl (g := (mkF m 16 #[.val (.ref r), .val (.ref x), .val (.ref w), .val (.int (2 : Int32)), .val (.ref w)] [(.int (2 : Int32)), (.ref r)])) rfl rfl (hb hby d9_16)
  have N4 := Fr.snoc X4 N3 ge_r
  replace F_name_r := Fld.other W4 F_name_r (Or.inr (slot_ne (Or.inr (hw _ (List.mem_of_getElem? (i := 61) rfl))) (Or.inr (hw _ (List.mem_of_getElem? (i := 65) rfl))) (by decide) (t := (.object "java/lang/String")) (t' := .int) (by decide) (by decide)))
  replace F_profileName_r := Fld.other W4 F_profileName_r (Or.inr (slot_ne (Or.inr (hw _ (List.mem_of_getElem? (i := 63) rfl))) (Or.inr (hw _ (List.mem_of_getElem? (i := 65) rfl))) (by decide) (t := (.object "java/lang/String")) (t' := .int) (by decide) (by decide)))
  replace F_answering_r := Fld.same W4 F_answering_r
  replace F_value_r := Fld.other W4 F_value_r (Or.inr (slot_ne (Or.inr (hw _ (List.mem_of_getElem? (i := 67) rfl))) (Or.inr (hw _ (List.mem_of_getElem? (i := 65) rfl))) (by decide) (t := (.object "java/lang/String")) (t' := .int) (by decide) (by decide)))
  replace E_r := Exa.wr W4 E_r
  replace Kp := Kp.wr W4 (Or.inl (by simp))
  refine OEnds.via (fun _ k_ => st4 _ k_) ?_
  show OEnds p e below s _ _ _ (T4.setTop (mkF m 19 #[.val (.ref r), .val (.ref x), .val (.ref w), .val (.int (2 : Int32)), .val (.ref w)] []))
  refine OEnds.via (fun _ k_ => XS.aloadN X4.here hx rfl (hb hby d9_19) rfl rfl k_) ?_
  show OEnds p e below s _ _ _ (T4.setTop (mkF m 20 #[.val (.ref r), .val (.ref x), .val (.ref w), .val (.int (2 : Int32)), .val (.ref w)] [(.ref r)]))
  refine OEnds.via (fun _ k_ => XS.aload X4.here hx rfl (hb hby d9_20) rfl rfl k_) ?_
  show OEnds p e below s _ _ _ (T4.setTop (mkF m 22 #[.val (.ref r), .val (.ref x), .val (.ref w), .val (.int (2 : Int32)), .val (.ref w)] [(.ref w), (.ref r)]))
  obtain ⟨T5, h5, X5, e5, W5, st5⟩ := putF X4 hx hZ hown (host := "") (Or.inl (hw _ (List.mem_of_getElem? (i := 66) rfl))) Via.refl e4 F_value_r E_r (Or.inr ⟨(hw _ (List.mem_of_getElem? (i := 67) rfl)), rfl, hnm⟩) (hw _ (List.mem_of_getElem? (i := 49) rfl)) (ty := (.object "java/lang/String")) (by decide) rfl rfl (g := (mkF m 22 #[.val (.ref r), .val (.ref x), .val (.ref w), .val (.int (2 : Int32)), .val (.ref w)] [(.ref w), (.ref r)])) rfl rfl (hb hby d9_22)
  have N5 := Fr.snoc X5 N4 ge_r
  replace F_name_r := Fld.other W5 F_name_r (Or.inr (slot_ne (Or.inr (hw _ (List.mem_of_getElem? (i := 61) rfl))) (Or.inr (hw _ (List.mem_of_getElem? (i := 67) rfl))) (by decide) (t := (.object "java/lang/String")) (t' := (.object "java/lang/String")) (by decide) (by decide)))
  replace F_profileName_r := Fld.other W5 F_profileName_r (Or.inr (slot_ne (Or.inr (hw _ (List.mem_of_getElem? (i := 63) rfl))) (Or.inr (hw _ (List.mem_of_getElem? (i := 67) rfl))) (by decide) (t := (.object "java/lang/String")) (t' := (.object "java/lang/String")) (by decide) (by decide)))
  replace F_answering_r := Fld.other W5 F_answering_r (Or.inr (slot_ne (Or.inr (hw _ (List.mem_of_getElem? (i := 65) rfl))) (Or.inr (hw _ (List.mem_of_getElem? (i := 67) rfl))) (by decide) (t := .int) (t' := (.object "java/lang/String")) (by decide) (by decide)))
  replace F_value_r := Fld.same W5 F_value_r
  replace E_r := Exa.wr W5 E_r
  replace Kp := Kp.wr W5 (Or.inl (by simp))
  refine OEnds.via (fun _ k_ => st5 _ k_) ?_
  show OEnds p e below s _ _ _ (T5.setTop (mkF m 25 #[.val (.ref r), .val (.ref x), .val (.ref w), .val (.int (2 : Int32)), .val (.ref w)] []))
  refine OEnds.retV X5 hx hlk Bd.returns (hb hby d9_25) ?_ (by decide) (by decide)
  rw [e5]
  exact ⟨rfl, N5, Kp, F_name_r⟩
theorem d21_0 : decode prog_10_method_5_code 0 = .ok (.aload_n 0, 1) := by decide +kernel
theorem d21_1 : decode prog_10_method_5_code 1 = .ok (.getfield 7, 3) := by decide +kernel
theorem d21_4 : decode prog_10_method_5_code 4 = .ok (.areturn, 1) := by decide +kernel
set_option maxRecDepth 65536 in
set_option maxHeartbeats 40000000 in
theorem rmN (l : Launch) (Z : State) (a0 : Array Value) (hw : ∀ d ∈ tables_1, d.before a0 Z = true) (ws : List Jvm.Cond) (r : Addr) (x : Addr) (h0 : Heap) (n0 : Nat) (O0 : Old Z n0 h0) (F_name : Fld Z h0 r "com/example/ranked_settings/rankedsettings/LookupPlans$Plan" "name" "Ljava/lang/String;" (.ref x)) :
    MetFree l (⟨"com/example/ranked_settings/rankedsettings/LookupPlans$Plan", "name", "()Ljava/lang/String;"⟩ : MethodName) (head1 (Jvm.Cond.code (⟨"com/example/ranked_settings/rankedsettings/LookupPlans$Plan", "name", "()Ljava/lang/String;"⟩ : MethodName) prog_10_method_5_code 1 (some (.object "java/lang/String")) :: ws) ({ frames := 0, cells := 0, slots := 0, locals := 0 } : Room)) (fun ar' U => ar' = #[(.ref r)] ∧ Z.Warmed39 U.vm ∧ U.heap = h0) (fun _ _ _ _ _ => True) (fun _ U o U' => ∃ v L, o = .returned v ∧ (QA (some (.ref x)) h0 n0) v U'.heap L ∧ FrameEnd U o U' L ({ frames := 0, cells := 0, slots := 0, locals := 0 } : Room).cells ({ frames := 0, cells := 0, slots := 0, locals := 0 } : Room).slots) := by
  refine MetFree.of_bodySF (plainFor_of_name pn_com_example_ranked_settings_rankedsettings_LookupPlans_Plan) hisR ?_
  intro p e s m args below meth c s₁ Bd hml0 hP hK
  obtain ⟨rfl, hZ, hh⟩ := hP
  have hx := Bd.exec
  have hby := Bd.bytes
  have hlk := BodyLoose.notSynchronized Bd
  have hml : c.maxLocals = 1 := hml0
  have hown : s.vm.findClass "com/example/ranked_settings/rankedsettings/LookupPlans$Plan" = some m.cls := findClass_of_methodNamed Bd.named
  have hnm := (name_of_methodNamed Bd.named Bd.method).1
  have X0 : Stand p l e ({ frames := 0, cells := 0, slots := 0, locals := 0 } : Room) s m #[(.ref r)] below meth c s₁ [] 0 0 := Stand.of_body Bd
  have e0 : s₁.heap = h0 := by rw [← hh, Bd.state]; rfl
  have N0 := Fr.nil n0
  have Z0 : n0 ≤ h0.size := O0.1 ▸ O0.2.1
  show OEnds p e below s ({ frames := 0, cells := 0, slots := 0, locals := 0 } : Room).cells ({ frames := 0, cells := 0, slots := 0, locals := 0 } : Room).slots (QA (some (.ref x)) h0 n0) (s₁.setTop (entryFrame m #[(.ref r)] 1))
  refine OEnds.via (fun _ k_ => castTop (show entryFrame m #[(.ref r)] 1 = (mkF m 0 #[.val (.ref r)] []) by first | (simp [entryFrame, mkF, argsToLocals, Value.category, maxLocals]; done) | rfl) k_) ?_
  refine OEnds.via (fun _ k_ => XS.aloadN X0.here hx rfl (hb hby d21_0) rfl rfl k_) ?_
  show OEnds p e below s _ _ _ (s₁.setTop (mkF m 1 #[.val (.ref r)] [(.ref r)]))
  obtain ⟨T1, X1, e1, st1⟩ := getF X0 hx hZ hown (host := "") (Or.inl (hw _ (List.mem_of_getElem? (i := 60) rfl))) Via.refl e0 F_name (g := (mkF m 1 #[.val (.ref r)] [(.ref r)])) rfl rfl (hb hby d21_1)
  refine OEnds.via (fun _ k_ => st1 _ k_) ?_
  show OEnds p e below s _ _ _ (T1.setTop (mkF m 4 #[.val (.ref r)] [(.ref x)]))
  refine OEnds.retR X1 hx hlk Bd.returns rfl rfl (hb hby d21_4) ?_ (by decide) (by decide)
  exact ⟨rfl, N0, e1⟩
theorem d8_0 : decode prog_9_method_1_code 0 = .ok (.aload_n 0, 1) := by decide +kernel
theorem d8_1 : decode prog_9_method_1_code 1 = .ok (.invokespecial 1, 3) := by decide +kernel
theorem d8_4 : decode prog_9_method_1_code 4 = .ok (.aload_n 0, 1) := by decide +kernel
theorem d8_5 : decode prog_9_method_1_code 5 = .ok (.sipush 1024, 3) := by decide +kernel
theorem d8_8 : decode prog_9_method_1_code 8 = .ok (.anewarray 9, 3) := by decide +kernel
theorem d8_11 : decode prog_9_method_1_code 11 = .ok (.putfield 11, 3) := by decide +kernel
theorem d8_14 : decode prog_9_method_1_code 14 = .ok (.return_, 1) := by decide +kernel
theorem pn_com_example_ranked_settings_rankedsettings_LookupPlans : plainName "com/example/ranked_settings/rankedsettings/LookupPlans" = true := by first | (simp [plainName, overriddenIn]; done) | decide +kernel
def Q_rmT (Z : State) (r : Addr) (h0 : Heap) (n0 : Nat) (v : Option Value) (h : Heap) (L : List Loc) : Prop := v = none ∧ Fr n0 L ∧ Keep h0 h [r] ∧ ∃ (b : Addr) (k_b : ClassId), h0.size ≤ b ∧ n0 ≤ b ∧ Fld Z h r "com/example/ranked_settings/rankedsettings/LookupPlans" "slots" "[Lcom/example/ranked_settings/rankedsettings/LookupPlans$Plan;" (.ref b) ∧ Ovr Z k_b "com/example/ranked_settings/rankedsettings/LookupPlans$Plan" ∧ Arh Z h b k_b (.object "com/example/ranked_settings/rankedsettings/LookupPlans$Plan") (1024 : Int32) [] [] .null
set_option maxRecDepth 65536 in
set_option maxHeartbeats 40000000 in
theorem rmT (l : Launch) (Z : State) (a0 : Array Value) (hw : ∀ d ∈ tables_1, d.before a0 Z = true) (ws : List Jvm.Cond) (r : Addr) (h0 : Heap) (n0 : Nat) (O0 : Old Z n0 h0) (F_slots_r : Fld Z h0 r "com/example/ranked_settings/rankedsettings/LookupPlans" "slots" "[Lcom/example/ranked_settings/rankedsettings/LookupPlans$Plan;" .null) (E_r : Exa Z h0 r "com/example/ranked_settings/rankedsettings/LookupPlans") (ge_r : n0 ≤ r) :
    MetFree l (⟨"com/example/ranked_settings/rankedsettings/LookupPlans", "<init>", "()V"⟩ : MethodName) (head1 (Jvm.Cond.code (⟨"com/example/ranked_settings/rankedsettings/LookupPlans", "<init>", "()V"⟩ : MethodName) prog_9_method_1_code 1 none :: ws) ({ frames := 1, cells := 1, slots := 1024, locals := 20 } : Room)) (fun ar' U => ar' = #[(.ref r)] ∧ Z.Warmed39 U.vm ∧ U.heap = h0) (fun _ _ _ _ _ => True) (fun _ U o U' => ∃ v L, o = .returned v ∧ (Q_rmT Z r h0 n0) v U'.heap L ∧ FrameEnd U o U' L ({ frames := 1, cells := 1, slots := 1024, locals := 20 } : Room).cells ({ frames := 1, cells := 1, slots := 1024, locals := 20 } : Room).slots) := by
  refine MetFree.of_bodySF (plainFor_of_name pn_com_example_ranked_settings_rankedsettings_LookupPlans) hisR ?_
  intro p e s m args below meth c s₁ Bd hml0 hP hK
  obtain ⟨rfl, hZ, hh⟩ := hP
  have hx := Bd.exec
  have hby := Bd.bytes
  have hlk := BodyLoose.notSynchronized Bd
  have hml : c.maxLocals = 1 := hml0
  have hown : s.vm.findClass "com/example/ranked_settings/rankedsettings/LookupPlans" = some m.cls := findClass_of_methodNamed Bd.named
  have hnm := (name_of_methodNamed Bd.named Bd.method).1
  have X0 : Stand p l e ({ frames := 1, cells := 1, slots := 1024, locals := 20 } : Room) s m #[(.ref r)] below meth c s₁ [] 0 0 := Stand.of_body Bd
  have e0 : s₁.heap = h0 := by rw [← hh, Bd.state]; rfl
  have N0 := Fr.nil n0
  have Z0 : n0 ≤ h0.size := O0.1 ▸ O0.2.1
  show OEnds p e below s ({ frames := 1, cells := 1, slots := 1024, locals := 20 } : Room).cells ({ frames := 1, cells := 1, slots := 1024, locals := 20 } : Room).slots (Q_rmT Z r h0 n0) (s₁.setTop (entryFrame m #[(.ref r)] 1))
  refine OEnds.via (fun _ k_ => castTop (show entryFrame m #[(.ref r)] 1 = (mkF m 0 #[.val (.ref r)] []) by first | (simp [entryFrame, mkF, argsToLocals, Value.category, maxLocals]; done) | rfl) k_) ?_
  have Od := O0
  have Kp := Keep.refl h0 [r]
  show OEnds p e below s _ _ _ (s₁.setTop (mkF m 0 #[.val (.ref r)] []))
  refine OEnds.via (fun _ k_ => XS.aloadN X0.here hx rfl (hb hby d8_0) rfl rfl k_) ?_
  show OEnds p e below s _ _ _ (s₁.setTop (mkF m 1 #[.val (.ref r)] [(.ref r)]))
  obtain ⟨T1, X1, e1, st1⟩ := initO X0 hx hZ hown (hw _ (List.mem_of_getElem? (i := 43) rfl)) (hw _ (List.mem_of_getElem? (i := 16) rfl)) (hw _ (List.mem_of_getElem? (i := 17) rfl)) e0 (g := (mkF m 1 #[.val (.ref r)] [(.ref r)])) rfl (by rw [hml]; rfl) rfl (hb hby d8_1) (by decide) (W := 0) (by show 2 * 0 + _ ≤ _; exact Nat.le_of_eq rfl) (by decide)
  refine OEnds.via (fun _ k_ => st1 _ k_) ?_
  show OEnds p e below s _ _ _ (T1.setTop (mkF m 4 #[.val (.ref r)] []))
  refine OEnds.via (fun _ k_ => XS.aloadN X1.here hx rfl (hb hby d8_4) rfl rfl k_) ?_
  show OEnds p e below s _ _ _ (T1.setTop (mkF m 5 #[.val (.ref r)] [(.ref r)]))
  refine OEnds.via (fun _ k_ => XS.sipush X1.here hx rfl (hb hby d8_5) k_) ?_
  show OEnds p e below s _ _ _ (T1.setTop (mkF m 8 #[.val (.ref r)] [(.int (1024 : Int32)), (.ref r)]))
  obtain ⟨T2, h2, k2, X2, e2, E2, A2, O2, st2⟩ := newR X1 hx hZ hown (hw _ (List.mem_of_getElem? (i := 44) rfl)) (hw _ (List.mem_of_getElem? (i := 45) rfl)) e1 (g := (mkF m 8 #[.val (.ref r)] [(.int (1024 : Int32)), (.ref r)])) rfl (hb hby d8_8) rfl (by decide) (cap := 1024) (by decide) (by decide) (by decide) (by decide)
  obtain ⟨b2, g2⟩ : ∃ z, z = h0.size := ⟨_, rfl⟩
  have ne_r_b2 : r ≠ b2 := Nat.ne_of_lt (Nat.lt_of_lt_of_le F_slots_r.lt (Nat.le_of_eq g2.symm))
  have ge_b2 : n0 ≤ b2 := Nat.le_trans (Od.1 ▸ Od.2.1) (Nat.le_of_eq g2.symm)
  have sz_b2 : h0.size ≤ b2 := Nat.le_trans Kp.1 (Nat.le_of_eq g2.symm)
  rw [← g2] at A2 st2
  replace Od := Od.ext E2
  replace F_slots_r := Fld.ext E2 F_slots_r
  replace E_r := Exa.ext E2 E_r
  replace Kp := Kp.ext E2
  have V_b2 : Arv Z h2 b2 k2 (.object "com/example/ranked_settings/rankedsettings/LookupPlans$Plan") (1024 : Int32) [] .null := Arv.new A2 (by decide)
  refine OEnds.via (fun _ k_ => st2 _ k_) ?_
  show OEnds p e below s _ _ _ (T2.setTop (mkF m 11 #[.val (.ref r)] [(.ref b2), (.ref r)]))
  obtain ⟨T3, h3, X3, e3, W3, st3⟩ := putF X2 hx hZ hown (host := "") (Or.inl (hw _ (List.mem_of_getElem? (i := 46) rfl))) Via.refl e2 F_slots_r E_r (Or.inr ⟨(hw _ (List.mem_of_getElem? (i := 47) rfl)), rfl, hnm⟩) (hw _ (List.mem_of_getElem? (i := 38) rfl)) (ty := (.array (.object "com/example/ranked_settings/rankedsettings/LookupPlans$Plan"))) (by decide) rfl rfl (g := (mkF m 11 #[.val (.ref r)] [(.ref b2), (.ref r)])) rfl rfl (hb hby d8_11)
  have N3 := Fr.snoc X3 N0 ge_r
  replace Od := Od.wr W3 ge_r
  replace F_slots_r := Fld.same W3 F_slots_r
  replace E_r := Exa.wr W3 E_r
  replace Kp := Kp.wr W3 (Or.inl (by simp))
  replace V_b2 := V_b2.other W3 (Ne.symm ne_r_b2)
  refine OEnds.via (fun _ k_ => st3 _ k_) ?_
  show OEnds p e below s _ _ _ (T3.setTop (mkF m 14 #[.val (.ref r)] []))
  refine OEnds.retV X3 hx hlk Bd.returns (hb hby d8_14) ?_ (by decide) (by decide)
  rw [e3]
  exact ⟨rfl, N3, Kp, b2, _, sz_b2, ge_b2, F_slots_r, O2, V_b2.arh⟩
theorem d12_0 : decode prog_9_method_4_code 0 = .ok (.aload_n 0, 1) := by decide +kernel
theorem d12_1 : decode prog_9_method_4_code 1 = .ok (.invokevirtual 33, 3) := by decide +kernel
theorem d12_4 : decode prog_9_method_4_code 4 = .ok (.istore_n 1, 1) := by decide +kernel
theorem d12_5 : decode prog_9_method_4_code 5 = .ok (.iload_n 1, 1) := by decide +kernel
theorem d12_6 : decode prog_9_method_4_code 6 = .ok (.iload_n 1, 1) := by decide +kernel
theorem d12_7 : decode prog_9_method_4_code 7 = .ok (.bipush 16, 2) := by decide +kernel
theorem d12_9 : decode prog_9_method_4_code 9 = .ok (.iushr, 1) := by decide +kernel
theorem d12_10 : decode prog_9_method_4_code 10 = .ok (.ixor, 1) := by decide +kernel
theorem d12_11 : decode prog_9_method_4_code 11 = .ok (.sipush 1023, 3) := by decide +kernel
theorem d12_14 : decode prog_9_method_4_code 14 = .ok (.iand, 1) := by decide +kernel
theorem d12_15 : decode prog_9_method_4_code 15 = .ok (.ireturn, 1) := by decide +kernel
def Q_rmSl (Z : State) (x : Addr) (t_x : Addr) (kb_x : ClassId) (nn_x : Int32) (vs_x : List Value) (G1 : Int32) (cs : List Int32) (h0 : Heap) (n0 : Nat) (v : Option Value) (h : Heap) (L : List Loc) : Prop := v = some (.int (own_sl vs_x)) ∧ Fr n0 L ∧ Keep h0 h [x] ∧ Exa Z h x "java/lang/String" ∧ Fld Z h x "java/lang/String" "value" "[B" (.ref t_x) ∧ Fld Z h x "java/lang/String" "coder" "B" (.int (0 : Int32))
theorem pd_2829I : parseMethodDescriptor "()I" = some ⟨[], some .int⟩ := by decide +kernel
set_option maxRecDepth 65536 in
set_option maxHeartbeats 40000000 in
theorem rmSl (l : Launch) (Z : State) (a0 : Array Value) (hw : ∀ d ∈ tables_1, d.before a0 Z = true) (ws : List Jvm.Cond) (x : Addr) (t_x : Addr) (kb_x : ClassId) (nn_x : Int32) (vs_x : List Value) (G1 : Int32) (cs : List Int32) (h0 : Heap) (n0 : Nat) (O0 : Old Z n0 h0) (S_CS : Sta Z Z.heap "java/lang/String" "COMPACT_STRINGS" "Z" (.int G1)) (nz_CS : ¬ (G1 = (0 : Int32))) (E_x : Exa Z h0 x "java/lang/String") (V_x : Fld Z h0 x "java/lang/String" "value" "[B" (.ref t_x)) (C_x : Fld Z h0 x "java/lang/String" "coder" "B" (.int (0 : Int32))) (K_x : Arv Z h0 t_x kb_x .byte nn_x vs_x (.int (0 : Int32))) (hp_x : own_op Z cs nn_x vs_x kb_x) (F_hash_x : Fld Z h0 x "java/lang/String" "hash" "I" (.int (0 : Int32))) (F_hashIsZero_x : Fld Z h0 x "java/lang/String" "hashIsZero" "Z" (.int (0 : Int32))) (ge_x : n0 ≤ x) :
    MetFree l (⟨"com/example/ranked_settings/rankedsettings/LookupPlans", "slot", "(Ljava/lang/String;)I"⟩ : MethodName) (head1 (Jvm.Cond.code (⟨"com/example/ranked_settings/rankedsettings/LookupPlans", "slot", "(Ljava/lang/String;)I"⟩ : MethodName) prog_9_method_4_code 2 (some .int) :: ws) ({ frames := 4, cells := 0, slots := 0, locals := 90 } : Room)) (fun ar' U => ar' = #[(.ref x)] ∧ Z.Warmed39 U.vm ∧ U.heap = h0) (fun _ _ _ _ _ => True) (fun _ U o U' => ∃ v L, o = .returned v ∧ (Q_rmSl Z x t_x kb_x nn_x vs_x G1 cs h0 n0) v U'.heap L ∧ FrameEnd U o U' L ({ frames := 4, cells := 0, slots := 0, locals := 90 } : Room).cells ({ frames := 4, cells := 0, slots := 0, locals := 90 } : Room).slots) := by
  refine MetFree.of_bodySF (plainFor_of_name pn_com_example_ranked_settings_rankedsettings_LookupPlans) hisR ?_
  intro p e s m args below meth c s₁ Bd hml0 hP hK
  obtain ⟨rfl, hZ, hh⟩ := hP
  have hx := Bd.exec
  have hby := Bd.bytes
  have hlk := BodyLoose.notSynchronized Bd
  have hml : c.maxLocals = 2 := hml0
  have hown : s.vm.findClass "com/example/ranked_settings/rankedsettings/LookupPlans" = some m.cls := findClass_of_methodNamed Bd.named
  have hnm := (name_of_methodNamed Bd.named Bd.method).1
  have X0 : Stand p l e ({ frames := 4, cells := 0, slots := 0, locals := 90 } : Room) s m #[(.ref x)] below meth c s₁ [] 0 0 := Stand.of_body Bd
  have e0 : s₁.heap = h0 := by rw [← hh, Bd.state]; rfl
  have N0 := Fr.nil n0
  have Z0 : n0 ≤ h0.size := O0.1 ▸ O0.2.1
  show OEnds p e below s ({ frames := 4, cells := 0, slots := 0, locals := 90 } : Room).cells ({ frames := 4, cells := 0, slots := 0, locals := 90 } : Room).slots (Q_rmSl Z x t_x kb_x nn_x vs_x G1 cs h0 n0) (s₁.setTop (entryFrame m #[(.ref x)] 2))
  refine OEnds.via (fun _ k_ => castTop (show entryFrame m #[(.ref x)] 2 = (mkF m 0 #[.val (.ref x), .unset] []) by first | (simp [entryFrame, mkF, argsToLocals, Value.category, maxLocals]; done) | rfl) k_) ?_
  show OEnds p e below s _ _ _ (s₁.setTop (mkF m 0 #[.val (.ref x), .unset] []))
  refine OEnds.via (fun _ k_ => XS.aloadN X0.here hx rfl (hb hby d12_0) rfl rfl k_) ?_
  show OEnds p e below s _ _ _ (s₁.setTop (mkF m 1 #[.val (.ref x), .unset] [(.ref x)]))
  obtain ⟨cq1, kq1, q1a, q1b, q1c⟩ := isOf hZ e0 E_x
  obtain ⟨_, _, ⟨T1, L1, k1, n1⟩, -, X1, ⟨Lc1, hQ1, l1, y1, z1⟩, st1⟩ := X0.virtualBack hx (y := (⟨"java/lang/String", "hashCode", "()I"⟩ : MethodName)) (z := (⟨"java/lang/String", "hashCode", "()I"⟩ : MethodName)) hown (mvT hZ (hw _ (List.mem_of_getElem? (i := 76) rfl))) (mvT hZ (hw _ (List.mem_of_getElem? (i := 77) rfl))) (notFace_of_selects (args := #[]) (mvT hZ (hw _ (List.mem_of_getElem? (i := 79) rfl)))) (mvT hZ (hw _ (List.mem_of_getElem? (i := 79) rfl))) (mvT hZ (hw _ (List.mem_of_getElem? (i := 78) rfl))) (by decide) (backOf (W := 0) (rmH l Z a0 hw [] x t_x kb_x nn_x vs_x G1 cs h0 n0 O0 S_CS nz_CS E_x V_x C_x K_x hp_x F_hash_x F_hashIsZero_x ge_x) hZ (hw _ (List.mem_of_getElem? (i := 80) rfl)) (hw _ (List.mem_of_getElem? (i := 6) rfl)) (by decide) (by decide)) q1a q1c (g := (mkF m 1 #[.val (.ref x), .unset] [(.ref x)])) rfl (by rw [hml]; rfl) (Steps.refl _) (argsL := []) (rest := []) (lenOf pd_2829I rfl) rfl (by show 2 * 0 + _ ≤ _; exact Nat.le_of_eq rfl) (hb hby d12_1) (fun _ _ => ⟨rfl, e0, Nat.le_of_ble_eq_true rfl, Nat.le_of_ble_eq_true rfl⟩)
  dsimp only [Pt.U, Pt.locs, Pt.cells, Pt.slots] at X1 l1 y1 z1 st1 hQ1
  subst l1 y1 z1
  obtain ⟨rfl, N1q, K1, -, V1x, C1x⟩ := hQ1
  have N1 := Fr.app N0 N1q
  have ne_t_x_x : t_x ≠ x := (Ne.symm (Exa.neArv E_x K_x (hw _ (List.mem_of_getElem? (i := 5) rfl))))
  replace E_x := E_x.keep K1
  replace K_x := K_x.keep K1 (ninS ne_t_x_x nin0)
  replace V_x := V1x
  replace C_x := C1x
  have Kh := K1
  refine OEnds.via (fun _ k_ => st1.trans k_) ?_
  show OEnds p e below s _ _ _ (T1.setTop (mkF m 4 #[.val (.ref x), .unset] [(.int (own_hv vs_x))]))
  refine OEnds.via (fun _ k_ => XS.istoreN X1.here hx rfl (hb hby d12_4) rfl (l' := #[.val (.ref x), .val (.int (own_hv vs_x))]) rfl k_) ?_
  show OEnds p e below s _ _ _ (T1.setTop (mkF m 5 #[.val (.ref x), .val (.int (own_hv vs_x))] []))
  refine OEnds.via (fun _ k_ => XS.iloadN X1.here hx rfl (hb hby d12_5) rfl k_) ?_
  show OEnds p e below s _ _ _ (T1.setTop (mkF m 6 #[.val (.ref x), .val (.int (own_hv vs_x))] [(.int (own_hv vs_x))]))
  refine OEnds.via (fun _ k_ => XS.iloadN X1.here hx rfl (hb hby d12_6) rfl k_) ?_
  show OEnds p e below s _ _ _ (T1.setTop (mkF m 7 #[.val (.ref x), .val (.int (own_hv vs_x))] [(.int (own_hv vs_x)), (.int (own_hv vs_x))]))
  refine OEnds.via (fun _ k_ => XS.bipush X1.here hx rfl (hb hby d12_7) k_) ?_
  show OEnds p e below s _ _ _ (T1.setTop (mkF m 9 #[.val (.ref x), .val (.int (own_hv vs_x))] [(.int (16 : Int32)), (.int (own_hv vs_x)), (.int (own_hv vs_x))]))
  refine OEnds.via (fun _ k_ => XS.iushr X1.here hx rfl (hb hby d12_9) rfl k_) ?_
  show OEnds p e below s _ _ _ (T1.setTop (mkF m 10 #[.val (.ref x), .val (.int (own_hv vs_x))] [(.int (((own_hv vs_x).toUInt32 >>> ((16 : Int32) &&& 31).toUInt32).toInt32)), (.int (own_hv vs_x))]))
  refine OEnds.via (fun _ k_ => XS.ixor X1.here hx rfl (hb hby d12_10) rfl k_) ?_
  show OEnds p e below s _ _ _ (T1.setTop (mkF m 11 #[.val (.ref x), .val (.int (own_hv vs_x))] [(.int ((own_hv vs_x) ^^^ (((own_hv vs_x).toUInt32 >>> ((16 : Int32) &&& 31).toUInt32).toInt32)))]))
  refine OEnds.via (fun _ k_ => XS.sipush X1.here hx rfl (hb hby d12_11) k_) ?_
  show OEnds p e below s _ _ _ (T1.setTop (mkF m 14 #[.val (.ref x), .val (.int (own_hv vs_x))] [(.int (1023 : Int32)), (.int ((own_hv vs_x) ^^^ (((own_hv vs_x).toUInt32 >>> ((16 : Int32) &&& 31).toUInt32).toInt32)))]))
  refine OEnds.via (fun _ k_ => XS.iand X1.here hx rfl (hb hby d12_14) rfl k_) ?_
  show OEnds p e below s _ _ _ (T1.setTop (mkF m 15 #[.val (.ref x), .val (.int (own_hv vs_x))] [(.int (((own_hv vs_x) ^^^ (((own_hv vs_x).toUInt32 >>> ((16 : Int32) &&& 31).toUInt32).toInt32)) &&& (1023 : Int32)))]))
  refine OEnds.retI X1 hx hlk Bd.returns (hb hby d12_15) ?_ (by decide) (by decide)
  exact ⟨rfl, N1, Kh, E_x, V_x, C_x⟩
theorem d20_0 : decode prog_9_method_3_code 0 = .ok (.aload_n 1, 1) := by decide +kernel
theorem d20_1 : decode prog_9_method_3_code 1 = .ok (.invokevirtual 19, 3) := by decide +kernel
theorem d20_4 : decode prog_9_method_3_code 4 = .ok (.invokevirtual 29, 3) := by decide +kernel
theorem d20_7 : decode prog_9_method_3_code 7 = .ok (.sipush 256, 3) := by decide +kernel
theorem d20_10 : decode prog_9_method_3_code 10 = .ok (.if_icmp .gt 16, 3) := by decide +kernel
theorem d20_13 : decode prog_9_method_3_code 13 = .ok (.aload_n 0, 1) := by decide +kernel
theorem d20_14 : decode prog_9_method_3_code 14 = .ok (.getfield 11, 3) := by decide +kernel
theorem d20_17 : decode prog_9_method_3_code 17 = .ok (.aload_n 1, 1) := by decide +kernel
theorem d20_18 : decode prog_9_method_3_code 18 = .ok (.invokevirtual 19, 3) := by decide +kernel
theorem d20_21 : decode prog_9_method_3_code 21 = .ok (.invokestatic 15, 3) := by decide +kernel
theorem d20_24 : decode prog_9_method_3_code 24 = .ok (.aload_n 1, 1) := by decide +kernel
theorem d20_25 : decode prog_9_method_3_code 25 = .ok (.aastore, 1) := by decide +kernel
theorem d20_26 : decode prog_9_method_3_code 26 = .ok (.return_, 1) := by decide +kernel
def Q_rmK (Z : State) (r : Addr) (b : Addr) (k_b : ClassId) (pl : Addr) (hs : List (Int32 × Value)) (x : Addr) (t_x : Addr) (kb_x : ClassId) (nn_x : Int32) (vs_x : List Value) (G1 : Int32) (cs : List Int32) (h0 : Heap) (n0 : Nat) (v : Option Value) (h : Heap) (L : List Loc) : Prop := v = none ∧ Fr n0 L ∧ Keep h0 h [x, b] ∧ Fld Z h x "java/lang/String" "value" "[B" (.ref t_x) ∧ Fld Z h x "java/lang/String" "coder" "B" (.int (0 : Int32)) ∧ Arh Z h b k_b (.object "com/example/ranked_settings/rankedsettings/LookupPlans$Plan") (1024 : Int32) ((own_sl vs_x, .ref pl) :: hs) [] .null
theorem pd_2829Ljava2flang2fString3b : parseMethodDescriptor "()Ljava/lang/String;" = some ⟨[], some (.object "java/lang/String")⟩ := by decide +kernel
theorem pd_28Ljava2flang2fString3b29I : parseMethodDescriptor "(Ljava/lang/String;)I" = some ⟨[(.object "java/lang/String")], some .int⟩ := by decide +kernel
set_option maxRecDepth 65536 in
set_option maxHeartbeats 40000000 in
theorem rmK (l : Launch) (Z : State) (a0 : Array Value) (hw : ∀ d ∈ tables_1, d.before a0 Z = true) (ws : List Jvm.Cond) (r : Addr) (b : Addr) (k_b : ClassId) (pl : Addr) (hs : List (Int32 × Value)) (x : Addr) (t_x : Addr) (kb_x : ClassId) (nn_x : Int32) (vs_x : List Value) (G1 : Int32) (cs : List Int32) (h0 : Heap) (n0 : Nat) (O0 : Old Z n0 h0) (S_CS : Sta Z Z.heap "java/lang/String" "COMPACT_STRINGS" "Z" (.int G1)) (nz_CS : ¬ (G1 = (0 : Int32))) (E_x : Exa Z h0 x "java/lang/String") (V_x : Fld Z h0 x "java/lang/String" "value" "[B" (.ref t_x)) (C_x : Fld Z h0 x "java/lang/String" "coder" "B" (.int (0 : Int32))) (K_x : Arv Z h0 t_x kb_x .byte nn_x vs_x (.int (0 : Int32))) (hp_x : own_op Z cs nn_x vs_x kb_x) (F_hash_x : Fld Z h0 x "java/lang/String" "hash" "I" (.int (0 : Int32))) (F_hashIsZero_x : Fld Z h0 x "java/lang/String" "hashIsZero" "Z" (.int (0 : Int32))) (ge_x : n0 ≤ x) (F_slots_r : Fld Z h0 r "com/example/ranked_settings/rankedsettings/LookupPlans" "slots" "[Lcom/example/ranked_settings/rankedsettings/LookupPlans$Plan;" (.ref b)) (E_r : Exa Z h0 r "com/example/ranked_settings/rankedsettings/LookupPlans") (F_name_p : Fld Z h0 pl "com/example/ranked_settings/rankedsettings/LookupPlans$Plan" "name" "Ljava/lang/String;" (.ref x)) (E_p : Exa Z h0 pl "com/example/ranked_settings/rankedsettings/LookupPlans$Plan") (O_b : Ovr Z k_b "com/example/ranked_settings/rankedsettings/LookupPlans$Plan") (T_b : Arh Z h0 b k_b (.object "com/example/ranked_settings/rankedsettings/LookupPlans$Plan") (1024 : Int32) hs [] .null) (ge_b : n0 ≤ b) (ntb : t_x ≠ b) :
    MetFree l (⟨"com/example/ranked_settings/rankedsettings/LookupPlans", "keep", "(Lcom/example/ranked_settings/rankedsettings/LookupPlans$Plan;)V"⟩ : MethodName) (head1 (Jvm.Cond.code (⟨"com/example/ranked_settings/rankedsettings/LookupPlans", "keep", "(Lcom/example/ranked_settings/rankedsettings/LookupPlans$Plan;)V"⟩ : MethodName) prog_9_method_3_code 2 none :: ws) ({ frames := 5, cells := 0, slots := 0, locals := 110 } : Room)) (fun ar' U => ar' = #[(.ref r), (.ref pl)] ∧ Z.Warmed39 U.vm ∧ U.heap = h0) (fun _ _ _ _ _ => True) (fun _ U o U' => ∃ v L, o = .returned v ∧ (Q_rmK Z r b k_b pl hs x t_x kb_x nn_x vs_x G1 cs h0 n0) v U'.heap L ∧ FrameEnd U o U' L ({ frames := 5, cells := 0, slots := 0, locals := 110 } : Room).cells ({ frames := 5, cells := 0, slots := 0, locals := 110 } : Room).slots) := by
  refine MetFree.of_bodySF (plainFor_of_name pn_com_example_ranked_settings_rankedsettings_LookupPlans) hisR ?_
  intro p e s m args below meth c s₁ Bd hml0 hP hK
  obtain ⟨rfl, hZ, hh⟩ := hP
  have hx := Bd.exec
  have hby := Bd.bytes
  have hlk := BodyLoose.notSynchronized Bd
  have hml : c.maxLocals = 2 := hml0
  have hown : s.vm.findClass "com/example/ranked_settings/rankedsettings/LookupPlans" = some m.cls := findClass_of_methodNamed Bd.named
  have hnm := (name_of_methodNamed Bd.named Bd.method).1
  have X0 : Stand p l e ({ frames := 5, cells := 0, slots := 0, locals := 110 } : Room) s m #[(.ref r), (.ref pl)] below meth c s₁ [] 0 0 := Stand.of_body Bd
  have e0 : s₁.heap = h0 := by rw [← hh, Bd.state]; rfl
  have N0 := Fr.nil n0
  have Z0 : n0 ≤ h0.size := O0.1 ▸ O0.2.1
  show OEnds p e below s ({ frames := 5, cells := 0, slots := 0, locals := 110 } : Room).cells ({ frames := 5, cells := 0, slots := 0, locals := 110 } : Room).slots (Q_rmK Z r b k_b pl hs x t_x kb_x nn_x vs_x G1 cs h0 n0) (s₁.setTop (entryFrame m #[(.ref r), (.ref pl)] 2))
  refine OEnds.via (fun _ k_ => castTop (show entryFrame m #[(.ref r), (.ref pl)] 2 = (mkF m 0 #[.val (.ref r), .val (.ref pl)] []) by first | (simp [entryFrame, mkF, argsToLocals, Value.category, maxLocals]; done) | rfl) k_) ?_
  have hln : ∀ d ∈ StrChars.Road.wordsLen, d.before a0 Z = true := fun d hd => hw d ((by decide +kernel : ∀ d ∈ StrChars.Road.wordsLen, d ∈ tables_1) d hd)
  have Od := O0
  have Kp := Keep.refl h0 [x, b]
  show OEnds p e below s _ _ _ (s₁.setTop (mkF m 0 #[.val (.ref r), .val (.ref pl)] []))
  refine OEnds.via (fun _ k_ => XS.aloadN X0.here hx rfl (hb hby d20_0) rfl rfl k_) ?_
  show OEnds p e below s _ _ _ (s₁.setTop (mkF m 1 #[.val (.ref r), .val (.ref pl)] [(.ref pl)]))
  obtain ⟨cq1, kq1, q1a, q1b, q1c⟩ := isOf hZ e0 E_p
  obtain ⟨_, _, ⟨T1, L1, k1, n1⟩, -, X1, ⟨Lc1, hQ1, l1, y1, z1⟩, st1⟩ := X0.virtualBack hx (y := (⟨"com/example/ranked_settings/rankedsettings/LookupPlans$Plan", "name", "()Ljava/lang/String;"⟩ : MethodName)) (z := (⟨"com/example/ranked_settings/rankedsettings/LookupPlans$Plan", "name", "()Ljava/lang/String;"⟩ : MethodName)) hown (mvT hZ (hw _ (List.mem_of_getElem? (i := 117) rfl))) (mvT hZ (hw _ (List.mem_of_getElem? (i := 118) rfl))) (notFace_of_selects (args := #[]) (mvT hZ (hw _ (List.mem_of_getElem? (i := 120) rfl)))) (mvT hZ (hw _ (List.mem_of_getElem? (i := 120) rfl))) (mvT hZ (hw _ (List.mem_of_getElem? (i := 119) rfl))) (by decide) (backOf (W := 0) (rmN l Z a0 hw [] pl x h0 n0 Od F_name_p) hZ (hw _ (List.mem_of_getElem? (i := 121) rfl)) (hw _ (List.mem_of_getElem? (i := 50) rfl)) (by decide) (by decide)) q1a q1c (g := (mkF m 1 #[.val (.ref r), .val (.ref pl)] [(.ref pl)])) rfl (by rw [hml]; rfl) (Steps.refl _) (argsL := []) (rest := []) (lenOf pd_2829Ljava2flang2fString3b rfl) rfl (by show 2 * 0 + _ ≤ _; exact Nat.le_of_eq rfl) (hb hby d20_1) (fun _ _ => ⟨rfl, e0, Nat.le_of_ble_eq_true rfl, Nat.le_of_ble_eq_true rfl⟩)
  dsimp only [Pt.U, Pt.locs, Pt.cells, Pt.slots] at X1 l1 y1 z1 st1 hQ1
  subst l1 y1 z1
  obtain ⟨rfl, N1q, e1⟩ := hQ1
  have N1 := Fr.app N0 N1q
  refine OEnds.via (fun _ k_ => st1.trans k_) ?_
  show OEnds p e below s _ _ _ (T1.setTop (mkF m 4 #[.val (.ref r), .val (.ref pl)] [(.ref x)]))
  obtain ⟨cq2, kq2, q2a, q2b, q2c⟩ := isOf hZ e1 E_x
  obtain ⟨_, _, ⟨T2, L2, k2, n2⟩, -, X2, ⟨Lc2, hQ2, l2, y2, z2⟩, st2⟩ := X1.virtualBack hx (y := (⟨"java/lang/String", "length", "()I"⟩ : MethodName)) (z := (⟨"java/lang/String", "length", "()I"⟩ : MethodName)) hown (mvT hZ (hw _ (List.mem_of_getElem? (i := 122) rfl))) (mvT hZ (hw _ (List.mem_of_getElem? (i := 123) rfl))) (notFace_of_selects (args := #[]) (mvT hZ (hw _ (List.mem_of_getElem? (i := 125) rfl)))) (mvT hZ (hw _ (List.mem_of_getElem? (i := 125) rfl))) (mvT hZ (hw _ (List.mem_of_getElem? (i := 124) rfl))) (by decide) (StrChars.Road.lenW (W := 0) hZ hln (kI := 4) (hw _ (List.mem_of_getElem? (i := 5) rfl)) E_x V_x C_x K_x hp_x.1 hp_x.2.2.2.1 (Sta.ext Od.2 S_CS) nz_CS hp_x.le (by decide) (by decide)) q2a q2c (g := (mkF m 4 #[.val (.ref r), .val (.ref pl)] [(.ref x)])) rfl (by rw [hml]; rfl) (Steps.refl _) (argsL := []) (rest := []) (lenOf pd_2829I rfl) rfl (by show 2 * 0 + _ ≤ _; exact Nat.le_of_eq rfl) (hb hby d20_4) (fun _ _ => ⟨rfl, e1, Nat.le_of_ble_eq_true rfl, Nat.le_of_ble_eq_true rfl⟩)
  dsimp only [Pt.U, Pt.locs, Pt.cells, Pt.slots] at X2 l2 y2 z2 st2 hQ2
  subst l2 y2 z2
  obtain ⟨rfl, rfl, e2⟩ := hQ2
  have N2 := Fr.app N1 (Fr.nil n0)
  refine OEnds.via (fun _ k_ => st2.trans k_) ?_
  show OEnds p e below s _ _ _ (T2.setTop (mkF m 7 #[.val (.ref r), .val (.ref pl)] [(.int (Int32.ofNat cs.length))]))
  refine OEnds.via (fun _ k_ => XS.sipush X2.here hx rfl (hb hby d20_7) k_) ?_
  show OEnds p e below s _ _ _ (T2.setTop (mkF m 10 #[.val (.ref r), .val (.ref pl)] [(.int (256 : Int32)), (.int (Int32.ofNat cs.length))]))
  refine OEnds.via (fun _ k_ => XS.icmpNo X2.here hx rfl (hb hby d20_10) rfl (flt hp_x.short).2.2.1 k_) ?_
  show OEnds p e below s _ _ _ (T2.setTop (mkF m 13 #[.val (.ref r), .val (.ref pl)] []))
  refine OEnds.via (fun _ k_ => XS.aloadN X2.here hx rfl (hb hby d20_13) rfl rfl k_) ?_
  show OEnds p e below s _ _ _ (T2.setTop (mkF m 14 #[.val (.ref r), .val (.ref pl)] [(.ref r)]))
  obtain ⟨T3, X3, e3, st3⟩ := getF X2 hx hZ hown (host := "") (Or.inl (hw _ (List.mem_of_getElem? (i := 46) rfl))) Via.refl e2 F_slots_r (g := (mkF m 14 #[.val (.ref r), .val (.ref pl)] [(.ref r)])) rfl rfl (hb hby d20_14)
  refine OEnds.via (fun _ k_ => st3 _ k_) ?_
  show OEnds p e below s _ _ _ (T3.setTop (mkF m 17 #[.val (.ref r), .val (.ref pl)] [(.ref b)]))
  refine OEnds.via (fun _ k_ => XS.aloadN X3.here hx rfl (hb hby d20_17) rfl rfl k_) ?_
  show OEnds p e below s _ _ _ (T3.setTop (mkF m 18 #[.val (.ref r), .val (.ref pl)] [(.ref pl), (.ref b)]))
  obtain ⟨cq4, kq4, q4a, q4b, q4c⟩ := isOf hZ e3 E_p
  obtain ⟨_, _, ⟨T4, L4, k4, n4⟩, -, X4, ⟨Lc4, hQ4, l4, y4, z4⟩, st4⟩ := X3.virtualBack hx (y := (⟨"com/example/ranked_settings/rankedsettings/LookupPlans$Plan", "name", "()Ljava/lang/String;"⟩ : MethodName)) (z := (⟨"com/example/ranked_settings/rankedsettings/LookupPlans$Plan", "name", "()Ljava/lang/String;"⟩ : MethodName)) hown (mvT hZ (hw _ (List.mem_of_getElem? (i := 117) rfl))) (mvT hZ (hw _ (List.mem_of_getElem? (i := 118) rfl))) (notFace_of_selects (args := #[]) (mvT hZ (hw _ (List.mem_of_getElem? (i := 120) rfl)))) (mvT hZ (hw _ (List.mem_of_getElem? (i := 120) rfl))) (mvT hZ (hw _ (List.mem_of_getElem? (i := 119) rfl))) (by decide) (backOf (W := 1) (rmN l Z a0 hw [] pl x h0 n0 Od F_name_p) hZ (hw _ (List.mem_of_getElem? (i := 121) rfl)) (hw _ (List.mem_of_getElem? (i := 50) rfl)) (by decide) (by decide)) q4a q4c (g := (mkF m 18 #[.val (.ref r), .val (.ref pl)] [(.ref pl), (.ref b)])) rfl (by rw [hml]; rfl) (Steps.refl _) (argsL := []) (rest := [(.ref b)]) (lenOf pd_2829Ljava2flang2fString3b rfl) rfl (by show 2 * 0 + _ ≤ _; exact Nat.le_of_eq rfl) (hb hby d20_18) (fun _ _ => ⟨rfl, e3, Nat.le_of_ble_eq_true rfl, Nat.le_of_ble_eq_true rfl⟩)
  dsimp only [Pt.U, Pt.locs, Pt.cells, Pt.slots] at X4 l4 y4 z4 st4 hQ4
  subst l4 y4 z4
  obtain ⟨rfl, N4q, e4⟩ := hQ4
  have N4 := Fr.app N2 N4q
  refine OEnds.via (fun _ k_ => st4.trans k_) ?_
  show OEnds p e below s _ _ _ (T4.setTop (mkF m 21 #[.val (.ref r), .val (.ref pl)] [(.ref x), (.ref b)]))
  obtain ⟨_, _, ⟨T5, L5, k5, n5⟩, -, X5, ⟨Lc5, hQ5, l5, y5, z5⟩, st5⟩ := Jvm.LawKit.callS X4 hx (y := (⟨"com/example/ranked_settings/rankedsettings/LookupPlans", "slot", "(Ljava/lang/String;)I"⟩ : MethodName)) hown (mvT hZ (hw _ (List.mem_of_getElem? (i := 73) rfl))) (mvT hZ (hw _ (List.mem_of_getElem? (i := 74) rfl))) (mvT hZ (hw _ (List.mem_of_getElem? (i := 39) rfl))) (mvT hZ (hw _ (List.mem_of_getElem? (i := 75) rfl))) (by decide) (backOf (W := 1) (rmSl l Z a0 hw [] x t_x kb_x nn_x vs_x G1 cs h0 n0 Od S_CS nz_CS E_x V_x C_x K_x hp_x F_hash_x F_hashIsZero_x ge_x) hZ (hw _ (List.mem_of_getElem? (i := 75) rfl)) (hw _ (List.mem_of_getElem? (i := 39) rfl)) (by decide) (by decide)) (g := (mkF m 21 #[.val (.ref r), .val (.ref pl)] [(.ref x), (.ref b)])) rfl (by rw [hml]; rfl) (argsL := [(.ref x)]) (rest := [(.ref b)]) (lenOf pd_28Ljava2flang2fString3b29I rfl) rfl (by show 2 * 0 + _ ≤ _; exact Nat.le_of_eq rfl) (hb hby d20_21) (fun _ _ => ⟨rfl, e4, Nat.le_of_ble_eq_true rfl, Nat.le_of_ble_eq_true rfl⟩)
  dsimp only [Pt.U, Pt.locs, Pt.cells, Pt.slots] at X5 l5 y5 z5 st5 hQ5
  subst l5 y5 z5
  obtain ⟨rfl, N5q, K5, -, V5x, C5x⟩ := hQ5
  have N5 := Fr.app N4 N5q
  have ne_t_x_x : t_x ≠ x := (Ne.symm (Exa.neArv E_x K_x (hw _ (List.mem_of_getElem? (i := 5) rfl))))
  have ne_r_x : r ≠ x := (Jvm.RoadKit.Exa.ne E_r E_x (by decide))
  have ne_b_x : b ≠ x := (Ne.symm (own_neArh E_x T_b (hw _ (List.mem_of_getElem? (i := 5) rfl))))
  have ne_pl_x : pl ≠ x := (Jvm.RoadKit.Exa.ne E_p E_x (by decide))
  replace Od := Od.keep K5 (allS ge_x all0)
  replace E_x := E_x.keep K5
  replace K_x := K_x.keep K5 (ninS ne_t_x_x nin0)
  replace F_slots_r := F_slots_r.keep K5 (ninS ne_r_x nin0)
  replace E_r := E_r.keep K5
  replace T_b := T_b.keep K5 (ninS ne_b_x nin0)
  replace Kp := Kp.trans K5 (allS (Or.inl (by simp)) all0)
  replace F_name_p := F_name_p.keep K5 (ninS ne_pl_x nin0)
  replace E_p := E_p.keep K5
  replace V_x := V5x
  replace C_x := C5x
  refine OEnds.via (fun _ k_ => st5 _ k_) ?_
  show OEnds p e below s _ _ _ (T5.setTop (mkF m 24 #[.val (.ref r), .val (.ref pl)] [(.int (own_sl vs_x)), (.ref b)]))
  refine OEnds.via (fun _ k_ => XS.aloadN X5.here hx rfl (hb hby d20_24) rfl rfl k_) ?_
  show OEnds p e below s _ _ _ (T5.setTop (mkF m 25 #[.val (.ref r), .val (.ref pl)] [(.ref pl), (.int (own_sl vs_x)), (.ref b)]))
  have ne_r_b : r ≠ b := (own_neArh E_r T_b (hw _ (List.mem_of_getElem? (i := 38) rfl)))
  have ne_pl_b : pl ≠ b := (own_neArh E_p T_b (hw _ (List.mem_of_getElem? (i := 49) rfl)))
  obtain ⟨cl6, Ar6, q6, S6, M6, H6, G6⟩ := T_b
  obtain ⟨T6, h6, X6, e6, W6, st6⟩ := stR X5 hx hZ rfl Ar6 (j := (own_sl vs_x)) (own_inb S6) rfl (Sto.ofV Ar6 q6 O_b (Ins.self E_p)) (g := (mkF m 25 #[.val (.ref r), .val (.ref pl)] [(.ref pl), (.int (own_sl vs_x)), (.ref b)])) rfl rfl (hb hby d20_25)
  replace T_b : Arh Z h6 b k_b (.object "com/example/ranked_settings/rankedsettings/LookupPlans$Plan") (1024 : Int32) ((own_sl vs_x, .ref pl) :: hs) [] .null := Arh.push Ar6 q6 S6 M6 H6 G6 rfl W6 (own_inb S6)
  have N6 := Fr.snoc X6 N5 ge_b
  replace Od := Od.wr W6 ge_b
  replace E_x := Exa.wr W6 E_x
  replace K_x := K_x.other W6 ntb
  replace F_slots_r := Fld.other W6 F_slots_r (Or.inl ne_r_b)
  replace E_r := Exa.wr W6 E_r
  replace Kp := Kp.wr W6 (Or.inl (by simp))
  replace F_name_p := Fld.other W6 F_name_p (Or.inl ne_pl_b)
  replace E_p := Exa.wr W6 E_p
  replace V_x := Fld.other W6 V_x (Or.inl (Ne.symm ne_b_x))
  replace C_x := Fld.other W6 C_x (Or.inl (Ne.symm ne_b_x))
  refine OEnds.via (fun _ k_ => st6 _ k_) ?_
  show OEnds p e below s _ _ _ (T6.setTop (mkF m 26 #[.val (.ref r), .val (.ref pl)] []))
  refine OEnds.retV X6 hx hlk Bd.returns (hb hby d20_26) ?_ (by decide) (by decide)
  rw [e6]
  exact ⟨rfl, N6, Kp, V_x, C_x, T_b⟩
theorem d11_0 : decode prog_9_method_2_code 0 = .ok (.aload_n 0, 1) := by decide +kernel
theorem d11_1 : decode prog_9_method_2_code 1 = .ok (.getfield 11, 3) := by decide +kernel
theorem d11_4 : decode prog_9_method_2_code 4 = .ok (.aload_n 1, 1) := by decide +kernel
theorem d11_5 : decode prog_9_method_2_code 5 = .ok (.invokestatic 15, 3) := by decide +kernel
theorem d11_8 : decode prog_9_method_2_code 8 = .ok (.aaload, 1) := by decide +kernel
theorem d11_9 : decode prog_9_method_2_code 9 = .ok (.astore_n 2, 1) := by decide +kernel
theorem d11_10 : decode prog_9_method_2_code 10 = .ok (.aload_n 2, 1) := by decide +kernel
theorem d11_11 : decode prog_9_method_2_code 11 = .ok (.ifnull 18, 3) := by decide +kernel
theorem d11_14 : decode prog_9_method_2_code 14 = .ok (.aload_n 2, 1) := by decide +kernel
theorem d11_15 : decode prog_9_method_2_code 15 = .ok (.invokevirtual 19, 3) := by decide +kernel
theorem d11_18 : decode prog_9_method_2_code 18 = .ok (.aload_n 1, 1) := by decide +kernel
theorem d11_19 : decode prog_9_method_2_code 19 = .ok (.invokevirtual 23, 3) := by decide +kernel
theorem d11_22 : decode prog_9_method_2_code 22 = .ok (.ifCond .eq 7, 3) := by decide +kernel
theorem d11_25 : decode prog_9_method_2_code 25 = .ok (.aload_n 2, 1) := by decide +kernel
theorem d11_26 : decode prog_9_method_2_code 26 = .ok (.goto 4, 3) := by decide +kernel
theorem d11_29 : decode prog_9_method_2_code 29 = .ok (.aconst_null, 1) := by decide +kernel
theorem d11_30 : decode prog_9_method_2_code 30 = .ok (.areturn, 1) := by decide +kernel
def Q_rmG0 (Z : State) (r : Addr) (b : Addr) (k_b : ClassId) (hs : List (Int32 × Value)) (x : Addr) (t_x : Addr) (kb_x : ClassId) (nn_x : Int32) (vs_x : List Value) (G1 : Int32) (cs : List Int32) (h0 : Heap) (n0 : Nat) (v : Option Value) (h : Heap) (L : List Loc) : Prop := v = some .null ∧ Fr n0 L ∧ Keep h0 h [x] ∧ Fld Z h x "java/lang/String" "value" "[B" (.ref t_x) ∧ Fld Z h x "java/lang/String" "coder" "B" (.int (0 : Int32))
theorem pd_28Ljava2flang2fObject3b29Z : parseMethodDescriptor "(Ljava/lang/Object;)Z" = some ⟨[(.object "java/lang/Object")], some .boolean⟩ := by decide +kernel
set_option maxRecDepth 65536 in
set_option maxHeartbeats 40000000 in
theorem rmG0 (l : Launch) (Z : State) (a0 : Array Value) (hw : ∀ d ∈ tables_1, d.before a0 Z = true) (ws : List Jvm.Cond) (r : Addr) (b : Addr) (k_b : ClassId) (hs : List (Int32 × Value)) (x : Addr) (t_x : Addr) (kb_x : ClassId) (nn_x : Int32) (vs_x : List Value) (G1 : Int32) (cs : List Int32) (h0 : Heap) (n0 : Nat) (O0 : Old Z n0 h0) (S_CS : Sta Z Z.heap "java/lang/String" "COMPACT_STRINGS" "Z" (.int G1)) (nz_CS : ¬ (G1 = (0 : Int32))) (E_x : Exa Z h0 x "java/lang/String") (V_x : Fld Z h0 x "java/lang/String" "value" "[B" (.ref t_x)) (C_x : Fld Z h0 x "java/lang/String" "coder" "B" (.int (0 : Int32))) (K_x : Arv Z h0 t_x kb_x .byte nn_x vs_x (.int (0 : Int32))) (hp_x : own_op Z cs nn_x vs_x kb_x) (F_hash_x : Fld Z h0 x "java/lang/String" "hash" "I" (.int (0 : Int32))) (F_hashIsZero_x : Fld Z h0 x "java/lang/String" "hashIsZero" "Z" (.int (0 : Int32))) (ge_x : n0 ≤ x) (F_slots_r : Fld Z h0 r "com/example/ranked_settings/rankedsettings/LookupPlans" "slots" "[Lcom/example/ranked_settings/rankedsettings/LookupPlans$Plan;" (.ref b)) (E_r : Exa Z h0 r "com/example/ranked_settings/rankedsettings/LookupPlans") (T_b : Arh Z h0 b k_b (.object "com/example/ranked_settings/rankedsettings/LookupPlans$Plan") (1024 : Int32) hs [] .null) (hT0 : ∀ i : Int32, getH hs [] .null i.toNatClampNeg = .null) :
    MetFree l (⟨"com/example/ranked_settings/rankedsettings/LookupPlans", "get", "(Ljava/lang/String;)Lcom/example/ranked_settings/rankedsettings/LookupPlans$Plan;"⟩ : MethodName) (head1 (Jvm.Cond.code (⟨"com/example/ranked_settings/rankedsettings/LookupPlans", "get", "(Ljava/lang/String;)Lcom/example/ranked_settings/rankedsettings/LookupPlans$Plan;"⟩ : MethodName) prog_9_method_2_code 3 (some (.object "com/example/ranked_settings/rankedsettings/LookupPlans$Plan")) :: ws) ({ frames := 5, cells := 0, slots := 0, locals := 110 } : Room)) (fun ar' U => ar' = #[(.ref r), (.ref x)] ∧ Z.Warmed39 U.vm ∧ U.heap = h0) (fun _ _ _ _ _ => True) (fun _ U o U' => ∃ v L, o = .returned v ∧ (Q_rmG0 Z r b k_b hs x t_x kb_x nn_x vs_x G1 cs h0 n0) v U'.heap L ∧ FrameEnd U o U' L ({ frames := 5, cells := 0, slots := 0, locals := 110 } : Room).cells ({ frames := 5, cells := 0, slots := 0, locals := 110 } : Room).slots) := by
  refine MetFree.of_bodySF (plainFor_of_name pn_com_example_ranked_settings_rankedsettings_LookupPlans) hisR ?_
  intro p e s m args below meth c s₁ Bd hml0 hP hK
  obtain ⟨rfl, hZ, hh⟩ := hP
  have hx := Bd.exec
  have hby := Bd.bytes
  have hlk := BodyLoose.notSynchronized Bd
  have hml : c.maxLocals = 3 := hml0
  have hown : s.vm.findClass "com/example/ranked_settings/rankedsettings/LookupPlans" = some m.cls := findClass_of_methodNamed Bd.named
  have hnm := (name_of_methodNamed Bd.named Bd.method).1
  have X0 : Stand p l e ({ frames := 5, cells := 0, slots := 0, locals := 110 } : Room) s m #[(.ref r), (.ref x)] below meth c s₁ [] 0 0 := Stand.of_body Bd
  have e0 : s₁.heap = h0 := by rw [← hh, Bd.state]; rfl
  have N0 := Fr.nil n0
  have Z0 : n0 ≤ h0.size := O0.1 ▸ O0.2.1
  show OEnds p e below s ({ frames := 5, cells := 0, slots := 0, locals := 110 } : Room).cells ({ frames := 5, cells := 0, slots := 0, locals := 110 } : Room).slots (Q_rmG0 Z r b k_b hs x t_x kb_x nn_x vs_x G1 cs h0 n0) (s₁.setTop (entryFrame m #[(.ref r), (.ref x)] 3))
  refine OEnds.via (fun _ k_ => castTop (show entryFrame m #[(.ref r), (.ref x)] 3 = (mkF m 0 #[.val (.ref r), .val (.ref x), .unset] []) by first | (simp [entryFrame, mkF, argsToLocals, Value.category, maxLocals]; done) | rfl) k_) ?_
  have heq : ∀ d ∈ StrChars.Road.wordsEq, d.before a0 Z = true := fun d hd => hw d ((by decide +kernel : ∀ d ∈ StrChars.Road.wordsEq, d ∈ tables_1) d hd)
  have Od := O0
  have Kp := Keep.refl h0 [x]
  show OEnds p e below s _ _ _ (s₁.setTop (mkF m 0 #[.val (.ref r), .val (.ref x), .unset] []))
  refine OEnds.via (fun _ k_ => XS.aloadN X0.here hx rfl (hb hby d11_0) rfl rfl k_) ?_
  show OEnds p e below s _ _ _ (s₁.setTop (mkF m 1 #[.val (.ref r), .val (.ref x), .unset] [(.ref r)]))
  obtain ⟨T1, X1, e1, st1⟩ := getF X0 hx hZ hown (host := "") (Or.inl (hw _ (List.mem_of_getElem? (i := 46) rfl))) Via.refl e0 F_slots_r (g := (mkF m 1 #[.val (.ref r), .val (.ref x), .unset] [(.ref r)])) rfl rfl (hb hby d11_1)
  refine OEnds.via (fun _ k_ => st1 _ k_) ?_
  show OEnds p e below s _ _ _ (T1.setTop (mkF m 4 #[.val (.ref r), .val (.ref x), .unset] [(.ref b)]))
  refine OEnds.via (fun _ k_ => XS.aloadN X1.here hx rfl (hb hby d11_4) rfl rfl k_) ?_
  show OEnds p e below s _ _ _ (T1.setTop (mkF m 5 #[.val (.ref r), .val (.ref x), .unset] [(.ref x), (.ref b)]))
  obtain ⟨_, _, ⟨T2, L2, k2, n2⟩, -, X2, ⟨Lc2, hQ2, l2, y2, z2⟩, st2⟩ := Jvm.LawKit.callS X1 hx (y := (⟨"com/example/ranked_settings/rankedsettings/LookupPlans", "slot", "(Ljava/lang/String;)I"⟩ : MethodName)) hown (mvT hZ (hw _ (List.mem_of_getElem? (i := 73) rfl))) (mvT hZ (hw _ (List.mem_of_getElem? (i := 74) rfl))) (mvT hZ (hw _ (List.mem_of_getElem? (i := 39) rfl))) (mvT hZ (hw _ (List.mem_of_getElem? (i := 75) rfl))) (by decide) (backOf (W := 1) (rmSl l Z a0 hw [] x t_x kb_x nn_x vs_x G1 cs h0 n0 Od S_CS nz_CS E_x V_x C_x K_x hp_x F_hash_x F_hashIsZero_x ge_x) hZ (hw _ (List.mem_of_getElem? (i := 75) rfl)) (hw _ (List.mem_of_getElem? (i := 39) rfl)) (by decide) (by decide)) (g := (mkF m 5 #[.val (.ref r), .val (.ref x), .unset] [(.ref x), (.ref b)])) rfl (by rw [hml]; rfl) (argsL := [(.ref x)]) (rest := [(.ref b)]) (lenOf pd_28Ljava2flang2fString3b29I rfl) rfl (by show 2 * 0 + _ ≤ _; exact Nat.le_of_eq rfl) (hb hby d11_5) (fun _ _ => ⟨rfl, e1, Nat.le_of_ble_eq_true rfl, Nat.le_of_ble_eq_true rfl⟩)
  dsimp only [Pt.U, Pt.locs, Pt.cells, Pt.slots] at X2 l2 y2 z2 st2 hQ2
  subst l2 y2 z2
  obtain ⟨rfl, N2q, K2, -, V2x, C2x⟩ := hQ2
  have N2 := Fr.app N0 N2q
  have ne_t_x_x : t_x ≠ x := (Ne.symm (Exa.neArv E_x K_x (hw _ (List.mem_of_getElem? (i := 5) rfl))))
  have ne_r_x : r ≠ x := (Jvm.RoadKit.Exa.ne E_r E_x (by decide))
  have ne_b_x : b ≠ x := (Ne.symm (own_neArh E_x T_b (hw _ (List.mem_of_getElem? (i := 5) rfl))))
  replace Od := Od.keep K2 (allS ge_x all0)
  replace E_x := E_x.keep K2
  replace K_x := K_x.keep K2 (ninS ne_t_x_x nin0)
  replace F_slots_r := F_slots_r.keep K2 (ninS ne_r_x nin0)
  replace E_r := E_r.keep K2
  replace T_b := T_b.keep K2 (ninS ne_b_x nin0)
  replace Kp := Kp.trans K2 (allS (Or.inl (by simp)) all0)
  replace V_x := V2x
  replace C_x := C2x
  refine OEnds.via (fun _ k_ => st2 _ k_) ?_
  show OEnds p e below s _ _ _ (T2.setTop (mkF m 8 #[.val (.ref r), .val (.ref x), .unset] [(.int (own_sl vs_x)), (.ref b)]))
  have T3c := T_b
  obtain ⟨cl3, Ar3, q3, S3, M3, H3, G3⟩ := T3c
  refine OEnds.via (fun _ k_ => X2.aaload hx (j := (own_sl vs_x)) (v := .null) Ar3.1 (State.isArrayOf_alike hZ.alike Ar3.2.1) rfl Ar3.2.2 (own_inb S3) (atH H3 (own_inb S3) (hT0 _)) (g := (mkF m 8 #[.val (.ref r), .val (.ref x), .unset] [(.int (own_sl vs_x)), (.ref b)])) rfl rfl (hb hby d11_8) _ k_) ?_
  show OEnds p e below s _ _ _ (T2.setTop (mkF m 9 #[.val (.ref r), .val (.ref x), .unset] [.null]))
  refine OEnds.via (fun _ k_ => XS.astoreN X2.here hx rfl (hb hby d11_9) rfl rfl (l' := #[.val (.ref r), .val (.ref x), .val .null]) rfl k_) ?_
  show OEnds p e below s _ _ _ (T2.setTop (mkF m 10 #[.val (.ref r), .val (.ref x), .val .null] []))
  refine OEnds.via (fun _ k_ => XS.aloadN X2.here hx rfl (hb hby d11_10) rfl rfl k_) ?_
  show OEnds p e below s _ _ _ (T2.setTop (mkF m 11 #[.val (.ref r), .val (.ref x), .val .null] [.null]))
  refine OEnds.via (fun _ k_ => XS.ifnullYes X2.here hx rfl (pc0 := 11) (pc' := 29) rfl (hb hby d11_11) rfl (by decide) (by decide) k_) ?_
  show OEnds p e below s _ _ _ (T2.setTop (mkF m 29 #[.val (.ref r), .val (.ref x), .val .null] []))
  refine OEnds.via (fun _ k_ => XS.aconstNull X2.here hx rfl (hb hby d11_29) k_) ?_
  show OEnds p e below s _ _ _ (T2.setTop (mkF m 30 #[.val (.ref r), .val (.ref x), .val .null] [.null]))
  refine OEnds.retR X2 hx hlk Bd.returns rfl rfl (hb hby d11_30) ?_ (by decide) (by decide)
  exact ⟨rfl, N2, Kp, V_x, C_x⟩
def Q_rmG1 (Z : State) (r : Addr) (b : Addr) (k_b : ClassId) (hs : List (Int32 × Value)) (x : Addr) (t_x : Addr) (kb_x : ClassId) (nn_x : Int32) (vs_x : List Value) (G1 : Int32) (cs : List Int32) (pl : Addr) (y : Addr) (t_y : Addr) (kb_y : ClassId) (nn_y : Int32) (vs_y : List Value) (ds : List Int32) (h0 : Heap) (n0 : Nat) (v : Option Value) (h : Heap) (L : List Loc) : Prop := ∃ res, v = some res ∧ res.isRef = true ∧ (cs = ds → res = .ref pl) ∧ (¬ cs = ds → res = .null) ∧ Fr n0 L ∧ Keep h0 h [x] ∧ Fld Z h x "java/lang/String" "value" "[B" (.ref t_x) ∧ Fld Z h x "java/lang/String" "coder" "B" (.int (0 : Int32))
set_option maxRecDepth 65536 in
set_option maxHeartbeats 40000000 in
theorem rmG1 (l : Launch) (Z : State) (a0 : Array Value) (hw : ∀ d ∈ tables_1, d.before a0 Z = true) (ws : List Jvm.Cond) (r : Addr) (b : Addr) (k_b : ClassId) (hs : List (Int32 × Value)) (x : Addr) (t_x : Addr) (kb_x : ClassId) (nn_x : Int32) (vs_x : List Value) (G1 : Int32) (cs : List Int32) (pl : Addr) (y : Addr) (t_y : Addr) (kb_y : ClassId) (nn_y : Int32) (vs_y : List Value) (ds : List Int32) (h0 : Heap) (n0 : Nat) (O0 : Old Z n0 h0) (S_CS : Sta Z Z.heap "java/lang/String" "COMPACT_STRINGS" "Z" (.int G1)) (nz_CS : ¬ (G1 = (0 : Int32))) (E_x : Exa Z h0 x "java/lang/String") (V_x : Fld Z h0 x "java/lang/String" "value" "[B" (.ref t_x)) (C_x : Fld Z h0 x "java/lang/String" "coder" "B" (.int (0 : Int32))) (K_x : Arv Z h0 t_x kb_x .byte nn_x vs_x (.int (0 : Int32))) (hp_x : own_op Z cs nn_x vs_x kb_x) (F_hash_x : Fld Z h0 x "java/lang/String" "hash" "I" (.int (0 : Int32))) (F_hashIsZero_x : Fld Z h0 x "java/lang/String" "hashIsZero" "Z" (.int (0 : Int32))) (ge_x : n0 ≤ x) (F_slots_r : Fld Z h0 r "com/example/ranked_settings/rankedsettings/LookupPlans" "slots" "[Lcom/example/ranked_settings/rankedsettings/LookupPlans$Plan;" (.ref b)) (E_r : Exa Z h0 r "com/example/ranked_settings/rankedsettings/LookupPlans") (T_b : Arh Z h0 b k_b (.object "com/example/ranked_settings/rankedsettings/LookupPlans$Plan") (1024 : Int32) hs [] .null) (E_p : Exa Z h0 pl "com/example/ranked_settings/rankedsettings/LookupPlans$Plan") (F_name_p : Fld Z h0 pl "com/example/ranked_settings/rankedsettings/LookupPlans$Plan" "name" "Ljava/lang/String;" (.ref y)) (E_y : Exa Z h0 y "java/lang/String") (V_y : Fld Z h0 y "java/lang/String" "value" "[B" (.ref t_y)) (C_y : Fld Z h0 y "java/lang/String" "coder" "B" (.int (0 : Int32))) (K_y : Arv Z h0 t_y kb_y .byte nn_y vs_y (.int (0 : Int32))) (hp_y : own_op Z ds nn_y vs_y kb_y) (nyx : y ≠ x) (hJ : getH hs [] .null (own_sl vs_y).toNatClampNeg = .ref pl) (hM : ∀ i : Int32, ¬ i < 0 → ¬ i = own_sl vs_y → getH hs [] .null i.toNatClampNeg = .null) :
    MetFree l (⟨"com/example/ranked_settings/rankedsettings/LookupPlans", "get", "(Ljava/lang/String;)Lcom/example/ranked_settings/rankedsettings/LookupPlans$Plan;"⟩ : MethodName) (head1 (Jvm.Cond.code (⟨"com/example/ranked_settings/rankedsettings/LookupPlans", "get", "(Ljava/lang/String;)Lcom/example/ranked_settings/rankedsettings/LookupPlans$Plan;"⟩ : MethodName) prog_9_method_2_code 3 (some (.object "com/example/ranked_settings/rankedsettings/LookupPlans$Plan")) :: ws) ({ frames := 5, cells := 0, slots := 0, locals := 110 } : Room)) (fun ar' U => ar' = #[(.ref r), (.ref x)] ∧ Z.Warmed39 U.vm ∧ U.heap = h0) (fun _ _ _ _ _ => True) (fun _ U o U' => ∃ v L, o = .returned v ∧ (Q_rmG1 Z r b k_b hs x t_x kb_x nn_x vs_x G1 cs pl y t_y kb_y nn_y vs_y ds h0 n0) v U'.heap L ∧ FrameEnd U o U' L ({ frames := 5, cells := 0, slots := 0, locals := 110 } : Room).cells ({ frames := 5, cells := 0, slots := 0, locals := 110 } : Room).slots) := by
  refine MetFree.of_bodySF (plainFor_of_name pn_com_example_ranked_settings_rankedsettings_LookupPlans) hisR ?_
  intro p e s m args below meth c s₁ Bd hml0 hP hK
  obtain ⟨rfl, hZ, hh⟩ := hP
  have hx := Bd.exec
  have hby := Bd.bytes
  have hlk := BodyLoose.notSynchronized Bd
  have hml : c.maxLocals = 3 := hml0
  have hown : s.vm.findClass "com/example/ranked_settings/rankedsettings/LookupPlans" = some m.cls := findClass_of_methodNamed Bd.named
  have hnm := (name_of_methodNamed Bd.named Bd.method).1
  have X0 : Stand p l e ({ frames := 5, cells := 0, slots := 0, locals := 110 } : Room) s m #[(.ref r), (.ref x)] below meth c s₁ [] 0 0 := Stand.of_body Bd
  have e0 : s₁.heap = h0 := by rw [← hh, Bd.state]; rfl
  have N0 := Fr.nil n0
  have Z0 : n0 ≤ h0.size := O0.1 ▸ O0.2.1
  show OEnds p e below s ({ frames := 5, cells := 0, slots := 0, locals := 110 } : Room).cells ({ frames := 5, cells := 0, slots := 0, locals := 110 } : Room).slots (Q_rmG1 Z r b k_b hs x t_x kb_x nn_x vs_x G1 cs pl y t_y kb_y nn_y vs_y ds h0 n0) (s₁.setTop (entryFrame m #[(.ref r), (.ref x)] 3))
  refine OEnds.via (fun _ k_ => castTop (show entryFrame m #[(.ref r), (.ref x)] 3 = (mkF m 0 #[.val (.ref r), .val (.ref x), .unset] []) by first | (simp [entryFrame, mkF, argsToLocals, Value.category, maxLocals]; done) | rfl) k_) ?_
  have heq : ∀ d ∈ StrChars.Road.wordsEq, d.before a0 Z = true := fun d hd => hw d ((by decide +kernel : ∀ d ∈ StrChars.Road.wordsEq, d ∈ tables_1) d hd)
  have Od := O0
  have Kp := Keep.refl h0 [x]
  show OEnds p e below s _ _ _ (s₁.setTop (mkF m 0 #[.val (.ref r), .val (.ref x), .unset] []))
  refine OEnds.via (fun _ k_ => XS.aloadN X0.here hx rfl (hb hby d11_0) rfl rfl k_) ?_
  show OEnds p e below s _ _ _ (s₁.setTop (mkF m 1 #[.val (.ref r), .val (.ref x), .unset] [(.ref r)]))
  obtain ⟨T1, X1, e1, st1⟩ := getF X0 hx hZ hown (host := "") (Or.inl (hw _ (List.mem_of_getElem? (i := 46) rfl))) Via.refl e0 F_slots_r (g := (mkF m 1 #[.val (.ref r), .val (.ref x), .unset] [(.ref r)])) rfl rfl (hb hby d11_1)
  refine OEnds.via (fun _ k_ => st1 _ k_) ?_
  show OEnds p e below s _ _ _ (T1.setTop (mkF m 4 #[.val (.ref r), .val (.ref x), .unset] [(.ref b)]))
  refine OEnds.via (fun _ k_ => XS.aloadN X1.here hx rfl (hb hby d11_4) rfl rfl k_) ?_
  show OEnds p e below s _ _ _ (T1.setTop (mkF m 5 #[.val (.ref r), .val (.ref x), .unset] [(.ref x), (.ref b)]))
  obtain ⟨_, _, ⟨T2, L2, k2, n2⟩, -, X2, ⟨Lc2, hQ2, l2, y2, z2⟩, st2⟩ := Jvm.LawKit.callS X1 hx (y := (⟨"com/example/ranked_settings/rankedsettings/LookupPlans", "slot", "(Ljava/lang/String;)I"⟩ : MethodName)) hown (mvT hZ (hw _ (List.mem_of_getElem? (i := 73) rfl))) (mvT hZ (hw _ (List.mem_of_getElem? (i := 74) rfl))) (mvT hZ (hw _ (List.mem_of_getElem? (i := 39) rfl))) (mvT hZ (hw _ (List.mem_of_getElem? (i := 75) rfl))) (by decide) (backOf (W := 1) (rmSl l Z a0 hw [] x t_x kb_x nn_x vs_x G1 cs h0 n0 Od S_CS nz_CS E_x V_x C_x K_x hp_x F_hash_x F_hashIsZero_x ge_x) hZ (hw _ (List.mem_of_getElem? (i := 75) rfl)) (hw _ (List.mem_of_getElem? (i := 39) rfl)) (by decide) (by decide)) (g := (mkF m 5 #[.val (.ref r), .val (.ref x), .unset] [(.ref x), (.ref b)])) rfl (by rw [hml]; rfl) (argsL := [(.ref x)]) (rest := [(.ref b)]) (lenOf pd_28Ljava2flang2fString3b29I rfl) rfl (by show 2 * 0 + _ ≤ _; exact Nat.le_of_eq rfl) (hb hby d11_5) (fun _ _ => ⟨rfl, e1, Nat.le_of_ble_eq_true rfl, Nat.le_of_ble_eq_true rfl⟩)
  dsimp only [Pt.U, Pt.locs, Pt.cells, Pt.slots] at X2 l2 y2 z2 st2 hQ2
  subst l2 y2 z2
  obtain ⟨rfl, N2q, K2, -, V2x, C2x⟩ := hQ2
  have N2 := Fr.app N0 N2q
  have ne_t_x_x : t_x ≠ x := (Ne.symm (Exa.neArv E_x K_x (hw _ (List.mem_of_getElem? (i := 5) rfl))))
  have ne_r_x : r ≠ x := (Jvm.RoadKit.Exa.ne E_r E_x (by decide))
  have ne_b_x : b ≠ x := (Ne.symm (own_neArh E_x T_b (hw _ (List.mem_of_getElem? (i := 5) rfl))))
  have ne_t_y_x : t_y ≠ x := (Ne.symm (Exa.neArv E_x K_y (hw _ (List.mem_of_getElem? (i := 5) rfl))))
  have ne_pl_x : pl ≠ x := (Jvm.RoadKit.Exa.ne E_p E_x (by decide))
  replace Od := Od.keep K2 (allS ge_x all0)
  replace E_x := E_x.keep K2
  replace K_x := K_x.keep K2 (ninS ne_t_x_x nin0)
  replace F_slots_r := F_slots_r.keep K2 (ninS ne_r_x nin0)
  replace E_r := E_r.keep K2
  replace T_b := T_b.keep K2 (ninS ne_b_x nin0)
  replace Kp := Kp.trans K2 (allS (Or.inl (by simp)) all0)
  replace E_y := E_y.keep K2
  replace V_y := V_y.keep K2 (ninS nyx nin0)
  replace C_y := C_y.keep K2 (ninS nyx nin0)
  replace K_y := K_y.keep K2 (ninS ne_t_y_x nin0)
  replace E_p := E_p.keep K2
  replace F_name_p := F_name_p.keep K2 (ninS ne_pl_x nin0)
  replace V_x := V2x
  replace C_x := C2x
  refine OEnds.via (fun _ k_ => st2 _ k_) ?_
  show OEnds p e below s _ _ _ (T2.setTop (mkF m 8 #[.val (.ref r), .val (.ref x), .unset] [(.int (own_sl vs_x)), (.ref b)]))
  by_cases hi : own_sl vs_x = own_sl vs_y
  · skip
    have T3c := T_b
    obtain ⟨cl3, Ar3, q3, S3, M3, H3, G3⟩ := T3c
    refine OEnds.via (fun _ k_ => X2.aaload hx (j := (own_sl vs_x)) (v := (.ref pl)) Ar3.1 (State.isArrayOf_alike hZ.alike Ar3.2.1) rfl Ar3.2.2 (own_inb S3) (atH H3 (own_inb S3) (by rw [hi]; exact hJ)) (g := (mkF m 8 #[.val (.ref r), .val (.ref x), .unset] [(.int (own_sl vs_x)), (.ref b)])) rfl rfl (hb hby d11_8) _ k_) ?_
    show OEnds p e below s _ _ _ (T2.setTop (mkF m 9 #[.val (.ref r), .val (.ref x), .unset] [(.ref pl)]))
    refine OEnds.via (fun _ k_ => XS.astoreN X2.here hx rfl (hb hby d11_9) rfl rfl (l' := #[.val (.ref r), .val (.ref x), .val (.ref pl)]) rfl k_) ?_
    show OEnds p e below s _ _ _ (T2.setTop (mkF m 10 #[.val (.ref r), .val (.ref x), .val (.ref pl)] []))
    refine OEnds.via (fun _ k_ => XS.aloadN X2.here hx rfl (hb hby d11_10) rfl rfl k_) ?_
    show OEnds p e below s _ _ _ (T2.setTop (mkF m 11 #[.val (.ref r), .val (.ref x), .val (.ref pl)] [(.ref pl)]))
    refine OEnds.via (fun _ k_ => XS.ifnullNo X2.here hx rfl (hb hby d11_11) rfl k_) ?_
    show OEnds p e below s _ _ _ (T2.setTop (mkF m 14 #[.val (.ref r), .val (.ref x), .val (.ref pl)] []))
    refine OEnds.via (fun _ k_ => XS.aloadN X2.here hx rfl (hb hby d11_14) rfl rfl k_) ?_
    show OEnds p e below s _ _ _ (T2.setTop (mkF m 15 #[.val (.ref r), .val (.ref x), .val (.ref pl)] [(.ref pl)]))
    obtain ⟨cq4, kq4, q4a, q4b, q4c⟩ := isOf hZ rfl E_p
    obtain ⟨_, _, ⟨T4, L4, k4, n4⟩, -, X4, ⟨Lc4, hQ4, l4, y4, z4⟩, st4⟩ := X2.virtualBack hx (y := (⟨"com/example/ranked_settings/rankedsettings/LookupPlans$Plan", "name", "()Ljava/lang/String;"⟩ : MethodName)) (z := (⟨"com/example/ranked_settings/rankedsettings/LookupPlans$Plan", "name", "()Ljava/lang/String;"⟩ : MethodName)) hown (mvT hZ (hw _ (List.mem_of_getElem? (i := 117) rfl))) (mvT hZ (hw _ (List.mem_of_getElem? (i := 118) rfl))) (notFace_of_selects (args := #[]) (mvT hZ (hw _ (List.mem_of_getElem? (i := 120) rfl)))) (mvT hZ (hw _ (List.mem_of_getElem? (i := 120) rfl))) (mvT hZ (hw _ (List.mem_of_getElem? (i := 119) rfl))) (by decide) (backOf (W := 0) (rmN l Z a0 hw [] pl y T2.heap n0 Od F_name_p) hZ (hw _ (List.mem_of_getElem? (i := 121) rfl)) (hw _ (List.mem_of_getElem? (i := 50) rfl)) (by decide) (by decide)) q4a q4c (g := (mkF m 15 #[.val (.ref r), .val (.ref x), .val (.ref pl)] [(.ref pl)])) rfl (by rw [hml]; rfl) (Steps.refl _) (argsL := []) (rest := []) (lenOf pd_2829Ljava2flang2fString3b rfl) rfl (by show 2 * 0 + _ ≤ _; exact Nat.le_of_eq rfl) (hb hby d11_15) (fun _ _ => ⟨rfl, rfl, Nat.le_of_ble_eq_true rfl, Nat.le_of_ble_eq_true rfl⟩)
    dsimp only [Pt.U, Pt.locs, Pt.cells, Pt.slots] at X4 l4 y4 z4 st4 hQ4
    subst l4 y4 z4
    obtain ⟨rfl, N4q, e4⟩ := hQ4
    have N4 := Fr.app N2 N4q
    refine OEnds.via (fun _ k_ => st4.trans k_) ?_
    show OEnds p e below s _ _ _ (T4.setTop (mkF m 18 #[.val (.ref r), .val (.ref x), .val (.ref pl)] [(.ref y)]))
    refine OEnds.via (fun _ k_ => XS.aloadN X4.here hx rfl (hb hby d11_18) rfl rfl k_) ?_
    show OEnds p e below s _ _ _ (T4.setTop (mkF m 19 #[.val (.ref r), .val (.ref x), .val (.ref pl)] [(.ref x), (.ref y)]))
    obtain ⟨cq5, kq5, q5a, q5b, q5c⟩ := isOf hZ e4 E_y
    obtain ⟨_, _, ⟨T5, L5, k5, n5⟩, -, X5, ⟨Lc5, hQ5, l5, y5, z5⟩, st5⟩ := X4.virtualBack hx (y := (⟨"java/lang/String", "equals", "(Ljava/lang/Object;)Z"⟩ : MethodName)) (z := (⟨"java/lang/String", "equals", "(Ljava/lang/Object;)Z"⟩ : MethodName)) hown (mvT hZ (hw _ (List.mem_of_getElem? (i := 133) rfl))) (mvT hZ (hw _ (List.mem_of_getElem? (i := 95) rfl))) (notFace_of_selects (args := #[]) (mvT hZ (hw _ (List.mem_of_getElem? (i := 97) rfl)))) (mvT hZ (hw _ (List.mem_of_getElem? (i := 97) rfl))) (mvT hZ (hw _ (List.mem_of_getElem? (i := 96) rfl))) (by decide) (StrChars.Road.eqW (W := 0) hZ heq (kI := 4) (hw _ (List.mem_of_getElem? (i := 5) rfl)) E_y V_y C_y K_y hp_y.1 hp_y.2.2.2.1 hp_y.le E_x V_x C_x K_x hp_x.1 hp_x.2.2.2.1 hp_x.le (Sta.ext Od.2 S_CS) nz_CS (by decide) (by decide)) q5a q5c (g := (mkF m 19 #[.val (.ref r), .val (.ref x), .val (.ref pl)] [(.ref x), (.ref y)])) rfl (by rw [hml]; rfl) (Steps.refl _) (argsL := [(.ref x)]) (rest := []) (lenOf pd_28Ljava2flang2fObject3b29Z rfl) rfl (by show 2 * 0 + _ ≤ _; exact Nat.le_of_eq rfl) (hb hby d11_19) (fun _ _ => ⟨rfl, e4, Nat.le_of_ble_eq_true rfl, Nat.le_of_ble_eq_true rfl⟩)
    dsimp only [Pt.U, Pt.locs, Pt.cells, Pt.slots] at X5 l5 y5 z5 st5 hQ5
    subst l5 y5 z5
    obtain ⟨hcase5, rfl, e5⟩ := hQ5
    have N5 := Fr.app N4 (Fr.nil n0)
    rcases hcase5 with ⟨hv5, heq5⟩ | ⟨hv5, heq5⟩
    · subst hv5
      refine OEnds.via (fun _ k_ => st5.trans k_) ?_
      show OEnds p e below s _ _ _ (T5.setTop (mkF m 22 #[.val (.ref r), .val (.ref x), .val (.ref pl)] [(.int (1 : Int32))]))
      refine OEnds.via (fun _ k_ => XS.ifNo X5.here hx rfl (hb hby d11_22) rfl ((if0 _ _).trans (feq (by decide : ¬ ((1 : Int32) = (0 : Int32)))).1) k_) ?_
      show OEnds p e below s _ _ _ (T5.setTop (mkF m 25 #[.val (.ref r), .val (.ref x), .val (.ref pl)] []))
      refine OEnds.via (fun _ k_ => XS.aloadN X5.here hx rfl (hb hby d11_25) rfl rfl k_) ?_
      show OEnds p e below s _ _ _ (T5.setTop (mkF m 26 #[.val (.ref r), .val (.ref x), .val (.ref pl)] [(.ref pl)]))
      refine OEnds.via (fun _ k_ => XS.goto X5.here hx rfl (pc0 := 26) (pc' := 30) rfl (hb hby d11_26) (by decide) (by decide) k_) ?_
      show OEnds p e below s _ _ _ (T5.setTop (mkF m 30 #[.val (.ref r), .val (.ref x), .val (.ref pl)] [(.ref pl)]))
      refine OEnds.retR X5 hx hlk Bd.returns rfl rfl (hb hby d11_30) ?_ (by decide) (by decide)
      rw [e5]
      exact ⟨_, rfl, rfl, fun _ => rfl, fun q => absurd heq5.symm q, N5, Kp, V_x, C_x⟩
    · subst hv5
      refine OEnds.via (fun _ k_ => st5.trans k_) ?_
      show OEnds p e below s _ _ _ (T5.setTop (mkF m 22 #[.val (.ref r), .val (.ref x), .val (.ref pl)] [(.int (0 : Int32))]))
      refine OEnds.via (fun _ k_ => XS.ifYes X5.here hx rfl (pc0 := 22) (pc' := 29) rfl (hb hby d11_22) rfl ((if0 _ _).trans (teq (by decide : (0 : Int32) = (0 : Int32))).1) (by decide) (by decide) k_) ?_
      show OEnds p e below s _ _ _ (T5.setTop (mkF m 29 #[.val (.ref r), .val (.ref x), .val (.ref pl)] []))
      refine OEnds.via (fun _ k_ => XS.aconstNull X5.here hx rfl (hb hby d11_29) k_) ?_
      show OEnds p e below s _ _ _ (T5.setTop (mkF m 30 #[.val (.ref r), .val (.ref x), .val (.ref pl)] [.null]))
      refine OEnds.retR X5 hx hlk Bd.returns rfl rfl (hb hby d11_30) ?_ (by decide) (by decide)
      rw [e5]
      exact ⟨_, rfl, rfl, fun q => absurd q.symm heq5, fun _ => rfl, N5, Kp, V_x, C_x⟩
  · skip
    have T6c := T_b
    obtain ⟨cl6, Ar6, q6, S6, M6, H6, G6⟩ := T6c
    refine OEnds.via (fun _ k_ => X2.aaload hx (j := (own_sl vs_x)) (v := .null) Ar6.1 (State.isArrayOf_alike hZ.alike Ar6.2.1) rfl Ar6.2.2 (own_inb S6) (atH H6 (own_inb S6) (hM _ (own_slb _).1 hi)) (g := (mkF m 8 #[.val (.ref r), .val (.ref x), .unset] [(.int (own_sl vs_x)), (.ref b)])) rfl rfl (hb hby d11_8) _ k_) ?_
    show OEnds p e below s _ _ _ (T2.setTop (mkF m 9 #[.val (.ref r), .val (.ref x), .unset] [.null]))
    refine OEnds.via (fun _ k_ => XS.astoreN X2.here hx rfl (hb hby d11_9) rfl rfl (l' := #[.val (.ref r), .val (.ref x), .val .null]) rfl k_) ?_
    show OEnds p e below s _ _ _ (T2.setTop (mkF m 10 #[.val (.ref r), .val (.ref x), .val .null] []))
    refine OEnds.via (fun _ k_ => XS.aloadN X2.here hx rfl (hb hby d11_10) rfl rfl k_) ?_
    show OEnds p e below s _ _ _ (T2.setTop (mkF m 11 #[.val (.ref r), .val (.ref x), .val .null] [.null]))
    refine OEnds.via (fun _ k_ => XS.ifnullYes X2.here hx rfl (pc0 := 11) (pc' := 29) rfl (hb hby d11_11) rfl (by decide) (by decide) k_) ?_
    show OEnds p e below s _ _ _ (T2.setTop (mkF m 29 #[.val (.ref r), .val (.ref x), .val .null] []))
    refine OEnds.via (fun _ k_ => XS.aconstNull X2.here hx rfl (hb hby d11_29) k_) ?_
    show OEnds p e below s _ _ _ (T2.setTop (mkF m 30 #[.val (.ref r), .val (.ref x), .val .null] [.null]))
    refine OEnds.retR X2 hx hlk Bd.returns rfl rfl (hb hby d11_30) ?_ (by decide) (by decide)
    exact ⟨_, rfl, rfl, fun q => absurd (congrArg own_sl (own_op.vs (q ▸ hp_x) hp_y)) hi, fun _ => rfl, N2, Kp, V_x, C_x⟩
theorem pd_28II29Ljava2flang2fString3b : parseMethodDescriptor "(II)Ljava/lang/String;" = some ⟨[.int, .int], some (.object "java/lang/String")⟩ := by decide +kernel
theorem pd_28Lcom2fexample2franked_settings2frankedsettings2fLookupPlans24Plan3b29V : parseMethodDescriptor "(Lcom/example/ranked_settings/rankedsettings/LookupPlans$Plan;)V" = some ⟨[(.object "com/example/ranked_settings/rankedsettings/LookupPlans$Plan")], none⟩ := by decide +kernel
theorem pd_28Ljava2flang2fString3b29Lcom2fexample2franked_settings2frankedsettings2fLookupPlans24Plan3b : parseMethodDescriptor "(Ljava/lang/String;)Lcom/example/ranked_settings/rankedsettings/LookupPlans$Plan;" = some ⟨[(.object "java/lang/String")], some (.object "com/example/ranked_settings/rankedsettings/LookupPlans$Plan")⟩ := by decide +kernel
theorem pd_28Ljava2flang2fString3bLjava2flang2fString3bILjava2flang2fString3b29V : parseMethodDescriptor "(Ljava/lang/String;Ljava/lang/String;ILjava/lang/String;)V" = some ⟨[(.object "java/lang/String"), (.object "java/lang/String"), .int, (.object "java/lang/String")], none⟩ := by decide +kernel
set_option maxRecDepth 65536 in
set_option maxHeartbeats 40000000 in
theorem rm0 (l : Launch) (Z : State) (a0 : Array Value) (hw : ∀ d ∈ tables_1, d.before a0 Z = true) (ws : List Jvm.Cond) (p0 : Int32) (p1 : Int32) (p2 : Int32) (G1 : Int32) (h0 : Heap) (n0 : Nat) (O0 : Old Z n0 h0) (S_CS : Sta Z Z.heap "java/lang/String" "COMPACT_STRINGS" "Z" (.int G1)) (nz_CS : ¬ (G1 = (0 : Int32))) :
    MetFree l x (head1 (Jvm.Cond.code x code maxLocals ret :: ws) room_1) (fun ar' U => ar' = #[(.int p0), (.int p1), (.int p2)] ∧ Z.Warmed39 U.vm ∧ U.heap = h0 ∧ CHv Z consts_1 U.vm h0) (fun _ _ _ _ _ => True) (fun _ U o U' => ∃ v L, o = .returned v ∧ (fun (v : Option Value) (_ : Vm) (h : Heap) (L : List Loc) => (QL n0) v h L) v U'.vm U'.heap L ∧ CHr Z consts_1 U.vm U.heap U'.vm U'.heap ∧ ReturnedEndW U o U' L 40 3264) := by
  refine MetFree.of_bodySF (plainFor_of_name pn_com_example_ranked_settings_rankedsettings_LookupPlansGetPinLaw) hisR ?_
  intro p e s m args below meth c s₁ Bd hml0 hP hK
  obtain ⟨rfl, hZ, hh, hCH0⟩ := hP
  have hx := Bd.exec
  have hby := Bd.bytes
  have hlk := BodyLoose.notSynchronized Bd
  have hml : c.maxLocals = 16 := hml0
  have hown : s.vm.findClass "com/example/ranked_settings/rankedsettings/LookupPlansGetPinLaw" = some m.cls := findClass_of_methodNamed Bd.named
  have hnm := (name_of_methodNamed Bd.named Bd.method).1
  have X0 : Stand p l e room_1 (s.setVm s.vm) m #[(.int p0), (.int p1), (.int p2)] below meth c s₁ [] 0 0 := Stand.of_body Bd
  have e0 : s₁.heap = h0 := by rw [← hh, Bd.state]; rfl
  have N0 := Fr.nil n0
  have Z0 : n0 ≤ h0.size := O0.1 ▸ O0.2.1
  have hEL : EW Z a0 consts_1 := own_EW hw
  have wS := own_wS hw
  have es : s.heap = h0 := hh
  have hS : s.Since s.vm h0.size := (State.WarmedH.refl s).since _
  have hk : h0.size ≤ h0.size := Nat.le_refl _
  have CR : CHr Z consts_1 s.vm h0 s.vm h0 := CHr.refl hCH0
  show OEndsW p e below s Z consts_1 40 3264 (fun (v : Option Value) (_ : Vm) (h : Heap) (L : List Loc) => (QL n0) v h L) (s₁.setTop (entryFrame m #[(.int p0), (.int p1), (.int p2)] maxLocals))
  refine OEndsW.via (fun _ k_ => castTop (show entryFrame m #[(.int p0), (.int p1), (.int p2)] maxLocals = (mkF m 0 #[.val (.int p0), .val (.int p1), .val (.int p2), .unset, .unset, .unset, .unset, .unset, .unset, .unset, .unset, .unset, .unset, .unset, .unset, .unset] []) by first | (simp [entryFrame, mkF, argsToLocals, Value.category, maxLocals]; done) | rfl) k_) ?_
  have heq : ∀ d ∈ StrChars.Road.wordsEq, d.before a0 Z = true := fun d hd => hw d ((by decide +kernel : ∀ d ∈ StrChars.Road.wordsEq, d ∈ tables_1) d hd)
  have Od := O0
  show OEndsW p e below s _ _ _ _ _ (s₁.setTop (mkF m 0 #[.val (.int p0), .val (.int p1), .val (.int p2), .unset, .unset, .unset, .unset, .unset, .unset, .unset, .unset, .unset, .unset, .unset, .unset, .unset] []))
  refine OEndsW.via (fun _ k_ => XS.iloadN X0.here hx rfl (hb hby at_0) rfl k_) ?_
  show OEndsW p e below s _ _ _ _ _ (s₁.setTop (mkF m 1 #[.val (.int p0), .val (.int p1), .val (.int p2), .unset, .unset, .unset, .unset, .unset, .unset, .unset, .unset, .unset, .unset, .unset, .unset, .unset] [(.int p2)]))
  refine OEndsW.via (fun _ k_ => XS.iconst X0.here hx rfl (hb hby at_1) k_) ?_
  show OEndsW p e below s _ _ _ _ _ (s₁.setTop (mkF m 2 #[.val (.int p0), .val (.int p1), .val (.int p2), .unset, .unset, .unset, .unset, .unset, .unset, .unset, .unset, .unset, .unset, .unset, .unset, .unset] [(.int (3 : Int32)), (.int p2)]))
  refine OEndsW.via (fun _ k_ => XS.iand X0.here hx rfl (hb hby at_2) rfl k_) ?_
  show OEndsW p e below s _ _ _ _ _ (s₁.setTop (mkF m 3 #[.val (.int p0), .val (.int p1), .val (.int p2), .unset, .unset, .unset, .unset, .unset, .unset, .unset, .unset, .unset, .unset, .unset, .unset, .unset] [(.int (p2 &&& (3 : Int32)))]))
  refine OEndsW.via (fun _ k_ => XS.istoreN X0.here hx rfl (hb hby at_3) rfl (l' := #[.val (.int p0), .val (.int p1), .val (.int p2), .val (.int (p2 &&& (3 : Int32))), .unset, .unset, .unset, .unset, .unset, .unset, .unset, .unset, .unset, .unset, .unset, .unset]) rfl k_) ?_
  show OEndsW p e below s _ _ _ _ _ (s₁.setTop (mkF m 4 #[.val (.int p0), .val (.int p1), .val (.int p2), .val (.int (p2 &&& (3 : Int32))), .unset, .unset, .unset, .unset, .unset, .unset, .unset, .unset, .unset, .unset, .unset, .unset] []))
  refine OEndsW.via (fun _ k_ => XS.iloadN X0.here hx rfl (hb hby at_4) rfl k_) ?_
  show OEndsW p e below s _ _ _ _ _ (s₁.setTop (mkF m 5 #[.val (.int p0), .val (.int p1), .val (.int p2), .val (.int (p2 &&& (3 : Int32))), .unset, .unset, .unset, .unset, .unset, .unset, .unset, .unset, .unset, .unset, .unset, .unset] [(.int p2)]))
  refine OEndsW.via (fun _ k_ => XS.iconst X0.here hx rfl (hb hby at_5) k_) ?_
  show OEndsW p e below s _ _ _ _ _ (s₁.setTop (mkF m 6 #[.val (.int p0), .val (.int p1), .val (.int p2), .val (.int (p2 &&& (3 : Int32))), .unset, .unset, .unset, .unset, .unset, .unset, .unset, .unset, .unset, .unset, .unset, .unset] [(.int (2 : Int32)), (.int p2)]))
  refine OEndsW.via (fun _ k_ => XS.iushr X0.here hx rfl (hb hby at_6) rfl k_) ?_
  show OEndsW p e below s _ _ _ _ _ (s₁.setTop (mkF m 7 #[.val (.int p0), .val (.int p1), .val (.int p2), .val (.int (p2 &&& (3 : Int32))), .unset, .unset, .unset, .unset, .unset, .unset, .unset, .unset, .unset, .unset, .unset, .unset] [(.int ((p2.toUInt32 >>> ((2 : Int32) &&& 31).toUInt32).toInt32))]))
  refine OEndsW.via (fun _ k_ => XS.iconst X0.here hx rfl (hb hby at_7) k_) ?_
  show OEndsW p e below s _ _ _ _ _ (s₁.setTop (mkF m 8 #[.val (.int p0), .val (.int p1), .val (.int p2), .val (.int (p2 &&& (3 : Int32))), .unset, .unset, .unset, .unset, .unset, .unset, .unset, .unset, .unset, .unset, .unset, .unset] [(.int (3 : Int32)), (.int ((p2.toUInt32 >>> ((2 : Int32) &&& 31).toUInt32).toInt32))]))
  refine OEndsW.via (fun _ k_ => XS.iand X0.here hx rfl (hb hby at_8) rfl k_) ?_
  show OEndsW p e below s _ _ _ _ _ (s₁.setTop (mkF m 9 #[.val (.int p0), .val (.int p1), .val (.int p2), .val (.int (p2 &&& (3 : Int32))), .unset, .unset, .unset, .unset, .unset, .unset, .unset, .unset, .unset, .unset, .unset, .unset] [(.int (((p2.toUInt32 >>> ((2 : Int32) &&& 31).toUInt32).toInt32) &&& (3 : Int32)))]))
  refine OEndsW.via (fun _ k_ => XS.istore X0.here hx rfl (hb hby at_9) rfl (l' := #[.val (.int p0), .val (.int p1), .val (.int p2), .val (.int (p2 &&& (3 : Int32))), .val (.int (((p2.toUInt32 >>> ((2 : Int32) &&& 31).toUInt32).toInt32) &&& (3 : Int32))), .unset, .unset, .unset, .unset, .unset, .unset, .unset, .unset, .unset, .unset, .unset]) rfl k_) ?_
  show OEndsW p e below s _ _ _ _ _ (s₁.setTop (mkF m 11 #[.val (.int p0), .val (.int p1), .val (.int p2), .val (.int (p2 &&& (3 : Int32))), .val (.int (((p2.toUInt32 >>> ((2 : Int32) &&& 31).toUInt32).toInt32) &&& (3 : Int32))), .unset, .unset, .unset, .unset, .unset, .unset, .unset, .unset, .unset, .unset, .unset] []))
  refine OEndsW.via (fun _ k_ => XS.iloadN X0.here hx rfl (hb hby at_11) rfl k_) ?_
  show OEndsW p e below s _ _ _ _ _ (s₁.setTop (mkF m 12 #[.val (.int p0), .val (.int p1), .val (.int p2), .val (.int (p2 &&& (3 : Int32))), .val (.int (((p2.toUInt32 >>> ((2 : Int32) &&& 31).toUInt32).toInt32) &&& (3 : Int32))), .unset, .unset, .unset, .unset, .unset, .unset, .unset, .unset, .unset, .unset, .unset] [(.int p2)]))
  refine OEndsW.via (fun _ k_ => XS.iconst X0.here hx rfl (hb hby at_12) k_) ?_
  show OEndsW p e below s _ _ _ _ _ (s₁.setTop (mkF m 13 #[.val (.int p0), .val (.int p1), .val (.int p2), .val (.int (p2 &&& (3 : Int32))), .val (.int (((p2.toUInt32 >>> ((2 : Int32) &&& 31).toUInt32).toInt32) &&& (3 : Int32))), .unset, .unset, .unset, .unset, .unset, .unset, .unset, .unset, .unset, .unset, .unset] [(.int (4 : Int32)), (.int p2)]))
  refine OEndsW.via (fun _ k_ => XS.iushr X0.here hx rfl (hb hby at_13) rfl k_) ?_
  show OEndsW p e below s _ _ _ _ _ (s₁.setTop (mkF m 14 #[.val (.int p0), .val (.int p1), .val (.int p2), .val (.int (p2 &&& (3 : Int32))), .val (.int (((p2.toUInt32 >>> ((2 : Int32) &&& 31).toUInt32).toInt32) &&& (3 : Int32))), .unset, .unset, .unset, .unset, .unset, .unset, .unset, .unset, .unset, .unset, .unset] [(.int ((p2.toUInt32 >>> ((4 : Int32) &&& 31).toUInt32).toInt32))]))
  refine OEndsW.via (fun _ k_ => XS.iconst X0.here hx rfl (hb hby at_14) k_) ?_
  show OEndsW p e below s _ _ _ _ _ (s₁.setTop (mkF m 15 #[.val (.int p0), .val (.int p1), .val (.int p2), .val (.int (p2 &&& (3 : Int32))), .val (.int (((p2.toUInt32 >>> ((2 : Int32) &&& 31).toUInt32).toInt32) &&& (3 : Int32))), .unset, .unset, .unset, .unset, .unset, .unset, .unset, .unset, .unset, .unset, .unset] [(.int (1 : Int32)), (.int ((p2.toUInt32 >>> ((4 : Int32) &&& 31).toUInt32).toInt32))]))
  refine OEndsW.via (fun _ k_ => XS.iand X0.here hx rfl (hb hby at_15) rfl k_) ?_
  show OEndsW p e below s _ _ _ _ _ (s₁.setTop (mkF m 16 #[.val (.int p0), .val (.int p1), .val (.int p2), .val (.int (p2 &&& (3 : Int32))), .val (.int (((p2.toUInt32 >>> ((2 : Int32) &&& 31).toUInt32).toInt32) &&& (3 : Int32))), .unset, .unset, .unset, .unset, .unset, .unset, .unset, .unset, .unset, .unset, .unset] [(.int (((p2.toUInt32 >>> ((4 : Int32) &&& 31).toUInt32).toInt32) &&& (1 : Int32)))]))
  have J1 : ∀ (k1 : Int32), OEndsW p e below s Z consts_1 40 3264 (fun (v : Option Value) (_ : Vm) (h : Heap) (L : List Loc) => (QL n0) v h L) (s₁.setTop (mkF m 24 #[.val (.int p0), .val (.int p1), .val (.int p2), .val (.int (p2 &&& (3 : Int32))), .val (.int (((p2.toUInt32 >>> ((2 : Int32) &&& 31).toUInt32).toInt32) &&& (3 : Int32))), .unset, .unset, .unset, .unset, .unset, .unset, .unset, .unset, .unset, .unset, .unset] [(.int k1)])) := by
    intro k1
    refine OEndsW.via (fun _ k_ => XS.istore X0.here hx rfl (hb hby at_24) rfl (l' := #[.val (.int p0), .val (.int p1), .val (.int p2), .val (.int (p2 &&& (3 : Int32))), .val (.int (((p2.toUInt32 >>> ((2 : Int32) &&& 31).toUInt32).toInt32) &&& (3 : Int32))), .val (.int k1), .unset, .unset, .unset, .unset, .unset, .unset, .unset, .unset, .unset, .unset]) rfl k_) ?_
    show OEndsW p e below s _ _ _ _ _ (s₁.setTop (mkF m 26 #[.val (.int p0), .val (.int p1), .val (.int p2), .val (.int (p2 &&& (3 : Int32))), .val (.int (((p2.toUInt32 >>> ((2 : Int32) &&& 31).toUInt32).toInt32) &&& (3 : Int32))), .val (.int k1), .unset, .unset, .unset, .unset, .unset, .unset, .unset, .unset, .unset, .unset] []))
    refine OEndsW.via (fun _ k_ => XS.iloadN X0.here hx rfl (hb hby at_26) rfl k_) ?_
    show OEndsW p e below s _ _ _ _ _ (s₁.setTop (mkF m 27 #[.val (.int p0), .val (.int p1), .val (.int p2), .val (.int (p2 &&& (3 : Int32))), .val (.int (((p2.toUInt32 >>> ((2 : Int32) &&& 31).toUInt32).toInt32) &&& (3 : Int32))), .val (.int k1), .unset, .unset, .unset, .unset, .unset, .unset, .unset, .unset, .unset, .unset] [(.int p2)]))
    refine OEndsW.via (fun _ k_ => XS.iconst X0.here hx rfl (hb hby at_27) k_) ?_
    show OEndsW p e below s _ _ _ _ _ (s₁.setTop (mkF m 28 #[.val (.int p0), .val (.int p1), .val (.int p2), .val (.int (p2 &&& (3 : Int32))), .val (.int (((p2.toUInt32 >>> ((2 : Int32) &&& 31).toUInt32).toInt32) &&& (3 : Int32))), .val (.int k1), .unset, .unset, .unset, .unset, .unset, .unset, .unset, .unset, .unset, .unset] [(.int (5 : Int32)), (.int p2)]))
    refine OEndsW.via (fun _ k_ => XS.iushr X0.here hx rfl (hb hby at_28) rfl k_) ?_
    show OEndsW p e below s _ _ _ _ _ (s₁.setTop (mkF m 29 #[.val (.int p0), .val (.int p1), .val (.int p2), .val (.int (p2 &&& (3 : Int32))), .val (.int (((p2.toUInt32 >>> ((2 : Int32) &&& 31).toUInt32).toInt32) &&& (3 : Int32))), .val (.int k1), .unset, .unset, .unset, .unset, .unset, .unset, .unset, .unset, .unset, .unset] [(.int ((p2.toUInt32 >>> ((5 : Int32) &&& 31).toUInt32).toInt32))]))
    refine OEndsW.via (fun _ k_ => XS.iconst X0.here hx rfl (hb hby at_29) k_) ?_
    show OEndsW p e below s _ _ _ _ _ (s₁.setTop (mkF m 30 #[.val (.int p0), .val (.int p1), .val (.int p2), .val (.int (p2 &&& (3 : Int32))), .val (.int (((p2.toUInt32 >>> ((2 : Int32) &&& 31).toUInt32).toInt32) &&& (3 : Int32))), .val (.int k1), .unset, .unset, .unset, .unset, .unset, .unset, .unset, .unset, .unset, .unset] [(.int (1 : Int32)), (.int ((p2.toUInt32 >>> ((5 : Int32) &&& 31).toUInt32).toInt32))]))
    refine OEndsW.via (fun _ k_ => XS.iand X0.here hx rfl (hb hby at_30) rfl k_) ?_
    show OEndsW p e below s _ _ _ _ _ (s₁.setTop (mkF m 31 #[.val (.int p0), .val (.int p1), .val (.int p2), .val (.int (p2 &&& (3 : Int32))), .val (.int (((p2.toUInt32 >>> ((2 : Int32) &&& 31).toUInt32).toInt32) &&& (3 : Int32))), .val (.int k1), .unset, .unset, .unset, .unset, .unset, .unset, .unset, .unset, .unset, .unset] [(.int (((p2.toUInt32 >>> ((5 : Int32) &&& 31).toUInt32).toInt32) &&& (1 : Int32)))]))
    have J2 : ∀ (k2 : Int32), OEndsW p e below s Z consts_1 40 3264 (fun (v : Option Value) (_ : Vm) (h : Heap) (L : List Loc) => (QL n0) v h L) (s₁.setTop (mkF m 39 #[.val (.int p0), .val (.int p1), .val (.int p2), .val (.int (p2 &&& (3 : Int32))), .val (.int (((p2.toUInt32 >>> ((2 : Int32) &&& 31).toUInt32).toInt32) &&& (3 : Int32))), .val (.int k1), .unset, .unset, .unset, .unset, .unset, .unset, .unset, .unset, .unset, .unset] [(.int k2)])) := by
      intro k2
      refine OEndsW.via (fun _ k_ => XS.istore X0.here hx rfl (hb hby at_39) rfl (l' := #[.val (.int p0), .val (.int p1), .val (.int p2), .val (.int (p2 &&& (3 : Int32))), .val (.int (((p2.toUInt32 >>> ((2 : Int32) &&& 31).toUInt32).toInt32) &&& (3 : Int32))), .val (.int k1), .val (.int k2), .unset, .unset, .unset, .unset, .unset, .unset, .unset, .unset, .unset]) rfl k_) ?_
      show OEndsW p e below s _ _ _ _ _ (s₁.setTop (mkF m 41 #[.val (.int p0), .val (.int p1), .val (.int p2), .val (.int (p2 &&& (3 : Int32))), .val (.int (((p2.toUInt32 >>> ((2 : Int32) &&& 31).toUInt32).toInt32) &&& (3 : Int32))), .val (.int k1), .val (.int k2), .unset, .unset, .unset, .unset, .unset, .unset, .unset, .unset, .unset] []))
      refine OEndsW.via (fun _ k_ => XS.iloadN X0.here hx rfl (hb hby at_41) rfl k_) ?_
      show OEndsW p e below s _ _ _ _ _ (s₁.setTop (mkF m 42 #[.val (.int p0), .val (.int p1), .val (.int p2), .val (.int (p2 &&& (3 : Int32))), .val (.int (((p2.toUInt32 >>> ((2 : Int32) &&& 31).toUInt32).toInt32) &&& (3 : Int32))), .val (.int k1), .val (.int k2), .unset, .unset, .unset, .unset, .unset, .unset, .unset, .unset, .unset] [(.int p2)]))
      refine OEndsW.via (fun _ k_ => XS.bipush X0.here hx rfl (hb hby at_42) k_) ?_
      show OEndsW p e below s _ _ _ _ _ (s₁.setTop (mkF m 44 #[.val (.int p0), .val (.int p1), .val (.int p2), .val (.int (p2 &&& (3 : Int32))), .val (.int (((p2.toUInt32 >>> ((2 : Int32) &&& 31).toUInt32).toInt32) &&& (3 : Int32))), .val (.int k1), .val (.int k2), .unset, .unset, .unset, .unset, .unset, .unset, .unset, .unset, .unset] [(.int (6 : Int32)), (.int p2)]))
      refine OEndsW.via (fun _ k_ => XS.iushr X0.here hx rfl (hb hby at_44) rfl k_) ?_
      show OEndsW p e below s _ _ _ _ _ (s₁.setTop (mkF m 45 #[.val (.int p0), .val (.int p1), .val (.int p2), .val (.int (p2 &&& (3 : Int32))), .val (.int (((p2.toUInt32 >>> ((2 : Int32) &&& 31).toUInt32).toInt32) &&& (3 : Int32))), .val (.int k1), .val (.int k2), .unset, .unset, .unset, .unset, .unset, .unset, .unset, .unset, .unset] [(.int ((p2.toUInt32 >>> ((6 : Int32) &&& 31).toUInt32).toInt32))]))
      refine OEndsW.via (fun _ k_ => XS.iconst X0.here hx rfl (hb hby at_45) k_) ?_
      show OEndsW p e below s _ _ _ _ _ (s₁.setTop (mkF m 46 #[.val (.int p0), .val (.int p1), .val (.int p2), .val (.int (p2 &&& (3 : Int32))), .val (.int (((p2.toUInt32 >>> ((2 : Int32) &&& 31).toUInt32).toInt32) &&& (3 : Int32))), .val (.int k1), .val (.int k2), .unset, .unset, .unset, .unset, .unset, .unset, .unset, .unset, .unset] [(.int (1 : Int32)), (.int ((p2.toUInt32 >>> ((6 : Int32) &&& 31).toUInt32).toInt32))]))
      refine OEndsW.via (fun _ k_ => XS.iand X0.here hx rfl (hb hby at_46) rfl k_) ?_
      show OEndsW p e below s _ _ _ _ _ (s₁.setTop (mkF m 47 #[.val (.int p0), .val (.int p1), .val (.int p2), .val (.int (p2 &&& (3 : Int32))), .val (.int (((p2.toUInt32 >>> ((2 : Int32) &&& 31).toUInt32).toInt32) &&& (3 : Int32))), .val (.int k1), .val (.int k2), .unset, .unset, .unset, .unset, .unset, .unset, .unset, .unset, .unset] [(.int (((p2.toUInt32 >>> ((6 : Int32) &&& 31).toUInt32).toInt32) &&& (1 : Int32)))]))
      have J3 : ∀ (k3 : Int32), OEndsW p e below s Z consts_1 40 3264 (fun (v : Option Value) (_ : Vm) (h : Heap) (L : List Loc) => (QL n0) v h L) (s₁.setTop (mkF m 55 #[.val (.int p0), .val (.int p1), .val (.int p2), .val (.int (p2 &&& (3 : Int32))), .val (.int (((p2.toUInt32 >>> ((2 : Int32) &&& 31).toUInt32).toInt32) &&& (3 : Int32))), .val (.int k1), .val (.int k2), .unset, .unset, .unset, .unset, .unset, .unset, .unset, .unset, .unset] [(.int k3)])) := by
        intro k3
        refine OEndsW.via (fun _ k_ => XS.istore X0.here hx rfl (hb hby at_55) rfl (l' := #[.val (.int p0), .val (.int p1), .val (.int p2), .val (.int (p2 &&& (3 : Int32))), .val (.int (((p2.toUInt32 >>> ((2 : Int32) &&& 31).toUInt32).toInt32) &&& (3 : Int32))), .val (.int k1), .val (.int k2), .val (.int k3), .unset, .unset, .unset, .unset, .unset, .unset, .unset, .unset]) rfl k_) ?_
        show OEndsW p e below s _ _ _ _ _ (s₁.setTop (mkF m 57 #[.val (.int p0), .val (.int p1), .val (.int p2), .val (.int (p2 &&& (3 : Int32))), .val (.int (((p2.toUInt32 >>> ((2 : Int32) &&& 31).toUInt32).toInt32) &&& (3 : Int32))), .val (.int k1), .val (.int k2), .val (.int k3), .unset, .unset, .unset, .unset, .unset, .unset, .unset, .unset] []))
        generalize (p2 &&& (3 : Int32)) = nl
        generalize (((p2.toUInt32 >>> ((2 : Int32) &&& 31).toUInt32).toInt32) &&& (3 : Int32)) = ql
        show OEndsW p e below s _ _ _ _ _ (s₁.setTop (mkF m 57 #[.val (.int p0), .val (.int p1), .val (.int p2), .val (.int nl), .val (.int ql), .val (.int k1), .val (.int k2), .val (.int k3), .unset, .unset, .unset, .unset, .unset, .unset, .unset, .unset] []))
        refine OEndsW.via (fun _ k_ => XS.iloadN X0.here hx rfl (hb hby at_57) rfl k_) ?_
        show OEndsW p e below s _ _ _ _ _ (s₁.setTop (mkF m 58 #[.val (.int p0), .val (.int p1), .val (.int p2), .val (.int nl), .val (.int ql), .val (.int k1), .val (.int k2), .val (.int k3), .unset, .unset, .unset, .unset, .unset, .unset, .unset, .unset] [(.int p0)]))
        refine OEndsW.via (fun _ k_ => XS.iloadN X0.here hx rfl (hb hby at_58) rfl k_) ?_
        show OEndsW p e below s _ _ _ _ _ (s₁.setTop (mkF m 59 #[.val (.int p0), .val (.int p1), .val (.int p2), .val (.int nl), .val (.int ql), .val (.int k1), .val (.int k2), .val (.int k3), .unset, .unset, .unset, .unset, .unset, .unset, .unset, .unset] [(.int nl), (.int p0)]))
        obtain ⟨_, _, ⟨T4, L4, k4, n4⟩, -, X4, S4, G4, ⟨Lc4, hQ4, l4, y4, z4, CH4⟩, st4⟩ := callSS X0 hx (y := (⟨"com/example/ranked_settings/rankedsettings/LookupPlansGetPinLaw", "str", "(II)Ljava/lang/String;"⟩ : MethodName)) hown (mvT hZ (hw _ (List.mem_of_getElem? (i := 0) rfl))) (mvT hZ (hw _ (List.mem_of_getElem? (i := 1) rfl))) (mvT hZ (hw _ (List.mem_of_getElem? (i := 2) rfl))) (mvT hZ (hw _ (List.mem_of_getElem? (i := 3) rfl))) (by decide) (own_backOfSV (W := 0) (rmS l Z a0 hw [] p0 nl G1 h0 n0 Od S_CS nz_CS) hZ (hw _ (List.mem_of_getElem? (i := 3) rfl)) (hw _ (List.mem_of_getElem? (i := 2) rfl)) (by decide) (by decide) hEL CR.1) (g := (mkF m 59 #[.val (.int p0), .val (.int p1), .val (.int p2), .val (.int nl), .val (.int ql), .val (.int k1), .val (.int k2), .val (.int k3), .unset, .unset, .unset, .unset, .unset, .unset, .unset, .unset] [(.int nl), (.int p0)])) rfl (by rw [hml]; rfl) (argsL := [(.int p0), (.int nl)]) (rest := []) (lenOf pd_28II29Ljava2flang2fString3b rfl) rfl (by show 2 * 0 + _ ≤ _; exact Nat.le_of_eq rfl) (hb hby at_59) (fun _ _ => ⟨rfl, e0, Nat.le_of_ble_eq_true rfl, Nat.le_of_ble_eq_true rfl⟩)
        dsimp only [Pt.U, Pt.locs, Pt.cells, Pt.slots] at X4 S4 G4 l4 y4 z4 st4 hQ4 CH4
        subst l4 y4 z4
        obtain ⟨X4, hS, hZ, hown⟩ := rebS hS (by rw [e0]; exact hk) X4 S4 G4 hZ hown
        replace CR := CR.trans CH4
        replace hk := Nat.le_refl T4.heap.size
        obtain ⟨x4, t_x4, kb_x4, nn_x4, vs_x4, rfl, N4q, K4, ge_x4, sz4, sf_x4, E_x4, V_x4, C_x4, K_x4, hp_x4, F_hash_x4, F_hashIsZero_x4⟩ := hQ4
        have N4 := Fr.app N0 N4q
        replace Od := Od.keep K4 all0
        refine OEndsW.via (fun _ k_ => st4.trans k_) ?_
        show OEndsW p e below s _ _ _ _ _ (T4.setTop (mkF m 62 #[.val (.int p0), .val (.int p1), .val (.int p2), .val (.int nl), .val (.int ql), .val (.int k1), .val (.int k2), .val (.int k3), .unset, .unset, .unset, .unset, .unset, .unset, .unset, .unset] [(.ref x4)]))
        refine OEndsW.via (fun _ k_ => XS.astore X4.here hx rfl (hb hby at_62) rfl rfl (l' := #[.val (.int p0), .val (.int p1), .val (.int p2), .val (.int nl), .val (.int ql), .val (.int k1), .val (.int k2), .val (.int k3), .val (.ref x4), .unset, .unset, .unset, .unset, .unset, .unset, .unset]) rfl k_) ?_
        show OEndsW p e below s _ _ _ _ _ (T4.setTop (mkF m 64 #[.val (.int p0), .val (.int p1), .val (.int p2), .val (.int nl), .val (.int ql), .val (.int k1), .val (.int k2), .val (.int k3), .val (.ref x4), .unset, .unset, .unset, .unset, .unset, .unset, .unset] []))
        refine OEndsW.via (fun _ k_ => XS.iloadN X4.here hx rfl (hb hby at_64) rfl k_) ?_
        show OEndsW p e below s _ _ _ _ _ (T4.setTop (mkF m 65 #[.val (.int p0), .val (.int p1), .val (.int p2), .val (.int nl), .val (.int ql), .val (.int k1), .val (.int k2), .val (.int k3), .val (.ref x4), .unset, .unset, .unset, .unset, .unset, .unset, .unset] [(.int p0)]))
        refine OEndsW.via (fun _ k_ => XS.iloadN X4.here hx rfl (hb hby at_65) rfl k_) ?_
        show OEndsW p e below s _ _ _ _ _ (T4.setTop (mkF m 66 #[.val (.int p0), .val (.int p1), .val (.int p2), .val (.int nl), .val (.int ql), .val (.int k1), .val (.int k2), .val (.int k3), .val (.ref x4), .unset, .unset, .unset, .unset, .unset, .unset, .unset] [(.int nl), (.int p0)]))
        obtain ⟨_, _, ⟨T5, L5, k5, n5⟩, -, X5, S5, G5, ⟨Lc5, hQ5, l5, y5, z5, CH5⟩, st5⟩ := callSS X4 hx (y := (⟨"com/example/ranked_settings/rankedsettings/LookupPlansGetPinLaw", "str", "(II)Ljava/lang/String;"⟩ : MethodName)) hown (mvT hZ (hw _ (List.mem_of_getElem? (i := 0) rfl))) (mvT hZ (hw _ (List.mem_of_getElem? (i := 1) rfl))) (mvT hZ (hw _ (List.mem_of_getElem? (i := 2) rfl))) (mvT hZ (hw _ (List.mem_of_getElem? (i := 3) rfl))) (by decide) (own_backOfSV (W := 0) (rmS l Z a0 hw [] p0 nl G1 T4.heap n0 Od S_CS nz_CS) hZ (hw _ (List.mem_of_getElem? (i := 3) rfl)) (hw _ (List.mem_of_getElem? (i := 2) rfl)) (by decide) (by decide) hEL CR.1) (g := (mkF m 66 #[.val (.int p0), .val (.int p1), .val (.int p2), .val (.int nl), .val (.int ql), .val (.int k1), .val (.int k2), .val (.int k3), .val (.ref x4), .unset, .unset, .unset, .unset, .unset, .unset, .unset] [(.int nl), (.int p0)])) rfl (by rw [hml]; rfl) (argsL := [(.int p0), (.int nl)]) (rest := []) (lenOf pd_28II29Ljava2flang2fString3b rfl) rfl (by show 2 * 0 + _ ≤ _; exact Nat.le_of_eq rfl) (hb hby at_66) (fun _ _ => ⟨rfl, rfl, Nat.le_of_ble_eq_true rfl, Nat.le_of_ble_eq_true rfl⟩)
        dsimp only [Pt.U, Pt.locs, Pt.cells, Pt.slots] at X5 S5 G5 l5 y5 z5 st5 hQ5 CH5
        subst l5 y5 z5
        replace sf_x4 := CH5.safe E_x4.lt sf_x4
        obtain ⟨X5, hS, hZ, hown⟩ := rebS hS hk X5 S5 G5 hZ hown
        replace CR := CR.trans CH5
        replace hk := Nat.le_refl T5.heap.size
        obtain ⟨x5, t_x5, kb_x5, nn_x5, vs_x5, rfl, N5q, K5, ge_x5, sz5, sf_x5, E_x5, V_x5, C_x5, K_x5, hp_x5, F_hash_x5, F_hashIsZero_x5⟩ := hQ5
        have N5 := Fr.app N4 N5q
        have ne_x4_x5 : x4 ≠ x5 := Nat.ne_of_lt (Nat.lt_of_lt_of_le E_x4.lt sz5)
        have ne_t_x4_x5 : t_x4 ≠ x5 := Nat.ne_of_lt (Nat.lt_of_lt_of_le K_x4.lt sz5)
        replace Od := Od.keep K5 all0
        replace E_x4 := E_x4.keep K5
        replace V_x4 := V_x4.keep K5 nin0
        replace C_x4 := C_x4.keep K5 nin0
        replace K_x4 := K_x4.keep K5 nin0
        replace F_hash_x4 := F_hash_x4.keep K5 nin0
        replace F_hashIsZero_x4 := F_hashIsZero_x4.keep K5 nin0
        refine OEndsW.via (fun _ k_ => st5.trans k_) ?_
        show OEndsW p e below s _ _ _ _ _ (T5.setTop (mkF m 69 #[.val (.int p0), .val (.int p1), .val (.int p2), .val (.int nl), .val (.int ql), .val (.int k1), .val (.int k2), .val (.int k3), .val (.ref x4), .unset, .unset, .unset, .unset, .unset, .unset, .unset] [(.ref x5)]))
        refine OEndsW.via (fun _ k_ => XS.astore X5.here hx rfl (hb hby at_69) rfl rfl (l' := #[.val (.int p0), .val (.int p1), .val (.int p2), .val (.int nl), .val (.int ql), .val (.int k1), .val (.int k2), .val (.int k3), .val (.ref x4), .val (.ref x5), .unset, .unset, .unset, .unset, .unset, .unset]) rfl k_) ?_
        show OEndsW p e below s _ _ _ _ _ (T5.setTop (mkF m 71 #[.val (.int p0), .val (.int p1), .val (.int p2), .val (.int nl), .val (.int ql), .val (.int k1), .val (.int k2), .val (.int k3), .val (.ref x4), .val (.ref x5), .unset, .unset, .unset, .unset, .unset, .unset] []))
        refine OEndsW.via (fun _ k_ => XS.iload X5.here hx rfl (hb hby at_71) rfl k_) ?_
        show OEndsW p e below s _ _ _ _ _ (T5.setTop (mkF m 73 #[.val (.int p0), .val (.int p1), .val (.int p2), .val (.int nl), .val (.int ql), .val (.int k1), .val (.int k2), .val (.int k3), .val (.ref x4), .val (.ref x5), .unset, .unset, .unset, .unset, .unset, .unset] [(.int k3)]))
        have J6 : ∀ (U6 : State) (hU6 : Heap) (LU6 : List Loc) (vmU6 : Vm) (kU6 : Nat) (XU6 : Stand p l e room_1 (s.setVm vmU6) m #[(.int p0), (.int p1), (.int p2)] below meth c U6 LU6 30 200) (eU6 : U6.heap = hU6) (NU6 : Fr n0 LU6) (hS : s.Since vmU6 kU6) (hk : kU6 ≤ hU6.size) (hZ : Z.Warmed39 (s.setVm vmU6).vm) (hown : (s.setVm vmU6).vm.findClass "com/example/ranked_settings/rankedsettings/LookupPlansGetPinLaw" = some m.cls) (CR : CHr Z consts_1 s.vm h0 vmU6 hU6) (Od : Old Z n0 hU6) (E_x4 : Exa Z hU6 x4 "java/lang/String") (V_x4 : Fld Z hU6 x4 "java/lang/String" "value" "[B" (.ref t_x4)) (C_x4 : Fld Z hU6 x4 "java/lang/String" "coder" "B" (.int (0 : Int32))) (K_x4 : Arv Z hU6 t_x4 kb_x4 .byte nn_x4 vs_x4 (.int (0 : Int32))) (F_hash_x4 : Fld Z hU6 x4 "java/lang/String" "hash" "I" (.int (0 : Int32))) (F_hashIsZero_x4 : Fld Z hU6 x4 "java/lang/String" "hashIsZero" "Z" (.int (0 : Int32))) (sf_x4 : Safe Z consts_1 vmU6 hU6 x4) (E_x5 : Exa Z hU6 x5 "java/lang/String") (V_x5 : Fld Z hU6 x5 "java/lang/String" "value" "[B" (.ref t_x5)) (C_x5 : Fld Z hU6 x5 "java/lang/String" "coder" "B" (.int (0 : Int32))) (K_x5 : Arv Z hU6 t_x5 kb_x5 .byte nn_x5 vs_x5 (.int (0 : Int32))) (F_hash_x5 : Fld Z hU6 x5 "java/lang/String" "hash" "I" (.int (0 : Int32))) (F_hashIsZero_x5 : Fld Z hU6 x5 "java/lang/String" "hashIsZero" "Z" (.int (0 : Int32))) (sf_x5 : Safe Z consts_1 vmU6 hU6 x5) (q : Addr) (t_q : Addr) (kb_q : ClassId) (nn_q : Int32) (vs_q : List Value) (csq : List Int32) (E_q : Exa Z hU6 q "java/lang/String") (V_q : Fld Z hU6 q "java/lang/String" "value" "[B" (.ref t_q)) (C_q : Fld Z hU6 q "java/lang/String" "coder" "B" (.int (0 : Int32))) (K_q : Arv Z hU6 t_q kb_q .byte nn_q vs_q (.int (0 : Int32))) (hp_q : own_op Z csq nn_q vs_q kb_q) (F_hash_q : Fld Z hU6 q "java/lang/String" "hash" "I" (.int (0 : Int32))) (F_hashIsZero_q : Fld Z hU6 q "java/lang/String" "hashIsZero" "Z" (.int (0 : Int32))) (ge_q : n0 ≤ q) (sf_q : Safe Z consts_1 vmU6 hU6 q) (ne_x4_q : x4 ≠ q) (ne_x5_q : x5 ≠ q), OEndsW p e below s Z consts_1 40 3264 (fun (v : Option Value) (_ : Vm) (h : Heap) (L : List Loc) => (QL n0) v h L) (U6.setTop (mkF m 90 #[.val (.int p0), .val (.int p1), .val (.int p2), .val (.int nl), .val (.int ql), .val (.int k1), .val (.int k2), .val (.int k3), .val (.ref x4), .val (.ref x5), .unset, .unset, .unset, .unset, .unset, .unset] [(.ref q)])) := by
          intro U6 hU6 LU6 vmU6 kU6 XU6 eU6 NU6 hS hk hZ hown CR Od E_x4 V_x4 C_x4 K_x4 F_hash_x4 F_hashIsZero_x4 sf_x4 E_x5 V_x5 C_x5 K_x5 F_hash_x5 F_hashIsZero_x5 sf_x5 q t_q kb_q nn_q vs_q csq E_q V_q C_q K_q hp_q F_hash_q F_hashIsZero_q ge_q sf_q ne_x4_q ne_x5_q
          show OEndsW p e below s _ _ _ _ _ (U6.setTop (mkF m 90 #[.val (.int p0), .val (.int p1), .val (.int p2), .val (.int nl), .val (.int ql), .val (.int k1), .val (.int k2), .val (.int k3), .val (.ref x4), .val (.ref x5), .unset, .unset, .unset, .unset, .unset, .unset] [(.ref q)]))
          refine OEndsW.via (fun _ k_ => XS.astore XU6.here hx rfl (hb hby at_90) rfl rfl (l' := #[.val (.int p0), .val (.int p1), .val (.int p2), .val (.int nl), .val (.int ql), .val (.int k1), .val (.int k2), .val (.int k3), .val (.ref x4), .val (.ref x5), .val (.ref q), .unset, .unset, .unset, .unset, .unset]) rfl k_) ?_
          show OEndsW p e below s _ _ _ _ _ (U6.setTop (mkF m 92 #[.val (.int p0), .val (.int p1), .val (.int p2), .val (.int nl), .val (.int ql), .val (.int k1), .val (.int k2), .val (.int k3), .val (.ref x4), .val (.ref x5), .val (.ref q), .unset, .unset, .unset, .unset, .unset] []))
          obtain ⟨T7, h7, X7, e7, E7, A7, D7, -, st7⟩ := newO XU6 hx hZ hown (hw _ (List.mem_of_getElem? (i := 37) rfl)) (hw _ (List.mem_of_getElem? (i := 38) rfl)) (hw _ (List.mem_of_getElem? (i := 39) rfl)) eU6 (g := (mkF m 92 #[.val (.int p0), .val (.int p1), .val (.int p2), .val (.int nl), .val (.int ql), .val (.int k1), .val (.int k2), .val (.int k3), .val (.ref x4), .val (.ref x5), .val (.ref q), .unset, .unset, .unset, .unset, .unset] [])) rfl (hb hby at_92) (by decide) (by decide)
          obtain ⟨b7, g7⟩ : ∃ z, z = hU6.size := ⟨_, rfl⟩
          have ne_x4_b7 : x4 ≠ b7 := Nat.ne_of_lt (Nat.lt_of_lt_of_le E_x4.lt (Nat.le_of_eq g7.symm))
          have ne_t_x4_b7 : t_x4 ≠ b7 := Nat.ne_of_lt (Nat.lt_of_lt_of_le K_x4.lt (Nat.le_of_eq g7.symm))
          have ne_x5_b7 : x5 ≠ b7 := Nat.ne_of_lt (Nat.lt_of_lt_of_le E_x5.lt (Nat.le_of_eq g7.symm))
          have ne_t_x5_b7 : t_x5 ≠ b7 := Nat.ne_of_lt (Nat.lt_of_lt_of_le K_x5.lt (Nat.le_of_eq g7.symm))
          have ne_q_b7 : q ≠ b7 := Nat.ne_of_lt (Nat.lt_of_lt_of_le E_q.lt (Nat.le_of_eq g7.symm))
          have ne_t_q_b7 : t_q ≠ b7 := Nat.ne_of_lt (Nat.lt_of_lt_of_le K_q.lt (Nat.le_of_eq g7.symm))
          have ge_b7 : n0 ≤ b7 := Nat.le_trans (Od.1 ▸ Od.2.1) (Nat.le_of_eq g7.symm)
          have sf_b7 : Safe Z consts_1 _ hU6 b7 := Safe.new (EL := consts_1) (vm := vmU6) (Nat.le_of_eq g7.symm)
          rw [← g7] at A7 D7 st7
          replace hk := Nat.le_trans hk E7.1
          replace Od := Od.ext E7
          replace E_x4 := Exa.ext E7 E_x4
          replace V_x4 := Fld.ext E7 V_x4
          replace C_x4 := Fld.ext E7 C_x4
          replace K_x4 := K_x4.ext E7
          replace F_hash_x4 := Fld.ext E7 F_hash_x4
          replace F_hashIsZero_x4 := Fld.ext E7 F_hashIsZero_x4
          replace sf_x4 := Safe.ext E7 CR.1 sf_x4
          replace E_x5 := Exa.ext E7 E_x5
          replace V_x5 := Fld.ext E7 V_x5
          replace C_x5 := Fld.ext E7 C_x5
          replace K_x5 := K_x5.ext E7
          replace F_hash_x5 := Fld.ext E7 F_hash_x5
          replace F_hashIsZero_x5 := Fld.ext E7 F_hashIsZero_x5
          replace sf_x5 := Safe.ext E7 CR.1 sf_x5
          replace E_q := Exa.ext E7 E_q
          replace V_q := Fld.ext E7 V_q
          replace C_q := Fld.ext E7 C_q
          replace K_q := K_q.ext E7
          replace F_hash_q := Fld.ext E7 F_hash_q
          replace F_hashIsZero_q := Fld.ext E7 F_hashIsZero_q
          replace sf_q := Safe.ext E7 CR.1 sf_q
          replace sf_b7 := Safe.ext E7 CR.1 sf_b7
          replace CR := CR.trans (CHr.ext E7 CR.1)
          have E_b7 : Exa Z h7 b7 "com/example/ranked_settings/rankedsettings/LookupPlans" := A7
          have F_slots_b7 : Fld Z h7 b7 "com/example/ranked_settings/rankedsettings/LookupPlans" "slots" "[Lcom/example/ranked_settings/rankedsettings/LookupPlans$Plan;" .null := D7 (Or.inr (hw _ (List.mem_of_getElem? (i := 47) rfl))) (ty := (.array (.object "com/example/ranked_settings/rankedsettings/LookupPlans$Plan"))) (by decide)
          refine OEndsW.via (fun _ k_ => st7 _ k_) ?_
          show OEndsW p e below s _ _ _ _ _ (T7.setTop (mkF m 95 #[.val (.int p0), .val (.int p1), .val (.int p2), .val (.int nl), .val (.int ql), .val (.int k1), .val (.int k2), .val (.int k3), .val (.ref x4), .val (.ref x5), .val (.ref q), .unset, .unset, .unset, .unset, .unset] [(.ref b7)]))
          refine OEndsW.via (fun _ k_ => XS.dup X7.here hx rfl (hb hby at_95) rfl rfl k_) ?_
          show OEndsW p e below s _ _ _ _ _ (T7.setTop (mkF m 96 #[.val (.int p0), .val (.int p1), .val (.int p2), .val (.int nl), .val (.int ql), .val (.int k1), .val (.int k2), .val (.int k3), .val (.ref x4), .val (.ref x5), .val (.ref q), .unset, .unset, .unset, .unset, .unset] [(.ref b7), (.ref b7)]))
          obtain ⟨_, _, ⟨T8, L8, k8, n8⟩, -, X8, ⟨Lc8, hQ8, l8, y8, z8⟩, st8⟩ := X7.specialBack hx (y := (⟨"com/example/ranked_settings/rankedsettings/LookupPlans", "<init>", "()V"⟩ : MethodName)) rfl hown (mvT hZ (hw _ (List.mem_of_getElem? (i := 40) rfl))) (mvT hZ (hw _ (List.mem_of_getElem? (i := 41) rfl))) (mvT hZ (hw _ (List.mem_of_getElem? (i := 42) rfl))) (by decide) (backOf (W := 1) (rmT l Z a0 hw [] b7 h7 n0 Od F_slots_b7 E_b7 ge_b7) hZ (hw _ (List.mem_of_getElem? (i := 42) rfl)) (hw _ (List.mem_of_getElem? (i := 39) rfl)) (by decide) (by decide)) (g := (mkF m 96 #[.val (.int p0), .val (.int p1), .val (.int p2), .val (.int nl), .val (.int ql), .val (.int k1), .val (.int k2), .val (.int k3), .val (.ref x4), .val (.ref x5), .val (.ref q), .unset, .unset, .unset, .unset, .unset] [(.ref b7), (.ref b7)])) rfl (by rw [hml]; rfl) (Steps.refl _) (a := b7) (argsL := []) (rest := [(.ref b7)]) (lenOf pd_2829V rfl) rfl (by show 2 * 0 + _ ≤ _; exact Nat.le_of_eq rfl) (hb hby at_96) (fun _ _ => ⟨rfl, e7, Nat.le_of_ble_eq_true rfl, Nat.le_of_ble_eq_true rfl⟩)
          dsimp only [Pt.U, Pt.locs, Pt.cells, Pt.slots] at X8 l8 y8 z8 st8 hQ8
          subst l8 y8 z8
          obtain ⟨rfl, N8q, K8, b, k_b, szb, ge_b, F_slots, O_b, T_b⟩ := hQ8
          have N8 := Fr.app NU6 N8q
          have ne_x4_b : x4 ≠ b := Nat.ne_of_lt (Nat.lt_of_lt_of_le E_x4.lt szb)
          have ne_t_x4_b : t_x4 ≠ b := Nat.ne_of_lt (Nat.lt_of_lt_of_le K_x4.lt szb)
          have ne_x5_b : x5 ≠ b := Nat.ne_of_lt (Nat.lt_of_lt_of_le E_x5.lt szb)
          have ne_t_x5_b : t_x5 ≠ b := Nat.ne_of_lt (Nat.lt_of_lt_of_le K_x5.lt szb)
          have ne_q_b : q ≠ b := Nat.ne_of_lt (Nat.lt_of_lt_of_le E_q.lt szb)
          have ne_t_q_b : t_q ≠ b := Nat.ne_of_lt (Nat.lt_of_lt_of_le K_q.lt szb)
          have ne_b7_b : b7 ≠ b := Nat.ne_of_lt (Nat.lt_of_lt_of_le E_b7.lt szb)
          have sfk8 : ∀ x ∈ ([b7] : List Addr), Safe Z consts_1 vmU6 h7 x := (allS sf_b7 all0)
          replace hk := Nat.le_trans hk K8.1
          replace Od := Od.keep K8 (allS ge_b7 all0)
          replace E_x4 := E_x4.keep K8
          replace V_x4 := V_x4.keep K8 (ninS ne_x4_b7 nin0)
          replace C_x4 := C_x4.keep K8 (ninS ne_x4_b7 nin0)
          replace K_x4 := K_x4.keep K8 (ninS ne_t_x4_b7 nin0)
          replace F_hash_x4 := F_hash_x4.keep K8 (ninS ne_x4_b7 nin0)
          replace F_hashIsZero_x4 := F_hashIsZero_x4.keep K8 (ninS ne_x4_b7 nin0)
          replace sf_x4 := Safe.keep K8 sfk8 CR.1 sf_x4
          replace E_x5 := E_x5.keep K8
          replace V_x5 := V_x5.keep K8 (ninS ne_x5_b7 nin0)
          replace C_x5 := C_x5.keep K8 (ninS ne_x5_b7 nin0)
          replace K_x5 := K_x5.keep K8 (ninS ne_t_x5_b7 nin0)
          replace F_hash_x5 := F_hash_x5.keep K8 (ninS ne_x5_b7 nin0)
          replace F_hashIsZero_x5 := F_hashIsZero_x5.keep K8 (ninS ne_x5_b7 nin0)
          replace sf_x5 := Safe.keep K8 sfk8 CR.1 sf_x5
          replace E_q := E_q.keep K8
          replace V_q := V_q.keep K8 (ninS ne_q_b7 nin0)
          replace C_q := C_q.keep K8 (ninS ne_q_b7 nin0)
          replace K_q := K_q.keep K8 (ninS ne_t_q_b7 nin0)
          replace F_hash_q := F_hash_q.keep K8 (ninS ne_q_b7 nin0)
          replace F_hashIsZero_q := F_hashIsZero_q.keep K8 (ninS ne_q_b7 nin0)
          replace sf_q := Safe.keep K8 sfk8 CR.1 sf_q
          replace sf_b7 := Safe.keep K8 sfk8 CR.1 sf_b7
          replace E_b7 := E_b7.keep K8
          replace CR := CR.trans (CHr.keep K8 sfk8 CR.1)
          refine OEndsW.via (fun _ k_ => st8.trans k_) ?_
          show OEndsW p e below s _ _ _ _ _ (T8.setTop (mkF m 99 #[.val (.int p0), .val (.int p1), .val (.int p2), .val (.int nl), .val (.int ql), .val (.int k1), .val (.int k2), .val (.int k3), .val (.ref x4), .val (.ref x5), .val (.ref q), .unset, .unset, .unset, .unset, .unset] [(.ref b7)]))
          refine OEndsW.via (fun _ k_ => XS.astore X8.here hx rfl (hb hby at_99) rfl rfl (l' := #[.val (.int p0), .val (.int p1), .val (.int p2), .val (.int nl), .val (.int ql), .val (.int k1), .val (.int k2), .val (.int k3), .val (.ref x4), .val (.ref x5), .val (.ref q), .val (.ref b7), .unset, .unset, .unset, .unset]) rfl k_) ?_
          show OEndsW p e below s _ _ _ _ _ (T8.setTop (mkF m 101 #[.val (.int p0), .val (.int p1), .val (.int p2), .val (.int nl), .val (.int ql), .val (.int k1), .val (.int k2), .val (.int k3), .val (.ref x4), .val (.ref x5), .val (.ref q), .val (.ref b7), .unset, .unset, .unset, .unset] []))
          obtain ⟨T9, h9, X9, e9, E9, A9, D9, -, st9⟩ := newO X8 hx hZ hown (hw _ (List.mem_of_getElem? (i := 48) rfl)) (hw _ (List.mem_of_getElem? (i := 49) rfl)) (hw _ (List.mem_of_getElem? (i := 50) rfl)) rfl (g := (mkF m 101 #[.val (.int p0), .val (.int p1), .val (.int p2), .val (.int nl), .val (.int ql), .val (.int k1), .val (.int k2), .val (.int k3), .val (.ref x4), .val (.ref x5), .val (.ref q), .val (.ref b7), .unset, .unset, .unset, .unset] [])) rfl (hb hby at_101) (by decide) (by decide)
          obtain ⟨b9, g9⟩ : ∃ z, z = T8.heap.size := ⟨_, rfl⟩
          have ne_x4_b9 : x4 ≠ b9 := Nat.ne_of_lt (Nat.lt_of_lt_of_le E_x4.lt (Nat.le_of_eq g9.symm))
          have ne_t_x4_b9 : t_x4 ≠ b9 := Nat.ne_of_lt (Nat.lt_of_lt_of_le K_x4.lt (Nat.le_of_eq g9.symm))
          have ne_x5_b9 : x5 ≠ b9 := Nat.ne_of_lt (Nat.lt_of_lt_of_le E_x5.lt (Nat.le_of_eq g9.symm))
          have ne_t_x5_b9 : t_x5 ≠ b9 := Nat.ne_of_lt (Nat.lt_of_lt_of_le K_x5.lt (Nat.le_of_eq g9.symm))
          have ne_q_b9 : q ≠ b9 := Nat.ne_of_lt (Nat.lt_of_lt_of_le E_q.lt (Nat.le_of_eq g9.symm))
          have ne_t_q_b9 : t_q ≠ b9 := Nat.ne_of_lt (Nat.lt_of_lt_of_le K_q.lt (Nat.le_of_eq g9.symm))
          have ne_b7_b9 : b7 ≠ b9 := Nat.ne_of_lt (Nat.lt_of_lt_of_le E_b7.lt (Nat.le_of_eq g9.symm))
          have ne_b_b9 : b ≠ b9 := Nat.ne_of_lt (Nat.lt_of_lt_of_le T_b.lt (Nat.le_of_eq g9.symm))
          have ge_b9 : n0 ≤ b9 := Nat.le_trans (Od.1 ▸ Od.2.1) (Nat.le_of_eq g9.symm)
          have sf_b9 : Safe Z consts_1 _ T8.heap b9 := Safe.new (EL := consts_1) (vm := vmU6) (Nat.le_of_eq g9.symm)
          rw [← g9] at A9 D9 st9
          replace hk := Nat.le_trans hk E9.1
          replace Od := Od.ext E9
          replace E_x4 := Exa.ext E9 E_x4
          replace V_x4 := Fld.ext E9 V_x4
          replace C_x4 := Fld.ext E9 C_x4
          replace K_x4 := K_x4.ext E9
          replace F_hash_x4 := Fld.ext E9 F_hash_x4
          replace F_hashIsZero_x4 := Fld.ext E9 F_hashIsZero_x4
          replace sf_x4 := Safe.ext E9 CR.1 sf_x4
          replace E_x5 := Exa.ext E9 E_x5
          replace V_x5 := Fld.ext E9 V_x5
          replace C_x5 := Fld.ext E9 C_x5
          replace K_x5 := K_x5.ext E9
          replace F_hash_x5 := Fld.ext E9 F_hash_x5
          replace F_hashIsZero_x5 := Fld.ext E9 F_hashIsZero_x5
          replace sf_x5 := Safe.ext E9 CR.1 sf_x5
          replace E_q := Exa.ext E9 E_q
          replace V_q := Fld.ext E9 V_q
          replace C_q := Fld.ext E9 C_q
          replace K_q := K_q.ext E9
          replace F_hash_q := Fld.ext E9 F_hash_q
          replace F_hashIsZero_q := Fld.ext E9 F_hashIsZero_q
          replace sf_q := Safe.ext E9 CR.1 sf_q
          replace sf_b7 := Safe.ext E9 CR.1 sf_b7
          replace E_b7 := Exa.ext E9 E_b7
          replace F_slots := Fld.ext E9 F_slots
          replace T_b := T_b.ext E9
          replace sf_b9 := Safe.ext E9 CR.1 sf_b9
          replace CR := CR.trans (CHr.ext E9 CR.1)
          have E_b9 : Exa Z h9 b9 "com/example/ranked_settings/rankedsettings/LookupPlans$Plan" := A9
          have F_name_b9 : Fld Z h9 b9 "com/example/ranked_settings/rankedsettings/LookupPlans$Plan" "name" "Ljava/lang/String;" .null := D9 (Or.inr (hw _ (List.mem_of_getElem? (i := 61) rfl))) (ty := (.object "java/lang/String")) (by decide)
          have F_profileName_b9 : Fld Z h9 b9 "com/example/ranked_settings/rankedsettings/LookupPlans$Plan" "profileName" "Ljava/lang/String;" .null := D9 (Or.inr (hw _ (List.mem_of_getElem? (i := 63) rfl))) (ty := (.object "java/lang/String")) (by decide)
          have F_answering_b9 : Fld Z h9 b9 "com/example/ranked_settings/rankedsettings/LookupPlans$Plan" "answering" "I" (.int (0 : Int32)) := D9 (Or.inr (hw _ (List.mem_of_getElem? (i := 65) rfl))) (ty := .int) (by decide)
          have F_value_b9 : Fld Z h9 b9 "com/example/ranked_settings/rankedsettings/LookupPlans$Plan" "value" "Ljava/lang/String;" .null := D9 (Or.inr (hw _ (List.mem_of_getElem? (i := 67) rfl))) (ty := (.object "java/lang/String")) (by decide)
          refine OEndsW.via (fun _ k_ => st9 _ k_) ?_
          show OEndsW p e below s _ _ _ _ _ (T9.setTop (mkF m 104 #[.val (.int p0), .val (.int p1), .val (.int p2), .val (.int nl), .val (.int ql), .val (.int k1), .val (.int k2), .val (.int k3), .val (.ref x4), .val (.ref x5), .val (.ref q), .val (.ref b7), .unset, .unset, .unset, .unset] [(.ref b9)]))
          refine OEndsW.via (fun _ k_ => XS.dup X9.here hx rfl (hb hby at_104) rfl rfl k_) ?_
          show OEndsW p e below s _ _ _ _ _ (T9.setTop (mkF m 105 #[.val (.int p0), .val (.int p1), .val (.int p2), .val (.int nl), .val (.int ql), .val (.int k1), .val (.int k2), .val (.int k3), .val (.ref x4), .val (.ref x5), .val (.ref q), .val (.ref b7), .unset, .unset, .unset, .unset] [(.ref b9), (.ref b9)]))
          refine OEndsW.via (fun _ k_ => XS.aload X9.here hx rfl (hb hby at_105) rfl rfl k_) ?_
          show OEndsW p e below s _ _ _ _ _ (T9.setTop (mkF m 107 #[.val (.int p0), .val (.int p1), .val (.int p2), .val (.int nl), .val (.int ql), .val (.int k1), .val (.int k2), .val (.int k3), .val (.ref x4), .val (.ref x5), .val (.ref q), .val (.ref b7), .unset, .unset, .unset, .unset] [(.ref x4), (.ref b9), (.ref b9)]))
          refine OEndsW.via (fun _ k_ => XS.aconstNull X9.here hx rfl (hb hby at_107) k_) ?_
          show OEndsW p e below s _ _ _ _ _ (T9.setTop (mkF m 108 #[.val (.int p0), .val (.int p1), .val (.int p2), .val (.int nl), .val (.int ql), .val (.int k1), .val (.int k2), .val (.int k3), .val (.ref x4), .val (.ref x5), .val (.ref q), .val (.ref b7), .unset, .unset, .unset, .unset] [.null, (.ref x4), (.ref b9), (.ref b9)]))
          refine OEndsW.via (fun _ k_ => XS.iconst X9.here hx rfl (hb hby at_108) k_) ?_
          show OEndsW p e below s _ _ _ _ _ (T9.setTop (mkF m 109 #[.val (.int p0), .val (.int p1), .val (.int p2), .val (.int nl), .val (.int ql), .val (.int k1), .val (.int k2), .val (.int k3), .val (.ref x4), .val (.ref x5), .val (.ref q), .val (.ref b7), .unset, .unset, .unset, .unset] [(.int (1 : Int32)), .null, (.ref x4), (.ref b9), (.ref b9)]))
          refine OEndsW.via (fun _ k_ => XS.aconstNull X9.here hx rfl (hb hby at_109) k_) ?_
          show OEndsW p e below s _ _ _ _ _ (T9.setTop (mkF m 110 #[.val (.int p0), .val (.int p1), .val (.int p2), .val (.int nl), .val (.int ql), .val (.int k1), .val (.int k2), .val (.int k3), .val (.ref x4), .val (.ref x5), .val (.ref q), .val (.ref b7), .unset, .unset, .unset, .unset] [.null, (.int (1 : Int32)), .null, (.ref x4), (.ref b9), (.ref b9)]))
          obtain ⟨_, _, ⟨T10, L10, k10, n10⟩, -, X10, ⟨Lc10, hQ10, l10, y10, z10⟩, st10⟩ := X9.specialBack hx (y := (⟨"com/example/ranked_settings/rankedsettings/LookupPlans$Plan", "<init>", "(Ljava/lang/String;Ljava/lang/String;ILjava/lang/String;)V"⟩ : MethodName)) rfl hown (mvT hZ (hw _ (List.mem_of_getElem? (i := 51) rfl))) (mvT hZ (hw _ (List.mem_of_getElem? (i := 52) rfl))) (mvT hZ (hw _ (List.mem_of_getElem? (i := 53) rfl))) (by decide) (backOf (W := 1) (rmP0 l Z a0 hw [] b9 x4 x4 h9 n0 Od F_name_b9 F_profileName_b9 F_answering_b9 F_value_b9 E_b9 ge_b9) hZ (hw _ (List.mem_of_getElem? (i := 53) rfl)) (hw _ (List.mem_of_getElem? (i := 50) rfl)) (by decide) (by decide)) (g := (mkF m 110 #[.val (.int p0), .val (.int p1), .val (.int p2), .val (.int nl), .val (.int ql), .val (.int k1), .val (.int k2), .val (.int k3), .val (.ref x4), .val (.ref x5), .val (.ref q), .val (.ref b7), .unset, .unset, .unset, .unset] [.null, (.int (1 : Int32)), .null, (.ref x4), (.ref b9), (.ref b9)])) rfl (by rw [hml]; rfl) (Steps.refl _) (a := b9) (argsL := [(.ref x4), .null, (.int (1 : Int32)), .null]) (rest := [(.ref b9)]) (lenOf pd_28Ljava2flang2fString3bLjava2flang2fString3bILjava2flang2fString3b29V rfl) rfl (by show 2 * 0 + _ ≤ _; exact Nat.le_of_eq rfl) (hb hby at_110) (fun _ _ => ⟨rfl, e9, Nat.le_of_ble_eq_true rfl, Nat.le_of_ble_eq_true rfl⟩)
          dsimp only [Pt.U, Pt.locs, Pt.cells, Pt.slots] at X10 l10 y10 z10 st10 hQ10
          subst l10 y10 z10
          obtain ⟨rfl, N10q, K10, FN10⟩ := hQ10
          have N10 := Fr.app N8 N10q
          have sfk10 : ∀ x ∈ ([b9] : List Addr), Safe Z consts_1 vmU6 h9 x := (allS sf_b9 all0)
          replace hk := Nat.le_trans hk K10.1
          replace Od := Od.keep K10 (allS ge_b9 all0)
          replace E_x4 := E_x4.keep K10
          replace V_x4 := V_x4.keep K10 (ninS ne_x4_b9 nin0)
          replace C_x4 := C_x4.keep K10 (ninS ne_x4_b9 nin0)
          replace K_x4 := K_x4.keep K10 (ninS ne_t_x4_b9 nin0)
          replace F_hash_x4 := F_hash_x4.keep K10 (ninS ne_x4_b9 nin0)
          replace F_hashIsZero_x4 := F_hashIsZero_x4.keep K10 (ninS ne_x4_b9 nin0)
          replace sf_x4 := Safe.keep K10 sfk10 CR.1 sf_x4
          replace E_x5 := E_x5.keep K10
          replace V_x5 := V_x5.keep K10 (ninS ne_x5_b9 nin0)
          replace C_x5 := C_x5.keep K10 (ninS ne_x5_b9 nin0)
          replace K_x5 := K_x5.keep K10 (ninS ne_t_x5_b9 nin0)
          replace F_hash_x5 := F_hash_x5.keep K10 (ninS ne_x5_b9 nin0)
          replace F_hashIsZero_x5 := F_hashIsZero_x5.keep K10 (ninS ne_x5_b9 nin0)
          replace sf_x5 := Safe.keep K10 sfk10 CR.1 sf_x5
          replace E_q := E_q.keep K10
          replace V_q := V_q.keep K10 (ninS ne_q_b9 nin0)
          replace C_q := C_q.keep K10 (ninS ne_q_b9 nin0)
          replace K_q := K_q.keep K10 (ninS ne_t_q_b9 nin0)
          replace F_hash_q := F_hash_q.keep K10 (ninS ne_q_b9 nin0)
          replace F_hashIsZero_q := F_hashIsZero_q.keep K10 (ninS ne_q_b9 nin0)
          replace sf_q := Safe.keep K10 sfk10 CR.1 sf_q
          replace sf_b7 := Safe.keep K10 sfk10 CR.1 sf_b7
          replace E_b7 := E_b7.keep K10
          replace F_slots := F_slots.keep K10 (ninS ne_b7_b9 nin0)
          replace T_b := T_b.keep K10 (ninS ne_b_b9 nin0)
          replace sf_b9 := Safe.keep K10 sfk10 CR.1 sf_b9
          replace E_b9 := E_b9.keep K10
          replace CR := CR.trans (CHr.keep K10 sfk10 CR.1)
          refine OEndsW.via (fun _ k_ => st10.trans k_) ?_
          show OEndsW p e below s _ _ _ _ _ (T10.setTop (mkF m 113 #[.val (.int p0), .val (.int p1), .val (.int p2), .val (.int nl), .val (.int ql), .val (.int k1), .val (.int k2), .val (.int k3), .val (.ref x4), .val (.ref x5), .val (.ref q), .val (.ref b7), .unset, .unset, .unset, .unset] [(.ref b9)]))
          refine OEndsW.via (fun _ k_ => XS.astore X10.here hx rfl (hb hby at_113) rfl rfl (l' := #[.val (.int p0), .val (.int p1), .val (.int p2), .val (.int nl), .val (.int ql), .val (.int k1), .val (.int k2), .val (.int k3), .val (.ref x4), .val (.ref x5), .val (.ref q), .val (.ref b7), .val (.ref b9), .unset, .unset, .unset]) rfl k_) ?_
          show OEndsW p e below s _ _ _ _ _ (T10.setTop (mkF m 115 #[.val (.int p0), .val (.int p1), .val (.int p2), .val (.int nl), .val (.int ql), .val (.int k1), .val (.int k2), .val (.int k3), .val (.ref x4), .val (.ref x5), .val (.ref q), .val (.ref b7), .val (.ref b9), .unset, .unset, .unset] []))
          obtain ⟨T11, h11, X11, e11, E11, A11, D11, -, st11⟩ := newO X10 hx hZ hown (hw _ (List.mem_of_getElem? (i := 48) rfl)) (hw _ (List.mem_of_getElem? (i := 49) rfl)) (hw _ (List.mem_of_getElem? (i := 50) rfl)) rfl (g := (mkF m 115 #[.val (.int p0), .val (.int p1), .val (.int p2), .val (.int nl), .val (.int ql), .val (.int k1), .val (.int k2), .val (.int k3), .val (.ref x4), .val (.ref x5), .val (.ref q), .val (.ref b7), .val (.ref b9), .unset, .unset, .unset] [])) rfl (hb hby at_115) (by decide) (by decide)
          obtain ⟨b11, g11⟩ : ∃ z, z = T10.heap.size := ⟨_, rfl⟩
          have ne_x4_b11 : x4 ≠ b11 := Nat.ne_of_lt (Nat.lt_of_lt_of_le E_x4.lt (Nat.le_of_eq g11.symm))
          have ne_t_x4_b11 : t_x4 ≠ b11 := Nat.ne_of_lt (Nat.lt_of_lt_of_le K_x4.lt (Nat.le_of_eq g11.symm))
          have ne_x5_b11 : x5 ≠ b11 := Nat.ne_of_lt (Nat.lt_of_lt_of_le E_x5.lt (Nat.le_of_eq g11.symm))
          have ne_t_x5_b11 : t_x5 ≠ b11 := Nat.ne_of_lt (Nat.lt_of_lt_of_le K_x5.lt (Nat.le_of_eq g11.symm))
          have ne_q_b11 : q ≠ b11 := Nat.ne_of_lt (Nat.lt_of_lt_of_le E_q.lt (Nat.le_of_eq g11.symm))
          have ne_t_q_b11 : t_q ≠ b11 := Nat.ne_of_lt (Nat.lt_of_lt_of_le K_q.lt (Nat.le_of_eq g11.symm))
          have ne_b7_b11 : b7 ≠ b11 := Nat.ne_of_lt (Nat.lt_of_lt_of_le E_b7.lt (Nat.le_of_eq g11.symm))
          have ne_b_b11 : b ≠ b11 := Nat.ne_of_lt (Nat.lt_of_lt_of_le T_b.lt (Nat.le_of_eq g11.symm))
          have ne_b9_b11 : b9 ≠ b11 := Nat.ne_of_lt (Nat.lt_of_lt_of_le E_b9.lt (Nat.le_of_eq g11.symm))
          have ge_b11 : n0 ≤ b11 := Nat.le_trans (Od.1 ▸ Od.2.1) (Nat.le_of_eq g11.symm)
          have sf_b11 : Safe Z consts_1 _ T10.heap b11 := Safe.new (EL := consts_1) (vm := vmU6) (Nat.le_of_eq g11.symm)
          rw [← g11] at A11 D11 st11
          replace hk := Nat.le_trans hk E11.1
          replace Od := Od.ext E11
          replace E_x4 := Exa.ext E11 E_x4
          replace V_x4 := Fld.ext E11 V_x4
          replace C_x4 := Fld.ext E11 C_x4
          replace K_x4 := K_x4.ext E11
          replace F_hash_x4 := Fld.ext E11 F_hash_x4
          replace F_hashIsZero_x4 := Fld.ext E11 F_hashIsZero_x4
          replace sf_x4 := Safe.ext E11 CR.1 sf_x4
          replace E_x5 := Exa.ext E11 E_x5
          replace V_x5 := Fld.ext E11 V_x5
          replace C_x5 := Fld.ext E11 C_x5
          replace K_x5 := K_x5.ext E11
          replace F_hash_x5 := Fld.ext E11 F_hash_x5
          replace F_hashIsZero_x5 := Fld.ext E11 F_hashIsZero_x5
          replace sf_x5 := Safe.ext E11 CR.1 sf_x5
          replace E_q := Exa.ext E11 E_q
          replace V_q := Fld.ext E11 V_q
          replace C_q := Fld.ext E11 C_q
          replace K_q := K_q.ext E11
          replace F_hash_q := Fld.ext E11 F_hash_q
          replace F_hashIsZero_q := Fld.ext E11 F_hashIsZero_q
          replace sf_q := Safe.ext E11 CR.1 sf_q
          replace sf_b7 := Safe.ext E11 CR.1 sf_b7
          replace E_b7 := Exa.ext E11 E_b7
          replace F_slots := Fld.ext E11 F_slots
          replace T_b := T_b.ext E11
          replace sf_b9 := Safe.ext E11 CR.1 sf_b9
          replace E_b9 := Exa.ext E11 E_b9
          replace FN10 := Fld.ext E11 FN10
          replace sf_b11 := Safe.ext E11 CR.1 sf_b11
          replace CR := CR.trans (CHr.ext E11 CR.1)
          have E_b11 : Exa Z h11 b11 "com/example/ranked_settings/rankedsettings/LookupPlans$Plan" := A11
          have F_name_b11 : Fld Z h11 b11 "com/example/ranked_settings/rankedsettings/LookupPlans$Plan" "name" "Ljava/lang/String;" .null := D11 (Or.inr (hw _ (List.mem_of_getElem? (i := 61) rfl))) (ty := (.object "java/lang/String")) (by decide)
          have F_profileName_b11 : Fld Z h11 b11 "com/example/ranked_settings/rankedsettings/LookupPlans$Plan" "profileName" "Ljava/lang/String;" .null := D11 (Or.inr (hw _ (List.mem_of_getElem? (i := 63) rfl))) (ty := (.object "java/lang/String")) (by decide)
          have F_answering_b11 : Fld Z h11 b11 "com/example/ranked_settings/rankedsettings/LookupPlans$Plan" "answering" "I" (.int (0 : Int32)) := D11 (Or.inr (hw _ (List.mem_of_getElem? (i := 65) rfl))) (ty := .int) (by decide)
          have F_value_b11 : Fld Z h11 b11 "com/example/ranked_settings/rankedsettings/LookupPlans$Plan" "value" "Ljava/lang/String;" .null := D11 (Or.inr (hw _ (List.mem_of_getElem? (i := 67) rfl))) (ty := (.object "java/lang/String")) (by decide)
          refine OEndsW.via (fun _ k_ => st11 _ k_) ?_
          show OEndsW p e below s _ _ _ _ _ (T11.setTop (mkF m 118 #[.val (.int p0), .val (.int p1), .val (.int p2), .val (.int nl), .val (.int ql), .val (.int k1), .val (.int k2), .val (.int k3), .val (.ref x4), .val (.ref x5), .val (.ref q), .val (.ref b7), .val (.ref b9), .unset, .unset, .unset] [(.ref b11)]))
          refine OEndsW.via (fun _ k_ => XS.dup X11.here hx rfl (hb hby at_118) rfl rfl k_) ?_
          show OEndsW p e below s _ _ _ _ _ (T11.setTop (mkF m 119 #[.val (.int p0), .val (.int p1), .val (.int p2), .val (.int nl), .val (.int ql), .val (.int k1), .val (.int k2), .val (.int k3), .val (.ref x4), .val (.ref x5), .val (.ref q), .val (.ref b7), .val (.ref b9), .unset, .unset, .unset] [(.ref b11), (.ref b11)]))
          refine OEndsW.via (fun _ k_ => XS.aload X11.here hx rfl (hb hby at_119) rfl rfl k_) ?_
          show OEndsW p e below s _ _ _ _ _ (T11.setTop (mkF m 121 #[.val (.int p0), .val (.int p1), .val (.int p2), .val (.int nl), .val (.int ql), .val (.int k1), .val (.int k2), .val (.int k3), .val (.ref x4), .val (.ref x5), .val (.ref q), .val (.ref b7), .val (.ref b9), .unset, .unset, .unset] [(.ref x5), (.ref b11), (.ref b11)]))
          refine OEndsW.via (fun _ k_ => XS.aload X11.here hx rfl (hb hby at_121) rfl rfl k_) ?_
          show OEndsW p e below s _ _ _ _ _ (T11.setTop (mkF m 123 #[.val (.int p0), .val (.int p1), .val (.int p2), .val (.int nl), .val (.int ql), .val (.int k1), .val (.int k2), .val (.int k3), .val (.ref x4), .val (.ref x5), .val (.ref q), .val (.ref b7), .val (.ref b9), .unset, .unset, .unset] [(.ref x4), (.ref x5), (.ref b11), (.ref b11)]))
          refine OEndsW.via (fun _ k_ => XS.iconst X11.here hx rfl (hb hby at_123) k_) ?_
          show OEndsW p e below s _ _ _ _ _ (T11.setTop (mkF m 124 #[.val (.int p0), .val (.int p1), .val (.int p2), .val (.int nl), .val (.int ql), .val (.int k1), .val (.int k2), .val (.int k3), .val (.ref x4), .val (.ref x5), .val (.ref q), .val (.ref b7), .val (.ref b9), .unset, .unset, .unset] [(.int (2 : Int32)), (.ref x4), (.ref x5), (.ref b11), (.ref b11)]))
          refine OEndsW.via (fun _ k_ => XS.aload X11.here hx rfl (hb hby at_124) rfl rfl k_) ?_
          show OEndsW p e below s _ _ _ _ _ (T11.setTop (mkF m 126 #[.val (.int p0), .val (.int p1), .val (.int p2), .val (.int nl), .val (.int ql), .val (.int k1), .val (.int k2), .val (.int k3), .val (.ref x4), .val (.ref x5), .val (.ref q), .val (.ref b7), .val (.ref b9), .unset, .unset, .unset] [(.ref x4), (.int (2 : Int32)), (.ref x4), (.ref x5), (.ref b11), (.ref b11)]))
          obtain ⟨_, _, ⟨T12, L12, k12, n12⟩, -, X12, ⟨Lc12, hQ12, l12, y12, z12⟩, st12⟩ := X11.specialBack hx (y := (⟨"com/example/ranked_settings/rankedsettings/LookupPlans$Plan", "<init>", "(Ljava/lang/String;Ljava/lang/String;ILjava/lang/String;)V"⟩ : MethodName)) rfl hown (mvT hZ (hw _ (List.mem_of_getElem? (i := 51) rfl))) (mvT hZ (hw _ (List.mem_of_getElem? (i := 52) rfl))) (mvT hZ (hw _ (List.mem_of_getElem? (i := 53) rfl))) (by decide) (backOf (W := 1) (rmP1 l Z a0 hw [] b11 x5 x4 h11 n0 Od F_name_b11 F_profileName_b11 F_answering_b11 F_value_b11 E_b11 ge_b11) hZ (hw _ (List.mem_of_getElem? (i := 53) rfl)) (hw _ (List.mem_of_getElem? (i := 50) rfl)) (by decide) (by decide)) (g := (mkF m 126 #[.val (.int p0), .val (.int p1), .val (.int p2), .val (.int nl), .val (.int ql), .val (.int k1), .val (.int k2), .val (.int k3), .val (.ref x4), .val (.ref x5), .val (.ref q), .val (.ref b7), .val (.ref b9), .unset, .unset, .unset] [(.ref x4), (.int (2 : Int32)), (.ref x4), (.ref x5), (.ref b11), (.ref b11)])) rfl (by rw [hml]; rfl) (Steps.refl _) (a := b11) (argsL := [(.ref x5), (.ref x4), (.int (2 : Int32)), (.ref x4)]) (rest := [(.ref b11)]) (lenOf pd_28Ljava2flang2fString3bLjava2flang2fString3bILjava2flang2fString3b29V rfl) rfl (by show 2 * 0 + _ ≤ _; exact Nat.le_of_eq rfl) (hb hby at_126) (fun _ _ => ⟨rfl, e11, Nat.le_of_ble_eq_true rfl, Nat.le_of_ble_eq_true rfl⟩)
          dsimp only [Pt.U, Pt.locs, Pt.cells, Pt.slots] at X12 l12 y12 z12 st12 hQ12
          subst l12 y12 z12
          obtain ⟨rfl, N12q, K12, FN12⟩ := hQ12
          have N12 := Fr.app N10 N12q
          have sfk12 : ∀ x ∈ ([b11] : List Addr), Safe Z consts_1 vmU6 h11 x := (allS sf_b11 all0)
          replace hk := Nat.le_trans hk K12.1
          replace Od := Od.keep K12 (allS ge_b11 all0)
          replace E_x4 := E_x4.keep K12
          replace V_x4 := V_x4.keep K12 (ninS ne_x4_b11 nin0)
          replace C_x4 := C_x4.keep K12 (ninS ne_x4_b11 nin0)
          replace K_x4 := K_x4.keep K12 (ninS ne_t_x4_b11 nin0)
          replace F_hash_x4 := F_hash_x4.keep K12 (ninS ne_x4_b11 nin0)
          replace F_hashIsZero_x4 := F_hashIsZero_x4.keep K12 (ninS ne_x4_b11 nin0)
          replace sf_x4 := Safe.keep K12 sfk12 CR.1 sf_x4
          replace E_x5 := E_x5.keep K12
          replace V_x5 := V_x5.keep K12 (ninS ne_x5_b11 nin0)
          replace C_x5 := C_x5.keep K12 (ninS ne_x5_b11 nin0)
          replace K_x5 := K_x5.keep K12 (ninS ne_t_x5_b11 nin0)
          replace F_hash_x5 := F_hash_x5.keep K12 (ninS ne_x5_b11 nin0)
          replace F_hashIsZero_x5 := F_hashIsZero_x5.keep K12 (ninS ne_x5_b11 nin0)
          replace sf_x5 := Safe.keep K12 sfk12 CR.1 sf_x5
          replace E_q := E_q.keep K12
          replace V_q := V_q.keep K12 (ninS ne_q_b11 nin0)
          replace C_q := C_q.keep K12 (ninS ne_q_b11 nin0)
          replace K_q := K_q.keep K12 (ninS ne_t_q_b11 nin0)
          replace F_hash_q := F_hash_q.keep K12 (ninS ne_q_b11 nin0)
          replace F_hashIsZero_q := F_hashIsZero_q.keep K12 (ninS ne_q_b11 nin0)
          replace sf_q := Safe.keep K12 sfk12 CR.1 sf_q
          replace sf_b7 := Safe.keep K12 sfk12 CR.1 sf_b7
          replace E_b7 := E_b7.keep K12
          replace F_slots := F_slots.keep K12 (ninS ne_b7_b11 nin0)
          replace T_b := T_b.keep K12 (ninS ne_b_b11 nin0)
          replace sf_b9 := Safe.keep K12 sfk12 CR.1 sf_b9
          replace E_b9 := E_b9.keep K12
          replace FN10 := FN10.keep K12 (ninS ne_b9_b11 nin0)
          replace sf_b11 := Safe.keep K12 sfk12 CR.1 sf_b11
          replace E_b11 := E_b11.keep K12
          replace CR := CR.trans (CHr.keep K12 sfk12 CR.1)
          refine OEndsW.via (fun _ k_ => st12.trans k_) ?_
          show OEndsW p e below s _ _ _ _ _ (T12.setTop (mkF m 129 #[.val (.int p0), .val (.int p1), .val (.int p2), .val (.int nl), .val (.int ql), .val (.int k1), .val (.int k2), .val (.int k3), .val (.ref x4), .val (.ref x5), .val (.ref q), .val (.ref b7), .val (.ref b9), .unset, .unset, .unset] [(.ref b11)]))
          refine OEndsW.via (fun _ k_ => XS.astore X12.here hx rfl (hb hby at_129) rfl rfl (l' := #[.val (.int p0), .val (.int p1), .val (.int p2), .val (.int nl), .val (.int ql), .val (.int k1), .val (.int k2), .val (.int k3), .val (.ref x4), .val (.ref x5), .val (.ref q), .val (.ref b7), .val (.ref b9), .val (.ref b11), .unset, .unset]) rfl k_) ?_
          show OEndsW p e below s _ _ _ _ _ (T12.setTop (mkF m 131 #[.val (.int p0), .val (.int p1), .val (.int p2), .val (.int nl), .val (.int ql), .val (.int k1), .val (.int k2), .val (.int k3), .val (.ref x4), .val (.ref x5), .val (.ref q), .val (.ref b7), .val (.ref b9), .val (.ref b11), .unset, .unset] []))
          refine OEndsW.via (fun _ k_ => XS.iload X12.here hx rfl (hb hby at_131) rfl k_) ?_
          show OEndsW p e below s _ _ _ _ _ (T12.setTop (mkF m 133 #[.val (.int p0), .val (.int p1), .val (.int p2), .val (.int nl), .val (.int ql), .val (.int k1), .val (.int k2), .val (.int k3), .val (.ref x4), .val (.ref x5), .val (.ref q), .val (.ref b7), .val (.ref b9), .val (.ref b11), .unset, .unset] [(.int k1)]))
          by_cases hc133_12 : k1 = (0 : Int32)
          · skip
            refine OEndsW.via (fun _ k_ => XS.ifYes X12.here hx rfl (pc0 := 133) (pc' := 143) rfl (hb hby at_133) rfl ((if0 _ _).trans (teq hc133_12).1) (by decide) (by decide) k_) ?_
            show OEndsW p e below s _ _ _ _ _ (T12.setTop (mkF m 143 #[.val (.int p0), .val (.int p1), .val (.int p2), .val (.int nl), .val (.int ql), .val (.int k1), .val (.int k2), .val (.int k3), .val (.ref x4), .val (.ref x5), .val (.ref q), .val (.ref b7), .val (.ref b9), .val (.ref b11), .unset, .unset] []))
            refine OEndsW.via (fun _ k_ => XS.iload X12.here hx rfl (hb hby at_143) rfl k_) ?_
            show OEndsW p e below s _ _ _ _ _ (T12.setTop (mkF m 145 #[.val (.int p0), .val (.int p1), .val (.int p2), .val (.int nl), .val (.int ql), .val (.int k1), .val (.int k2), .val (.int k3), .val (.ref x4), .val (.ref x5), .val (.ref q), .val (.ref b7), .val (.ref b9), .val (.ref b11), .unset, .unset] [(.int k2)]))
            by_cases hc145_13 : k2 = (0 : Int32)
            · skip
              refine OEndsW.via (fun _ k_ => XS.ifYes X12.here hx rfl (pc0 := 145) (pc' := 155) rfl (hb hby at_145) rfl ((if0 _ _).trans (teq hc145_13).1) (by decide) (by decide) k_) ?_
              show OEndsW p e below s _ _ _ _ _ (T12.setTop (mkF m 155 #[.val (.int p0), .val (.int p1), .val (.int p2), .val (.int nl), .val (.int ql), .val (.int k1), .val (.int k2), .val (.int k3), .val (.ref x4), .val (.ref x5), .val (.ref q), .val (.ref b7), .val (.ref b9), .val (.ref b11), .unset, .unset] []))
              refine OEndsW.via (fun _ k_ => XS.iload X12.here hx rfl (hb hby at_155) rfl k_) ?_
              show OEndsW p e below s _ _ _ _ _ (T12.setTop (mkF m 157 #[.val (.int p0), .val (.int p1), .val (.int p2), .val (.int nl), .val (.int ql), .val (.int k1), .val (.int k2), .val (.int k3), .val (.ref x4), .val (.ref x5), .val (.ref q), .val (.ref b7), .val (.ref b9), .val (.ref b11), .unset, .unset] [(.int k2)]))
              refine OEndsW.via (fun _ k_ => XS.ifYes X12.here hx rfl (pc0 := 157) (pc' := 165) rfl (hb hby at_157) rfl ((if0 _ _).trans (teq hc145_13).1) (by decide) (by decide) k_) ?_
              show OEndsW p e below s _ _ _ _ _ (T12.setTop (mkF m 165 #[.val (.int p0), .val (.int p1), .val (.int p2), .val (.int nl), .val (.int ql), .val (.int k1), .val (.int k2), .val (.int k3), .val (.ref x4), .val (.ref x5), .val (.ref q), .val (.ref b7), .val (.ref b9), .val (.ref b11), .unset, .unset] []))
              refine OEndsW.via (fun _ k_ => XS.iload X12.here hx rfl (hb hby at_165) rfl k_) ?_
              show OEndsW p e below s _ _ _ _ _ (T12.setTop (mkF m 167 #[.val (.int p0), .val (.int p1), .val (.int p2), .val (.int nl), .val (.int ql), .val (.int k1), .val (.int k2), .val (.int k3), .val (.ref x4), .val (.ref x5), .val (.ref q), .val (.ref b7), .val (.ref b9), .val (.ref b11), .unset, .unset] [(.int k1)]))
              refine OEndsW.via (fun _ k_ => XS.ifYes X12.here hx rfl (pc0 := 167) (pc' := 175) rfl (hb hby at_167) rfl ((if0 _ _).trans (teq hc133_12).1) (by decide) (by decide) k_) ?_
              show OEndsW p e below s _ _ _ _ _ (T12.setTop (mkF m 175 #[.val (.int p0), .val (.int p1), .val (.int p2), .val (.int nl), .val (.int ql), .val (.int k1), .val (.int k2), .val (.int k3), .val (.ref x4), .val (.ref x5), .val (.ref q), .val (.ref b7), .val (.ref b9), .val (.ref b11), .unset, .unset] []))
              refine OEndsW.via (fun _ k_ => XS.aconstNull X12.here hx rfl (hb hby at_175) k_) ?_
              show OEndsW p e below s _ _ _ _ _ (T12.setTop (mkF m 176 #[.val (.int p0), .val (.int p1), .val (.int p2), .val (.int nl), .val (.int ql), .val (.int k1), .val (.int k2), .val (.int k3), .val (.ref x4), .val (.ref x5), .val (.ref q), .val (.ref b7), .val (.ref b9), .val (.ref b11), .unset, .unset] [.null]))
              refine OEndsW.via (fun _ k_ => XS.astore X12.here hx rfl (hb hby at_176) rfl rfl (l' := #[.val (.int p0), .val (.int p1), .val (.int p2), .val (.int nl), .val (.int ql), .val (.int k1), .val (.int k2), .val (.int k3), .val (.ref x4), .val (.ref x5), .val (.ref q), .val (.ref b7), .val (.ref b9), .val (.ref b11), .val .null, .unset]) rfl k_) ?_
              show OEndsW p e below s _ _ _ _ _ (T12.setTop (mkF m 178 #[.val (.int p0), .val (.int p1), .val (.int p2), .val (.int nl), .val (.int ql), .val (.int k1), .val (.int k2), .val (.int k3), .val (.ref x4), .val (.ref x5), .val (.ref q), .val (.ref b7), .val (.ref b9), .val (.ref b11), .val .null, .unset] []))
              refine OEndsW.via (fun _ k_ => XS.aload X12.here hx rfl (hb hby at_178) rfl rfl k_) ?_
              show OEndsW p e below s _ _ _ _ _ (T12.setTop (mkF m 180 #[.val (.int p0), .val (.int p1), .val (.int p2), .val (.int nl), .val (.int ql), .val (.int k1), .val (.int k2), .val (.int k3), .val (.ref x4), .val (.ref x5), .val (.ref q), .val (.ref b7), .val (.ref b9), .val (.ref b11), .val .null, .unset] [(.ref b7)]))
              refine OEndsW.via (fun _ k_ => XS.aload X12.here hx rfl (hb hby at_180) rfl rfl k_) ?_
              show OEndsW p e below s _ _ _ _ _ (T12.setTop (mkF m 182 #[.val (.int p0), .val (.int p1), .val (.int p2), .val (.int nl), .val (.int ql), .val (.int k1), .val (.int k2), .val (.int k3), .val (.ref x4), .val (.ref x5), .val (.ref q), .val (.ref b7), .val (.ref b9), .val (.ref b11), .val .null, .unset] [(.ref q), (.ref b7)]))
              obtain ⟨cq15, kq15, q15a, q15b, q15c⟩ := isOf hZ rfl E_b7
              obtain ⟨_, _, ⟨T15, L15, k15, n15⟩, -, X15, ⟨Lc15, hQ15, l15, y15, z15⟩, st15⟩ := X12.virtualBack hx (y := (⟨"com/example/ranked_settings/rankedsettings/LookupPlans", "get", "(Ljava/lang/String;)Lcom/example/ranked_settings/rankedsettings/LookupPlans$Plan;"⟩ : MethodName)) (z := (⟨"com/example/ranked_settings/rankedsettings/LookupPlans", "get", "(Ljava/lang/String;)Lcom/example/ranked_settings/rankedsettings/LookupPlans$Plan;"⟩ : MethodName)) hown (mvT hZ (hw _ (List.mem_of_getElem? (i := 68) rfl))) (mvT hZ (hw _ (List.mem_of_getElem? (i := 69) rfl))) (notFace_of_selects (args := #[]) (mvT hZ (hw _ (List.mem_of_getElem? (i := 71) rfl)))) (mvT hZ (hw _ (List.mem_of_getElem? (i := 71) rfl))) (mvT hZ (hw _ (List.mem_of_getElem? (i := 70) rfl))) (by decide) (backOf (W := 0) (rmG0 l Z a0 hw [] b7 b k_b [] q t_q kb_q nn_q vs_q G1 csq T12.heap n0 Od S_CS nz_CS E_q V_q C_q K_q hp_q F_hash_q F_hashIsZero_q ge_q F_slots E_b7 T_b (fun _ => rfl)) hZ (hw _ (List.mem_of_getElem? (i := 72) rfl)) (hw _ (List.mem_of_getElem? (i := 39) rfl)) (by decide) (by decide)) q15a q15c (g := (mkF m 182 #[.val (.int p0), .val (.int p1), .val (.int p2), .val (.int nl), .val (.int ql), .val (.int k1), .val (.int k2), .val (.int k3), .val (.ref x4), .val (.ref x5), .val (.ref q), .val (.ref b7), .val (.ref b9), .val (.ref b11), .val .null, .unset] [(.ref q), (.ref b7)])) rfl (by rw [hml]; rfl) (Steps.refl _) (argsL := [(.ref q)]) (rest := []) (lenOf pd_28Ljava2flang2fString3b29Lcom2fexample2franked_settings2frankedsettings2fLookupPlans24Plan3b rfl) rfl (by show 2 * 0 + _ ≤ _; exact Nat.le_of_eq rfl) (hb hby at_182) (fun _ _ => ⟨rfl, rfl, Nat.le_of_ble_eq_true rfl, Nat.le_of_ble_eq_true rfl⟩)
              dsimp only [Pt.U, Pt.locs, Pt.cells, Pt.slots] at X15 l15 y15 z15 st15 hQ15
              subst l15 y15 z15
              obtain ⟨rfl, N15q, K15, V15x, C15x⟩ := hQ15
              have N15 := Fr.app N12 N15q
              have ne_t_x4_q : t_x4 ≠ q := (Ne.symm (Exa.neArv E_q K_x4 (hw _ (List.mem_of_getElem? (i := 5) rfl))))
              have ne_t_x5_q : t_x5 ≠ q := (Ne.symm (Exa.neArv E_q K_x5 (hw _ (List.mem_of_getElem? (i := 5) rfl))))
              have ne_t_q_q : t_q ≠ q := (Ne.symm (Exa.neArv E_q K_q (hw _ (List.mem_of_getElem? (i := 5) rfl))))
              have sfk15 : ∀ x ∈ ([q] : List Addr), Safe Z consts_1 vmU6 T12.heap x := (allS sf_q all0)
              replace hk := Nat.le_trans hk K15.1
              replace Od := Od.keep K15 (allS ge_q all0)
              replace E_x4 := E_x4.keep K15
              replace V_x4 := V_x4.keep K15 (ninS ne_x4_q nin0)
              replace C_x4 := C_x4.keep K15 (ninS ne_x4_q nin0)
              replace K_x4 := K_x4.keep K15 (ninS ne_t_x4_q nin0)
              replace F_hash_x4 := F_hash_x4.keep K15 (ninS ne_x4_q nin0)
              replace F_hashIsZero_x4 := F_hashIsZero_x4.keep K15 (ninS ne_x4_q nin0)
              replace sf_x4 := Safe.keep K15 sfk15 CR.1 sf_x4
              replace E_x5 := E_x5.keep K15
              replace V_x5 := V_x5.keep K15 (ninS ne_x5_q nin0)
              replace C_x5 := C_x5.keep K15 (ninS ne_x5_q nin0)
              replace K_x5 := K_x5.keep K15 (ninS ne_t_x5_q nin0)
              replace F_hash_x5 := F_hash_x5.keep K15 (ninS ne_x5_q nin0)
              replace F_hashIsZero_x5 := F_hashIsZero_x5.keep K15 (ninS ne_x5_q nin0)
              replace sf_x5 := Safe.keep K15 sfk15 CR.1 sf_x5
              replace E_q := E_q.keep K15
              replace K_q := K_q.keep K15 (ninS ne_t_q_q nin0)
              replace sf_q := Safe.keep K15 sfk15 CR.1 sf_q
              replace sf_b7 := Safe.keep K15 sfk15 CR.1 sf_b7
              replace E_b7 := E_b7.keep K15
              replace F_slots := F_slots.keep K15 (ninS (Ne.symm ne_q_b7) nin0)
              replace T_b := T_b.keep K15 (ninS (Ne.symm ne_q_b) nin0)
              replace sf_b9 := Safe.keep K15 sfk15 CR.1 sf_b9
              replace E_b9 := E_b9.keep K15
              replace FN10 := FN10.keep K15 (ninS (Ne.symm ne_q_b9) nin0)
              replace sf_b11 := Safe.keep K15 sfk15 CR.1 sf_b11
              replace E_b11 := E_b11.keep K15
              replace FN12 := FN12.keep K15 (ninS (Ne.symm ne_q_b11) nin0)
              replace CR := CR.trans (CHr.keep K15 sfk15 CR.1)
              replace V_q := V15x
              replace C_q := C15x
              refine OEndsW.via (fun _ k_ => st15.trans k_) ?_
              show OEndsW p e below s _ _ _ _ _ (T15.setTop (mkF m 185 #[.val (.int p0), .val (.int p1), .val (.int p2), .val (.int nl), .val (.int ql), .val (.int k1), .val (.int k2), .val (.int k3), .val (.ref x4), .val (.ref x5), .val (.ref q), .val (.ref b7), .val (.ref b9), .val (.ref b11), .val .null, .unset] [.null]))
              refine OEndsW.via (fun _ k_ => XS.astore X15.here hx rfl (hb hby at_185) rfl rfl (l' := #[.val (.int p0), .val (.int p1), .val (.int p2), .val (.int nl), .val (.int ql), .val (.int k1), .val (.int k2), .val (.int k3), .val (.ref x4), .val (.ref x5), .val (.ref q), .val (.ref b7), .val (.ref b9), .val (.ref b11), .val .null, .val .null]) rfl k_) ?_
              show OEndsW p e below s _ _ _ _ _ (T15.setTop (mkF m 187 #[.val (.int p0), .val (.int p1), .val (.int p2), .val (.int nl), .val (.int ql), .val (.int k1), .val (.int k2), .val (.int k3), .val (.ref x4), .val (.ref x5), .val (.ref q), .val (.ref b7), .val (.ref b9), .val (.ref b11), .val .null, .val .null] []))
              refine OEndsW.via (fun _ k_ => XS.aload X15.here hx rfl (hb hby at_187) rfl rfl k_) ?_
              show OEndsW p e below s _ _ _ _ _ (T15.setTop (mkF m 189 #[.val (.int p0), .val (.int p1), .val (.int p2), .val (.int nl), .val (.int ql), .val (.int k1), .val (.int k2), .val (.int k3), .val (.ref x4), .val (.ref x5), .val (.ref q), .val (.ref b7), .val (.ref b9), .val (.ref b11), .val .null, .val .null] [(.ref q)]))
              refine OEndsW.via (fun _ k_ => XS.aload X15.here hx rfl (hb hby at_189) rfl rfl k_) ?_
              show OEndsW p e below s _ _ _ _ _ (T15.setTop (mkF m 191 #[.val (.int p0), .val (.int p1), .val (.int p2), .val (.int nl), .val (.int ql), .val (.int k1), .val (.int k2), .val (.int k3), .val (.ref x4), .val (.ref x5), .val (.ref q), .val (.ref b7), .val (.ref b9), .val (.ref b11), .val .null, .val .null] [(.ref x4), (.ref q)]))
              obtain ⟨cq16, kq16, q16a, q16b, q16c⟩ := isOf hZ rfl E_q
              obtain ⟨_, _, ⟨T16, L16, k16, n16⟩, -, X16, ⟨Lc16, hQ16, l16, y16, z16⟩, st16⟩ := X15.virtualBack hx (y := (⟨"java/lang/String", "equals", "(Ljava/lang/Object;)Z"⟩ : MethodName)) (z := (⟨"java/lang/String", "equals", "(Ljava/lang/Object;)Z"⟩ : MethodName)) hown (mvT hZ (hw _ (List.mem_of_getElem? (i := 94) rfl))) (mvT hZ (hw _ (List.mem_of_getElem? (i := 95) rfl))) (notFace_of_selects (args := #[]) (mvT hZ (hw _ (List.mem_of_getElem? (i := 97) rfl)))) (mvT hZ (hw _ (List.mem_of_getElem? (i := 97) rfl))) (mvT hZ (hw _ (List.mem_of_getElem? (i := 96) rfl))) (by decide) (StrChars.Road.eqW (W := 0) hZ heq (kI := 4) (hw _ (List.mem_of_getElem? (i := 5) rfl)) E_q V_q C_q K_q hp_q.1 hp_q.2.2.2.1 hp_q.le E_x4 V_x4 C_x4 K_x4 hp_x4.1 hp_x4.2.2.2.1 hp_x4.le (Sta.ext Od.2 S_CS) nz_CS (by decide) (by decide)) q16a q16c (g := (mkF m 191 #[.val (.int p0), .val (.int p1), .val (.int p2), .val (.int nl), .val (.int ql), .val (.int k1), .val (.int k2), .val (.int k3), .val (.ref x4), .val (.ref x5), .val (.ref q), .val (.ref b7), .val (.ref b9), .val (.ref b11), .val .null, .val .null] [(.ref x4), (.ref q)])) rfl (by rw [hml]; rfl) (Steps.refl _) (argsL := [(.ref x4)]) (rest := []) (lenOf pd_28Ljava2flang2fObject3b29Z rfl) rfl (by show 2 * 0 + _ ≤ _; exact Nat.le_of_eq rfl) (hb hby at_191) (fun _ _ => ⟨rfl, rfl, Nat.le_of_ble_eq_true rfl, Nat.le_of_ble_eq_true rfl⟩)
              dsimp only [Pt.U, Pt.locs, Pt.cells, Pt.slots] at X16 l16 y16 z16 st16 hQ16
              subst l16 y16 z16
              obtain ⟨hcase16, rfl, e16⟩ := hQ16
              have N16 := Fr.app N15 (Fr.nil n0)
              rcases hcase16 with ⟨hv16, heq16⟩ | ⟨hv16, heq16⟩
              · subst hv16
                refine OEndsW.via (fun _ k_ => st16.trans k_) ?_
                show OEndsW p e below s _ _ _ _ _ (T16.setTop (mkF m 194 #[.val (.int p0), .val (.int p1), .val (.int p2), .val (.int nl), .val (.int ql), .val (.int k1), .val (.int k2), .val (.int k3), .val (.ref x4), .val (.ref x5), .val (.ref q), .val (.ref b7), .val (.ref b9), .val (.ref b11), .val .null, .val .null] [(.int (1 : Int32))]))
                refine OEndsW.via (fun _ k_ => XS.ifNo X16.here hx rfl (hb hby at_194) rfl ((if0 _ _).trans (feq (by decide : ¬ ((1 : Int32) = (0 : Int32)))).1) k_) ?_
                show OEndsW p e below s _ _ _ _ _ (T16.setTop (mkF m 197 #[.val (.int p0), .val (.int p1), .val (.int p2), .val (.int nl), .val (.int ql), .val (.int k1), .val (.int k2), .val (.int k3), .val (.ref x4), .val (.ref x5), .val (.ref q), .val (.ref b7), .val (.ref b9), .val (.ref b11), .val .null, .val .null] []))
                refine OEndsW.via (fun _ k_ => XS.aload X16.here hx rfl (hb hby at_197) rfl rfl k_) ?_
                show OEndsW p e below s _ _ _ _ _ (T16.setTop (mkF m 199 #[.val (.int p0), .val (.int p1), .val (.int p2), .val (.int nl), .val (.int ql), .val (.int k1), .val (.int k2), .val (.int k3), .val (.ref x4), .val (.ref x5), .val (.ref q), .val (.ref b7), .val (.ref b9), .val (.ref b11), .val .null, .val .null] [.null]))
                refine OEndsW.via (fun _ k_ => XS.aload X16.here hx rfl (hb hby at_199) rfl rfl k_) ?_
                show OEndsW p e below s _ _ _ _ _ (T16.setTop (mkF m 201 #[.val (.int p0), .val (.int p1), .val (.int p2), .val (.int nl), .val (.int ql), .val (.int k1), .val (.int k2), .val (.int k3), .val (.ref x4), .val (.ref x5), .val (.ref q), .val (.ref b7), .val (.ref b9), .val (.ref b11), .val .null, .val .null] [.null, .null]))
                refine OEndsW.via (fun _ k_ => Jvm.RoadKit.acmp (g := (mkF m 201 #[.val (.int p0), .val (.int p1), .val (.int p2), .val (.int nl), .val (.int ql), .val (.int k1), .val (.int k2), .val (.int k3), .val (.ref x4), .val (.ref x5), .val (.ref q), .val (.ref b7), .val (.ref b9), .val (.ref b11), .val .null, .val .null] [.null, .null])) X16 hx rfl rfl rfl (pc0 := 201) (pc' := 204) (same := true) rfl (hb hby at_201) rfl (decide_eq_true rfl) (by decide) (by decide) k_) ?_
                show OEndsW p e below s _ _ _ _ _ (T16.setTop (mkF m 204 #[.val (.int p0), .val (.int p1), .val (.int p2), .val (.int nl), .val (.int ql), .val (.int k1), .val (.int k2), .val (.int k3), .val (.ref x4), .val (.ref x5), .val (.ref q), .val (.ref b7), .val (.ref b9), .val (.ref b11), .val .null, .val .null] []))
                refine OEndsW.via (fun _ k_ => XS.iconst X16.here hx rfl (hb hby at_204) k_) ?_
                show OEndsW p e below s _ _ _ _ _ (T16.setTop (mkF m 205 #[.val (.int p0), .val (.int p1), .val (.int p2), .val (.int nl), .val (.int ql), .val (.int k1), .val (.int k2), .val (.int k3), .val (.ref x4), .val (.ref x5), .val (.ref q), .val (.ref b7), .val (.ref b9), .val (.ref b11), .val .null, .val .null] [(.int (1 : Int32))]))
                refine OEndsW.via (fun _ k_ => XS.goto X16.here hx rfl (pc0 := 205) (pc' := 209) rfl (hb hby at_205) (by decide) (by decide) k_) ?_
                show OEndsW p e below s _ _ _ _ _ (T16.setTop (mkF m 209 #[.val (.int p0), .val (.int p1), .val (.int p2), .val (.int nl), .val (.int ql), .val (.int k1), .val (.int k2), .val (.int k3), .val (.ref x4), .val (.ref x5), .val (.ref q), .val (.ref b7), .val (.ref b9), .val (.ref b11), .val .null, .val .null] [(.int (1 : Int32))]))
                refine OEndsW.retN X16 hx hlk hS hk hZ hEL e16 es CR (t := .boolean) Bd.returns (by simp) (hb hby at_209) ?_ (by decide) (by decide)
                exact ⟨rfl, N16⟩
              · subst hv16
                refine OEndsW.via (fun _ k_ => st16.trans k_) ?_
                show OEndsW p e below s _ _ _ _ _ (T16.setTop (mkF m 194 #[.val (.int p0), .val (.int p1), .val (.int p2), .val (.int nl), .val (.int ql), .val (.int k1), .val (.int k2), .val (.int k3), .val (.ref x4), .val (.ref x5), .val (.ref q), .val (.ref b7), .val (.ref b9), .val (.ref b11), .val .null, .val .null] [(.int (0 : Int32))]))
                refine OEndsW.via (fun _ k_ => XS.ifYes X16.here hx rfl (pc0 := 194) (pc' := 210) rfl (hb hby at_194) rfl ((if0 _ _).trans (teq (by decide : (0 : Int32) = (0 : Int32))).1) (by decide) (by decide) k_) ?_
                show OEndsW p e below s _ _ _ _ _ (T16.setTop (mkF m 210 #[.val (.int p0), .val (.int p1), .val (.int p2), .val (.int nl), .val (.int ql), .val (.int k1), .val (.int k2), .val (.int k3), .val (.ref x4), .val (.ref x5), .val (.ref q), .val (.ref b7), .val (.ref b9), .val (.ref b11), .val .null, .val .null] []))
                refine OEndsW.via (fun _ k_ => XS.aload X16.here hx rfl (hb hby at_210) rfl rfl k_) ?_
                show OEndsW p e below s _ _ _ _ _ (T16.setTop (mkF m 212 #[.val (.int p0), .val (.int p1), .val (.int p2), .val (.int nl), .val (.int ql), .val (.int k1), .val (.int k2), .val (.int k3), .val (.ref x4), .val (.ref x5), .val (.ref q), .val (.ref b7), .val (.ref b9), .val (.ref b11), .val .null, .val .null] [.null]))
                refine OEndsW.via (fun _ k_ => XS.ifnonnullNo X16.here hx rfl (hb hby at_212) rfl k_) ?_
                show OEndsW p e below s _ _ _ _ _ (T16.setTop (mkF m 215 #[.val (.int p0), .val (.int p1), .val (.int p2), .val (.int nl), .val (.int ql), .val (.int k1), .val (.int k2), .val (.int k3), .val (.ref x4), .val (.ref x5), .val (.ref q), .val (.ref b7), .val (.ref b9), .val (.ref b11), .val .null, .val .null] []))
                refine OEndsW.via (fun _ k_ => XS.iconst X16.here hx rfl (hb hby at_215) k_) ?_
                show OEndsW p e below s _ _ _ _ _ (T16.setTop (mkF m 216 #[.val (.int p0), .val (.int p1), .val (.int p2), .val (.int nl), .val (.int ql), .val (.int k1), .val (.int k2), .val (.int k3), .val (.ref x4), .val (.ref x5), .val (.ref q), .val (.ref b7), .val (.ref b9), .val (.ref b11), .val .null, .val .null] [(.int (1 : Int32))]))
                refine OEndsW.via (fun _ k_ => XS.goto X16.here hx rfl (pc0 := 216) (pc' := 220) rfl (hb hby at_216) (by decide) (by decide) k_) ?_
                show OEndsW p e below s _ _ _ _ _ (T16.setTop (mkF m 220 #[.val (.int p0), .val (.int p1), .val (.int p2), .val (.int nl), .val (.int ql), .val (.int k1), .val (.int k2), .val (.int k3), .val (.ref x4), .val (.ref x5), .val (.ref q), .val (.ref b7), .val (.ref b9), .val (.ref b11), .val .null, .val .null] [(.int (1 : Int32))]))
                refine OEndsW.retN X16 hx hlk hS hk hZ hEL e16 es CR (t := .boolean) Bd.returns (by simp) (hb hby at_220) ?_ (by decide) (by decide)
                exact ⟨rfl, N16⟩
            · skip
              refine OEndsW.via (fun _ k_ => XS.ifNo X12.here hx rfl (hb hby at_145) rfl ((if0 _ _).trans (feq hc145_13).1) k_) ?_
              show OEndsW p e below s _ _ _ _ _ (T12.setTop (mkF m 148 #[.val (.int p0), .val (.int p1), .val (.int p2), .val (.int nl), .val (.int ql), .val (.int k1), .val (.int k2), .val (.int k3), .val (.ref x4), .val (.ref x5), .val (.ref q), .val (.ref b7), .val (.ref b9), .val (.ref b11), .unset, .unset] []))
              refine OEndsW.via (fun _ k_ => XS.aload X12.here hx rfl (hb hby at_148) rfl rfl k_) ?_
              show OEndsW p e below s _ _ _ _ _ (T12.setTop (mkF m 150 #[.val (.int p0), .val (.int p1), .val (.int p2), .val (.int nl), .val (.int ql), .val (.int k1), .val (.int k2), .val (.int k3), .val (.ref x4), .val (.ref x5), .val (.ref q), .val (.ref b7), .val (.ref b9), .val (.ref b11), .unset, .unset] [(.ref b7)]))
              refine OEndsW.via (fun _ k_ => XS.aload X12.here hx rfl (hb hby at_150) rfl rfl k_) ?_
              show OEndsW p e below s _ _ _ _ _ (T12.setTop (mkF m 152 #[.val (.int p0), .val (.int p1), .val (.int p2), .val (.int nl), .val (.int ql), .val (.int k1), .val (.int k2), .val (.int k3), .val (.ref x4), .val (.ref x5), .val (.ref q), .val (.ref b7), .val (.ref b9), .val (.ref b11), .unset, .unset] [(.ref b11), (.ref b7)]))
              obtain ⟨cq17, kq17, q17a, q17b, q17c⟩ := isOf hZ rfl E_b7
              obtain ⟨_, _, ⟨T17, L17, k17, n17⟩, -, X17, ⟨Lc17, hQ17, l17, y17, z17⟩, st17⟩ := X12.virtualBack hx (y := (⟨"com/example/ranked_settings/rankedsettings/LookupPlans", "keep", "(Lcom/example/ranked_settings/rankedsettings/LookupPlans$Plan;)V"⟩ : MethodName)) (z := (⟨"com/example/ranked_settings/rankedsettings/LookupPlans", "keep", "(Lcom/example/ranked_settings/rankedsettings/LookupPlans$Plan;)V"⟩ : MethodName)) hown (mvT hZ (hw _ (List.mem_of_getElem? (i := 112) rfl))) (mvT hZ (hw _ (List.mem_of_getElem? (i := 113) rfl))) (notFace_of_selects (args := #[]) (mvT hZ (hw _ (List.mem_of_getElem? (i := 115) rfl)))) (mvT hZ (hw _ (List.mem_of_getElem? (i := 115) rfl))) (mvT hZ (hw _ (List.mem_of_getElem? (i := 114) rfl))) (by decide) (backOf (W := 0) (rmK l Z a0 hw [] b7 b k_b b11 [] x5 t_x5 kb_x5 nn_x5 vs_x5 G1 (own_cs p0 nl) T12.heap n0 Od S_CS nz_CS E_x5 V_x5 C_x5 K_x5 hp_x5 F_hash_x5 F_hashIsZero_x5 ge_x5 F_slots E_b7 FN12 E_b11 O_b T_b ge_b ne_t_x5_b) hZ (hw _ (List.mem_of_getElem? (i := 116) rfl)) (hw _ (List.mem_of_getElem? (i := 39) rfl)) (by decide) (by decide)) q17a q17c (g := (mkF m 152 #[.val (.int p0), .val (.int p1), .val (.int p2), .val (.int nl), .val (.int ql), .val (.int k1), .val (.int k2), .val (.int k3), .val (.ref x4), .val (.ref x5), .val (.ref q), .val (.ref b7), .val (.ref b9), .val (.ref b11), .unset, .unset] [(.ref b11), (.ref b7)])) rfl (by rw [hml]; rfl) (Steps.refl _) (argsL := [(.ref b11)]) (rest := []) (lenOf pd_28Lcom2fexample2franked_settings2frankedsettings2fLookupPlans24Plan3b29V rfl) rfl (by show 2 * 0 + _ ≤ _; exact Nat.le_of_eq rfl) (hb hby at_152) (fun _ _ => ⟨rfl, rfl, Nat.le_of_ble_eq_true rfl, Nat.le_of_ble_eq_true rfl⟩)
              dsimp only [Pt.U, Pt.locs, Pt.cells, Pt.slots] at X17 l17 y17 z17 st17 hQ17
              subst l17 y17 z17
              obtain ⟨rfl, N17q, K17, V17x, C17x, T17b⟩ := hQ17
              have N17 := Fr.app N12 N17q
              have ne_t_x5_x5 : t_x5 ≠ x5 := (Ne.symm (Exa.neArv E_x5 K_x5 (hw _ (List.mem_of_getElem? (i := 5) rfl))))
              have ne_t_q_x5 : t_q ≠ x5 := (Ne.symm (Exa.neArv E_x5 K_q (hw _ (List.mem_of_getElem? (i := 5) rfl))))
              have sfk17 : ∀ x ∈ ([x5, b] : List Addr), Safe Z consts_1 vmU6 T12.heap x := (allS sf_x5 (allS (own_safeH hZ.alike T_b (by decide)) all0))
              replace hk := Nat.le_trans hk K17.1
              replace Od := Od.keep K17 (allS ge_x5 (allS ge_b all0))
              replace E_x4 := E_x4.keep K17
              replace V_x4 := V_x4.keep K17 (ninS ne_x4_x5 (ninS ne_x4_b nin0))
              replace C_x4 := C_x4.keep K17 (ninS ne_x4_x5 (ninS ne_x4_b nin0))
              replace K_x4 := K_x4.keep K17 (ninS ne_t_x4_x5 (ninS ne_t_x4_b nin0))
              replace F_hash_x4 := F_hash_x4.keep K17 (ninS ne_x4_x5 (ninS ne_x4_b nin0))
              replace F_hashIsZero_x4 := F_hashIsZero_x4.keep K17 (ninS ne_x4_x5 (ninS ne_x4_b nin0))
              replace sf_x4 := Safe.keep K17 sfk17 CR.1 sf_x4
              replace E_x5 := E_x5.keep K17
              replace K_x5 := K_x5.keep K17 (ninS ne_t_x5_x5 (ninS ne_t_x5_b nin0))
              replace sf_x5 := Safe.keep K17 sfk17 CR.1 sf_x5
              replace E_q := E_q.keep K17
              replace V_q := V_q.keep K17 (ninS (Ne.symm ne_x5_q) (ninS ne_q_b nin0))
              replace C_q := C_q.keep K17 (ninS (Ne.symm ne_x5_q) (ninS ne_q_b nin0))
              replace K_q := K_q.keep K17 (ninS ne_t_q_x5 (ninS ne_t_q_b nin0))
              replace F_hash_q := F_hash_q.keep K17 (ninS (Ne.symm ne_x5_q) (ninS ne_q_b nin0))
              replace F_hashIsZero_q := F_hashIsZero_q.keep K17 (ninS (Ne.symm ne_x5_q) (ninS ne_q_b nin0))
              replace sf_q := Safe.keep K17 sfk17 CR.1 sf_q
              replace sf_b7 := Safe.keep K17 sfk17 CR.1 sf_b7
              replace E_b7 := E_b7.keep K17
              replace F_slots := F_slots.keep K17 (ninS (Ne.symm ne_x5_b7) (ninS ne_b7_b nin0))
              replace sf_b9 := Safe.keep K17 sfk17 CR.1 sf_b9
              replace E_b9 := E_b9.keep K17
              replace FN10 := FN10.keep K17 (ninS (Ne.symm ne_x5_b9) (ninS (Ne.symm ne_b_b9) nin0))
              replace sf_b11 := Safe.keep K17 sfk17 CR.1 sf_b11
              replace E_b11 := E_b11.keep K17
              replace FN12 := FN12.keep K17 (ninS (Ne.symm ne_x5_b11) (ninS (Ne.symm ne_b_b11) nin0))
              replace CR := CR.trans (CHr.keep K17 sfk17 CR.1)
              replace V_x5 := V17x
              replace C_x5 := C17x
              replace T_b := T17b
              refine OEndsW.via (fun _ k_ => st17.trans k_) ?_
              show OEndsW p e below s _ _ _ _ _ (T17.setTop (mkF m 155 #[.val (.int p0), .val (.int p1), .val (.int p2), .val (.int nl), .val (.int ql), .val (.int k1), .val (.int k2), .val (.int k3), .val (.ref x4), .val (.ref x5), .val (.ref q), .val (.ref b7), .val (.ref b9), .val (.ref b11), .unset, .unset] []))
              refine OEndsW.via (fun _ k_ => XS.iload X17.here hx rfl (hb hby at_155) rfl k_) ?_
              show OEndsW p e below s _ _ _ _ _ (T17.setTop (mkF m 157 #[.val (.int p0), .val (.int p1), .val (.int p2), .val (.int nl), .val (.int ql), .val (.int k1), .val (.int k2), .val (.int k3), .val (.ref x4), .val (.ref x5), .val (.ref q), .val (.ref b7), .val (.ref b9), .val (.ref b11), .unset, .unset] [(.int k2)]))
              refine OEndsW.via (fun _ k_ => XS.ifNo X17.here hx rfl (hb hby at_157) rfl ((if0 _ _).trans (feq hc145_13).1) k_) ?_
              show OEndsW p e below s _ _ _ _ _ (T17.setTop (mkF m 160 #[.val (.int p0), .val (.int p1), .val (.int p2), .val (.int nl), .val (.int ql), .val (.int k1), .val (.int k2), .val (.int k3), .val (.ref x4), .val (.ref x5), .val (.ref q), .val (.ref b7), .val (.ref b9), .val (.ref b11), .unset, .unset] []))
              refine OEndsW.via (fun _ k_ => XS.aload X17.here hx rfl (hb hby at_160) rfl rfl k_) ?_
              show OEndsW p e below s _ _ _ _ _ (T17.setTop (mkF m 162 #[.val (.int p0), .val (.int p1), .val (.int p2), .val (.int nl), .val (.int ql), .val (.int k1), .val (.int k2), .val (.int k3), .val (.ref x4), .val (.ref x5), .val (.ref q), .val (.ref b7), .val (.ref b9), .val (.ref b11), .unset, .unset] [(.ref b11)]))
              refine OEndsW.via (fun _ k_ => XS.goto X17.here hx rfl (pc0 := 162) (pc' := 176) rfl (hb hby at_162) (by decide) (by decide) k_) ?_
              show OEndsW p e below s _ _ _ _ _ (T17.setTop (mkF m 176 #[.val (.int p0), .val (.int p1), .val (.int p2), .val (.int nl), .val (.int ql), .val (.int k1), .val (.int k2), .val (.int k3), .val (.ref x4), .val (.ref x5), .val (.ref q), .val (.ref b7), .val (.ref b9), .val (.ref b11), .unset, .unset] [(.ref b11)]))
              refine OEndsW.via (fun _ k_ => XS.astore X17.here hx rfl (hb hby at_176) rfl rfl (l' := #[.val (.int p0), .val (.int p1), .val (.int p2), .val (.int nl), .val (.int ql), .val (.int k1), .val (.int k2), .val (.int k3), .val (.ref x4), .val (.ref x5), .val (.ref q), .val (.ref b7), .val (.ref b9), .val (.ref b11), .val (.ref b11), .unset]) rfl k_) ?_
              show OEndsW p e below s _ _ _ _ _ (T17.setTop (mkF m 178 #[.val (.int p0), .val (.int p1), .val (.int p2), .val (.int nl), .val (.int ql), .val (.int k1), .val (.int k2), .val (.int k3), .val (.ref x4), .val (.ref x5), .val (.ref q), .val (.ref b7), .val (.ref b9), .val (.ref b11), .val (.ref b11), .unset] []))
              refine OEndsW.via (fun _ k_ => XS.aload X17.here hx rfl (hb hby at_178) rfl rfl k_) ?_
              show OEndsW p e below s _ _ _ _ _ (T17.setTop (mkF m 180 #[.val (.int p0), .val (.int p1), .val (.int p2), .val (.int nl), .val (.int ql), .val (.int k1), .val (.int k2), .val (.int k3), .val (.ref x4), .val (.ref x5), .val (.ref q), .val (.ref b7), .val (.ref b9), .val (.ref b11), .val (.ref b11), .unset] [(.ref b7)]))
              refine OEndsW.via (fun _ k_ => XS.aload X17.here hx rfl (hb hby at_180) rfl rfl k_) ?_
              show OEndsW p e below s _ _ _ _ _ (T17.setTop (mkF m 182 #[.val (.int p0), .val (.int p1), .val (.int p2), .val (.int nl), .val (.int ql), .val (.int k1), .val (.int k2), .val (.int k3), .val (.ref x4), .val (.ref x5), .val (.ref q), .val (.ref b7), .val (.ref b9), .val (.ref b11), .val (.ref b11), .unset] [(.ref q), (.ref b7)]))
              obtain ⟨cq18, kq18, q18a, q18b, q18c⟩ := isOf hZ rfl E_b7
              obtain ⟨_, _, ⟨T18, L18, k18, n18⟩, -, X18, ⟨Lc18, hQ18, l18, y18, z18⟩, st18⟩ := X17.virtualBack hx (y := (⟨"com/example/ranked_settings/rankedsettings/LookupPlans", "get", "(Ljava/lang/String;)Lcom/example/ranked_settings/rankedsettings/LookupPlans$Plan;"⟩ : MethodName)) (z := (⟨"com/example/ranked_settings/rankedsettings/LookupPlans", "get", "(Ljava/lang/String;)Lcom/example/ranked_settings/rankedsettings/LookupPlans$Plan;"⟩ : MethodName)) hown (mvT hZ (hw _ (List.mem_of_getElem? (i := 68) rfl))) (mvT hZ (hw _ (List.mem_of_getElem? (i := 69) rfl))) (notFace_of_selects (args := #[]) (mvT hZ (hw _ (List.mem_of_getElem? (i := 71) rfl)))) (mvT hZ (hw _ (List.mem_of_getElem? (i := 71) rfl))) (mvT hZ (hw _ (List.mem_of_getElem? (i := 70) rfl))) (by decide) (backOf (W := 0) (rmG1 l Z a0 hw [] b7 b k_b [(own_sl vs_x5, .ref b11)] q t_q kb_q nn_q vs_q G1 csq b11 x5 t_x5 kb_x5 nn_x5 vs_x5 (own_cs p0 nl) T17.heap n0 Od S_CS nz_CS E_q V_q C_q K_q hp_q F_hash_q F_hashIsZero_q ge_q F_slots E_b7 T_b E_b11 FN12 E_x5 V_x5 C_x5 K_x5 hp_x5 ne_x5_q (getH_hit (own_slb _).1 rfl) (fun i q1 q2 => getH_miss q1 q2 rfl)) hZ (hw _ (List.mem_of_getElem? (i := 72) rfl)) (hw _ (List.mem_of_getElem? (i := 39) rfl)) (by decide) (by decide)) q18a q18c (g := (mkF m 182 #[.val (.int p0), .val (.int p1), .val (.int p2), .val (.int nl), .val (.int ql), .val (.int k1), .val (.int k2), .val (.int k3), .val (.ref x4), .val (.ref x5), .val (.ref q), .val (.ref b7), .val (.ref b9), .val (.ref b11), .val (.ref b11), .unset] [(.ref q), (.ref b7)])) rfl (by rw [hml]; rfl) (Steps.refl _) (argsL := [(.ref q)]) (rest := []) (lenOf pd_28Ljava2flang2fString3b29Lcom2fexample2franked_settings2frankedsettings2fLookupPlans24Plan3b rfl) rfl (by show 2 * 0 + _ ≤ _; exact Nat.le_of_eq rfl) (hb hby at_182) (fun _ _ => ⟨rfl, rfl, Nat.le_of_ble_eq_true rfl, Nat.le_of_ble_eq_true rfl⟩)
              dsimp only [Pt.U, Pt.locs, Pt.cells, Pt.slots] at X18 l18 y18 z18 st18 hQ18
              subst l18 y18 z18
              obtain ⟨res, rfl, hrf, hr1, hr2, N18q, K18, V18x, C18x⟩ := hQ18
              have N18 := Fr.app N17 N18q
              have ne_t_x4_q : t_x4 ≠ q := (Ne.symm (Exa.neArv E_q K_x4 (hw _ (List.mem_of_getElem? (i := 5) rfl))))
              have ne_t_x5_q : t_x5 ≠ q := (Ne.symm (Exa.neArv E_q K_x5 (hw _ (List.mem_of_getElem? (i := 5) rfl))))
              have ne_t_q_q : t_q ≠ q := (Ne.symm (Exa.neArv E_q K_q (hw _ (List.mem_of_getElem? (i := 5) rfl))))
              have sfk18 : ∀ x ∈ ([q] : List Addr), Safe Z consts_1 vmU6 T17.heap x := (allS sf_q all0)
              replace hk := Nat.le_trans hk K18.1
              replace Od := Od.keep K18 (allS ge_q all0)
              replace E_x4 := E_x4.keep K18
              replace V_x4 := V_x4.keep K18 (ninS ne_x4_q nin0)
              replace C_x4 := C_x4.keep K18 (ninS ne_x4_q nin0)
              replace K_x4 := K_x4.keep K18 (ninS ne_t_x4_q nin0)
              replace F_hash_x4 := F_hash_x4.keep K18 (ninS ne_x4_q nin0)
              replace F_hashIsZero_x4 := F_hashIsZero_x4.keep K18 (ninS ne_x4_q nin0)
              replace sf_x4 := Safe.keep K18 sfk18 CR.1 sf_x4
              replace E_x5 := E_x5.keep K18
              replace K_x5 := K_x5.keep K18 (ninS ne_t_x5_q nin0)
              replace sf_x5 := Safe.keep K18 sfk18 CR.1 sf_x5
              replace E_q := E_q.keep K18
              replace K_q := K_q.keep K18 (ninS ne_t_q_q nin0)
              replace sf_q := Safe.keep K18 sfk18 CR.1 sf_q
              replace sf_b7 := Safe.keep K18 sfk18 CR.1 sf_b7
              replace E_b7 := E_b7.keep K18
              replace F_slots := F_slots.keep K18 (ninS (Ne.symm ne_q_b7) nin0)
              replace sf_b9 := Safe.keep K18 sfk18 CR.1 sf_b9
              replace E_b9 := E_b9.keep K18
              replace FN10 := FN10.keep K18 (ninS (Ne.symm ne_q_b9) nin0)
              replace sf_b11 := Safe.keep K18 sfk18 CR.1 sf_b11
              replace E_b11 := E_b11.keep K18
              replace FN12 := FN12.keep K18 (ninS (Ne.symm ne_q_b11) nin0)
              replace V_x5 := V_x5.keep K18 (ninS ne_x5_q nin0)
              replace C_x5 := C_x5.keep K18 (ninS ne_x5_q nin0)
              replace T_b := T_b.keep K18 (ninS (Ne.symm ne_q_b) nin0)
              replace CR := CR.trans (CHr.keep K18 sfk18 CR.1)
              replace V_q := V18x
              replace C_q := C18x
              refine OEndsW.via (fun _ k_ => st18.trans k_) ?_
              show OEndsW p e below s _ _ _ _ _ (T18.setTop (mkF m 185 #[.val (.int p0), .val (.int p1), .val (.int p2), .val (.int nl), .val (.int ql), .val (.int k1), .val (.int k2), .val (.int k3), .val (.ref x4), .val (.ref x5), .val (.ref q), .val (.ref b7), .val (.ref b9), .val (.ref b11), .val (.ref b11), .unset] [res]))
              refine OEndsW.via (fun _ k_ => XS.astore X18.here hx rfl (hb hby at_185) rfl hrf (l' := #[.val (.int p0), .val (.int p1), .val (.int p2), .val (.int nl), .val (.int ql), .val (.int k1), .val (.int k2), .val (.int k3), .val (.ref x4), .val (.ref x5), .val (.ref q), .val (.ref b7), .val (.ref b9), .val (.ref b11), .val (.ref b11), .val res]) (by rcases ref_cases hrf with rfl | ⟨_, rfl⟩ <;> rfl) k_) ?_
              show OEndsW p e below s _ _ _ _ _ (T18.setTop (mkF m 187 #[.val (.int p0), .val (.int p1), .val (.int p2), .val (.int nl), .val (.int ql), .val (.int k1), .val (.int k2), .val (.int k3), .val (.ref x4), .val (.ref x5), .val (.ref q), .val (.ref b7), .val (.ref b9), .val (.ref b11), .val (.ref b11), .val res] []))
              refine OEndsW.via (fun _ k_ => XS.aload X18.here hx rfl (hb hby at_187) rfl rfl k_) ?_
              show OEndsW p e below s _ _ _ _ _ (T18.setTop (mkF m 189 #[.val (.int p0), .val (.int p1), .val (.int p2), .val (.int nl), .val (.int ql), .val (.int k1), .val (.int k2), .val (.int k3), .val (.ref x4), .val (.ref x5), .val (.ref q), .val (.ref b7), .val (.ref b9), .val (.ref b11), .val (.ref b11), .val res] [(.ref q)]))
              refine OEndsW.via (fun _ k_ => XS.aload X18.here hx rfl (hb hby at_189) rfl rfl k_) ?_
              show OEndsW p e below s _ _ _ _ _ (T18.setTop (mkF m 191 #[.val (.int p0), .val (.int p1), .val (.int p2), .val (.int nl), .val (.int ql), .val (.int k1), .val (.int k2), .val (.int k3), .val (.ref x4), .val (.ref x5), .val (.ref q), .val (.ref b7), .val (.ref b9), .val (.ref b11), .val (.ref b11), .val res] [(.ref x4), (.ref q)]))
              obtain ⟨cq19, kq19, q19a, q19b, q19c⟩ := isOf hZ rfl E_q
              obtain ⟨_, _, ⟨T19, L19, k19, n19⟩, -, X19, ⟨Lc19, hQ19, l19, y19, z19⟩, st19⟩ := X18.virtualBack hx (y := (⟨"java/lang/String", "equals", "(Ljava/lang/Object;)Z"⟩ : MethodName)) (z := (⟨"java/lang/String", "equals", "(Ljava/lang/Object;)Z"⟩ : MethodName)) hown (mvT hZ (hw _ (List.mem_of_getElem? (i := 94) rfl))) (mvT hZ (hw _ (List.mem_of_getElem? (i := 95) rfl))) (notFace_of_selects (args := #[]) (mvT hZ (hw _ (List.mem_of_getElem? (i := 97) rfl)))) (mvT hZ (hw _ (List.mem_of_getElem? (i := 97) rfl))) (mvT hZ (hw _ (List.mem_of_getElem? (i := 96) rfl))) (by decide) (StrChars.Road.eqW (W := 0) hZ heq (kI := 4) (hw _ (List.mem_of_getElem? (i := 5) rfl)) E_q V_q C_q K_q hp_q.1 hp_q.2.2.2.1 hp_q.le E_x4 V_x4 C_x4 K_x4 hp_x4.1 hp_x4.2.2.2.1 hp_x4.le (Sta.ext Od.2 S_CS) nz_CS (by decide) (by decide)) q19a q19c (g := (mkF m 191 #[.val (.int p0), .val (.int p1), .val (.int p2), .val (.int nl), .val (.int ql), .val (.int k1), .val (.int k2), .val (.int k3), .val (.ref x4), .val (.ref x5), .val (.ref q), .val (.ref b7), .val (.ref b9), .val (.ref b11), .val (.ref b11), .val res] [(.ref x4), (.ref q)])) rfl (by rw [hml]; rfl) (Steps.refl _) (argsL := [(.ref x4)]) (rest := []) (lenOf pd_28Ljava2flang2fObject3b29Z rfl) rfl (by show 2 * 0 + _ ≤ _; exact Nat.le_of_eq rfl) (hb hby at_191) (fun _ _ => ⟨rfl, rfl, Nat.le_of_ble_eq_true rfl, Nat.le_of_ble_eq_true rfl⟩)
              dsimp only [Pt.U, Pt.locs, Pt.cells, Pt.slots] at X19 l19 y19 z19 st19 hQ19
              subst l19 y19 z19
              obtain ⟨hcase19, rfl, e19⟩ := hQ19
              have N19 := Fr.app N18 (Fr.nil n0)
              rcases hcase19 with ⟨hv19, heq19⟩ | ⟨hv19, heq19⟩
              · subst hv19
                obtain rfl := hr1 heq19
                refine OEndsW.via (fun _ k_ => st19.trans k_) ?_
                show OEndsW p e below s _ _ _ _ _ (T19.setTop (mkF m 194 #[.val (.int p0), .val (.int p1), .val (.int p2), .val (.int nl), .val (.int ql), .val (.int k1), .val (.int k2), .val (.int k3), .val (.ref x4), .val (.ref x5), .val (.ref q), .val (.ref b7), .val (.ref b9), .val (.ref b11), .val (.ref b11), .val (.ref b11)] [(.int (1 : Int32))]))
                refine OEndsW.via (fun _ k_ => XS.ifNo X19.here hx rfl (hb hby at_194) rfl ((if0 _ _).trans (feq (by decide : ¬ ((1 : Int32) = (0 : Int32)))).1) k_) ?_
                show OEndsW p e below s _ _ _ _ _ (T19.setTop (mkF m 197 #[.val (.int p0), .val (.int p1), .val (.int p2), .val (.int nl), .val (.int ql), .val (.int k1), .val (.int k2), .val (.int k3), .val (.ref x4), .val (.ref x5), .val (.ref q), .val (.ref b7), .val (.ref b9), .val (.ref b11), .val (.ref b11), .val (.ref b11)] []))
                refine OEndsW.via (fun _ k_ => XS.aload X19.here hx rfl (hb hby at_197) rfl rfl k_) ?_
                show OEndsW p e below s _ _ _ _ _ (T19.setTop (mkF m 199 #[.val (.int p0), .val (.int p1), .val (.int p2), .val (.int nl), .val (.int ql), .val (.int k1), .val (.int k2), .val (.int k3), .val (.ref x4), .val (.ref x5), .val (.ref q), .val (.ref b7), .val (.ref b9), .val (.ref b11), .val (.ref b11), .val (.ref b11)] [(.ref b11)]))
                refine OEndsW.via (fun _ k_ => XS.aload X19.here hx rfl (hb hby at_199) rfl rfl k_) ?_
                show OEndsW p e below s _ _ _ _ _ (T19.setTop (mkF m 201 #[.val (.int p0), .val (.int p1), .val (.int p2), .val (.int nl), .val (.int ql), .val (.int k1), .val (.int k2), .val (.int k3), .val (.ref x4), .val (.ref x5), .val (.ref q), .val (.ref b7), .val (.ref b9), .val (.ref b11), .val (.ref b11), .val (.ref b11)] [(.ref b11), (.ref b11)]))
                refine OEndsW.via (fun _ k_ => Jvm.RoadKit.acmp (g := (mkF m 201 #[.val (.int p0), .val (.int p1), .val (.int p2), .val (.int nl), .val (.int ql), .val (.int k1), .val (.int k2), .val (.int k3), .val (.ref x4), .val (.ref x5), .val (.ref q), .val (.ref b7), .val (.ref b9), .val (.ref b11), .val (.ref b11), .val (.ref b11)] [(.ref b11), (.ref b11)])) X19 hx rfl rfl rfl (pc0 := 201) (pc' := 204) (same := true) rfl (hb hby at_201) rfl (decide_eq_true rfl) (by decide) (by decide) k_) ?_
                show OEndsW p e below s _ _ _ _ _ (T19.setTop (mkF m 204 #[.val (.int p0), .val (.int p1), .val (.int p2), .val (.int nl), .val (.int ql), .val (.int k1), .val (.int k2), .val (.int k3), .val (.ref x4), .val (.ref x5), .val (.ref q), .val (.ref b7), .val (.ref b9), .val (.ref b11), .val (.ref b11), .val (.ref b11)] []))
                refine OEndsW.via (fun _ k_ => XS.iconst X19.here hx rfl (hb hby at_204) k_) ?_
                show OEndsW p e below s _ _ _ _ _ (T19.setTop (mkF m 205 #[.val (.int p0), .val (.int p1), .val (.int p2), .val (.int nl), .val (.int ql), .val (.int k1), .val (.int k2), .val (.int k3), .val (.ref x4), .val (.ref x5), .val (.ref q), .val (.ref b7), .val (.ref b9), .val (.ref b11), .val (.ref b11), .val (.ref b11)] [(.int (1 : Int32))]))
                refine OEndsW.via (fun _ k_ => XS.goto X19.here hx rfl (pc0 := 205) (pc' := 209) rfl (hb hby at_205) (by decide) (by decide) k_) ?_
                show OEndsW p e below s _ _ _ _ _ (T19.setTop (mkF m 209 #[.val (.int p0), .val (.int p1), .val (.int p2), .val (.int nl), .val (.int ql), .val (.int k1), .val (.int k2), .val (.int k3), .val (.ref x4), .val (.ref x5), .val (.ref q), .val (.ref b7), .val (.ref b9), .val (.ref b11), .val (.ref b11), .val (.ref b11)] [(.int (1 : Int32))]))
                refine OEndsW.retN X19 hx hlk hS hk hZ hEL e19 es CR (t := .boolean) Bd.returns (by simp) (hb hby at_209) ?_ (by decide) (by decide)
                exact ⟨rfl, N19⟩
              · subst hv19
                obtain rfl := hr2 heq19
                refine OEndsW.via (fun _ k_ => st19.trans k_) ?_
                show OEndsW p e below s _ _ _ _ _ (T19.setTop (mkF m 194 #[.val (.int p0), .val (.int p1), .val (.int p2), .val (.int nl), .val (.int ql), .val (.int k1), .val (.int k2), .val (.int k3), .val (.ref x4), .val (.ref x5), .val (.ref q), .val (.ref b7), .val (.ref b9), .val (.ref b11), .val (.ref b11), .val .null] [(.int (0 : Int32))]))
                refine OEndsW.via (fun _ k_ => XS.ifYes X19.here hx rfl (pc0 := 194) (pc' := 210) rfl (hb hby at_194) rfl ((if0 _ _).trans (teq (by decide : (0 : Int32) = (0 : Int32))).1) (by decide) (by decide) k_) ?_
                show OEndsW p e below s _ _ _ _ _ (T19.setTop (mkF m 210 #[.val (.int p0), .val (.int p1), .val (.int p2), .val (.int nl), .val (.int ql), .val (.int k1), .val (.int k2), .val (.int k3), .val (.ref x4), .val (.ref x5), .val (.ref q), .val (.ref b7), .val (.ref b9), .val (.ref b11), .val (.ref b11), .val .null] []))
                refine OEndsW.via (fun _ k_ => XS.aload X19.here hx rfl (hb hby at_210) rfl rfl k_) ?_
                show OEndsW p e below s _ _ _ _ _ (T19.setTop (mkF m 212 #[.val (.int p0), .val (.int p1), .val (.int p2), .val (.int nl), .val (.int ql), .val (.int k1), .val (.int k2), .val (.int k3), .val (.ref x4), .val (.ref x5), .val (.ref q), .val (.ref b7), .val (.ref b9), .val (.ref b11), .val (.ref b11), .val .null] [.null]))
                refine OEndsW.via (fun _ k_ => XS.ifnonnullNo X19.here hx rfl (hb hby at_212) rfl k_) ?_
                show OEndsW p e below s _ _ _ _ _ (T19.setTop (mkF m 215 #[.val (.int p0), .val (.int p1), .val (.int p2), .val (.int nl), .val (.int ql), .val (.int k1), .val (.int k2), .val (.int k3), .val (.ref x4), .val (.ref x5), .val (.ref q), .val (.ref b7), .val (.ref b9), .val (.ref b11), .val (.ref b11), .val .null] []))
                refine OEndsW.via (fun _ k_ => XS.iconst X19.here hx rfl (hb hby at_215) k_) ?_
                show OEndsW p e below s _ _ _ _ _ (T19.setTop (mkF m 216 #[.val (.int p0), .val (.int p1), .val (.int p2), .val (.int nl), .val (.int ql), .val (.int k1), .val (.int k2), .val (.int k3), .val (.ref x4), .val (.ref x5), .val (.ref q), .val (.ref b7), .val (.ref b9), .val (.ref b11), .val (.ref b11), .val .null] [(.int (1 : Int32))]))
                refine OEndsW.via (fun _ k_ => XS.goto X19.here hx rfl (pc0 := 216) (pc' := 220) rfl (hb hby at_216) (by decide) (by decide) k_) ?_
                show OEndsW p e below s _ _ _ _ _ (T19.setTop (mkF m 220 #[.val (.int p0), .val (.int p1), .val (.int p2), .val (.int nl), .val (.int ql), .val (.int k1), .val (.int k2), .val (.int k3), .val (.ref x4), .val (.ref x5), .val (.ref q), .val (.ref b7), .val (.ref b9), .val (.ref b11), .val (.ref b11), .val .null] [(.int (1 : Int32))]))
                refine OEndsW.retN X19 hx hlk hS hk hZ hEL e19 es CR (t := .boolean) Bd.returns (by simp) (hb hby at_220) ?_ (by decide) (by decide)
                exact ⟨rfl, N19⟩
          · skip
            refine OEndsW.via (fun _ k_ => XS.ifNo X12.here hx rfl (hb hby at_133) rfl ((if0 _ _).trans (feq hc133_12).1) k_) ?_
            show OEndsW p e below s _ _ _ _ _ (T12.setTop (mkF m 136 #[.val (.int p0), .val (.int p1), .val (.int p2), .val (.int nl), .val (.int ql), .val (.int k1), .val (.int k2), .val (.int k3), .val (.ref x4), .val (.ref x5), .val (.ref q), .val (.ref b7), .val (.ref b9), .val (.ref b11), .unset, .unset] []))
            refine OEndsW.via (fun _ k_ => XS.aload X12.here hx rfl (hb hby at_136) rfl rfl k_) ?_
            show OEndsW p e below s _ _ _ _ _ (T12.setTop (mkF m 138 #[.val (.int p0), .val (.int p1), .val (.int p2), .val (.int nl), .val (.int ql), .val (.int k1), .val (.int k2), .val (.int k3), .val (.ref x4), .val (.ref x5), .val (.ref q), .val (.ref b7), .val (.ref b9), .val (.ref b11), .unset, .unset] [(.ref b7)]))
            refine OEndsW.via (fun _ k_ => XS.aload X12.here hx rfl (hb hby at_138) rfl rfl k_) ?_
            show OEndsW p e below s _ _ _ _ _ (T12.setTop (mkF m 140 #[.val (.int p0), .val (.int p1), .val (.int p2), .val (.int nl), .val (.int ql), .val (.int k1), .val (.int k2), .val (.int k3), .val (.ref x4), .val (.ref x5), .val (.ref q), .val (.ref b7), .val (.ref b9), .val (.ref b11), .unset, .unset] [(.ref b9), (.ref b7)]))
            obtain ⟨cq20, kq20, q20a, q20b, q20c⟩ := isOf hZ rfl E_b7
            obtain ⟨_, _, ⟨T20, L20, k20, n20⟩, -, X20, ⟨Lc20, hQ20, l20, y20, z20⟩, st20⟩ := X12.virtualBack hx (y := (⟨"com/example/ranked_settings/rankedsettings/LookupPlans", "keep", "(Lcom/example/ranked_settings/rankedsettings/LookupPlans$Plan;)V"⟩ : MethodName)) (z := (⟨"com/example/ranked_settings/rankedsettings/LookupPlans", "keep", "(Lcom/example/ranked_settings/rankedsettings/LookupPlans$Plan;)V"⟩ : MethodName)) hown (mvT hZ (hw _ (List.mem_of_getElem? (i := 112) rfl))) (mvT hZ (hw _ (List.mem_of_getElem? (i := 113) rfl))) (notFace_of_selects (args := #[]) (mvT hZ (hw _ (List.mem_of_getElem? (i := 115) rfl)))) (mvT hZ (hw _ (List.mem_of_getElem? (i := 115) rfl))) (mvT hZ (hw _ (List.mem_of_getElem? (i := 114) rfl))) (by decide) (backOf (W := 0) (rmK l Z a0 hw [] b7 b k_b b9 [] x4 t_x4 kb_x4 nn_x4 vs_x4 G1 (own_cs p0 nl) T12.heap n0 Od S_CS nz_CS E_x4 V_x4 C_x4 K_x4 hp_x4 F_hash_x4 F_hashIsZero_x4 ge_x4 F_slots E_b7 FN10 E_b9 O_b T_b ge_b ne_t_x4_b) hZ (hw _ (List.mem_of_getElem? (i := 116) rfl)) (hw _ (List.mem_of_getElem? (i := 39) rfl)) (by decide) (by decide)) q20a q20c (g := (mkF m 140 #[.val (.int p0), .val (.int p1), .val (.int p2), .val (.int nl), .val (.int ql), .val (.int k1), .val (.int k2), .val (.int k3), .val (.ref x4), .val (.ref x5), .val (.ref q), .val (.ref b7), .val (.ref b9), .val (.ref b11), .unset, .unset] [(.ref b9), (.ref b7)])) rfl (by rw [hml]; rfl) (Steps.refl _) (argsL := [(.ref b9)]) (rest := []) (lenOf pd_28Lcom2fexample2franked_settings2frankedsettings2fLookupPlans24Plan3b29V rfl) rfl (by show 2 * 0 + _ ≤ _; exact Nat.le_of_eq rfl) (hb hby at_140) (fun _ _ => ⟨rfl, rfl, Nat.le_of_ble_eq_true rfl, Nat.le_of_ble_eq_true rfl⟩)
            dsimp only [Pt.U, Pt.locs, Pt.cells, Pt.slots] at X20 l20 y20 z20 st20 hQ20
            subst l20 y20 z20
            obtain ⟨rfl, N20q, K20, V20x, C20x, T20b⟩ := hQ20
            have N20 := Fr.app N12 N20q
            have ne_t_x4_x4 : t_x4 ≠ x4 := (Ne.symm (Exa.neArv E_x4 K_x4 (hw _ (List.mem_of_getElem? (i := 5) rfl))))
            have ne_t_x5_x4 : t_x5 ≠ x4 := (Ne.symm (Exa.neArv E_x4 K_x5 (hw _ (List.mem_of_getElem? (i := 5) rfl))))
            have ne_t_q_x4 : t_q ≠ x4 := (Ne.symm (Exa.neArv E_x4 K_q (hw _ (List.mem_of_getElem? (i := 5) rfl))))
            have sfk20 : ∀ x ∈ ([x4, b] : List Addr), Safe Z consts_1 vmU6 T12.heap x := (allS sf_x4 (allS (own_safeH hZ.alike T_b (by decide)) all0))
            replace hk := Nat.le_trans hk K20.1
            replace Od := Od.keep K20 (allS ge_x4 (allS ge_b all0))
            replace E_x4 := E_x4.keep K20
            replace K_x4 := K_x4.keep K20 (ninS ne_t_x4_x4 (ninS ne_t_x4_b nin0))
            replace sf_x4 := Safe.keep K20 sfk20 CR.1 sf_x4
            replace E_x5 := E_x5.keep K20
            replace V_x5 := V_x5.keep K20 (ninS (Ne.symm ne_x4_x5) (ninS ne_x5_b nin0))
            replace C_x5 := C_x5.keep K20 (ninS (Ne.symm ne_x4_x5) (ninS ne_x5_b nin0))
            replace K_x5 := K_x5.keep K20 (ninS ne_t_x5_x4 (ninS ne_t_x5_b nin0))
            replace F_hash_x5 := F_hash_x5.keep K20 (ninS (Ne.symm ne_x4_x5) (ninS ne_x5_b nin0))
            replace F_hashIsZero_x5 := F_hashIsZero_x5.keep K20 (ninS (Ne.symm ne_x4_x5) (ninS ne_x5_b nin0))
            replace sf_x5 := Safe.keep K20 sfk20 CR.1 sf_x5
            replace E_q := E_q.keep K20
            replace V_q := V_q.keep K20 (ninS (Ne.symm ne_x4_q) (ninS ne_q_b nin0))
            replace C_q := C_q.keep K20 (ninS (Ne.symm ne_x4_q) (ninS ne_q_b nin0))
            replace K_q := K_q.keep K20 (ninS ne_t_q_x4 (ninS ne_t_q_b nin0))
            replace F_hash_q := F_hash_q.keep K20 (ninS (Ne.symm ne_x4_q) (ninS ne_q_b nin0))
            replace F_hashIsZero_q := F_hashIsZero_q.keep K20 (ninS (Ne.symm ne_x4_q) (ninS ne_q_b nin0))
            replace sf_q := Safe.keep K20 sfk20 CR.1 sf_q
            replace sf_b7 := Safe.keep K20 sfk20 CR.1 sf_b7
            replace E_b7 := E_b7.keep K20
            replace F_slots := F_slots.keep K20 (ninS (Ne.symm ne_x4_b7) (ninS ne_b7_b nin0))
            replace sf_b9 := Safe.keep K20 sfk20 CR.1 sf_b9
            replace E_b9 := E_b9.keep K20
            replace FN10 := FN10.keep K20 (ninS (Ne.symm ne_x4_b9) (ninS (Ne.symm ne_b_b9) nin0))
            replace sf_b11 := Safe.keep K20 sfk20 CR.1 sf_b11
            replace E_b11 := E_b11.keep K20
            replace FN12 := FN12.keep K20 (ninS (Ne.symm ne_x4_b11) (ninS (Ne.symm ne_b_b11) nin0))
            replace CR := CR.trans (CHr.keep K20 sfk20 CR.1)
            replace V_x4 := V20x
            replace C_x4 := C20x
            replace T_b := T20b
            refine OEndsW.via (fun _ k_ => st20.trans k_) ?_
            show OEndsW p e below s _ _ _ _ _ (T20.setTop (mkF m 143 #[.val (.int p0), .val (.int p1), .val (.int p2), .val (.int nl), .val (.int ql), .val (.int k1), .val (.int k2), .val (.int k3), .val (.ref x4), .val (.ref x5), .val (.ref q), .val (.ref b7), .val (.ref b9), .val (.ref b11), .unset, .unset] []))
            refine OEndsW.via (fun _ k_ => XS.iload X20.here hx rfl (hb hby at_143) rfl k_) ?_
            show OEndsW p e below s _ _ _ _ _ (T20.setTop (mkF m 145 #[.val (.int p0), .val (.int p1), .val (.int p2), .val (.int nl), .val (.int ql), .val (.int k1), .val (.int k2), .val (.int k3), .val (.ref x4), .val (.ref x5), .val (.ref q), .val (.ref b7), .val (.ref b9), .val (.ref b11), .unset, .unset] [(.int k2)]))
            by_cases hc145_20 : k2 = (0 : Int32)
            · skip
              refine OEndsW.via (fun _ k_ => XS.ifYes X20.here hx rfl (pc0 := 145) (pc' := 155) rfl (hb hby at_145) rfl ((if0 _ _).trans (teq hc145_20).1) (by decide) (by decide) k_) ?_
              show OEndsW p e below s _ _ _ _ _ (T20.setTop (mkF m 155 #[.val (.int p0), .val (.int p1), .val (.int p2), .val (.int nl), .val (.int ql), .val (.int k1), .val (.int k2), .val (.int k3), .val (.ref x4), .val (.ref x5), .val (.ref q), .val (.ref b7), .val (.ref b9), .val (.ref b11), .unset, .unset] []))
              refine OEndsW.via (fun _ k_ => XS.iload X20.here hx rfl (hb hby at_155) rfl k_) ?_
              show OEndsW p e below s _ _ _ _ _ (T20.setTop (mkF m 157 #[.val (.int p0), .val (.int p1), .val (.int p2), .val (.int nl), .val (.int ql), .val (.int k1), .val (.int k2), .val (.int k3), .val (.ref x4), .val (.ref x5), .val (.ref q), .val (.ref b7), .val (.ref b9), .val (.ref b11), .unset, .unset] [(.int k2)]))
              refine OEndsW.via (fun _ k_ => XS.ifYes X20.here hx rfl (pc0 := 157) (pc' := 165) rfl (hb hby at_157) rfl ((if0 _ _).trans (teq hc145_20).1) (by decide) (by decide) k_) ?_
              show OEndsW p e below s _ _ _ _ _ (T20.setTop (mkF m 165 #[.val (.int p0), .val (.int p1), .val (.int p2), .val (.int nl), .val (.int ql), .val (.int k1), .val (.int k2), .val (.int k3), .val (.ref x4), .val (.ref x5), .val (.ref q), .val (.ref b7), .val (.ref b9), .val (.ref b11), .unset, .unset] []))
              refine OEndsW.via (fun _ k_ => XS.iload X20.here hx rfl (hb hby at_165) rfl k_) ?_
              show OEndsW p e below s _ _ _ _ _ (T20.setTop (mkF m 167 #[.val (.int p0), .val (.int p1), .val (.int p2), .val (.int nl), .val (.int ql), .val (.int k1), .val (.int k2), .val (.int k3), .val (.ref x4), .val (.ref x5), .val (.ref q), .val (.ref b7), .val (.ref b9), .val (.ref b11), .unset, .unset] [(.int k1)]))
              refine OEndsW.via (fun _ k_ => XS.ifNo X20.here hx rfl (hb hby at_167) rfl ((if0 _ _).trans (feq hc133_12).1) k_) ?_
              show OEndsW p e below s _ _ _ _ _ (T20.setTop (mkF m 170 #[.val (.int p0), .val (.int p1), .val (.int p2), .val (.int nl), .val (.int ql), .val (.int k1), .val (.int k2), .val (.int k3), .val (.ref x4), .val (.ref x5), .val (.ref q), .val (.ref b7), .val (.ref b9), .val (.ref b11), .unset, .unset] []))
              refine OEndsW.via (fun _ k_ => XS.aload X20.here hx rfl (hb hby at_170) rfl rfl k_) ?_
              show OEndsW p e below s _ _ _ _ _ (T20.setTop (mkF m 172 #[.val (.int p0), .val (.int p1), .val (.int p2), .val (.int nl), .val (.int ql), .val (.int k1), .val (.int k2), .val (.int k3), .val (.ref x4), .val (.ref x5), .val (.ref q), .val (.ref b7), .val (.ref b9), .val (.ref b11), .unset, .unset] [(.ref b9)]))
              refine OEndsW.via (fun _ k_ => XS.goto X20.here hx rfl (pc0 := 172) (pc' := 176) rfl (hb hby at_172) (by decide) (by decide) k_) ?_
              show OEndsW p e below s _ _ _ _ _ (T20.setTop (mkF m 176 #[.val (.int p0), .val (.int p1), .val (.int p2), .val (.int nl), .val (.int ql), .val (.int k1), .val (.int k2), .val (.int k3), .val (.ref x4), .val (.ref x5), .val (.ref q), .val (.ref b7), .val (.ref b9), .val (.ref b11), .unset, .unset] [(.ref b9)]))
              refine OEndsW.via (fun _ k_ => XS.astore X20.here hx rfl (hb hby at_176) rfl rfl (l' := #[.val (.int p0), .val (.int p1), .val (.int p2), .val (.int nl), .val (.int ql), .val (.int k1), .val (.int k2), .val (.int k3), .val (.ref x4), .val (.ref x5), .val (.ref q), .val (.ref b7), .val (.ref b9), .val (.ref b11), .val (.ref b9), .unset]) rfl k_) ?_
              show OEndsW p e below s _ _ _ _ _ (T20.setTop (mkF m 178 #[.val (.int p0), .val (.int p1), .val (.int p2), .val (.int nl), .val (.int ql), .val (.int k1), .val (.int k2), .val (.int k3), .val (.ref x4), .val (.ref x5), .val (.ref q), .val (.ref b7), .val (.ref b9), .val (.ref b11), .val (.ref b9), .unset] []))
              refine OEndsW.via (fun _ k_ => XS.aload X20.here hx rfl (hb hby at_178) rfl rfl k_) ?_
              show OEndsW p e below s _ _ _ _ _ (T20.setTop (mkF m 180 #[.val (.int p0), .val (.int p1), .val (.int p2), .val (.int nl), .val (.int ql), .val (.int k1), .val (.int k2), .val (.int k3), .val (.ref x4), .val (.ref x5), .val (.ref q), .val (.ref b7), .val (.ref b9), .val (.ref b11), .val (.ref b9), .unset] [(.ref b7)]))
              refine OEndsW.via (fun _ k_ => XS.aload X20.here hx rfl (hb hby at_180) rfl rfl k_) ?_
              show OEndsW p e below s _ _ _ _ _ (T20.setTop (mkF m 182 #[.val (.int p0), .val (.int p1), .val (.int p2), .val (.int nl), .val (.int ql), .val (.int k1), .val (.int k2), .val (.int k3), .val (.ref x4), .val (.ref x5), .val (.ref q), .val (.ref b7), .val (.ref b9), .val (.ref b11), .val (.ref b9), .unset] [(.ref q), (.ref b7)]))
              obtain ⟨cq22, kq22, q22a, q22b, q22c⟩ := isOf hZ rfl E_b7
              obtain ⟨_, _, ⟨T22, L22, k22, n22⟩, -, X22, ⟨Lc22, hQ22, l22, y22, z22⟩, st22⟩ := X20.virtualBack hx (y := (⟨"com/example/ranked_settings/rankedsettings/LookupPlans", "get", "(Ljava/lang/String;)Lcom/example/ranked_settings/rankedsettings/LookupPlans$Plan;"⟩ : MethodName)) (z := (⟨"com/example/ranked_settings/rankedsettings/LookupPlans", "get", "(Ljava/lang/String;)Lcom/example/ranked_settings/rankedsettings/LookupPlans$Plan;"⟩ : MethodName)) hown (mvT hZ (hw _ (List.mem_of_getElem? (i := 68) rfl))) (mvT hZ (hw _ (List.mem_of_getElem? (i := 69) rfl))) (notFace_of_selects (args := #[]) (mvT hZ (hw _ (List.mem_of_getElem? (i := 71) rfl)))) (mvT hZ (hw _ (List.mem_of_getElem? (i := 71) rfl))) (mvT hZ (hw _ (List.mem_of_getElem? (i := 70) rfl))) (by decide) (backOf (W := 0) (rmG1 l Z a0 hw [] b7 b k_b [(own_sl vs_x4, .ref b9)] q t_q kb_q nn_q vs_q G1 csq b9 x4 t_x4 kb_x4 nn_x4 vs_x4 (own_cs p0 nl) T20.heap n0 Od S_CS nz_CS E_q V_q C_q K_q hp_q F_hash_q F_hashIsZero_q ge_q F_slots E_b7 T_b E_b9 FN10 E_x4 V_x4 C_x4 K_x4 hp_x4 ne_x4_q (getH_hit (own_slb _).1 rfl) (fun i q1 q2 => getH_miss q1 q2 rfl)) hZ (hw _ (List.mem_of_getElem? (i := 72) rfl)) (hw _ (List.mem_of_getElem? (i := 39) rfl)) (by decide) (by decide)) q22a q22c (g := (mkF m 182 #[.val (.int p0), .val (.int p1), .val (.int p2), .val (.int nl), .val (.int ql), .val (.int k1), .val (.int k2), .val (.int k3), .val (.ref x4), .val (.ref x5), .val (.ref q), .val (.ref b7), .val (.ref b9), .val (.ref b11), .val (.ref b9), .unset] [(.ref q), (.ref b7)])) rfl (by rw [hml]; rfl) (Steps.refl _) (argsL := [(.ref q)]) (rest := []) (lenOf pd_28Ljava2flang2fString3b29Lcom2fexample2franked_settings2frankedsettings2fLookupPlans24Plan3b rfl) rfl (by show 2 * 0 + _ ≤ _; exact Nat.le_of_eq rfl) (hb hby at_182) (fun _ _ => ⟨rfl, rfl, Nat.le_of_ble_eq_true rfl, Nat.le_of_ble_eq_true rfl⟩)
              dsimp only [Pt.U, Pt.locs, Pt.cells, Pt.slots] at X22 l22 y22 z22 st22 hQ22
              subst l22 y22 z22
              obtain ⟨res, rfl, hrf, hr1, hr2, N22q, K22, V22x, C22x⟩ := hQ22
              have N22 := Fr.app N20 N22q
              have ne_t_x4_q : t_x4 ≠ q := (Ne.symm (Exa.neArv E_q K_x4 (hw _ (List.mem_of_getElem? (i := 5) rfl))))
              have ne_t_x5_q : t_x5 ≠ q := (Ne.symm (Exa.neArv E_q K_x5 (hw _ (List.mem_of_getElem? (i := 5) rfl))))
              have ne_t_q_q : t_q ≠ q := (Ne.symm (Exa.neArv E_q K_q (hw _ (List.mem_of_getElem? (i := 5) rfl))))
              have sfk22 : ∀ x ∈ ([q] : List Addr), Safe Z consts_1 vmU6 T20.heap x := (allS sf_q all0)
              replace hk := Nat.le_trans hk K22.1
              replace Od := Od.keep K22 (allS ge_q all0)
              replace E_x4 := E_x4.keep K22
              replace K_x4 := K_x4.keep K22 (ninS ne_t_x4_q nin0)
              replace sf_x4 := Safe.keep K22 sfk22 CR.1 sf_x4
              replace E_x5 := E_x5.keep K22
              replace V_x5 := V_x5.keep K22 (ninS ne_x5_q nin0)
              replace C_x5 := C_x5.keep K22 (ninS ne_x5_q nin0)
              replace K_x5 := K_x5.keep K22 (ninS ne_t_x5_q nin0)
              replace F_hash_x5 := F_hash_x5.keep K22 (ninS ne_x5_q nin0)
              replace F_hashIsZero_x5 := F_hashIsZero_x5.keep K22 (ninS ne_x5_q nin0)
              replace sf_x5 := Safe.keep K22 sfk22 CR.1 sf_x5
              replace E_q := E_q.keep K22
              replace K_q := K_q.keep K22 (ninS ne_t_q_q nin0)
              replace sf_q := Safe.keep K22 sfk22 CR.1 sf_q
              replace sf_b7 := Safe.keep K22 sfk22 CR.1 sf_b7
              replace E_b7 := E_b7.keep K22
              replace F_slots := F_slots.keep K22 (ninS (Ne.symm ne_q_b7) nin0)
              replace sf_b9 := Safe.keep K22 sfk22 CR.1 sf_b9
              replace E_b9 := E_b9.keep K22
              replace FN10 := FN10.keep K22 (ninS (Ne.symm ne_q_b9) nin0)
              replace sf_b11 := Safe.keep K22 sfk22 CR.1 sf_b11
              replace E_b11 := E_b11.keep K22
              replace FN12 := FN12.keep K22 (ninS (Ne.symm ne_q_b11) nin0)
              replace V_x4 := V_x4.keep K22 (ninS ne_x4_q nin0)
              replace C_x4 := C_x4.keep K22 (ninS ne_x4_q nin0)
              replace T_b := T_b.keep K22 (ninS (Ne.symm ne_q_b) nin0)
              replace CR := CR.trans (CHr.keep K22 sfk22 CR.1)
              replace V_q := V22x
              replace C_q := C22x
              refine OEndsW.via (fun _ k_ => st22.trans k_) ?_
              show OEndsW p e below s _ _ _ _ _ (T22.setTop (mkF m 185 #[.val (.int p0), .val (.int p1), .val (.int p2), .val (.int nl), .val (.int ql), .val (.int k1), .val (.int k2), .val (.int k3), .val (.ref x4), .val (.ref x5), .val (.ref q), .val (.ref b7), .val (.ref b9), .val (.ref b11), .val (.ref b9), .unset] [res]))
              refine OEndsW.via (fun _ k_ => XS.astore X22.here hx rfl (hb hby at_185) rfl hrf (l' := #[.val (.int p0), .val (.int p1), .val (.int p2), .val (.int nl), .val (.int ql), .val (.int k1), .val (.int k2), .val (.int k3), .val (.ref x4), .val (.ref x5), .val (.ref q), .val (.ref b7), .val (.ref b9), .val (.ref b11), .val (.ref b9), .val res]) (by rcases ref_cases hrf with rfl | ⟨_, rfl⟩ <;> rfl) k_) ?_
              show OEndsW p e below s _ _ _ _ _ (T22.setTop (mkF m 187 #[.val (.int p0), .val (.int p1), .val (.int p2), .val (.int nl), .val (.int ql), .val (.int k1), .val (.int k2), .val (.int k3), .val (.ref x4), .val (.ref x5), .val (.ref q), .val (.ref b7), .val (.ref b9), .val (.ref b11), .val (.ref b9), .val res] []))
              refine OEndsW.via (fun _ k_ => XS.aload X22.here hx rfl (hb hby at_187) rfl rfl k_) ?_
              show OEndsW p e below s _ _ _ _ _ (T22.setTop (mkF m 189 #[.val (.int p0), .val (.int p1), .val (.int p2), .val (.int nl), .val (.int ql), .val (.int k1), .val (.int k2), .val (.int k3), .val (.ref x4), .val (.ref x5), .val (.ref q), .val (.ref b7), .val (.ref b9), .val (.ref b11), .val (.ref b9), .val res] [(.ref q)]))
              refine OEndsW.via (fun _ k_ => XS.aload X22.here hx rfl (hb hby at_189) rfl rfl k_) ?_
              show OEndsW p e below s _ _ _ _ _ (T22.setTop (mkF m 191 #[.val (.int p0), .val (.int p1), .val (.int p2), .val (.int nl), .val (.int ql), .val (.int k1), .val (.int k2), .val (.int k3), .val (.ref x4), .val (.ref x5), .val (.ref q), .val (.ref b7), .val (.ref b9), .val (.ref b11), .val (.ref b9), .val res] [(.ref x4), (.ref q)]))
              obtain ⟨cq23, kq23, q23a, q23b, q23c⟩ := isOf hZ rfl E_q
              obtain ⟨_, _, ⟨T23, L23, k23, n23⟩, -, X23, ⟨Lc23, hQ23, l23, y23, z23⟩, st23⟩ := X22.virtualBack hx (y := (⟨"java/lang/String", "equals", "(Ljava/lang/Object;)Z"⟩ : MethodName)) (z := (⟨"java/lang/String", "equals", "(Ljava/lang/Object;)Z"⟩ : MethodName)) hown (mvT hZ (hw _ (List.mem_of_getElem? (i := 94) rfl))) (mvT hZ (hw _ (List.mem_of_getElem? (i := 95) rfl))) (notFace_of_selects (args := #[]) (mvT hZ (hw _ (List.mem_of_getElem? (i := 97) rfl)))) (mvT hZ (hw _ (List.mem_of_getElem? (i := 97) rfl))) (mvT hZ (hw _ (List.mem_of_getElem? (i := 96) rfl))) (by decide) (StrChars.Road.eqW (W := 0) hZ heq (kI := 4) (hw _ (List.mem_of_getElem? (i := 5) rfl)) E_q V_q C_q K_q hp_q.1 hp_q.2.2.2.1 hp_q.le E_x4 V_x4 C_x4 K_x4 hp_x4.1 hp_x4.2.2.2.1 hp_x4.le (Sta.ext Od.2 S_CS) nz_CS (by decide) (by decide)) q23a q23c (g := (mkF m 191 #[.val (.int p0), .val (.int p1), .val (.int p2), .val (.int nl), .val (.int ql), .val (.int k1), .val (.int k2), .val (.int k3), .val (.ref x4), .val (.ref x5), .val (.ref q), .val (.ref b7), .val (.ref b9), .val (.ref b11), .val (.ref b9), .val res] [(.ref x4), (.ref q)])) rfl (by rw [hml]; rfl) (Steps.refl _) (argsL := [(.ref x4)]) (rest := []) (lenOf pd_28Ljava2flang2fObject3b29Z rfl) rfl (by show 2 * 0 + _ ≤ _; exact Nat.le_of_eq rfl) (hb hby at_191) (fun _ _ => ⟨rfl, rfl, Nat.le_of_ble_eq_true rfl, Nat.le_of_ble_eq_true rfl⟩)
              dsimp only [Pt.U, Pt.locs, Pt.cells, Pt.slots] at X23 l23 y23 z23 st23 hQ23
              subst l23 y23 z23
              obtain ⟨hcase23, rfl, e23⟩ := hQ23
              have N23 := Fr.app N22 (Fr.nil n0)
              rcases hcase23 with ⟨hv23, heq23⟩ | ⟨hv23, heq23⟩
              · subst hv23
                obtain rfl := hr1 heq23
                refine OEndsW.via (fun _ k_ => st23.trans k_) ?_
                show OEndsW p e below s _ _ _ _ _ (T23.setTop (mkF m 194 #[.val (.int p0), .val (.int p1), .val (.int p2), .val (.int nl), .val (.int ql), .val (.int k1), .val (.int k2), .val (.int k3), .val (.ref x4), .val (.ref x5), .val (.ref q), .val (.ref b7), .val (.ref b9), .val (.ref b11), .val (.ref b9), .val (.ref b9)] [(.int (1 : Int32))]))
                refine OEndsW.via (fun _ k_ => XS.ifNo X23.here hx rfl (hb hby at_194) rfl ((if0 _ _).trans (feq (by decide : ¬ ((1 : Int32) = (0 : Int32)))).1) k_) ?_
                show OEndsW p e below s _ _ _ _ _ (T23.setTop (mkF m 197 #[.val (.int p0), .val (.int p1), .val (.int p2), .val (.int nl), .val (.int ql), .val (.int k1), .val (.int k2), .val (.int k3), .val (.ref x4), .val (.ref x5), .val (.ref q), .val (.ref b7), .val (.ref b9), .val (.ref b11), .val (.ref b9), .val (.ref b9)] []))
                refine OEndsW.via (fun _ k_ => XS.aload X23.here hx rfl (hb hby at_197) rfl rfl k_) ?_
                show OEndsW p e below s _ _ _ _ _ (T23.setTop (mkF m 199 #[.val (.int p0), .val (.int p1), .val (.int p2), .val (.int nl), .val (.int ql), .val (.int k1), .val (.int k2), .val (.int k3), .val (.ref x4), .val (.ref x5), .val (.ref q), .val (.ref b7), .val (.ref b9), .val (.ref b11), .val (.ref b9), .val (.ref b9)] [(.ref b9)]))
                refine OEndsW.via (fun _ k_ => XS.aload X23.here hx rfl (hb hby at_199) rfl rfl k_) ?_
                show OEndsW p e below s _ _ _ _ _ (T23.setTop (mkF m 201 #[.val (.int p0), .val (.int p1), .val (.int p2), .val (.int nl), .val (.int ql), .val (.int k1), .val (.int k2), .val (.int k3), .val (.ref x4), .val (.ref x5), .val (.ref q), .val (.ref b7), .val (.ref b9), .val (.ref b11), .val (.ref b9), .val (.ref b9)] [(.ref b9), (.ref b9)]))
                refine OEndsW.via (fun _ k_ => Jvm.RoadKit.acmp (g := (mkF m 201 #[.val (.int p0), .val (.int p1), .val (.int p2), .val (.int nl), .val (.int ql), .val (.int k1), .val (.int k2), .val (.int k3), .val (.ref x4), .val (.ref x5), .val (.ref q), .val (.ref b7), .val (.ref b9), .val (.ref b11), .val (.ref b9), .val (.ref b9)] [(.ref b9), (.ref b9)])) X23 hx rfl rfl rfl (pc0 := 201) (pc' := 204) (same := true) rfl (hb hby at_201) rfl (decide_eq_true rfl) (by decide) (by decide) k_) ?_
                show OEndsW p e below s _ _ _ _ _ (T23.setTop (mkF m 204 #[.val (.int p0), .val (.int p1), .val (.int p2), .val (.int nl), .val (.int ql), .val (.int k1), .val (.int k2), .val (.int k3), .val (.ref x4), .val (.ref x5), .val (.ref q), .val (.ref b7), .val (.ref b9), .val (.ref b11), .val (.ref b9), .val (.ref b9)] []))
                refine OEndsW.via (fun _ k_ => XS.iconst X23.here hx rfl (hb hby at_204) k_) ?_
                show OEndsW p e below s _ _ _ _ _ (T23.setTop (mkF m 205 #[.val (.int p0), .val (.int p1), .val (.int p2), .val (.int nl), .val (.int ql), .val (.int k1), .val (.int k2), .val (.int k3), .val (.ref x4), .val (.ref x5), .val (.ref q), .val (.ref b7), .val (.ref b9), .val (.ref b11), .val (.ref b9), .val (.ref b9)] [(.int (1 : Int32))]))
                refine OEndsW.via (fun _ k_ => XS.goto X23.here hx rfl (pc0 := 205) (pc' := 209) rfl (hb hby at_205) (by decide) (by decide) k_) ?_
                show OEndsW p e below s _ _ _ _ _ (T23.setTop (mkF m 209 #[.val (.int p0), .val (.int p1), .val (.int p2), .val (.int nl), .val (.int ql), .val (.int k1), .val (.int k2), .val (.int k3), .val (.ref x4), .val (.ref x5), .val (.ref q), .val (.ref b7), .val (.ref b9), .val (.ref b11), .val (.ref b9), .val (.ref b9)] [(.int (1 : Int32))]))
                refine OEndsW.retN X23 hx hlk hS hk hZ hEL e23 es CR (t := .boolean) Bd.returns (by simp) (hb hby at_209) ?_ (by decide) (by decide)
                exact ⟨rfl, N23⟩
              · subst hv23
                obtain rfl := hr2 heq23
                refine OEndsW.via (fun _ k_ => st23.trans k_) ?_
                show OEndsW p e below s _ _ _ _ _ (T23.setTop (mkF m 194 #[.val (.int p0), .val (.int p1), .val (.int p2), .val (.int nl), .val (.int ql), .val (.int k1), .val (.int k2), .val (.int k3), .val (.ref x4), .val (.ref x5), .val (.ref q), .val (.ref b7), .val (.ref b9), .val (.ref b11), .val (.ref b9), .val .null] [(.int (0 : Int32))]))
                refine OEndsW.via (fun _ k_ => XS.ifYes X23.here hx rfl (pc0 := 194) (pc' := 210) rfl (hb hby at_194) rfl ((if0 _ _).trans (teq (by decide : (0 : Int32) = (0 : Int32))).1) (by decide) (by decide) k_) ?_
                show OEndsW p e below s _ _ _ _ _ (T23.setTop (mkF m 210 #[.val (.int p0), .val (.int p1), .val (.int p2), .val (.int nl), .val (.int ql), .val (.int k1), .val (.int k2), .val (.int k3), .val (.ref x4), .val (.ref x5), .val (.ref q), .val (.ref b7), .val (.ref b9), .val (.ref b11), .val (.ref b9), .val .null] []))
                refine OEndsW.via (fun _ k_ => XS.aload X23.here hx rfl (hb hby at_210) rfl rfl k_) ?_
                show OEndsW p e below s _ _ _ _ _ (T23.setTop (mkF m 212 #[.val (.int p0), .val (.int p1), .val (.int p2), .val (.int nl), .val (.int ql), .val (.int k1), .val (.int k2), .val (.int k3), .val (.ref x4), .val (.ref x5), .val (.ref q), .val (.ref b7), .val (.ref b9), .val (.ref b11), .val (.ref b9), .val .null] [.null]))
                refine OEndsW.via (fun _ k_ => XS.ifnonnullNo X23.here hx rfl (hb hby at_212) rfl k_) ?_
                show OEndsW p e below s _ _ _ _ _ (T23.setTop (mkF m 215 #[.val (.int p0), .val (.int p1), .val (.int p2), .val (.int nl), .val (.int ql), .val (.int k1), .val (.int k2), .val (.int k3), .val (.ref x4), .val (.ref x5), .val (.ref q), .val (.ref b7), .val (.ref b9), .val (.ref b11), .val (.ref b9), .val .null] []))
                refine OEndsW.via (fun _ k_ => XS.iconst X23.here hx rfl (hb hby at_215) k_) ?_
                show OEndsW p e below s _ _ _ _ _ (T23.setTop (mkF m 216 #[.val (.int p0), .val (.int p1), .val (.int p2), .val (.int nl), .val (.int ql), .val (.int k1), .val (.int k2), .val (.int k3), .val (.ref x4), .val (.ref x5), .val (.ref q), .val (.ref b7), .val (.ref b9), .val (.ref b11), .val (.ref b9), .val .null] [(.int (1 : Int32))]))
                refine OEndsW.via (fun _ k_ => XS.goto X23.here hx rfl (pc0 := 216) (pc' := 220) rfl (hb hby at_216) (by decide) (by decide) k_) ?_
                show OEndsW p e below s _ _ _ _ _ (T23.setTop (mkF m 220 #[.val (.int p0), .val (.int p1), .val (.int p2), .val (.int nl), .val (.int ql), .val (.int k1), .val (.int k2), .val (.int k3), .val (.ref x4), .val (.ref x5), .val (.ref q), .val (.ref b7), .val (.ref b9), .val (.ref b11), .val (.ref b9), .val .null] [(.int (1 : Int32))]))
                refine OEndsW.retN X23 hx hlk hS hk hZ hEL e23 es CR (t := .boolean) Bd.returns (by simp) (hb hby at_220) ?_ (by decide) (by decide)
                exact ⟨rfl, N23⟩
            · skip
              refine OEndsW.via (fun _ k_ => XS.ifNo X20.here hx rfl (hb hby at_145) rfl ((if0 _ _).trans (feq hc145_20).1) k_) ?_
              show OEndsW p e below s _ _ _ _ _ (T20.setTop (mkF m 148 #[.val (.int p0), .val (.int p1), .val (.int p2), .val (.int nl), .val (.int ql), .val (.int k1), .val (.int k2), .val (.int k3), .val (.ref x4), .val (.ref x5), .val (.ref q), .val (.ref b7), .val (.ref b9), .val (.ref b11), .unset, .unset] []))
              refine OEndsW.via (fun _ k_ => XS.aload X20.here hx rfl (hb hby at_148) rfl rfl k_) ?_
              show OEndsW p e below s _ _ _ _ _ (T20.setTop (mkF m 150 #[.val (.int p0), .val (.int p1), .val (.int p2), .val (.int nl), .val (.int ql), .val (.int k1), .val (.int k2), .val (.int k3), .val (.ref x4), .val (.ref x5), .val (.ref q), .val (.ref b7), .val (.ref b9), .val (.ref b11), .unset, .unset] [(.ref b7)]))
              refine OEndsW.via (fun _ k_ => XS.aload X20.here hx rfl (hb hby at_150) rfl rfl k_) ?_
              show OEndsW p e below s _ _ _ _ _ (T20.setTop (mkF m 152 #[.val (.int p0), .val (.int p1), .val (.int p2), .val (.int nl), .val (.int ql), .val (.int k1), .val (.int k2), .val (.int k3), .val (.ref x4), .val (.ref x5), .val (.ref q), .val (.ref b7), .val (.ref b9), .val (.ref b11), .unset, .unset] [(.ref b11), (.ref b7)]))
              obtain ⟨cq24, kq24, q24a, q24b, q24c⟩ := isOf hZ rfl E_b7
              obtain ⟨_, _, ⟨T24, L24, k24, n24⟩, -, X24, ⟨Lc24, hQ24, l24, y24, z24⟩, st24⟩ := X20.virtualBack hx (y := (⟨"com/example/ranked_settings/rankedsettings/LookupPlans", "keep", "(Lcom/example/ranked_settings/rankedsettings/LookupPlans$Plan;)V"⟩ : MethodName)) (z := (⟨"com/example/ranked_settings/rankedsettings/LookupPlans", "keep", "(Lcom/example/ranked_settings/rankedsettings/LookupPlans$Plan;)V"⟩ : MethodName)) hown (mvT hZ (hw _ (List.mem_of_getElem? (i := 112) rfl))) (mvT hZ (hw _ (List.mem_of_getElem? (i := 113) rfl))) (notFace_of_selects (args := #[]) (mvT hZ (hw _ (List.mem_of_getElem? (i := 115) rfl)))) (mvT hZ (hw _ (List.mem_of_getElem? (i := 115) rfl))) (mvT hZ (hw _ (List.mem_of_getElem? (i := 114) rfl))) (by decide) (backOf (W := 0) (rmK l Z a0 hw [] b7 b k_b b11 [(own_sl vs_x4, .ref b9)] x5 t_x5 kb_x5 nn_x5 vs_x5 G1 (own_cs p0 nl) T20.heap n0 Od S_CS nz_CS E_x5 V_x5 C_x5 K_x5 hp_x5 F_hash_x5 F_hashIsZero_x5 ge_x5 F_slots E_b7 FN12 E_b11 O_b T_b ge_b ne_t_x5_b) hZ (hw _ (List.mem_of_getElem? (i := 116) rfl)) (hw _ (List.mem_of_getElem? (i := 39) rfl)) (by decide) (by decide)) q24a q24c (g := (mkF m 152 #[.val (.int p0), .val (.int p1), .val (.int p2), .val (.int nl), .val (.int ql), .val (.int k1), .val (.int k2), .val (.int k3), .val (.ref x4), .val (.ref x5), .val (.ref q), .val (.ref b7), .val (.ref b9), .val (.ref b11), .unset, .unset] [(.ref b11), (.ref b7)])) rfl (by rw [hml]; rfl) (Steps.refl _) (argsL := [(.ref b11)]) (rest := []) (lenOf pd_28Lcom2fexample2franked_settings2frankedsettings2fLookupPlans24Plan3b29V rfl) rfl (by show 2 * 0 + _ ≤ _; exact Nat.le_of_eq rfl) (hb hby at_152) (fun _ _ => ⟨rfl, rfl, Nat.le_of_ble_eq_true rfl, Nat.le_of_ble_eq_true rfl⟩)
              dsimp only [Pt.U, Pt.locs, Pt.cells, Pt.slots] at X24 l24 y24 z24 st24 hQ24
              subst l24 y24 z24
              obtain ⟨rfl, N24q, K24, V24x, C24x, T24b⟩ := hQ24
              have N24 := Fr.app N20 N24q
              have ne_t_x5_x5 : t_x5 ≠ x5 := (Ne.symm (Exa.neArv E_x5 K_x5 (hw _ (List.mem_of_getElem? (i := 5) rfl))))
              have ne_t_q_x5 : t_q ≠ x5 := (Ne.symm (Exa.neArv E_x5 K_q (hw _ (List.mem_of_getElem? (i := 5) rfl))))
              have sfk24 : ∀ x ∈ ([x5, b] : List Addr), Safe Z consts_1 vmU6 T20.heap x := (allS sf_x5 (allS (own_safeH hZ.alike T_b (by decide)) all0))
              replace hk := Nat.le_trans hk K24.1
              replace Od := Od.keep K24 (allS ge_x5 (allS ge_b all0))
              replace E_x4 := E_x4.keep K24
              replace K_x4 := K_x4.keep K24 (ninS ne_t_x4_x5 (ninS ne_t_x4_b nin0))
              replace sf_x4 := Safe.keep K24 sfk24 CR.1 sf_x4
              replace E_x5 := E_x5.keep K24
              replace K_x5 := K_x5.keep K24 (ninS ne_t_x5_x5 (ninS ne_t_x5_b nin0))
              replace sf_x5 := Safe.keep K24 sfk24 CR.1 sf_x5
              replace E_q := E_q.keep K24
              replace V_q := V_q.keep K24 (ninS (Ne.symm ne_x5_q) (ninS ne_q_b nin0))
              replace C_q := C_q.keep K24 (ninS (Ne.symm ne_x5_q) (ninS ne_q_b nin0))
              replace K_q := K_q.keep K24 (ninS ne_t_q_x5 (ninS ne_t_q_b nin0))
              replace F_hash_q := F_hash_q.keep K24 (ninS (Ne.symm ne_x5_q) (ninS ne_q_b nin0))
              replace F_hashIsZero_q := F_hashIsZero_q.keep K24 (ninS (Ne.symm ne_x5_q) (ninS ne_q_b nin0))
              replace sf_q := Safe.keep K24 sfk24 CR.1 sf_q
              replace sf_b7 := Safe.keep K24 sfk24 CR.1 sf_b7
              replace E_b7 := E_b7.keep K24
              replace F_slots := F_slots.keep K24 (ninS (Ne.symm ne_x5_b7) (ninS ne_b7_b nin0))
              replace sf_b9 := Safe.keep K24 sfk24 CR.1 sf_b9
              replace E_b9 := E_b9.keep K24
              replace FN10 := FN10.keep K24 (ninS (Ne.symm ne_x5_b9) (ninS (Ne.symm ne_b_b9) nin0))
              replace sf_b11 := Safe.keep K24 sfk24 CR.1 sf_b11
              replace E_b11 := E_b11.keep K24
              replace FN12 := FN12.keep K24 (ninS (Ne.symm ne_x5_b11) (ninS (Ne.symm ne_b_b11) nin0))
              replace V_x4 := V_x4.keep K24 (ninS ne_x4_x5 (ninS ne_x4_b nin0))
              replace C_x4 := C_x4.keep K24 (ninS ne_x4_x5 (ninS ne_x4_b nin0))
              replace CR := CR.trans (CHr.keep K24 sfk24 CR.1)
              replace V_x5 := V24x
              replace C_x5 := C24x
              replace T_b := T24b
              refine OEndsW.via (fun _ k_ => st24.trans k_) ?_
              show OEndsW p e below s _ _ _ _ _ (T24.setTop (mkF m 155 #[.val (.int p0), .val (.int p1), .val (.int p2), .val (.int nl), .val (.int ql), .val (.int k1), .val (.int k2), .val (.int k3), .val (.ref x4), .val (.ref x5), .val (.ref q), .val (.ref b7), .val (.ref b9), .val (.ref b11), .unset, .unset] []))
              refine OEndsW.via (fun _ k_ => XS.iload X24.here hx rfl (hb hby at_155) rfl k_) ?_
              show OEndsW p e below s _ _ _ _ _ (T24.setTop (mkF m 157 #[.val (.int p0), .val (.int p1), .val (.int p2), .val (.int nl), .val (.int ql), .val (.int k1), .val (.int k2), .val (.int k3), .val (.ref x4), .val (.ref x5), .val (.ref q), .val (.ref b7), .val (.ref b9), .val (.ref b11), .unset, .unset] [(.int k2)]))
              refine OEndsW.via (fun _ k_ => XS.ifNo X24.here hx rfl (hb hby at_157) rfl ((if0 _ _).trans (feq hc145_20).1) k_) ?_
              show OEndsW p e below s _ _ _ _ _ (T24.setTop (mkF m 160 #[.val (.int p0), .val (.int p1), .val (.int p2), .val (.int nl), .val (.int ql), .val (.int k1), .val (.int k2), .val (.int k3), .val (.ref x4), .val (.ref x5), .val (.ref q), .val (.ref b7), .val (.ref b9), .val (.ref b11), .unset, .unset] []))
              refine OEndsW.via (fun _ k_ => XS.aload X24.here hx rfl (hb hby at_160) rfl rfl k_) ?_
              show OEndsW p e below s _ _ _ _ _ (T24.setTop (mkF m 162 #[.val (.int p0), .val (.int p1), .val (.int p2), .val (.int nl), .val (.int ql), .val (.int k1), .val (.int k2), .val (.int k3), .val (.ref x4), .val (.ref x5), .val (.ref q), .val (.ref b7), .val (.ref b9), .val (.ref b11), .unset, .unset] [(.ref b11)]))
              refine OEndsW.via (fun _ k_ => XS.goto X24.here hx rfl (pc0 := 162) (pc' := 176) rfl (hb hby at_162) (by decide) (by decide) k_) ?_
              show OEndsW p e below s _ _ _ _ _ (T24.setTop (mkF m 176 #[.val (.int p0), .val (.int p1), .val (.int p2), .val (.int nl), .val (.int ql), .val (.int k1), .val (.int k2), .val (.int k3), .val (.ref x4), .val (.ref x5), .val (.ref q), .val (.ref b7), .val (.ref b9), .val (.ref b11), .unset, .unset] [(.ref b11)]))
              refine OEndsW.via (fun _ k_ => XS.astore X24.here hx rfl (hb hby at_176) rfl rfl (l' := #[.val (.int p0), .val (.int p1), .val (.int p2), .val (.int nl), .val (.int ql), .val (.int k1), .val (.int k2), .val (.int k3), .val (.ref x4), .val (.ref x5), .val (.ref q), .val (.ref b7), .val (.ref b9), .val (.ref b11), .val (.ref b11), .unset]) rfl k_) ?_
              show OEndsW p e below s _ _ _ _ _ (T24.setTop (mkF m 178 #[.val (.int p0), .val (.int p1), .val (.int p2), .val (.int nl), .val (.int ql), .val (.int k1), .val (.int k2), .val (.int k3), .val (.ref x4), .val (.ref x5), .val (.ref q), .val (.ref b7), .val (.ref b9), .val (.ref b11), .val (.ref b11), .unset] []))
              refine OEndsW.via (fun _ k_ => XS.aload X24.here hx rfl (hb hby at_178) rfl rfl k_) ?_
              show OEndsW p e below s _ _ _ _ _ (T24.setTop (mkF m 180 #[.val (.int p0), .val (.int p1), .val (.int p2), .val (.int nl), .val (.int ql), .val (.int k1), .val (.int k2), .val (.int k3), .val (.ref x4), .val (.ref x5), .val (.ref q), .val (.ref b7), .val (.ref b9), .val (.ref b11), .val (.ref b11), .unset] [(.ref b7)]))
              refine OEndsW.via (fun _ k_ => XS.aload X24.here hx rfl (hb hby at_180) rfl rfl k_) ?_
              show OEndsW p e below s _ _ _ _ _ (T24.setTop (mkF m 182 #[.val (.int p0), .val (.int p1), .val (.int p2), .val (.int nl), .val (.int ql), .val (.int k1), .val (.int k2), .val (.int k3), .val (.ref x4), .val (.ref x5), .val (.ref q), .val (.ref b7), .val (.ref b9), .val (.ref b11), .val (.ref b11), .unset] [(.ref q), (.ref b7)]))
              obtain ⟨cq25, kq25, q25a, q25b, q25c⟩ := isOf hZ rfl E_b7
              obtain ⟨_, _, ⟨T25, L25, k25, n25⟩, -, X25, ⟨Lc25, hQ25, l25, y25, z25⟩, st25⟩ := X24.virtualBack hx (y := (⟨"com/example/ranked_settings/rankedsettings/LookupPlans", "get", "(Ljava/lang/String;)Lcom/example/ranked_settings/rankedsettings/LookupPlans$Plan;"⟩ : MethodName)) (z := (⟨"com/example/ranked_settings/rankedsettings/LookupPlans", "get", "(Ljava/lang/String;)Lcom/example/ranked_settings/rankedsettings/LookupPlans$Plan;"⟩ : MethodName)) hown (mvT hZ (hw _ (List.mem_of_getElem? (i := 68) rfl))) (mvT hZ (hw _ (List.mem_of_getElem? (i := 69) rfl))) (notFace_of_selects (args := #[]) (mvT hZ (hw _ (List.mem_of_getElem? (i := 71) rfl)))) (mvT hZ (hw _ (List.mem_of_getElem? (i := 71) rfl))) (mvT hZ (hw _ (List.mem_of_getElem? (i := 70) rfl))) (by decide) (backOf (W := 0) (rmG1 l Z a0 hw [] b7 b k_b [(own_sl vs_x5, .ref b11), (own_sl vs_x4, .ref b9)] q t_q kb_q nn_q vs_q G1 csq b11 x5 t_x5 kb_x5 nn_x5 vs_x5 (own_cs p0 nl) T24.heap n0 Od S_CS nz_CS E_q V_q C_q K_q hp_q F_hash_q F_hashIsZero_q ge_q F_slots E_b7 T_b E_b11 FN12 E_x5 V_x5 C_x5 K_x5 hp_x5 ne_x5_q (getH_hit (own_slb _).1 rfl) (fun i q1 q2 => getH_miss q1 q2 (getH_miss q1 (fun q3 => q2 (q3.trans (congrArg own_sl (own_op.vs hp_x4 hp_x5)))) rfl))) hZ (hw _ (List.mem_of_getElem? (i := 72) rfl)) (hw _ (List.mem_of_getElem? (i := 39) rfl)) (by decide) (by decide)) q25a q25c (g := (mkF m 182 #[.val (.int p0), .val (.int p1), .val (.int p2), .val (.int nl), .val (.int ql), .val (.int k1), .val (.int k2), .val (.int k3), .val (.ref x4), .val (.ref x5), .val (.ref q), .val (.ref b7), .val (.ref b9), .val (.ref b11), .val (.ref b11), .unset] [(.ref q), (.ref b7)])) rfl (by rw [hml]; rfl) (Steps.refl _) (argsL := [(.ref q)]) (rest := []) (lenOf pd_28Ljava2flang2fString3b29Lcom2fexample2franked_settings2frankedsettings2fLookupPlans24Plan3b rfl) rfl (by show 2 * 0 + _ ≤ _; exact Nat.le_of_eq rfl) (hb hby at_182) (fun _ _ => ⟨rfl, rfl, Nat.le_of_ble_eq_true rfl, Nat.le_of_ble_eq_true rfl⟩)
              dsimp only [Pt.U, Pt.locs, Pt.cells, Pt.slots] at X25 l25 y25 z25 st25 hQ25
              subst l25 y25 z25
              obtain ⟨res, rfl, hrf, hr1, hr2, N25q, K25, V25x, C25x⟩ := hQ25
              have N25 := Fr.app N24 N25q
              have ne_t_x4_q : t_x4 ≠ q := (Ne.symm (Exa.neArv E_q K_x4 (hw _ (List.mem_of_getElem? (i := 5) rfl))))
              have ne_t_x5_q : t_x5 ≠ q := (Ne.symm (Exa.neArv E_q K_x5 (hw _ (List.mem_of_getElem? (i := 5) rfl))))
              have ne_t_q_q : t_q ≠ q := (Ne.symm (Exa.neArv E_q K_q (hw _ (List.mem_of_getElem? (i := 5) rfl))))
              have sfk25 : ∀ x ∈ ([q] : List Addr), Safe Z consts_1 vmU6 T24.heap x := (allS sf_q all0)
              replace hk := Nat.le_trans hk K25.1
              replace Od := Od.keep K25 (allS ge_q all0)
              replace E_x4 := E_x4.keep K25
              replace K_x4 := K_x4.keep K25 (ninS ne_t_x4_q nin0)
              replace sf_x4 := Safe.keep K25 sfk25 CR.1 sf_x4
              replace E_x5 := E_x5.keep K25
              replace K_x5 := K_x5.keep K25 (ninS ne_t_x5_q nin0)
              replace sf_x5 := Safe.keep K25 sfk25 CR.1 sf_x5
              replace E_q := E_q.keep K25
              replace K_q := K_q.keep K25 (ninS ne_t_q_q nin0)
              replace sf_q := Safe.keep K25 sfk25 CR.1 sf_q
              replace sf_b7 := Safe.keep K25 sfk25 CR.1 sf_b7
              replace E_b7 := E_b7.keep K25
              replace F_slots := F_slots.keep K25 (ninS (Ne.symm ne_q_b7) nin0)
              replace sf_b9 := Safe.keep K25 sfk25 CR.1 sf_b9
              replace E_b9 := E_b9.keep K25
              replace FN10 := FN10.keep K25 (ninS (Ne.symm ne_q_b9) nin0)
              replace sf_b11 := Safe.keep K25 sfk25 CR.1 sf_b11
              replace E_b11 := E_b11.keep K25
              replace FN12 := FN12.keep K25 (ninS (Ne.symm ne_q_b11) nin0)
              replace V_x4 := V_x4.keep K25 (ninS ne_x4_q nin0)
              replace C_x4 := C_x4.keep K25 (ninS ne_x4_q nin0)
              replace V_x5 := V_x5.keep K25 (ninS ne_x5_q nin0)
              replace C_x5 := C_x5.keep K25 (ninS ne_x5_q nin0)
              replace T_b := T_b.keep K25 (ninS (Ne.symm ne_q_b) nin0)
              replace CR := CR.trans (CHr.keep K25 sfk25 CR.1)
              replace V_q := V25x
              replace C_q := C25x
              refine OEndsW.via (fun _ k_ => st25.trans k_) ?_
              show OEndsW p e below s _ _ _ _ _ (T25.setTop (mkF m 185 #[.val (.int p0), .val (.int p1), .val (.int p2), .val (.int nl), .val (.int ql), .val (.int k1), .val (.int k2), .val (.int k3), .val (.ref x4), .val (.ref x5), .val (.ref q), .val (.ref b7), .val (.ref b9), .val (.ref b11), .val (.ref b11), .unset] [res]))
              refine OEndsW.via (fun _ k_ => XS.astore X25.here hx rfl (hb hby at_185) rfl hrf (l' := #[.val (.int p0), .val (.int p1), .val (.int p2), .val (.int nl), .val (.int ql), .val (.int k1), .val (.int k2), .val (.int k3), .val (.ref x4), .val (.ref x5), .val (.ref q), .val (.ref b7), .val (.ref b9), .val (.ref b11), .val (.ref b11), .val res]) (by rcases ref_cases hrf with rfl | ⟨_, rfl⟩ <;> rfl) k_) ?_
              show OEndsW p e below s _ _ _ _ _ (T25.setTop (mkF m 187 #[.val (.int p0), .val (.int p1), .val (.int p2), .val (.int nl), .val (.int ql), .val (.int k1), .val (.int k2), .val (.int k3), .val (.ref x4), .val (.ref x5), .val (.ref q), .val (.ref b7), .val (.ref b9), .val (.ref b11), .val (.ref b11), .val res] []))
              refine OEndsW.via (fun _ k_ => XS.aload X25.here hx rfl (hb hby at_187) rfl rfl k_) ?_
              show OEndsW p e below s _ _ _ _ _ (T25.setTop (mkF m 189 #[.val (.int p0), .val (.int p1), .val (.int p2), .val (.int nl), .val (.int ql), .val (.int k1), .val (.int k2), .val (.int k3), .val (.ref x4), .val (.ref x5), .val (.ref q), .val (.ref b7), .val (.ref b9), .val (.ref b11), .val (.ref b11), .val res] [(.ref q)]))
              refine OEndsW.via (fun _ k_ => XS.aload X25.here hx rfl (hb hby at_189) rfl rfl k_) ?_
              show OEndsW p e below s _ _ _ _ _ (T25.setTop (mkF m 191 #[.val (.int p0), .val (.int p1), .val (.int p2), .val (.int nl), .val (.int ql), .val (.int k1), .val (.int k2), .val (.int k3), .val (.ref x4), .val (.ref x5), .val (.ref q), .val (.ref b7), .val (.ref b9), .val (.ref b11), .val (.ref b11), .val res] [(.ref x4), (.ref q)]))
              obtain ⟨cq26, kq26, q26a, q26b, q26c⟩ := isOf hZ rfl E_q
              obtain ⟨_, _, ⟨T26, L26, k26, n26⟩, -, X26, ⟨Lc26, hQ26, l26, y26, z26⟩, st26⟩ := X25.virtualBack hx (y := (⟨"java/lang/String", "equals", "(Ljava/lang/Object;)Z"⟩ : MethodName)) (z := (⟨"java/lang/String", "equals", "(Ljava/lang/Object;)Z"⟩ : MethodName)) hown (mvT hZ (hw _ (List.mem_of_getElem? (i := 94) rfl))) (mvT hZ (hw _ (List.mem_of_getElem? (i := 95) rfl))) (notFace_of_selects (args := #[]) (mvT hZ (hw _ (List.mem_of_getElem? (i := 97) rfl)))) (mvT hZ (hw _ (List.mem_of_getElem? (i := 97) rfl))) (mvT hZ (hw _ (List.mem_of_getElem? (i := 96) rfl))) (by decide) (StrChars.Road.eqW (W := 0) hZ heq (kI := 4) (hw _ (List.mem_of_getElem? (i := 5) rfl)) E_q V_q C_q K_q hp_q.1 hp_q.2.2.2.1 hp_q.le E_x4 V_x4 C_x4 K_x4 hp_x4.1 hp_x4.2.2.2.1 hp_x4.le (Sta.ext Od.2 S_CS) nz_CS (by decide) (by decide)) q26a q26c (g := (mkF m 191 #[.val (.int p0), .val (.int p1), .val (.int p2), .val (.int nl), .val (.int ql), .val (.int k1), .val (.int k2), .val (.int k3), .val (.ref x4), .val (.ref x5), .val (.ref q), .val (.ref b7), .val (.ref b9), .val (.ref b11), .val (.ref b11), .val res] [(.ref x4), (.ref q)])) rfl (by rw [hml]; rfl) (Steps.refl _) (argsL := [(.ref x4)]) (rest := []) (lenOf pd_28Ljava2flang2fObject3b29Z rfl) rfl (by show 2 * 0 + _ ≤ _; exact Nat.le_of_eq rfl) (hb hby at_191) (fun _ _ => ⟨rfl, rfl, Nat.le_of_ble_eq_true rfl, Nat.le_of_ble_eq_true rfl⟩)
              dsimp only [Pt.U, Pt.locs, Pt.cells, Pt.slots] at X26 l26 y26 z26 st26 hQ26
              subst l26 y26 z26
              obtain ⟨hcase26, rfl, e26⟩ := hQ26
              have N26 := Fr.app N25 (Fr.nil n0)
              rcases hcase26 with ⟨hv26, heq26⟩ | ⟨hv26, heq26⟩
              · subst hv26
                obtain rfl := hr1 heq26
                refine OEndsW.via (fun _ k_ => st26.trans k_) ?_
                show OEndsW p e below s _ _ _ _ _ (T26.setTop (mkF m 194 #[.val (.int p0), .val (.int p1), .val (.int p2), .val (.int nl), .val (.int ql), .val (.int k1), .val (.int k2), .val (.int k3), .val (.ref x4), .val (.ref x5), .val (.ref q), .val (.ref b7), .val (.ref b9), .val (.ref b11), .val (.ref b11), .val (.ref b11)] [(.int (1 : Int32))]))
                refine OEndsW.via (fun _ k_ => XS.ifNo X26.here hx rfl (hb hby at_194) rfl ((if0 _ _).trans (feq (by decide : ¬ ((1 : Int32) = (0 : Int32)))).1) k_) ?_
                show OEndsW p e below s _ _ _ _ _ (T26.setTop (mkF m 197 #[.val (.int p0), .val (.int p1), .val (.int p2), .val (.int nl), .val (.int ql), .val (.int k1), .val (.int k2), .val (.int k3), .val (.ref x4), .val (.ref x5), .val (.ref q), .val (.ref b7), .val (.ref b9), .val (.ref b11), .val (.ref b11), .val (.ref b11)] []))
                refine OEndsW.via (fun _ k_ => XS.aload X26.here hx rfl (hb hby at_197) rfl rfl k_) ?_
                show OEndsW p e below s _ _ _ _ _ (T26.setTop (mkF m 199 #[.val (.int p0), .val (.int p1), .val (.int p2), .val (.int nl), .val (.int ql), .val (.int k1), .val (.int k2), .val (.int k3), .val (.ref x4), .val (.ref x5), .val (.ref q), .val (.ref b7), .val (.ref b9), .val (.ref b11), .val (.ref b11), .val (.ref b11)] [(.ref b11)]))
                refine OEndsW.via (fun _ k_ => XS.aload X26.here hx rfl (hb hby at_199) rfl rfl k_) ?_
                show OEndsW p e below s _ _ _ _ _ (T26.setTop (mkF m 201 #[.val (.int p0), .val (.int p1), .val (.int p2), .val (.int nl), .val (.int ql), .val (.int k1), .val (.int k2), .val (.int k3), .val (.ref x4), .val (.ref x5), .val (.ref q), .val (.ref b7), .val (.ref b9), .val (.ref b11), .val (.ref b11), .val (.ref b11)] [(.ref b11), (.ref b11)]))
                refine OEndsW.via (fun _ k_ => Jvm.RoadKit.acmp (g := (mkF m 201 #[.val (.int p0), .val (.int p1), .val (.int p2), .val (.int nl), .val (.int ql), .val (.int k1), .val (.int k2), .val (.int k3), .val (.ref x4), .val (.ref x5), .val (.ref q), .val (.ref b7), .val (.ref b9), .val (.ref b11), .val (.ref b11), .val (.ref b11)] [(.ref b11), (.ref b11)])) X26 hx rfl rfl rfl (pc0 := 201) (pc' := 204) (same := true) rfl (hb hby at_201) rfl (decide_eq_true rfl) (by decide) (by decide) k_) ?_
                show OEndsW p e below s _ _ _ _ _ (T26.setTop (mkF m 204 #[.val (.int p0), .val (.int p1), .val (.int p2), .val (.int nl), .val (.int ql), .val (.int k1), .val (.int k2), .val (.int k3), .val (.ref x4), .val (.ref x5), .val (.ref q), .val (.ref b7), .val (.ref b9), .val (.ref b11), .val (.ref b11), .val (.ref b11)] []))
                refine OEndsW.via (fun _ k_ => XS.iconst X26.here hx rfl (hb hby at_204) k_) ?_
                show OEndsW p e below s _ _ _ _ _ (T26.setTop (mkF m 205 #[.val (.int p0), .val (.int p1), .val (.int p2), .val (.int nl), .val (.int ql), .val (.int k1), .val (.int k2), .val (.int k3), .val (.ref x4), .val (.ref x5), .val (.ref q), .val (.ref b7), .val (.ref b9), .val (.ref b11), .val (.ref b11), .val (.ref b11)] [(.int (1 : Int32))]))
                refine OEndsW.via (fun _ k_ => XS.goto X26.here hx rfl (pc0 := 205) (pc' := 209) rfl (hb hby at_205) (by decide) (by decide) k_) ?_
                show OEndsW p e below s _ _ _ _ _ (T26.setTop (mkF m 209 #[.val (.int p0), .val (.int p1), .val (.int p2), .val (.int nl), .val (.int ql), .val (.int k1), .val (.int k2), .val (.int k3), .val (.ref x4), .val (.ref x5), .val (.ref q), .val (.ref b7), .val (.ref b9), .val (.ref b11), .val (.ref b11), .val (.ref b11)] [(.int (1 : Int32))]))
                refine OEndsW.retN X26 hx hlk hS hk hZ hEL e26 es CR (t := .boolean) Bd.returns (by simp) (hb hby at_209) ?_ (by decide) (by decide)
                exact ⟨rfl, N26⟩
              · subst hv26
                obtain rfl := hr2 heq26
                refine OEndsW.via (fun _ k_ => st26.trans k_) ?_
                show OEndsW p e below s _ _ _ _ _ (T26.setTop (mkF m 194 #[.val (.int p0), .val (.int p1), .val (.int p2), .val (.int nl), .val (.int ql), .val (.int k1), .val (.int k2), .val (.int k3), .val (.ref x4), .val (.ref x5), .val (.ref q), .val (.ref b7), .val (.ref b9), .val (.ref b11), .val (.ref b11), .val .null] [(.int (0 : Int32))]))
                refine OEndsW.via (fun _ k_ => XS.ifYes X26.here hx rfl (pc0 := 194) (pc' := 210) rfl (hb hby at_194) rfl ((if0 _ _).trans (teq (by decide : (0 : Int32) = (0 : Int32))).1) (by decide) (by decide) k_) ?_
                show OEndsW p e below s _ _ _ _ _ (T26.setTop (mkF m 210 #[.val (.int p0), .val (.int p1), .val (.int p2), .val (.int nl), .val (.int ql), .val (.int k1), .val (.int k2), .val (.int k3), .val (.ref x4), .val (.ref x5), .val (.ref q), .val (.ref b7), .val (.ref b9), .val (.ref b11), .val (.ref b11), .val .null] []))
                refine OEndsW.via (fun _ k_ => XS.aload X26.here hx rfl (hb hby at_210) rfl rfl k_) ?_
                show OEndsW p e below s _ _ _ _ _ (T26.setTop (mkF m 212 #[.val (.int p0), .val (.int p1), .val (.int p2), .val (.int nl), .val (.int ql), .val (.int k1), .val (.int k2), .val (.int k3), .val (.ref x4), .val (.ref x5), .val (.ref q), .val (.ref b7), .val (.ref b9), .val (.ref b11), .val (.ref b11), .val .null] [.null]))
                refine OEndsW.via (fun _ k_ => XS.ifnonnullNo X26.here hx rfl (hb hby at_212) rfl k_) ?_
                show OEndsW p e below s _ _ _ _ _ (T26.setTop (mkF m 215 #[.val (.int p0), .val (.int p1), .val (.int p2), .val (.int nl), .val (.int ql), .val (.int k1), .val (.int k2), .val (.int k3), .val (.ref x4), .val (.ref x5), .val (.ref q), .val (.ref b7), .val (.ref b9), .val (.ref b11), .val (.ref b11), .val .null] []))
                refine OEndsW.via (fun _ k_ => XS.iconst X26.here hx rfl (hb hby at_215) k_) ?_
                show OEndsW p e below s _ _ _ _ _ (T26.setTop (mkF m 216 #[.val (.int p0), .val (.int p1), .val (.int p2), .val (.int nl), .val (.int ql), .val (.int k1), .val (.int k2), .val (.int k3), .val (.ref x4), .val (.ref x5), .val (.ref q), .val (.ref b7), .val (.ref b9), .val (.ref b11), .val (.ref b11), .val .null] [(.int (1 : Int32))]))
                refine OEndsW.via (fun _ k_ => XS.goto X26.here hx rfl (pc0 := 216) (pc' := 220) rfl (hb hby at_216) (by decide) (by decide) k_) ?_
                show OEndsW p e below s _ _ _ _ _ (T26.setTop (mkF m 220 #[.val (.int p0), .val (.int p1), .val (.int p2), .val (.int nl), .val (.int ql), .val (.int k1), .val (.int k2), .val (.int k3), .val (.ref x4), .val (.ref x5), .val (.ref q), .val (.ref b7), .val (.ref b9), .val (.ref b11), .val (.ref b11), .val .null] [(.int (1 : Int32))]))
                refine OEndsW.retN X26 hx hlk hS hk hZ hEL e26 es CR (t := .boolean) Bd.returns (by simp) (hb hby at_220) ?_ (by decide) (by decide)
                exact ⟨rfl, N26⟩
        by_cases hc73_26 : k3 = (0 : Int32)
        · skip
          refine OEndsW.via (fun _ k_ => XS.ifYes X5.here hx rfl (pc0 := 73) (pc' := 84) rfl (hb hby at_73) rfl ((if0 _ _).trans (teq hc73_26).1) (by decide) (by decide) k_) ?_
          show OEndsW p e below s _ _ _ _ _ (T5.setTop (mkF m 84 #[.val (.int p0), .val (.int p1), .val (.int p2), .val (.int nl), .val (.int ql), .val (.int k1), .val (.int k2), .val (.int k3), .val (.ref x4), .val (.ref x5), .unset, .unset, .unset, .unset, .unset, .unset] []))
          refine OEndsW.via (fun _ k_ => XS.iloadN X5.here hx rfl (hb hby at_84) rfl k_) ?_
          show OEndsW p e below s _ _ _ _ _ (T5.setTop (mkF m 85 #[.val (.int p0), .val (.int p1), .val (.int p2), .val (.int nl), .val (.int ql), .val (.int k1), .val (.int k2), .val (.int k3), .val (.ref x4), .val (.ref x5), .unset, .unset, .unset, .unset, .unset, .unset] [(.int p1)]))
          refine OEndsW.via (fun _ k_ => XS.iload X5.here hx rfl (hb hby at_85) rfl k_) ?_
          show OEndsW p e below s _ _ _ _ _ (T5.setTop (mkF m 87 #[.val (.int p0), .val (.int p1), .val (.int p2), .val (.int nl), .val (.int ql), .val (.int k1), .val (.int k2), .val (.int k3), .val (.ref x4), .val (.ref x5), .unset, .unset, .unset, .unset, .unset, .unset] [(.int ql), (.int p1)]))
          obtain ⟨_, _, ⟨T28, L28, k28, n28⟩, -, X28, S28, G28, ⟨Lc28, hQ28, l28, y28, z28, CH28⟩, st28⟩ := callSS X5 hx (y := (⟨"com/example/ranked_settings/rankedsettings/LookupPlansGetPinLaw", "str", "(II)Ljava/lang/String;"⟩ : MethodName)) hown (mvT hZ (hw _ (List.mem_of_getElem? (i := 0) rfl))) (mvT hZ (hw _ (List.mem_of_getElem? (i := 1) rfl))) (mvT hZ (hw _ (List.mem_of_getElem? (i := 2) rfl))) (mvT hZ (hw _ (List.mem_of_getElem? (i := 3) rfl))) (by decide) (own_backOfSV (W := 0) (rmS l Z a0 hw [] p1 ql G1 T5.heap n0 Od S_CS nz_CS) hZ (hw _ (List.mem_of_getElem? (i := 3) rfl)) (hw _ (List.mem_of_getElem? (i := 2) rfl)) (by decide) (by decide) hEL CR.1) (g := (mkF m 87 #[.val (.int p0), .val (.int p1), .val (.int p2), .val (.int nl), .val (.int ql), .val (.int k1), .val (.int k2), .val (.int k3), .val (.ref x4), .val (.ref x5), .unset, .unset, .unset, .unset, .unset, .unset] [(.int ql), (.int p1)])) rfl (by rw [hml]; rfl) (argsL := [(.int p1), (.int ql)]) (rest := []) (lenOf pd_28II29Ljava2flang2fString3b rfl) rfl (by show 2 * 0 + _ ≤ _; exact Nat.le_of_eq rfl) (hb hby at_87) (fun _ _ => ⟨rfl, rfl, Nat.le_of_ble_eq_true rfl, Nat.le_of_ble_eq_true rfl⟩)
          dsimp only [Pt.U, Pt.locs, Pt.cells, Pt.slots] at X28 S28 G28 l28 y28 z28 st28 hQ28 CH28
          subst l28 y28 z28
          replace sf_x4 := CH28.safe E_x4.lt sf_x4
          replace sf_x5 := CH28.safe E_x5.lt sf_x5
          obtain ⟨X28, hS, hZ, hown⟩ := rebS hS hk X28 S28 G28 hZ hown
          replace CR := CR.trans CH28
          replace hk := Nat.le_refl T28.heap.size
          obtain ⟨x28, t_x28, kb_x28, nn_x28, vs_x28, rfl, N28q, K28, ge_x28, sz28, sf_x28, E_x28, V_x28, C_x28, K_x28, hp_x28, F_hash_x28, F_hashIsZero_x28⟩ := hQ28
          have N28 := Fr.app N5 N28q
          have ne_x4_x28 : x4 ≠ x28 := Nat.ne_of_lt (Nat.lt_of_lt_of_le E_x4.lt sz28)
          have ne_t_x4_x28 : t_x4 ≠ x28 := Nat.ne_of_lt (Nat.lt_of_lt_of_le K_x4.lt sz28)
          have ne_x5_x28 : x5 ≠ x28 := Nat.ne_of_lt (Nat.lt_of_lt_of_le E_x5.lt sz28)
          have ne_t_x5_x28 : t_x5 ≠ x28 := Nat.ne_of_lt (Nat.lt_of_lt_of_le K_x5.lt sz28)
          replace Od := Od.keep K28 all0
          replace E_x4 := E_x4.keep K28
          replace V_x4 := V_x4.keep K28 nin0
          replace C_x4 := C_x4.keep K28 nin0
          replace K_x4 := K_x4.keep K28 nin0
          replace F_hash_x4 := F_hash_x4.keep K28 nin0
          replace F_hashIsZero_x4 := F_hashIsZero_x4.keep K28 nin0
          replace E_x5 := E_x5.keep K28
          replace V_x5 := V_x5.keep K28 nin0
          replace C_x5 := C_x5.keep K28 nin0
          replace K_x5 := K_x5.keep K28 nin0
          replace F_hash_x5 := F_hash_x5.keep K28 nin0
          replace F_hashIsZero_x5 := F_hashIsZero_x5.keep K28 nin0
          refine OEndsW.via (fun _ k_ => st28.trans k_) ?_
          show OEndsW p e below s _ _ _ _ _ (T28.setTop (mkF m 90 #[.val (.int p0), .val (.int p1), .val (.int p2), .val (.int nl), .val (.int ql), .val (.int k1), .val (.int k2), .val (.int k3), .val (.ref x4), .val (.ref x5), .unset, .unset, .unset, .unset, .unset, .unset] [(.ref x28)]))
          exact J6 _ _ _ _ _ (X28.more (by decide) (by decide)) rfl N28 hS hk hZ hown CR Od E_x4 V_x4 C_x4 K_x4 F_hash_x4 F_hashIsZero_x4 sf_x4 E_x5 V_x5 C_x5 K_x5 F_hash_x5 F_hashIsZero_x5 sf_x5 x28 t_x28 kb_x28 nn_x28 vs_x28 _ E_x28 V_x28 C_x28 K_x28 hp_x28 F_hash_x28 F_hashIsZero_x28 ge_x28 sf_x28 ne_x4_x28 ne_x5_x28
        · skip
          refine OEndsW.via (fun _ k_ => XS.ifNo X5.here hx rfl (hb hby at_73) rfl ((if0 _ _).trans (feq hc73_26).1) k_) ?_
          show OEndsW p e below s _ _ _ _ _ (T5.setTop (mkF m 76 #[.val (.int p0), .val (.int p1), .val (.int p2), .val (.int nl), .val (.int ql), .val (.int k1), .val (.int k2), .val (.int k3), .val (.ref x4), .val (.ref x5), .unset, .unset, .unset, .unset, .unset, .unset] []))
          refine OEndsW.via (fun _ k_ => XS.iloadN X5.here hx rfl (hb hby at_76) rfl k_) ?_
          show OEndsW p e below s _ _ _ _ _ (T5.setTop (mkF m 77 #[.val (.int p0), .val (.int p1), .val (.int p2), .val (.int nl), .val (.int ql), .val (.int k1), .val (.int k2), .val (.int k3), .val (.ref x4), .val (.ref x5), .unset, .unset, .unset, .unset, .unset, .unset] [(.int p0)]))
          refine OEndsW.via (fun _ k_ => XS.iloadN X5.here hx rfl (hb hby at_77) rfl k_) ?_
          show OEndsW p e below s _ _ _ _ _ (T5.setTop (mkF m 78 #[.val (.int p0), .val (.int p1), .val (.int p2), .val (.int nl), .val (.int ql), .val (.int k1), .val (.int k2), .val (.int k3), .val (.ref x4), .val (.ref x5), .unset, .unset, .unset, .unset, .unset, .unset] [(.int nl), (.int p0)]))
          obtain ⟨_, _, ⟨T29, L29, k29, n29⟩, -, X29, S29, G29, ⟨Lc29, hQ29, l29, y29, z29, CH29⟩, st29⟩ := callSS X5 hx (y := (⟨"com/example/ranked_settings/rankedsettings/LookupPlansGetPinLaw", "str", "(II)Ljava/lang/String;"⟩ : MethodName)) hown (mvT hZ (hw _ (List.mem_of_getElem? (i := 0) rfl))) (mvT hZ (hw _ (List.mem_of_getElem? (i := 1) rfl))) (mvT hZ (hw _ (List.mem_of_getElem? (i := 2) rfl))) (mvT hZ (hw _ (List.mem_of_getElem? (i := 3) rfl))) (by decide) (own_backOfSV (W := 0) (rmS l Z a0 hw [] p0 nl G1 T5.heap n0 Od S_CS nz_CS) hZ (hw _ (List.mem_of_getElem? (i := 3) rfl)) (hw _ (List.mem_of_getElem? (i := 2) rfl)) (by decide) (by decide) hEL CR.1) (g := (mkF m 78 #[.val (.int p0), .val (.int p1), .val (.int p2), .val (.int nl), .val (.int ql), .val (.int k1), .val (.int k2), .val (.int k3), .val (.ref x4), .val (.ref x5), .unset, .unset, .unset, .unset, .unset, .unset] [(.int nl), (.int p0)])) rfl (by rw [hml]; rfl) (argsL := [(.int p0), (.int nl)]) (rest := []) (lenOf pd_28II29Ljava2flang2fString3b rfl) rfl (by show 2 * 0 + _ ≤ _; exact Nat.le_of_eq rfl) (hb hby at_78) (fun _ _ => ⟨rfl, rfl, Nat.le_of_ble_eq_true rfl, Nat.le_of_ble_eq_true rfl⟩)
          dsimp only [Pt.U, Pt.locs, Pt.cells, Pt.slots] at X29 S29 G29 l29 y29 z29 st29 hQ29 CH29
          subst l29 y29 z29
          replace sf_x4 := CH29.safe E_x4.lt sf_x4
          replace sf_x5 := CH29.safe E_x5.lt sf_x5
          obtain ⟨X29, hS, hZ, hown⟩ := rebS hS hk X29 S29 G29 hZ hown
          replace CR := CR.trans CH29
          replace hk := Nat.le_refl T29.heap.size
          obtain ⟨x29, t_x29, kb_x29, nn_x29, vs_x29, rfl, N29q, K29, ge_x29, sz29, sf_x29, E_x29, V_x29, C_x29, K_x29, hp_x29, F_hash_x29, F_hashIsZero_x29⟩ := hQ29
          have N29 := Fr.app N5 N29q
          have ne_x4_x29 : x4 ≠ x29 := Nat.ne_of_lt (Nat.lt_of_lt_of_le E_x4.lt sz29)
          have ne_t_x4_x29 : t_x4 ≠ x29 := Nat.ne_of_lt (Nat.lt_of_lt_of_le K_x4.lt sz29)
          have ne_x5_x29 : x5 ≠ x29 := Nat.ne_of_lt (Nat.lt_of_lt_of_le E_x5.lt sz29)
          have ne_t_x5_x29 : t_x5 ≠ x29 := Nat.ne_of_lt (Nat.lt_of_lt_of_le K_x5.lt sz29)
          replace Od := Od.keep K29 all0
          replace E_x4 := E_x4.keep K29
          replace V_x4 := V_x4.keep K29 nin0
          replace C_x4 := C_x4.keep K29 nin0
          replace K_x4 := K_x4.keep K29 nin0
          replace F_hash_x4 := F_hash_x4.keep K29 nin0
          replace F_hashIsZero_x4 := F_hashIsZero_x4.keep K29 nin0
          replace E_x5 := E_x5.keep K29
          replace V_x5 := V_x5.keep K29 nin0
          replace C_x5 := C_x5.keep K29 nin0
          replace K_x5 := K_x5.keep K29 nin0
          replace F_hash_x5 := F_hash_x5.keep K29 nin0
          replace F_hashIsZero_x5 := F_hashIsZero_x5.keep K29 nin0
          refine OEndsW.via (fun _ k_ => st29.trans k_) ?_
          show OEndsW p e below s _ _ _ _ _ (T29.setTop (mkF m 81 #[.val (.int p0), .val (.int p1), .val (.int p2), .val (.int nl), .val (.int ql), .val (.int k1), .val (.int k2), .val (.int k3), .val (.ref x4), .val (.ref x5), .unset, .unset, .unset, .unset, .unset, .unset] [(.ref x29)]))
          refine OEndsW.via (fun _ k_ => XS.goto X29.here hx rfl (pc0 := 81) (pc' := 90) rfl (hb hby at_81) (by decide) (by decide) k_) ?_
          show OEndsW p e below s _ _ _ _ _ (T29.setTop (mkF m 90 #[.val (.int p0), .val (.int p1), .val (.int p2), .val (.int nl), .val (.int ql), .val (.int k1), .val (.int k2), .val (.int k3), .val (.ref x4), .val (.ref x5), .unset, .unset, .unset, .unset, .unset, .unset] [(.ref x29)]))
          exact J6 _ _ _ _ _ (X29.more (by decide) (by decide)) rfl N29 hS hk hZ hown CR Od E_x4 V_x4 C_x4 K_x4 F_hash_x4 F_hashIsZero_x4 sf_x4 E_x5 V_x5 C_x5 K_x5 F_hash_x5 F_hashIsZero_x5 sf_x5 x29 t_x29 kb_x29 nn_x29 vs_x29 _ E_x29 V_x29 C_x29 K_x29 hp_x29 F_hash_x29 F_hashIsZero_x29 ge_x29 sf_x29 ne_x4_x29 ne_x5_x29
      by_cases hc47_29 : (((p2.toUInt32 >>> ((6 : Int32) &&& 31).toUInt32).toInt32) &&& (1 : Int32)) = (0 : Int32)
      · skip
        refine OEndsW.via (fun _ k_ => XS.ifYes X0.here hx rfl (pc0 := 47) (pc' := 54) rfl (hb hby at_47) rfl ((if0 _ _).trans (teq hc47_29).1) (by decide) (by decide) k_) ?_
        show OEndsW p e below s _ _ _ _ _ (s₁.setTop (mkF m 54 #[.val (.int p0), .val (.int p1), .val (.int p2), .val (.int (p2 &&& (3 : Int32))), .val (.int (((p2.toUInt32 >>> ((2 : Int32) &&& 31).toUInt32).toInt32) &&& (3 : Int32))), .val (.int k1), .val (.int k2), .unset, .unset, .unset, .unset, .unset, .unset, .unset, .unset, .unset] []))
        refine OEndsW.via (fun _ k_ => XS.iconst X0.here hx rfl (hb hby at_54) k_) ?_
        show OEndsW p e below s _ _ _ _ _ (s₁.setTop (mkF m 55 #[.val (.int p0), .val (.int p1), .val (.int p2), .val (.int (p2 &&& (3 : Int32))), .val (.int (((p2.toUInt32 >>> ((2 : Int32) &&& 31).toUInt32).toInt32) &&& (3 : Int32))), .val (.int k1), .val (.int k2), .unset, .unset, .unset, .unset, .unset, .unset, .unset, .unset, .unset] [(.int (0 : Int32))]))
        exact J3 (0 : Int32)
      · skip
        refine OEndsW.via (fun _ k_ => XS.ifNo X0.here hx rfl (hb hby at_47) rfl ((if0 _ _).trans (feq hc47_29).1) k_) ?_
        show OEndsW p e below s _ _ _ _ _ (s₁.setTop (mkF m 50 #[.val (.int p0), .val (.int p1), .val (.int p2), .val (.int (p2 &&& (3 : Int32))), .val (.int (((p2.toUInt32 >>> ((2 : Int32) &&& 31).toUInt32).toInt32) &&& (3 : Int32))), .val (.int k1), .val (.int k2), .unset, .unset, .unset, .unset, .unset, .unset, .unset, .unset, .unset] []))
        refine OEndsW.via (fun _ k_ => XS.iconst X0.here hx rfl (hb hby at_50) k_) ?_
        show OEndsW p e below s _ _ _ _ _ (s₁.setTop (mkF m 51 #[.val (.int p0), .val (.int p1), .val (.int p2), .val (.int (p2 &&& (3 : Int32))), .val (.int (((p2.toUInt32 >>> ((2 : Int32) &&& 31).toUInt32).toInt32) &&& (3 : Int32))), .val (.int k1), .val (.int k2), .unset, .unset, .unset, .unset, .unset, .unset, .unset, .unset, .unset] [(.int (1 : Int32))]))
        refine OEndsW.via (fun _ k_ => XS.goto X0.here hx rfl (pc0 := 51) (pc' := 55) rfl (hb hby at_51) (by decide) (by decide) k_) ?_
        show OEndsW p e below s _ _ _ _ _ (s₁.setTop (mkF m 55 #[.val (.int p0), .val (.int p1), .val (.int p2), .val (.int (p2 &&& (3 : Int32))), .val (.int (((p2.toUInt32 >>> ((2 : Int32) &&& 31).toUInt32).toInt32) &&& (3 : Int32))), .val (.int k1), .val (.int k2), .unset, .unset, .unset, .unset, .unset, .unset, .unset, .unset, .unset] [(.int (1 : Int32))]))
        exact J3 (1 : Int32)
    by_cases hc31_30 : (((p2.toUInt32 >>> ((5 : Int32) &&& 31).toUInt32).toInt32) &&& (1 : Int32)) = (0 : Int32)
    · skip
      refine OEndsW.via (fun _ k_ => XS.ifYes X0.here hx rfl (pc0 := 31) (pc' := 38) rfl (hb hby at_31) rfl ((if0 _ _).trans (teq hc31_30).1) (by decide) (by decide) k_) ?_
      show OEndsW p e below s _ _ _ _ _ (s₁.setTop (mkF m 38 #[.val (.int p0), .val (.int p1), .val (.int p2), .val (.int (p2 &&& (3 : Int32))), .val (.int (((p2.toUInt32 >>> ((2 : Int32) &&& 31).toUInt32).toInt32) &&& (3 : Int32))), .val (.int k1), .unset, .unset, .unset, .unset, .unset, .unset, .unset, .unset, .unset, .unset] []))
      refine OEndsW.via (fun _ k_ => XS.iconst X0.here hx rfl (hb hby at_38) k_) ?_
      show OEndsW p e below s _ _ _ _ _ (s₁.setTop (mkF m 39 #[.val (.int p0), .val (.int p1), .val (.int p2), .val (.int (p2 &&& (3 : Int32))), .val (.int (((p2.toUInt32 >>> ((2 : Int32) &&& 31).toUInt32).toInt32) &&& (3 : Int32))), .val (.int k1), .unset, .unset, .unset, .unset, .unset, .unset, .unset, .unset, .unset, .unset] [(.int (0 : Int32))]))
      exact J2 (0 : Int32)
    · skip
      refine OEndsW.via (fun _ k_ => XS.ifNo X0.here hx rfl (hb hby at_31) rfl ((if0 _ _).trans (feq hc31_30).1) k_) ?_
      show OEndsW p e below s _ _ _ _ _ (s₁.setTop (mkF m 34 #[.val (.int p0), .val (.int p1), .val (.int p2), .val (.int (p2 &&& (3 : Int32))), .val (.int (((p2.toUInt32 >>> ((2 : Int32) &&& 31).toUInt32).toInt32) &&& (3 : Int32))), .val (.int k1), .unset, .unset, .unset, .unset, .unset, .unset, .unset, .unset, .unset, .unset] []))
      refine OEndsW.via (fun _ k_ => XS.iconst X0.here hx rfl (hb hby at_34) k_) ?_
      show OEndsW p e below s _ _ _ _ _ (s₁.setTop (mkF m 35 #[.val (.int p0), .val (.int p1), .val (.int p2), .val (.int (p2 &&& (3 : Int32))), .val (.int (((p2.toUInt32 >>> ((2 : Int32) &&& 31).toUInt32).toInt32) &&& (3 : Int32))), .val (.int k1), .unset, .unset, .unset, .unset, .unset, .unset, .unset, .unset, .unset, .unset] [(.int (1 : Int32))]))
      refine OEndsW.via (fun _ k_ => XS.goto X0.here hx rfl (pc0 := 35) (pc' := 39) rfl (hb hby at_35) (by decide) (by decide) k_) ?_
      show OEndsW p e below s _ _ _ _ _ (s₁.setTop (mkF m 39 #[.val (.int p0), .val (.int p1), .val (.int p2), .val (.int (p2 &&& (3 : Int32))), .val (.int (((p2.toUInt32 >>> ((2 : Int32) &&& 31).toUInt32).toInt32) &&& (3 : Int32))), .val (.int k1), .unset, .unset, .unset, .unset, .unset, .unset, .unset, .unset, .unset, .unset] [(.int (1 : Int32))]))
      exact J2 (1 : Int32)
  by_cases hc16_31 : (((p2.toUInt32 >>> ((4 : Int32) &&& 31).toUInt32).toInt32) &&& (1 : Int32)) = (0 : Int32)
  · skip
    refine OEndsW.via (fun _ k_ => XS.ifYes X0.here hx rfl (pc0 := 16) (pc' := 23) rfl (hb hby at_16) rfl ((if0 _ _).trans (teq hc16_31).1) (by decide) (by decide) k_) ?_
    show OEndsW p e below s _ _ _ _ _ (s₁.setTop (mkF m 23 #[.val (.int p0), .val (.int p1), .val (.int p2), .val (.int (p2 &&& (3 : Int32))), .val (.int (((p2.toUInt32 >>> ((2 : Int32) &&& 31).toUInt32).toInt32) &&& (3 : Int32))), .unset, .unset, .unset, .unset, .unset, .unset, .unset, .unset, .unset, .unset, .unset] []))
    refine OEndsW.via (fun _ k_ => XS.iconst X0.here hx rfl (hb hby at_23) k_) ?_
    show OEndsW p e below s _ _ _ _ _ (s₁.setTop (mkF m 24 #[.val (.int p0), .val (.int p1), .val (.int p2), .val (.int (p2 &&& (3 : Int32))), .val (.int (((p2.toUInt32 >>> ((2 : Int32) &&& 31).toUInt32).toInt32) &&& (3 : Int32))), .unset, .unset, .unset, .unset, .unset, .unset, .unset, .unset, .unset, .unset, .unset] [(.int (0 : Int32))]))
    exact J1 (0 : Int32)
  · skip
    refine OEndsW.via (fun _ k_ => XS.ifNo X0.here hx rfl (hb hby at_16) rfl ((if0 _ _).trans (feq hc16_31).1) k_) ?_
    show OEndsW p e below s _ _ _ _ _ (s₁.setTop (mkF m 19 #[.val (.int p0), .val (.int p1), .val (.int p2), .val (.int (p2 &&& (3 : Int32))), .val (.int (((p2.toUInt32 >>> ((2 : Int32) &&& 31).toUInt32).toInt32) &&& (3 : Int32))), .unset, .unset, .unset, .unset, .unset, .unset, .unset, .unset, .unset, .unset, .unset] []))
    refine OEndsW.via (fun _ k_ => XS.iconst X0.here hx rfl (hb hby at_19) k_) ?_
    show OEndsW p e below s _ _ _ _ _ (s₁.setTop (mkF m 20 #[.val (.int p0), .val (.int p1), .val (.int p2), .val (.int (p2 &&& (3 : Int32))), .val (.int (((p2.toUInt32 >>> ((2 : Int32) &&& 31).toUInt32).toInt32) &&& (3 : Int32))), .unset, .unset, .unset, .unset, .unset, .unset, .unset, .unset, .unset, .unset, .unset] [(.int (1 : Int32))]))
    refine OEndsW.via (fun _ k_ => XS.goto X0.here hx rfl (pc0 := 20) (pc' := 24) rfl (hb hby at_20) (by decide) (by decide) k_) ?_
    show OEndsW p e below s _ _ _ _ _ (s₁.setTop (mkF m 24 #[.val (.int p0), .val (.int p1), .val (.int p2), .val (.int (p2 &&& (3 : Int32))), .val (.int (((p2.toUInt32 >>> ((2 : Int32) &&& 31).toUInt32).toInt32) &&& (3 : Int32))), .unset, .unset, .unset, .unset, .unset, .unset, .unset, .unset, .unset, .unset, .unset] [(.int (1 : Int32))]))
    exact J1 (1 : Int32)
set_option maxRecDepth 65536 in
set_option maxHeartbeats 40000000 in
theorem comes_1 {Post : Tables → Env → Array Value → State → Outcome → State → Prop} (hpost : ∀ tb e args s v u, (limb_1_1.after args s (.returned v) u = true ∧ limb_1_2.after args s (.returned v) u = true ∧ True) → ReturnedEndW s (.returned v) u (Jvm.fieldLocs frame_1_writes args s ++ Jvm.arrayLocs frame_1_arrays args s ++ Jvm.staticLocs frame_1_statics s) 40 3264 → Post tb e args s (.returned v) u) :
    ArmFor flags0 classFile x code maxLocals ret World_1 tables_1 room_1 Calls_1 rest_1 Pre_1 Post := by
  intro l hfl _ _ p e ha hc hk s m args below hf hA hF happ hP
  obtain ⟨hcalls, hrest, hpre⟩ := hP
  obtain ⟨-, -, -, hnamed, -, -, -, hat⟩ := (Spec.applies_iff hf).mp happ
  obtain ⟨hg, hn⟩ := and_e (Cond.before_iff.mp (show (Jvm.Cond.and given_1 narrow_1).before args s = true from hpre))
  obtain ⟨g1, g2⟩ := and_e hg
  obtain ⟨g3, g4⟩ := and_e g2
  obtain ⟨g5, g6⟩ := and_e g4
  obtain ⟨w0, w1, w2, rfl⟩ : ∃ w0 w1 w2 : Value, args = #[w0, w1, w2] := by
    have hs : args.size = 3 := by simpa [Cond.value, given_1] using g1
    obtain ⟨L⟩ := args
    match L, hs with
    | [w0, w1, w2], _ => exact ⟨w0, w1, w2, rfl⟩
  have hw := fun d (hd : d ∈ tables_1) => atoms_spec (ws := Jvm.Cond.code x code maxLocals ret :: tables_1) hat d (List.mem_cons_of_mem _ hd)
  have hfit : Fit s := fun {y c} hc i hi => by
    obtain ⟨ha, rfl⟩ := Array.getElem?_eq_some_iff.mp hc
    have q := List.all_eq_true.mp ((Array.all_eq_true_iff_forall_mem.mp hF) _ (Array.getElem_mem ha)) i (List.mem_range.mpr hi)
    simpa [Array.getElem?_eq_getElem hi] using q
  obtain ⟨hsets, hown0⟩ := atoms_of _ (rest_1_c_eq ▸ (show rest_1_c.before _ s = true from hrest))
  have hr0 := Cond.before_iff.mp hown0
  obtain ⟨i0, ei0⟩ := is_v g3
  obtain rfl : w0 = (.int i0) := Option.some.inj ei0
  obtain ⟨i1, ei1⟩ := is_v g5
  obtain rfl : w1 = (.int i1) := Option.some.inj ei1
  obtain ⟨i2, ei2⟩ := is_v g6
  obtain rfl : w2 = (.int i2) := Option.some.inj ei2
  obtain ⟨a_COMPACT_STRINGS, ev_a_COMPACT_STRINGS⟩ := is_v (Cond.before_iff.mp (hsets _ (List.mem_of_getElem? (i := 1) rfl)))
  have S_a_COMPACT_STRINGS : Sta s s.heap "java/lang/String" "COMPACT_STRINGS" "Z" (.int a_COMPACT_STRINGS) := Sta.start ev_a_COMPACT_STRINGS (Or.inl (hsets _ (List.mem_of_getElem? (i := 0) rfl)))
  obtain ⟨a_SIOOBE_FORMATTER, ev_a_SIOOBE_FORMATTER, rf_a_SIOOBE_FORMATTER⟩ := isR_v (Cond.before_iff.mp (hsets _ (List.mem_of_getElem? (i := 8) rfl)))
  have S_a_SIOOBE_FORMATTER : Sta s s.heap "jdk/internal/util/Preconditions" "SIOOBE_FORMATTER" "Ljava/util/function/BiFunction;" a_SIOOBE_FORMATTER := Sta.start ev_a_SIOOBE_FORMATTER (Or.inl (hsets _ (List.mem_of_getElem? (i := 7) rfl)))
  have nz_a_COMPACT_STRINGS : ¬ (a_COMPACT_STRINGS = (0 : Int32)) := gotF (Cond.eq_ints ev_a_COMPACT_STRINGS (Term.int_eval (0))) (not_v (Cond.before_iff.mp (hsets _ (List.mem_of_getElem? (i := 2) rfl))))
  have hCH0 : CHv s consts_1 s.vm s.heap := CHv.start (own_EW hw) (fun p hp => hcalls.1 p hp) (hsets _ (List.mem_of_getElem? (i := 2) rfl)) (hw _ (List.mem_of_getElem? (i := 23) rfl)) (hw _ (List.mem_of_getElem? (i := 5) rfl))
  obtain ⟨n, o, h1, h2, h3, _, L, rfl, ⟨rfl, N⟩, -, hq⟩ := rm0 l s _ hw tables_1 i0 i1 i2 a_COMPACT_STRINGS s.heap s.heap.size (Old.start s) S_a_COMPACT_STRINGS nz_a_COMPACT_STRINGS p e ha hc hk s m _ below hf ((Spec.applies_iff_loose hf).mp happ).1 ⟨rfl, State.Warmed39.refl s, rfl, hCH0⟩ trivial
  refine ⟨n, _, h1, h2, h3, hpost _ _ _ _ _ _ ⟨Cond.after_iff.mpr rfl, Cond.after_iff.mpr (eq_i res_at (Term.int_eval (1)) rfl), trivial⟩ ⟨hq.1, hq.2.1, hq.2.2.1, (hq.2.2.2.sift fun y hy => Or.inr (N y hy)).mono (by decide) (by decide)⟩⟩
theorem main_1_1 : Claimed_1_1 := comes_1 fun _ _ _ _ _ _ h hF => ⟨h.1, hF⟩
theorem main_1_2 : Claimed_1_2 := comes_1 fun _ _ _ _ _ _ h hF => ⟨h.2.1, hF⟩
end Jvm.Pilot.@@N@@
namespace Jvm.Pilot.@@N@@
open Jvm Jvm.ClassFile Sem Op Lib Jvm.Free Jvm.Stand Jvm.Pilot.@@N@@.Jvm.D
/-! MADE BY PROGRAM (witnessworld.py) out of the Statement's table words and the real class files: 23 classes; the members and pool entries that the words name. The judged class is class 1, her method 2. -/
namespace start1
open Jvm.ClassFile
def u (s : String) : CpInfo := .utf8 (stringToUtf16 s)
/-- a pool by its gaps: so many unusable entries, then the entry; so many at the end -/
def gap : Nat → List CpInfo → List CpInfo
  | 0, r => r
  | n + 1, r => .unusable :: gap n r
def poolList (es : List (Nat × CpInfo)) (last : Nat) : List CpInfo := es.foldr (fun e r => gap e.1 (e.2 :: r)) (gap last [])
def pool (es : List (Nat × CpInfo)) (last : Nat) : Array CpInfo := ⟨poolList es last⟩
def fileOf (pool : Array CpInfo) (this : Nat) (attrs : Array Attribute := #[]) (ms : Array MethodInfo := #[]) (fl : Nat := 33) (sup : Nat := 0) (ifs : Array Nat := #[]) (fds : Array FieldInfo := #[]) : ClassFile where
  minorVersion := 0
  majorVersion := 65
  constantPool := pool
  accessFlags := fl
  thisClass := this
  superClass := sup
  interfaces := ifs
  fields := fds
  methods := ms
  attributes := attrs
def plain (name : String) (sup : Option ClassId) : Class where
  name := name
  kind := .ordinary
  loader := none
  accessFlags := 33
  super := sup
  interfaces := #[]
  cf := none
  fields := #[]
  methods := #[]
  instanceTypes := #[]
  staticTypes := #[]
  resolved := #[]
  callSites := []
  init := .initialized
  statics := none
  mirror := none

def pool0 : Array CpInfo := pool [(5, u "<init>"), (0, u "()V"), (1, .class_ 10), (1, u "java/lang/Object")] 113

def k0c0 : Code := { maxStack := 0, maxLocals := 1, code := object_method_1_code, exceptionTable := #[], attributes := #[] }
def k0m0 : Method := { name := "<init>", desc := "()V", sig := { parameters := [], returnType := none }, accessFlags := 1, code := some k0c0 }
/-- java/lang/Object -/
def k0 : Class := { plain "java/lang/Object" none with
  accessFlags := 33
  interfaces := #[]
  cf := some (fileOf pool0 8 #[] #[{ accessFlags := 1, nameIndex := 5, descriptorIndex := 6, attributes := #[] }] 33 0 #[] #[])
  fields := #[]
  methods := #[k0m0]
  instanceTypes := #[]
  staticTypes := #[]
  resolved := Array.replicate 124 none
  statics := none }

def pool1 : Array CpInfo := pool [(2, .class_ 4), (0, .nameAndType 5 6), (0, u "java/lang/Object"), (0, u "<init>"), (0, u "()V"), (0, .class_ 8), (0, u "java/lang/String"), (0, .methodref 7 10), (0, .nameAndType 5 11), (0, u "([C)V"), (0, .methodref 13 14), (0, .class_ 15), (0, .nameAndType 16 17), (0, u "com/example/ranked_settings/rankedsettings/LookupPlansGetPinLaw"), (0, u "str"), (0, u "(II)Ljava/lang/String;"), (0, .class_ 19), (0, u "com/example/ranked_settings/rankedsettings/LookupPlans"), (0, .methodref 18 3), (0, .class_ 22), (0, u "com/example/ranked_settings/rankedsettings/LookupPlans$Plan"), (0, .methodref 21 24), (0, .nameAndType 5 25), (0, u "(Ljava/lang/String;Ljava/lang/String;ILjava/lang/String;)V"), (0, .methodref 18 27), (0, .nameAndType 28 29), (0, u "keep"), (0, u "(Lcom/example/ranked_settings/rankedsettings/LookupPlans$Plan;)V"), (0, .methodref 18 31), (0, .nameAndType 32 33), (0, u "get"), (0, u "(Ljava/lang/String;)Lcom/example/ranked_settings/rankedsettings/LookupPlans$Plan;"), (0, .methodref 7 35), (0, .nameAndType 36 37), (0, u "equals"), (0, u "(Ljava/lang/Object;)Z"), (3, u "law"), (0, u "(III)Z")] 4

def k1m0 : Method := { name := "<init>", desc := "()V", sig := { parameters := [], returnType := none }, accessFlags := 1, code := none }
def k1c1 : Code := { maxStack := 6, maxLocals := 5, code := method_2_code, exceptionTable := #[], attributes := #[] }
def k1m1 : Method := { name := "str", desc := "(II)Ljava/lang/String;", sig := { parameters := [.int, .int], returnType := some (.object "java/lang/String") }, accessFlags := 10, code := some k1c1 }
def k1c2 : Code := { maxStack := 6, maxLocals := 16, code := code, exceptionTable := #[], attributes := #[] }
def k1m2 : Method := { name := "law", desc := "(III)Z", sig := { parameters := [.int, .int, .int], returnType := some .boolean }, accessFlags := 9, code := some k1c2 }
/-- com/example/ranked_settings/rankedsettings/LookupPlansGetPinLaw -/
def k1 : Class := { plain "com/example/ranked_settings/rankedsettings/LookupPlansGetPinLaw" (some 0) with
  accessFlags := 49
  interfaces := #[]
  cf := some (fileOf pool1 13 #[] #[{ accessFlags := 1, nameIndex := 5, descriptorIndex := 6, attributes := #[] }, { accessFlags := 10, nameIndex := 16, descriptorIndex := 17, attributes := #[] }, { accessFlags := 9, nameIndex := 41, descriptorIndex := 42, attributes := #[] }] 49 2 #[] #[])
  fields := #[]
  methods := #[k1m0, k1m1, k1m2]
  instanceTypes := #[]
  staticTypes := #[]
  resolved := Array.replicate 47 none
  statics := none }

def pool2 : Array CpInfo := pool [(1, .class_ 2), (0, u "java/io/Serializable"), (0, .class_ 4), (0, u "java/lang/Object")] 2

/-- java/io/Serializable -/
def k2 : Class := { plain "java/io/Serializable" (some 0) with
  accessFlags := 1537
  interfaces := #[]
  cf := some (fileOf pool2 1 #[] #[] 1537 3 #[] #[])
  fields := #[]
  methods := #[]
  instanceTypes := #[]
  staticTypes := #[]
  resolved := Array.replicate 7 none
  statics := none }

def pool3 : Array CpInfo := pool [(1, .class_ 2), (0, u "java/lang/Comparable"), (0, .class_ 4), (0, u "java/lang/Object")] 7

/-- java/lang/Comparable -/
def k3 : Class := { plain "java/lang/Comparable" (some 0) with
  accessFlags := 1537
  interfaces := #[]
  cf := some (fileOf pool3 1 #[] #[] 1537 3 #[] #[])
  fields := #[]
  methods := #[]
  instanceTypes := #[]
  staticTypes := #[]
  resolved := Array.replicate 12 none
  statics := none }

def pool4 : Array CpInfo := pool [(2, .class_ 4), (1, u "java/lang/CharSequence"), (42, .class_ 48), (0, u "java/lang/CharSequence$1CodePointIterator"), (10, .class_ 60), (0, u "java/lang/CharSequence$1CharIterator"), (5, .class_ 67), (0, u "java/lang/Object")] 63

/-- java/lang/CharSequence -/
def k4 : Class := { plain "java/lang/CharSequence" (some 0) with
  accessFlags := 1537
  interfaces := #[]
  cf := some (fileOf pool4 2 #[.nestMembers #[47, 59]] #[] 1537 66 #[] #[])
  fields := #[]
  methods := #[]
  instanceTypes := #[]
  staticTypes := #[]
  resolved := Array.replicate 131 none
  statics := none }

def pool5 : Array CpInfo := pool [(1, .class_ 2), (0, u "java/lang/constant/Constable"), (0, .class_ 4), (0, u "java/lang/Object")] 6

/-- java/lang/constant/Constable -/
def k5 : Class := { plain "java/lang/constant/Constable" (some 0) with
  accessFlags := 1537
  interfaces := #[]
  cf := some (fileOf pool5 1 #[] #[] 1537 3 #[] #[])
  fields := #[]
  methods := #[]
  instanceTypes := #[]
  staticTypes := #[]
  resolved := Array.replicate 11 none
  statics := none }

def pool6 : Array CpInfo := pool [(1, .class_ 2), (0, u "java/lang/constant/ConstantDesc"), (0, .class_ 4), (0, u "java/lang/Object")] 32

/-- java/lang/constant/ConstantDesc -/
def k6 : Class := { plain "java/lang/constant/ConstantDesc" (some 0) with
  accessFlags := 1537
  interfaces := #[]
  cf := some (fileOf pool6 1 #[] #[] 1537 3 #[] #[])
  fields := #[]
  methods := #[]
  instanceTypes := #[]
  staticTypes := #[]
  resolved := Array.replicate 37 none
  statics := none }

def pool7 : Array CpInfo := pool [(1, .methodref 2 3), (0, .class_ 4), (0, .nameAndType 5 6), (0, u "java/lang/Object"), (0, u "<init>"), (0, u "()V"), (0, .string 8), (0, u ""), (0, .fieldref 10 11), (0, .class_ 12), (0, .nameAndType 13 14), (0, u "java/lang/String"), (0, u "value"), (0, u "[B"), (0, .fieldref 10 16), (0, .nameAndType 17 18), (0, u "coder"), (0, u "B"), (0, .fieldref 10 20), (0, .nameAndType 21 22), (0, u "hash"), (0, u "I"), (0, .fieldref 10 24), (0, .nameAndType 25 26), (0, u "hashIsZero"), (0, u "Z"), (0, .methodref 10 28), (0, .nameAndType 5 29), (0, u "([CIILjava/lang/Void;)V"), (8, .fieldref 10 39), (0, .nameAndType 40 26), (0, u "COMPACT_STRINGS"), (1, .class_ 44), (1, u "java/lang/StringUTF16"), (0, u "compress"), (1, .methodref 42 48), (0, .nameAndType 49 50), (0, u "coderFromArrayLen"), (0, u "([BI)B"), (56, .class_ 109), (1, u "java/lang/StringLatin1"), (32, u "()Z"), (34, .methodref 42 178), (0, .nameAndType 45 179), (0, u "([CII)[B"), (154, u "()I"), (0, .methodref 10 336), (0, .nameAndType 17 337), (0, u "()B"), (154, .methodref 10 493), (0, .nameAndType 494 142), (0, u "isLatin1"), (12, u "length"), (33, .methodref 107 542), (0, .nameAndType 543 544), (0, u "equals"), (0, u "([B[B)Z"), (28, u "(Ljava/lang/Object;)Z"), (1, .class_ 576), (0, u "java/lang/CharSequence"), (22, u "CASE_INSENSITIVE_ORDER"), (0, u "Ljava/util/Comparator;"), (27, .methodref 107 629), (0, .nameAndType 630 631), (0, u "hashCode"), (0, u "([B)I"), (378, u "([C)V"), (90, u "serialPersistentFields"), (0, u "[Ljava/io/ObjectStreamField;"), (0, .class_ 1104), (0, u "java/lang/String$CaseInsensitiveComparator"), (1, .class_ 1107), (0, u "java/io/Serializable"), (0, .class_ 1109), (0, u "java/lang/Comparable"), (0, .class_ 1111), (0, u "java/lang/constant/Constable"), (0, .class_ 1113), (0, u "java/lang/constant/ConstantDesc"), (2, u "serialVersionUID"), (0, u "J"), (3, u "REPL"), (0, u "C"), (2, u "LATIN1"), (1, u "UTF16")] 323

def k7m0 : Method := { name := "<init>", desc := "()V", sig := { parameters := [], returnType := none }, accessFlags := 1, code := none }
def k7c1 : Code := { maxStack := 5, maxLocals := 2, code := jdk_42_method_3_code, exceptionTable := #[], attributes := #[] }
def k7m1 : Method := { name := "<init>", desc := "([C)V", sig := { parameters := [(.array .char)], returnType := none }, accessFlags := 1, code := some k7c1 }
def k7c2 : Code := { maxStack := 2, maxLocals := 1, code := jdk_42_method_54_code, exceptionTable := #[], attributes := #[] }
def k7m2 : Method := { name := "length", desc := "()I", sig := { parameters := [], returnType := some .int }, accessFlags := 1, code := some k7c2 }
def k7c3 : Code := { maxStack := 2, maxLocals := 3, code := jdk_42_method_66_code, exceptionTable := #[], attributes := #[] }
def k7m3 : Method := { name := "equals", desc := "(Ljava/lang/Object;)Z", sig := { parameters := [(.object "java/lang/Object")], returnType := some .boolean }, accessFlags := 1, code := some k7c3 }
def k7c4 : Code := { maxStack := 2, maxLocals := 2, code := jdk_42_method_78_code, exceptionTable := #[], attributes := #[] }
def k7m4 : Method := { name := "hashCode", desc := "()I", sig := { parameters := [], returnType := some .int }, accessFlags := 1, code := some k7c4 }
def k7c5 : Code := { maxStack := 4, maxLocals := 6, code := jdk_42_method_149_code, exceptionTable := #[], attributes := #[] }
def k7m5 : Method := { name := "<init>", desc := "([CIILjava/lang/Void;)V", sig := { parameters := [(.array .char), .int, .int, (.object "java/lang/Void")], returnType := none }, accessFlags := 2, code := some k7c5 }
def k7c6 : Code := { maxStack := 1, maxLocals := 1, code := jdk_42_method_152_code, exceptionTable := #[], attributes := #[] }
def k7m6 : Method := { name := "coder", desc := "()B", sig := { parameters := [], returnType := some .byte }, accessFlags := 0, code := some k7c6 }
def k7c7 : Code := { maxStack := 1, maxLocals := 1, code := jdk_42_method_154_code, exceptionTable := #[], attributes := #[] }
def k7m7 : Method := { name := "isLatin1", desc := "()Z", sig := { parameters := [], returnType := some .boolean }, accessFlags := 0, code := some k7c7 }
/-- java/lang/String -/
def k7 : Class := { plain "java/lang/String" (some 0) with
  accessFlags := 49
  interfaces := #[2, 3, 4, 5, 6]
  cf := some (fileOf pool7 10 #[.nestMembers #[1103]] #[{ accessFlags := 1, nameIndex := 5, descriptorIndex := 6, attributes := #[] }, { accessFlags := 1, nameIndex := 5, descriptorIndex := 1010, attributes := #[] }, { accessFlags := 1, nameIndex := 507, descriptorIndex := 334, attributes := #[] }, { accessFlags := 1, nameIndex := 543, descriptorIndex := 573, attributes := #[] }, { accessFlags := 1, nameIndex := 630, descriptorIndex := 334, attributes := #[] }, { accessFlags := 2, nameIndex := 5, descriptorIndex := 29, attributes := #[] }, { accessFlags := 0, nameIndex := 17, descriptorIndex := 337, attributes := #[] }, { accessFlags := 0, nameIndex := 494, descriptorIndex := 142, attributes := #[] }] 49 2 #[1106, 1108, 575, 1110, 1112] #[{ accessFlags := 18, nameIndex := 13, descriptorIndex := 14, attributes := #[] }, { accessFlags := 18, nameIndex := 17, descriptorIndex := 18, attributes := #[] }, { accessFlags := 2, nameIndex := 21, descriptorIndex := 22, attributes := #[] }, { accessFlags := 2, nameIndex := 25, descriptorIndex := 26, attributes := #[] }, { accessFlags := 26, nameIndex := 1116, descriptorIndex := 1117, attributes := #[] }, { accessFlags := 24, nameIndex := 40, descriptorIndex := 26, attributes := #[] }, { accessFlags := 26, nameIndex := 1101, descriptorIndex := 1102, attributes := #[] }, { accessFlags := 26, nameIndex := 1121, descriptorIndex := 1122, attributes := #[] }, { accessFlags := 25, nameIndex := 599, descriptorIndex := 600, attributes := #[] }, { accessFlags := 24, nameIndex := 1125, descriptorIndex := 18, attributes := #[] }, { accessFlags := 24, nameIndex := 1127, descriptorIndex := 18, attributes := #[] }])
  fields := #[{ name := "value", type := (.array .byte), accessFlags := 18, slot := 0, constantValue := 0 }, { name := "coder", type := .byte, accessFlags := 18, slot := 1, constantValue := 0 }, { name := "hash", type := .int, accessFlags := 2, slot := 2, constantValue := 0 }, { name := "hashIsZero", type := .boolean, accessFlags := 2, slot := 3, constantValue := 0 }, { name := "serialVersionUID", type := .long, accessFlags := 26, slot := 0, constantValue := 0 }, { name := "COMPACT_STRINGS", type := .boolean, accessFlags := 24, slot := 1, constantValue := 0 }, { name := "serialPersistentFields", type := (.array (.object "java/io/ObjectStreamField")), accessFlags := 26, slot := 2, constantValue := 0 }, { name := "REPL", type := .char, accessFlags := 26, slot := 3, constantValue := 0 }, { name := "CASE_INSENSITIVE_ORDER", type := (.object "java/util/Comparator"), accessFlags := 25, slot := 4, constantValue := 0 }, { name := "LATIN1", type := .byte, accessFlags := 24, slot := 5, constantValue := 0 }, { name := "UTF16", type := .byte, accessFlags := 24, slot := 6, constantValue := 0 }]
  methods := #[k7m0, k7m1, k7m2, k7m3, k7m4, k7m5, k7m6, k7m7]
  instanceTypes := #[(.array .byte), .byte, .int, .boolean]
  staticTypes := #[.long, .boolean, (.array (.object "java/io/ObjectStreamField")), .char, (.object "java/util/Comparator"), .byte, .byte]
  resolved := Array.replicate 1451 none
  statics := some 0 }

def pool8 : Array CpInfo := pool [(6, .class_ 8), (1, u "java/lang/Object"), (0, u "<init>"), (0, u "()V"), (1, .class_ 14), (1, u "java/lang/StringUTF16"), (31, u "$assertionsDisabled"), (0, u "Z"), (13, u "HI_BYTE_SHIFT"), (0, u "I"), (2, u "LO_BYTE_SHIFT"), (49, .methodref 12 116), (0, .nameAndType 117 118), (0, u "compress"), (0, u "([CI[BII)I"), (3, u "([CII)[B"), (138, u "coderFromArrayLen"), (0, u "([BI)B"), (106, .class_ 371), (1, u "java/lang/StringUTF16$LinesSpliterator"), (58, u "MAX_LENGTH"), (196, .class_ 628), (0, u "java/lang/StringUTF16$CodePointsSpliterator"), (0, .class_ 630), (0, u "java/lang/StringUTF16$CharsSpliterator")] 4

def k8m0 : Method := { name := "<init>", desc := "()V", sig := { parameters := [], returnType := none }, accessFlags := 0, code := none }
def k8c1 : Code := { maxStack := 2, maxLocals := 2, code := jdk_52_method_15_code, exceptionTable := #[], attributes := #[] }
def k8m1 : Method := { name := "coderFromArrayLen", desc := "([BI)B", sig := { parameters := [(.array .byte), .int], returnType := some .byte }, accessFlags := 8, code := some k8c1 }
def k8c2 : Code := { maxStack := 5, maxLocals := 6, code := jdk_52_method_16_code, exceptionTable := #[], attributes := #[] }
def k8m2 : Method := { name := "compress", desc := "([CII)[B", sig := { parameters := [(.array .char), .int, .int], returnType := some (.array .byte) }, accessFlags := 9, code := some k8c2 }
def k8c3 : Code := { maxStack := 3, maxLocals := 7, code := jdk_52_method_21_code, exceptionTable := #[], attributes := #[] }
def k8m3 : Method := { name := "compress", desc := "([CI[BII)I", sig := { parameters := [(.array .char), .int, (.array .byte), .int, .int], returnType := some .int }, accessFlags := 9, code := some k8c3 }
/-- java/lang/StringUTF16 -/
def k8 : Class := { plain "java/lang/StringUTF16" (some 0) with
  accessFlags := 48
  interfaces := #[]
  cf := some (fileOf pool8 12 #[.nestMembers #[627, 629, 369]] #[{ accessFlags := 0, nameIndex := 9, descriptorIndex := 10, attributes := #[] }, { accessFlags := 8, nameIndex := 261, descriptorIndex := 262, attributes := #[] }, { accessFlags := 9, nameIndex := 117, descriptorIndex := 122, attributes := #[] }, { accessFlags := 9, nameIndex := 117, descriptorIndex := 118, attributes := #[] }] 48 6 #[] #[{ accessFlags := 26, nameIndex := 61, descriptorIndex := 62, attributes := #[] }, { accessFlags := 26, nameIndex := 65, descriptorIndex := 62, attributes := #[] }, { accessFlags := 24, nameIndex := 430, descriptorIndex := 62, attributes := #[] }, { accessFlags := 4120, nameIndex := 46, descriptorIndex := 47, attributes := #[] }])
  fields := #[{ name := "HI_BYTE_SHIFT", type := .int, accessFlags := 26, slot := 0, constantValue := 0 }, { name := "LO_BYTE_SHIFT", type := .int, accessFlags := 26, slot := 1, constantValue := 0 }, { name := "MAX_LENGTH", type := .int, accessFlags := 24, slot := 2, constantValue := 0 }, { name := "$assertionsDisabled", type := .boolean, accessFlags := 4120, slot := 3, constantValue := 0 }]
  methods := #[k8m0, k8m1, k8m2, k8m3]
  instanceTypes := #[]
  staticTypes := #[.int, .int, .int, .boolean]
  resolved := Array.replicate 635 none
  statics := none }

def pool9 : Array CpInfo := pool [(1, .methodref 2 3), (0, .class_ 4), (0, .nameAndType 5 6), (0, u "java/lang/Object"), (0, u "<init>"), (0, u "()V"), (0, .class_ 8), (0, u "com/example/ranked_settings/rankedsettings/LookupPlans"), (0, .class_ 10), (0, u "com/example/ranked_settings/rankedsettings/LookupPlans$Plan"), (0, .fieldref 7 12), (0, .nameAndType 13 14), (0, u "slots"), (0, u "[Lcom/example/ranked_settings/rankedsettings/LookupPlans$Plan;"), (0, .methodref 7 16), (0, .nameAndType 17 18), (0, u "slot"), (0, u "(Ljava/lang/String;)I"), (0, .methodref 9 20), (0, .nameAndType 21 22), (0, u "name"), (0, u "()Ljava/lang/String;"), (0, .methodref 24 25), (0, .class_ 26), (0, .nameAndType 27 28), (0, u "java/lang/String"), (0, u "equals"), (0, u "(Ljava/lang/Object;)Z"), (0, .methodref 24 30), (0, .nameAndType 31 32), (0, u "length"), (0, u "()I"), (0, .methodref 24 34), (0, .nameAndType 35 32), (0, u "hashCode"), (0, u "SLOTS"), (0, u "I"), (2, u "MAX_KEPT_NAME_LENGTH"), (3, u "get"), (0, u "(Ljava/lang/String;)Lcom/example/ranked_settings/rankedsettings/LookupPlans$Plan;"), (1, u "keep"), (0, u "(Lcom/example/ranked_settings/rankedsettings/LookupPlans$Plan;)V")] 5

def k9c0 : Code := { maxStack := 2, maxLocals := 1, code := prog_9_method_1_code, exceptionTable := #[], attributes := #[] }
def k9m0 : Method := { name := "<init>", desc := "()V", sig := { parameters := [], returnType := none }, accessFlags := 0, code := some k9c0 }
def k9c1 : Code := { maxStack := 2, maxLocals := 3, code := prog_9_method_2_code, exceptionTable := #[], attributes := #[] }
def k9m1 : Method := { name := "get", desc := "(Ljava/lang/String;)Lcom/example/ranked_settings/rankedsettings/LookupPlans$Plan;", sig := { parameters := [(.object "java/lang/String")], returnType := some (.object "com/example/ranked_settings/rankedsettings/LookupPlans$Plan") }, accessFlags := 0, code := some k9c1 }
def k9c2 : Code := { maxStack := 3, maxLocals := 2, code := prog_9_method_3_code, exceptionTable := #[], attributes := #[] }
def k9m2 : Method := { name := "keep", desc := "(Lcom/example/ranked_settings/rankedsettings/LookupPlans$Plan;)V", sig := { parameters := [(.object "com/example/ranked_settings/rankedsettings/LookupPlans$Plan")], returnType := none }, accessFlags := 0, code := some k9c2 }
def k9c3 : Code := { maxStack := 3, maxLocals := 2, code := prog_9_method_4_code, exceptionTable := #[], attributes := #[] }
def k9m3 : Method := { name := "slot", desc := "(Ljava/lang/String;)I", sig := { parameters := [(.object "java/lang/String")], returnType := some .int }, accessFlags := 10, code := some k9c3 }
/-- com/example/ranked_settings/rankedsettings/LookupPlans -/
def k9 : Class := { plain "com/example/ranked_settings/rankedsettings/LookupPlans" (some 0) with
  accessFlags := 48
  interfaces := #[]
  cf := some (fileOf pool9 7 #[.nestMembers #[9]] #[{ accessFlags := 0, nameIndex := 5, descriptorIndex := 6, attributes := #[] }, { accessFlags := 0, nameIndex := 44, descriptorIndex := 45, attributes := #[] }, { accessFlags := 0, nameIndex := 47, descriptorIndex := 48, attributes := #[] }, { accessFlags := 10, nameIndex := 17, descriptorIndex := 18, attributes := #[] }] 48 2 #[] #[{ accessFlags := 24, nameIndex := 36, descriptorIndex := 37, attributes := #[] }, { accessFlags := 26, nameIndex := 40, descriptorIndex := 37, attributes := #[] }, { accessFlags := 18, nameIndex := 13, descriptorIndex := 14, attributes := #[] }])
  fields := #[{ name := "SLOTS", type := .int, accessFlags := 24, slot := 0, constantValue := 0 }, { name := "MAX_KEPT_NAME_LENGTH", type := .int, accessFlags := 26, slot := 1, constantValue := 0 }, { name := "slots", type := (.array (.object "com/example/ranked_settings/rankedsettings/LookupPlans$Plan")), accessFlags := 18, slot := 0, constantValue := 0 }]
  methods := #[k9m0, k9m1, k9m2, k9m3]
  instanceTypes := #[(.array (.object "com/example/ranked_settings/rankedsettings/LookupPlans$Plan"))]
  staticTypes := #[.int, .int]
  resolved := Array.replicate 54 none
  statics := none }

def pool10 : Array CpInfo := pool [(1, .methodref 2 3), (0, .class_ 4), (0, .nameAndType 5 6), (0, u "java/lang/Object"), (0, u "<init>"), (0, u "()V"), (0, .class_ 8), (0, u "java/lang/Record")] 13

def k10c0 : Code := { maxStack := 1, maxLocals := 1, code := jdk_30_method_1_code, exceptionTable := #[], attributes := #[] }
def k10m0 : Method := { name := "<init>", desc := "()V", sig := { parameters := [], returnType := none }, accessFlags := 4, code := some k10c0 }
/-- java/lang/Record -/
def k10 : Class := { plain "java/lang/Record" (some 0) with
  accessFlags := 1057
  interfaces := #[]
  cf := some (fileOf pool10 7 #[] #[{ accessFlags := 4, nameIndex := 5, descriptorIndex := 6, attributes := #[] }] 1057 2 #[] #[])
  fields := #[]
  methods := #[k10m0]
  instanceTypes := #[]
  staticTypes := #[]
  resolved := Array.replicate 22 none
  statics := none }

def pool11 : Array CpInfo := pool [(1, .methodref 2 3), (0, .class_ 4), (0, .nameAndType 5 6), (0, u "java/lang/Record"), (0, u "<init>"), (0, u "()V"), (0, .fieldref 8 9), (0, .class_ 10), (0, .nameAndType 11 12), (0, u "com/example/ranked_settings/rankedsettings/LookupPlans$Plan"), (0, u "name"), (0, u "Ljava/lang/String;"), (0, .fieldref 8 14), (0, .nameAndType 15 12), (0, u "profileName"), (0, .fieldref 8 17), (0, .nameAndType 18 19), (0, u "answering"), (0, u "I"), (0, .fieldref 8 21), (0, .nameAndType 22 12), (0, u "value"), (12, u "(Ljava/lang/String;Ljava/lang/String;ILjava/lang/String;)V"), (3, u "()Ljava/lang/String;"), (5, .class_ 46), (0, u "com/example/ranked_settings/rankedsettings/LookupPlans")] 22

def k11c0 : Code := { maxStack := 2, maxLocals := 5, code := prog_10_method_1_code, exceptionTable := #[], attributes := #[] }
def k11m0 : Method := { name := "<init>", desc := "(Ljava/lang/String;Ljava/lang/String;ILjava/lang/String;)V", sig := { parameters := [(.object "java/lang/String"), (.object "java/lang/String"), .int, (.object "java/lang/String")], returnType := none }, accessFlags := 0, code := some k11c0 }
def k11c1 : Code := { maxStack := 1, maxLocals := 1, code := prog_10_method_5_code, exceptionTable := #[], attributes := #[] }
def k11m1 : Method := { name := "name", desc := "()Ljava/lang/String;", sig := { parameters := [], returnType := some (.object "java/lang/String") }, accessFlags := 1, code := some k11c1 }
/-- com/example/ranked_settings/rankedsettings/LookupPlans$Plan -/
def k11 : Class := { plain "com/example/ranked_settings/rankedsettings/LookupPlans$Plan" (some 10) with
  accessFlags := 48
  interfaces := #[]
  cf := some (fileOf pool11 8 #[.nestHost 45] #[{ accessFlags := 0, nameIndex := 5, descriptorIndex := 35, attributes := #[] }, { accessFlags := 1, nameIndex := 11, descriptorIndex := 39, attributes := #[] }] 48 2 #[] #[{ accessFlags := 18, nameIndex := 11, descriptorIndex := 12, attributes := #[] }, { accessFlags := 18, nameIndex := 15, descriptorIndex := 12, attributes := #[] }, { accessFlags := 18, nameIndex := 18, descriptorIndex := 19, attributes := #[] }, { accessFlags := 18, nameIndex := 22, descriptorIndex := 12, attributes := #[] }])
  fields := #[{ name := "name", type := (.object "java/lang/String"), accessFlags := 18, slot := 0, constantValue := 0 }, { name := "profileName", type := (.object "java/lang/String"), accessFlags := 18, slot := 1, constantValue := 0 }, { name := "answering", type := .int, accessFlags := 18, slot := 2, constantValue := 0 }, { name := "value", type := (.object "java/lang/String"), accessFlags := 18, slot := 3, constantValue := 0 }]
  methods := #[k11m0, k11m1]
  instanceTypes := #[(.object "java/lang/String"), (.object "java/lang/String"), .int, (.object "java/lang/String")]
  staticTypes := #[]
  resolved := Array.replicate 69 none
  statics := none }

def pool12 : Array CpInfo := pool [(4, .class_ 6), (1, u "java/lang/Object"), (0, u "<init>"), (0, u "()V"), (5, .class_ 16), (1, u "java/lang/StringLatin1"), (28, .class_ 47), (1, u "jdk/internal/util/ArraysSupport"), (9, u "([B)I"), (26, .methodref 45 85), (0, .nameAndType 86 87), (0, u "vectorizedHashCode"), (0, u "(Ljava/lang/Object;IIII)I"), (33, u "$assertionsDisabled"), (0, u "Z"), (98, .class_ 223), (1, u "java/lang/StringLatin1$LinesSpliterator"), (57, u "equals"), (0, u "([B[B)Z"), (15, u "hashCode"), (91, .class_ 391), (0, u "java/lang/StringLatin1$CharsSpliterator")] 3

def k12m0 : Method := { name := "<init>", desc := "()V", sig := { parameters := [], returnType := none }, accessFlags := 0, code := none }
def k12c1 : Code := { maxStack := 3, maxLocals := 3, code := jdk_43_method_13_code, exceptionTable := #[], attributes := #[] }
def k12m1 : Method := { name := "equals", desc := "([B[B)Z", sig := { parameters := [(.array .byte), (.array .byte)], returnType := some .boolean }, accessFlags := 9, code := some k12c1 }
def k12c2 : Code := { maxStack := 5, maxLocals := 1, code := jdk_43_method_21_code, exceptionTable := #[], attributes := #[] }
def k12m2 : Method := { name := "hashCode", desc := "([B)I", sig := { parameters := [(.array .byte)], returnType := some .int }, accessFlags := 9, code := some k12c2 }
/-- java/lang/StringLatin1 -/
def k12 : Class := { plain "java/lang/StringLatin1" (some 0) with
  accessFlags := 48
  interfaces := #[]
  cf := some (fileOf pool12 14 #[.nestMembers #[390, 221]] #[{ accessFlags := 0, nameIndex := 7, descriptorIndex := 8, attributes := #[] }, { accessFlags := 9, nameIndex := 281, descriptorIndex := 282, attributes := #[] }, { accessFlags := 9, nameIndex := 298, descriptorIndex := 57, attributes := #[] }] 48 4 #[] #[{ accessFlags := 4120, nameIndex := 121, descriptorIndex := 122, attributes := #[] }])
  fields := #[{ name := "$assertionsDisabled", type := .boolean, accessFlags := 4120, slot := 0, constantValue := 0 }]
  methods := #[k12m0, k12m1, k12m2]
  instanceTypes := #[]
  staticTypes := #[.boolean]
  resolved := Array.replicate 395 none
  statics := none }

def pool13 : Array CpInfo := pool [(9, u "<init>"), (6, .class_ 18), (1, u "java/lang/Object"), (0, u "()V"), (1, .class_ 23), (1, u "jdk/internal/util/ArraysSupport"), (0, u "LOG2_ARRAY_LONG_INDEX_SCALE"), (0, u "I"), (2, u "U"), (0, u "Ljdk/internal/misc/Unsafe;"), (8, u "BIG_ENDIAN"), (0, u "Z"), (8, u "LOG2_BYTE_BIT_SIZE"), (4, u "LOG2_ARRAY_INT_INDEX_SCALE"), (6, .class_ 61), (0, u "[B"), (0, .methodref 21 63), (0, .nameAndType 64 65), (0, u "signedHashCode"), (0, u "(I[BII)I"), (42, u "JLA"), (0, u "Ljdk/internal/access/JavaLangAccess;"), (11, u "LOG2_ARRAY_BOOLEAN_INDEX_SCALE"), (9, u "LOG2_ARRAY_BYTE_INDEX_SCALE"), (5, u "LOG2_ARRAY_CHAR_INDEX_SCALE"), (5, u "LOG2_ARRAY_SHORT_INDEX_SCALE"), (18, u "LOG2_ARRAY_FLOAT_INDEX_SCALE"), (24, u "LOG2_ARRAY_DOUBLE_INDEX_SCALE"), (89, u "T_BOOLEAN"), (2, u "T_CHAR"), (1, u "T_FLOAT"), (1, u "T_DOUBLE"), (1, u "T_BYTE"), (1, u "T_SHORT"), (1, u "T_INT"), (1, u "T_LONG"), (1, u "SOFT_MAX_ARRAY_LENGTH"), (26, u "vectorizedHashCode"), (0, u "(Ljava/lang/Object;IIII)I")] 55

def k13m0 : Method := { name := "<init>", desc := "()V", sig := { parameters := [], returnType := none }, accessFlags := 2, code := none }
def k13c1 : Code := { maxStack := 4, maxLocals := 5, code := jdk_48_method_4_code, exceptionTable := #[], attributes := #[] }
def k13m1 : Method := { name := "vectorizedHashCode", desc := "(Ljava/lang/Object;IIII)I", sig := { parameters := [(.object "java/lang/Object"), .int, .int, .int, .int], returnType := some .int }, accessFlags := 9, code := some k13c1 }
def k13c2 : Code := { maxStack := 3, maxLocals := 6, code := jdk_48_method_5_code, exceptionTable := #[], attributes := #[] }
def k13m2 : Method := { name := "signedHashCode", desc := "(I[BII)I", sig := { parameters := [.int, (.array .byte), .int, .int], returnType := some .int }, accessFlags := 10, code := some k13c2 }
/-- jdk/internal/util/ArraysSupport -/
def k13 : Class := { plain "jdk/internal/util/ArraysSupport" (some 0) with
  accessFlags := 33
  interfaces := #[]
  cf := some (fileOf pool13 21 #[] #[{ accessFlags := 2, nameIndex := 9, descriptorIndex := 19, attributes := #[] }, { accessFlags := 9, nameIndex := 321, descriptorIndex := 322, attributes := #[] }, { accessFlags := 10, nameIndex := 64, descriptorIndex := 65, attributes := #[] }] 33 16 #[] #[{ accessFlags := 24, nameIndex := 28, descriptorIndex := 29, attributes := #[] }, { accessFlags := 26, nameIndex := 38, descriptorIndex := 39, attributes := #[] }, { accessFlags := 25, nameIndex := 121, descriptorIndex := 25, attributes := #[] }, { accessFlags := 25, nameIndex := 131, descriptorIndex := 25, attributes := #[] }, { accessFlags := 25, nameIndex := 137, descriptorIndex := 25, attributes := #[] }, { accessFlags := 25, nameIndex := 143, descriptorIndex := 25, attributes := #[] }, { accessFlags := 25, nameIndex := 53, descriptorIndex := 25, attributes := #[] }, { accessFlags := 25, nameIndex := 24, descriptorIndex := 25, attributes := #[] }, { accessFlags := 25, nameIndex := 162, descriptorIndex := 25, attributes := #[] }, { accessFlags := 25, nameIndex := 187, descriptorIndex := 25, attributes := #[] }, { accessFlags := 26, nameIndex := 48, descriptorIndex := 25, attributes := #[] }, { accessFlags := 25, nameIndex := 277, descriptorIndex := 25, attributes := #[] }, { accessFlags := 25, nameIndex := 280, descriptorIndex := 25, attributes := #[] }, { accessFlags := 25, nameIndex := 282, descriptorIndex := 25, attributes := #[] }, { accessFlags := 25, nameIndex := 284, descriptorIndex := 25, attributes := #[] }, { accessFlags := 25, nameIndex := 286, descriptorIndex := 25, attributes := #[] }, { accessFlags := 25, nameIndex := 288, descriptorIndex := 25, attributes := #[] }, { accessFlags := 25, nameIndex := 290, descriptorIndex := 25, attributes := #[] }, { accessFlags := 25, nameIndex := 292, descriptorIndex := 25, attributes := #[] }, { accessFlags := 26, nameIndex := 108, descriptorIndex := 109, attributes := #[] }, { accessFlags := 25, nameIndex := 294, descriptorIndex := 25, attributes := #[] }])
  fields := #[{ name := "U", type := (.object "jdk/internal/misc/Unsafe"), accessFlags := 24, slot := 0, constantValue := 0 }, { name := "BIG_ENDIAN", type := .boolean, accessFlags := 26, slot := 1, constantValue := 0 }, { name := "LOG2_ARRAY_BOOLEAN_INDEX_SCALE", type := .int, accessFlags := 25, slot := 2, constantValue := 0 }, { name := "LOG2_ARRAY_BYTE_INDEX_SCALE", type := .int, accessFlags := 25, slot := 3, constantValue := 0 }, { name := "LOG2_ARRAY_CHAR_INDEX_SCALE", type := .int, accessFlags := 25, slot := 4, constantValue := 0 }, { name := "LOG2_ARRAY_SHORT_INDEX_SCALE", type := .int, accessFlags := 25, slot := 5, constantValue := 0 }, { name := "LOG2_ARRAY_INT_INDEX_SCALE", type := .int, accessFlags := 25, slot := 6, constantValue := 0 }, { name := "LOG2_ARRAY_LONG_INDEX_SCALE", type := .int, accessFlags := 25, slot := 7, constantValue := 0 }, { name := "LOG2_ARRAY_FLOAT_INDEX_SCALE", type := .int, accessFlags := 25, slot := 8, constantValue := 0 }, { name := "LOG2_ARRAY_DOUBLE_INDEX_SCALE", type := .int, accessFlags := 25, slot := 9, constantValue := 0 }, { name := "LOG2_BYTE_BIT_SIZE", type := .int, accessFlags := 26, slot := 10, constantValue := 0 }, { name := "T_BOOLEAN", type := .int, accessFlags := 25, slot := 11, constantValue := 0 }, { name := "T_CHAR", type := .int, accessFlags := 25, slot := 12, constantValue := 0 }, { name := "T_FLOAT", type := .int, accessFlags := 25, slot := 13, constantValue := 0 }, { name := "T_DOUBLE", type := .int, accessFlags := 25, slot := 14, constantValue := 0 }, { name := "T_BYTE", type := .int, accessFlags := 25, slot := 15, constantValue := 0 }, { name := "T_SHORT", type := .int, accessFlags := 25, slot := 16, constantValue := 0 }, { name := "T_INT", type := .int, accessFlags := 25, slot := 17, constantValue := 0 }, { name := "T_LONG", type := .int, accessFlags := 25, slot := 18, constantValue := 0 }, { name := "JLA", type := (.object "jdk/internal/access/JavaLangAccess"), accessFlags := 26, slot := 19, constantValue := 0 }, { name := "SOFT_MAX_ARRAY_LENGTH", type := .int, accessFlags := 25, slot := 20, constantValue := 0 }]
  methods := #[k13m0, k13m1, k13m2]
  instanceTypes := #[]
  staticTypes := #[(.object "jdk/internal/misc/Unsafe"), .boolean, .int, .int, .int, .int, .int, .int, .int, .int, .int, .int, .int, .int, .int, .int, .int, .int, .int, (.object "jdk/internal/access/JavaLangAccess"), .int]
  resolved := Array.replicate 378 none
  statics := none }

def pool14 : Array CpInfo := pool [(2, .class_ 4), (1, u "java/lang/Object"), (0, u "<init>"), (0, u "()V"), (17, .class_ 26), (1, u "jdk/internal/util/Preconditions"), (28, .class_ 56), (0, u "jdk/internal/util/Preconditions$4"), (57, .class_ 115), (0, u "jdk/internal/util/Preconditions$1"), (7, u "SIOOBE_FORMATTER"), (0, u "Ljava/util/function/BiFunction;"), (0, .class_ 126), (0, u "jdk/internal/util/Preconditions$2"), (3, u "AIOOBE_FORMATTER"), (0, .class_ 132), (0, u "jdk/internal/util/Preconditions$3"), (3, u "IOOBE_FORMATTER")] 57

def k14m0 : Method := { name := "<init>", desc := "()V", sig := { parameters := [], returnType := none }, accessFlags := 1, code := none }
/-- jdk/internal/util/Preconditions -/
def k14 : Class := { plain "jdk/internal/util/Preconditions" (some 0) with
  accessFlags := 33
  interfaces := #[]
  cf := some (fileOf pool14 24 #[.nestMembers #[55, 131, 125, 114]] #[{ accessFlags := 1, nameIndex := 5, descriptorIndex := 6, attributes := #[] }] 33 2 #[] #[{ accessFlags := 25, nameIndex := 123, descriptorIndex := 124, attributes := #[] }, { accessFlags := 25, nameIndex := 130, descriptorIndex := 124, attributes := #[] }, { accessFlags := 25, nameIndex := 136, descriptorIndex := 124, attributes := #[] }])
  fields := #[{ name := "SIOOBE_FORMATTER", type := (.object "java/util/function/BiFunction"), accessFlags := 25, slot := 0, constantValue := 0 }, { name := "AIOOBE_FORMATTER", type := (.object "java/util/function/BiFunction"), accessFlags := 25, slot := 1, constantValue := 0 }, { name := "IOOBE_FORMATTER", type := (.object "java/util/function/BiFunction"), accessFlags := 25, slot := 2, constantValue := 0 }]
  methods := #[k14m0]
  instanceTypes := #[]
  staticTypes := #[(.object "java/util/function/BiFunction"), (.object "java/util/function/BiFunction"), (.object "java/util/function/BiFunction")]
  resolved := Array.replicate 194 none
  statics := some 1 }

def pool15 : Array CpInfo := pool [(1, u "java/lang/Cloneable"), (0, .class_ 1), (0, u "java/lang/Object"), (0, .class_ 3)] 3

/-- java/lang/Cloneable -/
def k15 : Class := { plain "java/lang/Cloneable" (some 0) with
  accessFlags := 1537
  interfaces := #[]
  cf := some (fileOf pool15 2 #[] #[] 1537 4 #[] #[])
  fields := #[]
  methods := #[]
  instanceTypes := #[]
  staticTypes := #[]
  resolved := Array.replicate 8 none
  statics := none }

/-- the primitive byte -/
def k16 : Class := { plain "byte" none with kind := .primitive 'B', accessFlags := 0x411 }
/-- [B -/
def k17 : Class := { plain "[B" (some 0) with kind := .array 16 .byte, interfaces := #[15, 2], accessFlags := 1041 }

/-- the primitive char -/
def k18 : Class := { plain "char" none with kind := .primitive 'C', accessFlags := 0x411 }
/-- [C -/
def k19 : Class := { plain "[C" (some 0) with kind := .array 18 .char, interfaces := #[15, 2], accessFlags := 1041 }

/-- the primitive int -/
def k20 : Class := { plain "int" none with kind := .primitive 'I', accessFlags := 0x411 }
/-- [I -/
def k21 : Class := { plain "[I" (some 0) with kind := .array 20 .int, interfaces := #[15, 2], accessFlags := 1041 }

/-- [Lcom/example/ranked_settings/rankedsettings/LookupPlans$Plan; -/
def k22 : Class := { plain "[Lcom/example/ranked_settings/rankedsettings/LookupPlans$Plan;" (some 0) with kind := .array 11 (.object "com/example/ranked_settings/rankedsettings/LookupPlans$Plan"), interfaces := #[15, 2], accessFlags := 1041 }

def heap : Heap := #[{ cls := 7, slots := #[.long 0, .int 1, .null, .int 0, .null, .int 0, .int 0], vm := .statics 7 },
  { cls := 14, slots := #[.null, .null, .null], vm := .statics 14 }]
def classes : Array Class := #[k0, k1, k2, k3, k4, k5, k6, k7, k8, k9, k10, k11, k12, k13, k14, k15, k16, k17, k18, k19, k20, k21, k22]
def interned : List (Array UInt16 × Addr) := []
def slotsUsed : Nat := 10
def theMethod : MethodId := ⟨1, 2⟩
def args0 : Array Value := #[.int 5, .int 6, .int 7]
def aboutOver (below : List Frame) : State where
  vm := { classes := classes, interned := interned.toArray }
  heap := heap
  slotsUsed := slotsUsed
  threads := #[{ frames := .invoking theMethod args0 :: below }]
def below0 : List Frame := [.native { method := ⟨0, 0⟩, args := #[] }]
def about1 : State := aboutOver below0
def p0 : Program := .bare "" "" ""
def e0 : Env := launch0.env 0 0 0
theorem w_frames : about1.frames = Frame.invoking theMethod args0 :: below0 := rfl
set_option maxRecDepth 65536 in
theorem w_args : argsFit about1.vm theMethod args0 = true := by decide +kernel
set_option maxRecDepth 65536 in
theorem w_heap : heapFits about1 = true := by decide +kernel
set_option maxRecDepth 65536 in
theorem w_runnable : about1.curStatus? = some .runnable := by decide +kernel
set_option maxRecDepth 65536 in
theorem w_alone : about1.alone = true := by decide +kernel
set_option maxRecDepth 65536 in
theorem w_named : about1.methodNamed? x = some theMethod := by decide +kernel
set_option maxRecDepth 65536 in
theorem w_hears : about1.hears theMethod below0 = true := by decide +kernel
set_option maxRecDepth 65536 in
theorem w_ripe : about1.ripe theMethod args0 below0 = true := by decide +kernel
theorem w_running : about1.status = .running := rfl
set_option maxRecDepth 65536 in
theorem w_room : about1.hasRoom e0.platform room_1 = true :=
  launch0.hasRoom_least _ room_1 (by decide +kernel) (by decide +kernel) (by decide +kernel) (by decide +kernel) (by decide +kernel) (by decide +kernel)
theorem allAtoms_all (ts : List Jvm.Cond) (a : Array Jvm.Value) (st : Jvm.State) : (allAtoms ts).before a st = ts.all (fun c => c.before a st) := by
  induction ts with
  | nil => rfl
  | cons c t ih =>
    show (Jvm.Cond.and c (allAtoms t)).before a st = _
    rw [Jvm.Cond.before_and, ih, List.all_cons]
def words1 : List Jvm.Cond := Jvm.Cond.code x code maxLocals ret :: tables_1
/-- a 'code' word, met by the world's own term for the bytes: nothing is compared byte by byte -/
theorem code_word {y : MethodName} {bytes : ByteArray} {mx : Nat} {rt : Option FieldType} {a : Array Value} {s : State} {m : MethodId} {meth : Method} {c : Code} (h1 : s.methodNamed? y = some m) (h2 : s.vm.method? m = some meth) (h3 : meth.code = some c) (h4 : c.code = bytes)
    (h5 : (c.maxLocals == mx && c.exceptionTable.isEmpty && decide (c.maxStack ≤ mostOperands) && decide (meth.sig.returnType = rt) && !meth.locks && decide (parseMethodDescriptor y.desc = some meth.sig)) = true) : (Jvm.Cond.code y bytes mx rt).before a s = true := by
  simp only [Bool.and_eq_true, beq_iff_eq, Bool.not_eq_true', decide_eq_true_eq] at h5
  obtain ⟨⟨⟨⟨⟨g1, g2⟩, g3⟩, g4⟩, g5⟩, g6⟩ := h5
  simp [Cond.before, Cond.holds, Cond.value, h1, h2, h3, h4, g1, g2, g3, g4, g5, g6]
def isCode : Jvm.Cond → Bool
  | .code _ _ _ _ => true
  | _ => false
theorem all_split {L : List Jvm.Cond} {P : Jvm.Cond → Bool} (h1 : L.all (fun c => isCode c || P c) = true) (h2 : ∀ c ∈ L.filter isCode, P c = true) : L.all P = true := by
  refine List.all_eq_true.mpr fun c hc => ?_
  have h := List.all_eq_true.mp h1 c hc
  rcases Bool.eq_false_or_eq_true (isCode c) with hi | hi
  · exact h2 c (List.mem_filter.mpr ⟨hc, hi⟩)
  · simpa [hi] using h
set_option maxRecDepth 65536 in
theorem w_c0 : (Jvm.Cond.code x code maxLocals ret).before args0 about1 = true := code_word (m := ⟨1, 2⟩) (meth := k1m2) (c := k1c2) (by decide +kernel) rfl rfl rfl (by decide +kernel)
set_option maxRecDepth 65536 in
theorem w_c1 : (Jvm.Cond.code ({ cls := "com/example/ranked_settings/rankedsettings/LookupPlansGetPinLaw", name := "str", desc := "(II)Ljava/lang/String;" } : Jvm.MethodName) method_2_code (5 : Nat) (Option.some (Jvm.ClassFile.FieldType.object "java/lang/String"))).before args0 about1 = true := code_word (m := ⟨1, 1⟩) (meth := k1m1) (c := k1c1) (by decide +kernel) rfl rfl rfl (by decide +kernel)
set_option maxRecDepth 65536 in
theorem w_c2 : (Jvm.Cond.code ({ cls := "java/lang/String", name := "<init>", desc := "([C)V" } : Jvm.MethodName) jdk_42_method_3_code (2 : Nat) (Option.none : Option Jvm.ClassFile.FieldType)).before args0 about1 = true := code_word (m := ⟨7, 1⟩) (meth := k7m1) (c := k7c1) (by decide +kernel) rfl rfl rfl (by decide +kernel)
set_option maxRecDepth 65536 in
theorem w_c3 : (Jvm.Cond.code ({ cls := "java/lang/String", name := "<init>", desc := "([CIILjava/lang/Void;)V" } : Jvm.MethodName) jdk_42_method_149_code (6 : Nat) (Option.none : Option Jvm.ClassFile.FieldType)).before args0 about1 = true := code_word (m := ⟨7, 5⟩) (meth := k7m5) (c := k7c5) (by decide +kernel) rfl rfl rfl (by decide +kernel)
set_option maxRecDepth 65536 in
theorem w_c4 : (Jvm.Cond.code ({ cls := "java/lang/Object", name := "<init>", desc := "()V" } : Jvm.MethodName) object_method_1_code (1 : Nat) (Option.none : Option Jvm.ClassFile.FieldType)).before args0 about1 = true := code_word (m := ⟨0, 0⟩) (meth := k0m0) (c := k0c0) (by decide +kernel) rfl rfl rfl (by decide +kernel)
set_option maxRecDepth 65536 in
theorem w_c5 : (Jvm.Cond.code ({ cls := "java/lang/StringUTF16", name := "compress", desc := "([CII)[B" } : Jvm.MethodName) jdk_52_method_16_code (6 : Nat) (Option.some (Jvm.ClassFile.FieldType.array Jvm.ClassFile.FieldType.byte))).before args0 about1 = true := code_word (m := ⟨8, 2⟩) (meth := k8m2) (c := k8c2) (by decide +kernel) rfl rfl rfl (by decide +kernel)
set_option maxRecDepth 65536 in
theorem w_c6 : (Jvm.Cond.code ({ cls := "java/lang/StringUTF16", name := "compress", desc := "([CI[BII)I" } : Jvm.MethodName) jdk_52_method_21_code (7 : Nat) (Option.some Jvm.ClassFile.FieldType.int)).before args0 about1 = true := code_word (m := ⟨8, 3⟩) (meth := k8m3) (c := k8c3) (by decide +kernel) rfl rfl rfl (by decide +kernel)
set_option maxRecDepth 65536 in
theorem w_c7 : (Jvm.Cond.code ({ cls := "java/lang/StringUTF16", name := "coderFromArrayLen", desc := "([BI)B" } : Jvm.MethodName) jdk_52_method_15_code (2 : Nat) (Option.some Jvm.ClassFile.FieldType.byte)).before args0 about1 = true := code_word (m := ⟨8, 1⟩) (meth := k8m1) (c := k8c1) (by decide +kernel) rfl rfl rfl (by decide +kernel)
set_option maxRecDepth 65536 in
theorem w_c8 : (Jvm.Cond.code ({ cls := "com/example/ranked_settings/rankedsettings/LookupPlans", name := "<init>", desc := "()V" } : Jvm.MethodName) prog_9_method_1_code (1 : Nat) (Option.none : Option Jvm.ClassFile.FieldType)).before args0 about1 = true := code_word (m := ⟨9, 0⟩) (meth := k9m0) (c := k9c0) (by decide +kernel) rfl rfl rfl (by decide +kernel)
set_option maxRecDepth 65536 in
theorem w_c9 : (Jvm.Cond.code ({ cls := "com/example/ranked_settings/rankedsettings/LookupPlans$Plan", name := "<init>", desc := "(Ljava/lang/String;Ljava/lang/String;ILjava/lang/String;)V" } : Jvm.MethodName) prog_10_method_1_code (5 : Nat) (Option.none : Option Jvm.ClassFile.FieldType)).before args0 about1 = true := code_word (m := ⟨11, 0⟩) (meth := k11m0) (c := k11c0) (by decide +kernel) rfl rfl rfl (by decide +kernel)
set_option maxRecDepth 65536 in
theorem w_c10 : (Jvm.Cond.code ({ cls := "java/lang/Record", name := "<init>", desc := "()V" } : Jvm.MethodName) jdk_30_method_1_code (1 : Nat) (Option.none : Option Jvm.ClassFile.FieldType)).before args0 about1 = true := code_word (m := ⟨10, 0⟩) (meth := k10m0) (c := k10c0) (by decide +kernel) rfl rfl rfl (by decide +kernel)
set_option maxRecDepth 65536 in
theorem w_c11 : (Jvm.Cond.code ({ cls := "com/example/ranked_settings/rankedsettings/LookupPlans", name := "get", desc := "(Ljava/lang/String;)Lcom/example/ranked_settings/rankedsettings/LookupPlans$Plan;" } : Jvm.MethodName) prog_9_method_2_code (3 : Nat) (Option.some (Jvm.ClassFile.FieldType.object "com/example/ranked_settings/rankedsettings/LookupPlans$Plan"))).before args0 about1 = true := code_word (m := ⟨9, 1⟩) (meth := k9m1) (c := k9c1) (by decide +kernel) rfl rfl rfl (by decide +kernel)
set_option maxRecDepth 65536 in
theorem w_c12 : (Jvm.Cond.code ({ cls := "com/example/ranked_settings/rankedsettings/LookupPlans", name := "slot", desc := "(Ljava/lang/String;)I" } : Jvm.MethodName) prog_9_method_4_code (2 : Nat) (Option.some Jvm.ClassFile.FieldType.int)).before args0 about1 = true := code_word (m := ⟨9, 3⟩) (meth := k9m3) (c := k9c3) (by decide +kernel) rfl rfl rfl (by decide +kernel)
set_option maxRecDepth 65536 in
theorem w_c13 : (Jvm.Cond.code ({ cls := "java/lang/String", name := "hashCode", desc := "()I" } : Jvm.MethodName) jdk_42_method_78_code (2 : Nat) (Option.some Jvm.ClassFile.FieldType.int)).before args0 about1 = true := code_word (m := ⟨7, 4⟩) (meth := k7m4) (c := k7c4) (by decide +kernel) rfl rfl rfl (by decide +kernel)
set_option maxRecDepth 65536 in
theorem w_c14 : (Jvm.Cond.code ({ cls := "java/lang/String", name := "isLatin1", desc := "()Z" } : Jvm.MethodName) jdk_42_method_154_code (1 : Nat) (Option.some Jvm.ClassFile.FieldType.boolean)).before args0 about1 = true := code_word (m := ⟨7, 7⟩) (meth := k7m7) (c := k7c7) (by decide +kernel) rfl rfl rfl (by decide +kernel)
set_option maxRecDepth 65536 in
theorem w_c15 : (Jvm.Cond.code ({ cls := "java/lang/StringLatin1", name := "hashCode", desc := "([B)I" } : Jvm.MethodName) jdk_43_method_21_code (1 : Nat) (Option.some Jvm.ClassFile.FieldType.int)).before args0 about1 = true := code_word (m := ⟨12, 2⟩) (meth := k12m2) (c := k12c2) (by decide +kernel) rfl rfl rfl (by decide +kernel)
set_option maxRecDepth 65536 in
theorem w_c16 : (Jvm.Cond.code ({ cls := "java/lang/String", name := "equals", desc := "(Ljava/lang/Object;)Z" } : Jvm.MethodName) jdk_42_method_66_code (3 : Nat) (Option.some Jvm.ClassFile.FieldType.boolean)).before args0 about1 = true := code_word (m := ⟨7, 3⟩) (meth := k7m3) (c := k7c3) (by decide +kernel) rfl rfl rfl (by decide +kernel)
set_option maxRecDepth 65536 in
theorem w_c17 : (Jvm.Cond.code ({ cls := "java/lang/StringLatin1", name := "equals", desc := "([B[B)Z" } : Jvm.MethodName) jdk_43_method_13_code (3 : Nat) (Option.some Jvm.ClassFile.FieldType.boolean)).before args0 about1 = true := code_word (m := ⟨12, 1⟩) (meth := k12m1) (c := k12c1) (by decide +kernel) rfl rfl rfl (by decide +kernel)
set_option maxRecDepth 65536 in
theorem w_c18 : (Jvm.Cond.code ({ cls := "jdk/internal/util/ArraysSupport", name := "vectorizedHashCode", desc := "(Ljava/lang/Object;IIII)I" } : Jvm.MethodName) jdk_48_method_4_code (5 : Nat) (Option.some Jvm.ClassFile.FieldType.int)).before args0 about1 = true := code_word (m := ⟨13, 1⟩) (meth := k13m1) (c := k13c1) (by decide +kernel) rfl rfl rfl (by decide +kernel)
set_option maxRecDepth 65536 in
theorem w_c19 : (Jvm.Cond.code ({ cls := "jdk/internal/util/ArraysSupport", name := "signedHashCode", desc := "(I[BII)I" } : Jvm.MethodName) jdk_48_method_5_code (6 : Nat) (Option.some Jvm.ClassFile.FieldType.int)).before args0 about1 = true := code_word (m := ⟨13, 2⟩) (meth := k13m2) (c := k13c2) (by decide +kernel) rfl rfl rfl (by decide +kernel)
set_option maxRecDepth 65536 in
theorem w_c20 : (Jvm.Cond.code ({ cls := "com/example/ranked_settings/rankedsettings/LookupPlans", name := "keep", desc := "(Lcom/example/ranked_settings/rankedsettings/LookupPlans$Plan;)V" } : Jvm.MethodName) prog_9_method_3_code (2 : Nat) (Option.none : Option Jvm.ClassFile.FieldType)).before args0 about1 = true := code_word (m := ⟨9, 2⟩) (meth := k9m2) (c := k9c2) (by decide +kernel) rfl rfl rfl (by decide +kernel)
set_option maxRecDepth 65536 in
theorem w_c21 : (Jvm.Cond.code ({ cls := "com/example/ranked_settings/rankedsettings/LookupPlans$Plan", name := "name", desc := "()Ljava/lang/String;" } : Jvm.MethodName) prog_10_method_5_code (1 : Nat) (Option.some (Jvm.ClassFile.FieldType.object "java/lang/String"))).before args0 about1 = true := code_word (m := ⟨11, 1⟩) (meth := k11m1) (c := k11c1) (by decide +kernel) rfl rfl rfl (by decide +kernel)
set_option maxRecDepth 65536 in
theorem w_c22 : (Jvm.Cond.code ({ cls := "java/lang/String", name := "length", desc := "()I" } : Jvm.MethodName) jdk_42_method_54_code (1 : Nat) (Option.some Jvm.ClassFile.FieldType.int)).before args0 about1 = true := code_word (m := ⟨7, 2⟩) (meth := k7m2) (c := k7c2) (by decide +kernel) rfl rfl rfl (by decide +kernel)
set_option maxRecDepth 65536 in
theorem w_c23 : (Jvm.Cond.code ({ cls := "java/lang/String", name := "coder", desc := "()B" } : Jvm.MethodName) jdk_42_method_152_code (1 : Nat) (Option.some Jvm.ClassFile.FieldType.byte)).before args0 about1 = true := code_word (m := ⟨7, 6⟩) (meth := k7m6) (c := k7c6) (by decide +kernel) rfl rfl rfl (by decide +kernel)
def codes1 : List Jvm.Cond := [Jvm.Cond.code x code maxLocals ret, Jvm.Cond.code ({ cls := "com/example/ranked_settings/rankedsettings/LookupPlansGetPinLaw", name := "str", desc := "(II)Ljava/lang/String;" } : Jvm.MethodName) method_2_code (5 : Nat) (Option.some (Jvm.ClassFile.FieldType.object "java/lang/String")), Jvm.Cond.code ({ cls := "java/lang/String", name := "<init>", desc := "([C)V" } : Jvm.MethodName) jdk_42_method_3_code (2 : Nat) (Option.none : Option Jvm.ClassFile.FieldType), Jvm.Cond.code ({ cls := "java/lang/String", name := "<init>", desc := "([CIILjava/lang/Void;)V" } : Jvm.MethodName) jdk_42_method_149_code (6 : Nat) (Option.none : Option Jvm.ClassFile.FieldType), Jvm.Cond.code ({ cls := "java/lang/Object", name := "<init>", desc := "()V" } : Jvm.MethodName) object_method_1_code (1 : Nat) (Option.none : Option Jvm.ClassFile.FieldType), Jvm.Cond.code ({ cls := "java/lang/StringUTF16", name := "compress", desc := "([CII)[B" } : Jvm.MethodName) jdk_52_method_16_code (6 : Nat) (Option.some (Jvm.ClassFile.FieldType.array Jvm.ClassFile.FieldType.byte)), Jvm.Cond.code ({ cls := "java/lang/StringUTF16", name := "compress", desc := "([CI[BII)I" } : Jvm.MethodName) jdk_52_method_21_code (7 : Nat) (Option.some Jvm.ClassFile.FieldType.int), Jvm.Cond.code ({ cls := "java/lang/StringUTF16", name := "coderFromArrayLen", desc := "([BI)B" } : Jvm.MethodName) jdk_52_method_15_code (2 : Nat) (Option.some Jvm.ClassFile.FieldType.byte), Jvm.Cond.code ({ cls := "com/example/ranked_settings/rankedsettings/LookupPlans", name := "<init>", desc := "()V" } : Jvm.MethodName) prog_9_method_1_code (1 : Nat) (Option.none : Option Jvm.ClassFile.FieldType), Jvm.Cond.code ({ cls := "com/example/ranked_settings/rankedsettings/LookupPlans$Plan", name := "<init>", desc := "(Ljava/lang/String;Ljava/lang/String;ILjava/lang/String;)V" } : Jvm.MethodName) prog_10_method_1_code (5 : Nat) (Option.none : Option Jvm.ClassFile.FieldType), Jvm.Cond.code ({ cls := "java/lang/Record", name := "<init>", desc := "()V" } : Jvm.MethodName) jdk_30_method_1_code (1 : Nat) (Option.none : Option Jvm.ClassFile.FieldType), Jvm.Cond.code ({ cls := "com/example/ranked_settings/rankedsettings/LookupPlans", name := "get", desc := "(Ljava/lang/String;)Lcom/example/ranked_settings/rankedsettings/LookupPlans$Plan;" } : Jvm.MethodName) prog_9_method_2_code (3 : Nat) (Option.some (Jvm.ClassFile.FieldType.object "com/example/ranked_settings/rankedsettings/LookupPlans$Plan")), Jvm.Cond.code ({ cls := "com/example/ranked_settings/rankedsettings/LookupPlans", name := "slot", desc := "(Ljava/lang/String;)I" } : Jvm.MethodName) prog_9_method_4_code (2 : Nat) (Option.some Jvm.ClassFile.FieldType.int), Jvm.Cond.code ({ cls := "java/lang/String", name := "hashCode", desc := "()I" } : Jvm.MethodName) jdk_42_method_78_code (2 : Nat) (Option.some Jvm.ClassFile.FieldType.int), Jvm.Cond.code ({ cls := "java/lang/String", name := "isLatin1", desc := "()Z" } : Jvm.MethodName) jdk_42_method_154_code (1 : Nat) (Option.some Jvm.ClassFile.FieldType.boolean), Jvm.Cond.code ({ cls := "java/lang/StringLatin1", name := "hashCode", desc := "([B)I" } : Jvm.MethodName) jdk_43_method_21_code (1 : Nat) (Option.some Jvm.ClassFile.FieldType.int), Jvm.Cond.code ({ cls := "java/lang/String", name := "equals", desc := "(Ljava/lang/Object;)Z" } : Jvm.MethodName) jdk_42_method_66_code (3 : Nat) (Option.some Jvm.ClassFile.FieldType.boolean), Jvm.Cond.code ({ cls := "java/lang/StringLatin1", name := "equals", desc := "([B[B)Z" } : Jvm.MethodName) jdk_43_method_13_code (3 : Nat) (Option.some Jvm.ClassFile.FieldType.boolean), Jvm.Cond.code ({ cls := "jdk/internal/util/ArraysSupport", name := "vectorizedHashCode", desc := "(Ljava/lang/Object;IIII)I" } : Jvm.MethodName) jdk_48_method_4_code (5 : Nat) (Option.some Jvm.ClassFile.FieldType.int), Jvm.Cond.code ({ cls := "jdk/internal/util/ArraysSupport", name := "signedHashCode", desc := "(I[BII)I" } : Jvm.MethodName) jdk_48_method_5_code (6 : Nat) (Option.some Jvm.ClassFile.FieldType.int), Jvm.Cond.code ({ cls := "com/example/ranked_settings/rankedsettings/LookupPlans", name := "keep", desc := "(Lcom/example/ranked_settings/rankedsettings/LookupPlans$Plan;)V" } : Jvm.MethodName) prog_9_method_3_code (2 : Nat) (Option.none : Option Jvm.ClassFile.FieldType), Jvm.Cond.code ({ cls := "com/example/ranked_settings/rankedsettings/LookupPlans$Plan", name := "name", desc := "()Ljava/lang/String;" } : Jvm.MethodName) prog_10_method_5_code (1 : Nat) (Option.some (Jvm.ClassFile.FieldType.object "java/lang/String")), Jvm.Cond.code ({ cls := "java/lang/String", name := "length", desc := "()I" } : Jvm.MethodName) jdk_42_method_54_code (1 : Nat) (Option.some Jvm.ClassFile.FieldType.int), Jvm.Cond.code ({ cls := "java/lang/String", name := "coder", desc := "()B" } : Jvm.MethodName) jdk_42_method_152_code (1 : Nat) (Option.some Jvm.ClassFile.FieldType.byte)]
set_option maxRecDepth 65536 in
theorem codes_eq : words1.filter isCode = codes1 := rfl
theorem w_codes : ∀ c ∈ words1.filter isCode, c.before args0 about1 = true := by
  rw [codes_eq]
  intro c hc
  simp only [codes1, List.mem_cons, List.not_mem_nil, or_false] at hc
  rcases hc with rfl | rfl | rfl | rfl | rfl | rfl | rfl | rfl | rfl | rfl | rfl | rfl | rfl | rfl | rfl | rfl | rfl | rfl | rfl | rfl | rfl | rfl | rfl | rfl
  · exact w_c0
  · exact w_c1
  · exact w_c2
  · exact w_c3
  · exact w_c4
  · exact w_c5
  · exact w_c6
  · exact w_c7
  · exact w_c8
  · exact w_c9
  · exact w_c10
  · exact w_c11
  · exact w_c12
  · exact w_c13
  · exact w_c14
  · exact w_c15
  · exact w_c16
  · exact w_c17
  · exact w_c18
  · exact w_c19
  · exact w_c20
  · exact w_c21
  · exact w_c22
  · exact w_c23
set_option maxRecDepth 65536 in
theorem w_t1 : (words1.take 24).all (fun c => isCode c || c.before args0 about1) = true := by decide +kernel
set_option maxRecDepth 65536 in
theorem w_t2 : ((words1.drop 24).take 24).all (fun c => isCode c || c.before args0 about1) = true := by decide +kernel
set_option maxRecDepth 65536 in
theorem w_t3 : (((words1.drop 24).drop 24).take 24).all (fun c => isCode c || c.before args0 about1) = true := by decide +kernel
set_option maxRecDepth 65536 in
theorem w_t4 : ((((words1.drop 24).drop 24).drop 24).take 24).all (fun c => isCode c || c.before args0 about1) = true := by decide +kernel
set_option maxRecDepth 65536 in
theorem w_t5 : (((((words1.drop 24).drop 24).drop 24).drop 24).take 24).all (fun c => isCode c || c.before args0 about1) = true := by decide +kernel
set_option maxRecDepth 65536 in
theorem w_t6 : (((((words1.drop 24).drop 24).drop 24).drop 24).drop 24).all (fun c => isCode c || c.before args0 about1) = true := by decide +kernel
theorem w_tables : (allAtoms (Jvm.Cond.code x code maxLocals ret :: tables_1)).before args0 about1 = true := by
  rw [allAtoms_all]
  show words1.all (fun c => c.before args0 about1) = true
  refine all_split ?_ w_codes
  rw [← List.take_append_drop 24 words1, List.all_append, w_t1, ← List.take_append_drop 24 (words1.drop 24), List.all_append, w_t2, ← List.take_append_drop 24 ((words1.drop 24).drop 24), List.all_append, w_t3, ← List.take_append_drop 24 (((words1.drop 24).drop 24).drop 24), List.all_append, w_t4, ← List.take_append_drop 24 ((((words1.drop 24).drop 24).drop 24).drop 24), List.all_append, w_t5, w_t6]
  rfl
set_option maxRecDepth 65536 in
theorem w_rest : rest_1_c.before args0 about1 = true := by decide +kernel
set_option maxRecDepth 65536 in
theorem w_case : (Jvm.Cond.and given_1 narrow_1).before args0 about1 = true := by decide +kernel
set_option maxRecDepth 65536 in
theorem w_consts : constsHeld consts_1 about1 := Jvm.Lit.constsHeldB_iff.mp (by decide +kernel)
theorem w_applies : (headSpec (Jvm.Cond.code x code maxLocals ret :: tables_1) room_1).applies x e0.platform about1 = true :=
  (Spec.applies_iff w_frames).mpr ⟨w_running, w_runnable, w_alone, w_named, w_hears, w_ripe, w_room, w_tables⟩
theorem atStart : AtStart classFile x code maxLocals ret World_1 tables_1 room_1 Calls_1 rest_1 Pre_1 launch0 p0 e0 about1 theMethod args0 below0 :=
  ⟨lists_1, trivial, launch0.admits_env _ _ _, launch0.least_env, fairChoices_fair.cas, fairChoices_fair.clock, w_frames, w_args, w_heap, w_applies, ⟨w_consts, trivial⟩, w_rest, w_case⟩
end start1
theorem witness_1 : WitnessClaimed_1 := ⟨start1.p0, start1.e0, start1.about1, start1.theMethod, start1.args0, start1.below0, start1.atStart⟩
end Jvm.Pilot.@@N@@
