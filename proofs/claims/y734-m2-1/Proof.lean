import JvmDerived
import JvmDerived.Pilot.@@N@@Statement
import JvmDerived.Pilot.@@N@@Code
set_option linter.unusedVariables false
set_option linter.unusedSimpArgs false
namespace Jvm.RoadKit
open Sem ClassFile Op Lib Jvm.Stand Jvm.Free Jvm.LawKit
section OwnKit
variable {p : Program} {l : Launch} {e : Env} {R : Room} {s : State} {m : MethodId} {args : Array Value} {below : List Frame} {meth : Method} {c : Code} {T : State} {locs : List Loc} {cells slots : Nat} {rc rs : Nat} {Q : Option Value → Heap → List Loc → Prop} {S S' : State}
/-- from S on the invocation ends, it returns, and Q holds of what it returns, of the heap and of the places written -/
def OEnds (p : Program) (e : Env) (below : List Frame) (s : State) (rc rs : Nat) (Q : Option Value → Heap → List Loc → Prop) (S : State) : Prop :=
  ∃ s₂ o, Steps p.tables e below S s₂ ∧ s₂.status = .running ∧ Ended s₂ below o ∧ ∃ v L, o = .returned v ∧ Q v s₂.heap L ∧ FrameEnd s o s₂ L rc rs
theorem OEnds.via (h : ∀ t, Steps p.tables e below S' t → Steps p.tables e below S t) (k : OEnds p e below s rc rs Q S') : OEnds p e below s rc rs Q S := by
  obtain ⟨t, o, h1, r⟩ := k
  exact ⟨t, o, h _ h1, r⟩
theorem OEnds.retN (X : Stand p l e R s m args below meth c T locs cells slots) (hx : p.tables.exec = Jvm.exec) (hlk : meth.locks = false) {pc : Nat} {Ls : Array Slot} {z : Int32} {t : FieldType} {rest : List Value} (hret : meth.sig.returnType = some t) (ht : t = .boolean ∨ t = .byte ∨ t = .char ∨ t = .short)
    (hd : decode c.code pc = .ok (.ireturn, 1)) (q : Q (some (.int (nar t z))) T.heap locs) (hc : cells ≤ rc) (hs : slots ≤ rs) : OEnds p e below s rc rs Q (T.setTop (mkF m pc Ls (.int z :: rest))) := by
  obtain ⟨fs, hr, hrun, hended, hW, hsame⟩ := X.leave (v := some (.int (nar t z))) (fun h => by rw [hret] at h; cases h) hlk
  exact ⟨_, _, Jvm.RoadKit.retN X hx hret ht hd hr, hrun, hended, _, _, rfl, q, ⟨_, rfl⟩, hW, hsame.mono hc hs⟩
theorem OEnds.retI (X : Stand p l e R s m args below meth c T locs cells slots) (hx : p.tables.exec = Jvm.exec) (hlk : meth.locks = false) {pc : Nat} {Ls : Array Slot} {z : Int32} {rest : List Value} (hret : meth.sig.returnType = some .int)
    (hd : decode c.code pc = .ok (.ireturn, 1)) (q : Q (some (.int z)) T.heap locs) (hc : cells ≤ rc) (hs : slots ≤ rs) : OEnds p e below s rc rs Q (T.setTop (mkF m pc Ls (.int z :: rest))) := by
  obtain ⟨fs, hr, hrun, hended, hW, hsame⟩ := X.leave (v := some (.int z)) (fun h => by rw [hret] at h; cases h) hlk
  exact ⟨_, _, retOut X hx hret rfl (Or.inl ⟨rfl, Or.inl rfl, z, rfl⟩) hd hr, hrun, hended, _, _, rfl, q, ⟨_, rfl⟩, hW, hsame.mono hc hs⟩
theorem OEnds.retJ (X : Stand p l e R s m args below meth c T locs cells slots) (hx : p.tables.exec = Jvm.exec) (hlk : meth.locks = false) {pc : Nat} {Ls : Array Slot} {z : Int64} {rest : List Value} (hret : meth.sig.returnType = some .long)
    (hd : decode c.code pc = .ok (.lreturn, 1)) (q : Q (some (.long z)) T.heap locs) (hc : cells ≤ rc) (hs : slots ≤ rs) : OEnds p e below s rc rs Q (T.setTop (mkF m pc Ls (.long z :: rest))) := by
  obtain ⟨fs, hr, hrun, hended, hW, hsame⟩ := X.leave (v := some (.long z)) (fun h => by rw [hret] at h; cases h) hlk
  exact ⟨_, _, retOut X hx hret rfl (Or.inr (Or.inl ⟨rfl, rfl, z, rfl⟩)) hd hr, hrun, hended, _, _, rfl, q, ⟨_, rfl⟩, hW, hsame.mono hc hs⟩
theorem OEnds.retR (X : Stand p l e R s m args below meth c T locs cells slots) (hx : p.tables.exec = Jvm.exec) (hlk : meth.locks = false) {pc : Nat} {Ls : Array Slot} {w : Value} {t : FieldType} {rest : List Value} (hret : meth.sig.returnType = some t) (ht : t.isReference = true) (hw : w.isRef = true)
    (hd : decode c.code pc = .ok (.areturn, 1)) (q : Q (some w) T.heap locs) (hc : cells ≤ rc) (hs : slots ≤ rs) : OEnds p e below s rc rs Q (T.setTop (mkF m pc Ls (w :: rest))) := by
  obtain ⟨fs, hr, hrun, hended, hW, hsame⟩ := X.leave (v := some w) (fun h => by rw [hret] at h; cases h) hlk
  have hn : narrow t w = w := by rcases ref_cases hw with rfl | ⟨a, rfl⟩ <;> cases t <;> rfl
  exact ⟨_, _, retOut X hx hret hn (Or.inr (Or.inr (Or.inr (Or.inr ⟨rfl, ht, hw⟩)))) hd hr, hrun, hended, _, _, rfl, q, ⟨_, rfl⟩, hW, hsame.mono hc hs⟩
theorem OEnds.retV (X : Stand p l e R s m args below meth c T locs cells slots) (hx : p.tables.exec = Jvm.exec) (hlk : meth.locks = false) {pc : Nat} {Ls : Array Slot} (hret : meth.sig.returnType = none)
    (hd : decode c.code pc = .ok (.return_, 1)) (q : Q none T.heap locs) (hc : cells ≤ rc) (hs : slots ≤ rs) : OEnds p e below s rc rs Q (T.setTop (mkF m pc Ls [])) := by
  obtain ⟨fs, hr, hrun, hended, hW, hsame⟩ := X.leave (v := none) (fun _ => rfl) hlk
  exact ⟨_, _, X.returnOut hx hret hd hr, hrun, hended, _, _, rfl, q, ⟨_, rfl⟩, hW, hsame.mono hc hs⟩
/-- the call answers r, writes nothing that was there, makes nothing -/
def QA (r : Option Value) (h0 : Heap) (n0 : Nat) : Option Value → Heap → List Loc → Prop := fun v h L => v = r ∧ Fr n0 L ∧ h = h0
/-- the law's own answer -/
def QL (n0 : Nat) : Option Value → Heap → List Loc → Prop := fun v _ L => v = some (.int 1) ∧ Fr n0 L
theorem own_lc0 (x : Int64) : lcmpW x x = 0 := by rw [lcW]; exact (lc_eq _ _).mpr rfl
theorem own_lcpos {x y : Int64} (h : y < x) : 0 < lcmpW x y := by rw [lcW]; exact (lc_gt _ _).mpr h
theorem own_lcnpos {x y : Int64} (h : ¬ y < x) : ¬ 0 < lcmpW x y := by rw [lcW]; exact fun q => h ((lc_gt _ _).mp q)
theorem own_narrow {t : String} {w : Value} (h : w.isRef = true) : narrow (.object t) w = w := by rcases ref_cases h with rfl | ⟨_, rfl⟩ <;> rfl
theorem own_fits {t : String} {w : Value} (h : w.isRef = true) : fits (.object t) w = true := by rcases ref_cases h with rfl | ⟨_, rfl⟩ <;> rfl
end OwnKit
section OwnWords
variable {args : Array Value} {s : State} {t u : Term} {a : Addr} {cl : Cell} {ty : FieldType} {j k : Int32}
theorem own_eqint (h : (Jvm.Cond.eq t (.int k)).value args s none s [] = some true) : t.eval args s none [] s = some (.int k) := by
  obtain ⟨x, y, e1, e2, -, k2⟩ := cmp_v (Or.inl h)
  obtain rfl : Value.int k = y := Option.some.inj ((Term.int_eval k).symm.trans e2)
  obtain ⟨z, rfl⟩ : ∃ z, x = .int z := k2
  have q := gotT (Cond.eq_ints e1 (Term.int_eval k)) h
  rw [e1, q]
theorem own_len (h : (Jvm.Cond.eq (.length t) (.int k)).value args s none s [] = some true) (ev : t.eval args s none [] s = some (.ref a)) (A : Arr s s.heap a cl ty) : cl.slots.size < 2 ^ 31 ∧ cl.slots.size.toInt32 = k := by
  have e1 := own_eqint h
  have e2 : s.arrayAt? a = some cl := A.fin (Vm.Alike.refl _)
  have e3 : cl.slots.size < 2 ^ 31 := by
    refine Classical.byContradiction fun q => ?_
    simp [Term.eval, ev, e2, q] at e1
  have e4 := len_f ev e2 e3
  rw [e1] at e4
  exact ⟨e3, (Value.int.inj (Option.some.inj e4)).symm⟩
theorem own_elem (h : (Jvm.Cond.eq (.elem t (.int j)) (.int k)).value args s none s [] = some true) (ev : t.eval args s none [] s = some (.ref a)) (A : Arr s s.heap a cl ty) : cl.slots[j.toNatClampNeg]? = some (.int k) :=
  (elem_in (own_eqint h) ev (Term.int_eval j) A.1).2
theorem own_eqref (h : (Jvm.Cond.eq t u).value args s none s [] = some true) (eu : u.eval args s none [] s = some (.ref a)) : t.eval args s none [] s = some (.ref a) := by
  obtain ⟨x, y, e1, e2, -, k2⟩ := cmp_v (Or.inl h)
  obtain rfl : Value.ref a = y := Option.some.inj (eu.symm.trans e2)
  have hx : x.isRef = true := k2.2
  have q := gotT (eq_R e1 eu hx rfl) h
  rw [e1, q]
theorem own_elemR (h : (Jvm.Cond.eq (.elem t (.int j)) u).value args s none s [] = some true) {b : Addr} (eu : u.eval args s none [] s = some (.ref b)) (ev : t.eval args s none [] s = some (.ref a)) (A : Arr s s.heap a cl ty) : cl.slots[j.toNatClampNeg]? = some (.ref b) :=
  (elem_in (own_eqref h eu) ev (Term.int_eval j) A.1).2
theorem own_arrkeep {Z : State} {h h' : Heap} {a : Addr} {c : Cell} {ty : FieldType} {ws : List Addr} (A : Arr Z h a c ty) (K : Keep h h' ws) (q : a ∉ ws) : Arr Z h' a c ty := ⟨K.2.1 a c A.1 q, A.2⟩
end OwnWords
end Jvm.RoadKit
namespace Jvm.RoadKit
open Sem ClassFile Op Lib Jvm.Stand Jvm.Free Jvm.LawKit
section OwnWide
variable {p : Program} {l : Launch} {e : Env} {R : Room} {s : State} {m : MethodId} {args : Array Value} {below : List Frame} {meth : Method} {c : Code} {T : State} {locs : List Loc} {cells slots : Nat} {rc rs : Nat} {Q : Option Value → Heap → List Loc → Prop} {S S' : State} {Z : State} {a0 : Array Value} {EL : List (String × Nat)} {vm : Vm} {k0 : Nat} {h h0 : Heap}
/-- as OEnds, for a road that may intern constants: the books of the constants go on -/
def OEndsW (p : Program) (e : Env) (below : List Frame) (s : State) (Z : State) (EL : List (String × Nat)) (rc rs : Nat) (Q : Option Value → Heap → List Loc → Prop) (S : State) : Prop :=
  ∃ s₂ o, Steps p.tables e below S s₂ ∧ s₂.status = .running ∧ Ended s₂ below o ∧ ∃ v L, o = .returned v ∧ Q v s₂.heap L ∧ CHr Z EL s.vm s.heap s₂.vm s₂.heap ∧ ReturnedEndW s o s₂ L rc rs
theorem OEndsW.via (g : ∀ t, Steps p.tables e below S' t → Steps p.tables e below S t) (k : OEndsW p e below s Z EL rc rs Q S') : OEndsW p e below s Z EL rc rs Q S := by
  obtain ⟨t, o, h1, r⟩ := k
  exact ⟨t, o, g _ h1, r⟩
theorem OEndsW.out (X : Stand p l e R (s.setVm vm) m args below meth c T locs cells slots) (hlk : meth.locks = false) (hS : s.Since vm k0) (hk : k0 ≤ h.size) (hZ : Z.Warmed39 vm) (hEL : EW Z a0 EL) (eT : T.heap = h) (es : s.heap = h0) (CR : CHr Z EL s.vm h0 vm h) {v : Option Value} (hv : meth.sig.returnType = none → v = none)
    (hst : ∀ fs, (∀ (f : JFrame) (acts : List Action), f.method = m → f.locked = none → f.entered = [] → (doReturn e (T.setTop f) acts v).1 = T.setFrames fs) → Steps p.tables e below S (T.setFrames fs)) (q : Q v T.heap locs) (hc : cells ≤ rc) (hs : slots ≤ rs) : OEndsW p e below s Z EL rc rs Q S := by
  obtain ⟨fs, hr, hrun, hended, a, b, c', d⟩ := X.leaveW hS (by rw [eT]; exact hk) (v := v) hv hlk
  have A := CR.trans (CHv.at X hZ hEL CR.1)
  refine ⟨_, _, hst fs hr, hrun, hended, _, _, rfl, q, ?_, a, b, c', d.mono hc hs⟩
  show CHr Z EL s.vm s.heap T.vm T.heap
  rw [es, eT]
  exact A
theorem OEndsW.retN (X : Stand p l e R (s.setVm vm) m args below meth c T locs cells slots) (hx : p.tables.exec = Jvm.exec) (hlk : meth.locks = false) (hS : s.Since vm k0) (hk : k0 ≤ h.size) (hZ : Z.Warmed39 vm) (hEL : EW Z a0 EL) (eT : T.heap = h) (es : s.heap = h0) (CR : CHr Z EL s.vm h0 vm h) {pc : Nat} {Ls : Array Slot} {z : Int32} {t : FieldType} {rest : List Value} (hret : meth.sig.returnType = some t) (ht : t = .boolean ∨ t = .byte ∨ t = .char ∨ t = .short)
    (hd : decode c.code pc = .ok (.ireturn, 1)) (q : Q (some (.int (nar t z))) T.heap locs) (hc : cells ≤ rc) (hs : slots ≤ rs) : OEndsW p e below s Z EL rc rs Q (T.setTop (mkF m pc Ls (.int z :: rest))) :=
  OEndsW.out X hlk hS hk hZ hEL eT es CR (fun h => by rw [hret] at h; cases h) (fun fs hr => Jvm.RoadKit.retN X hx hret ht hd hr) q hc hs
theorem OEndsW.retI (X : Stand p l e R (s.setVm vm) m args below meth c T locs cells slots) (hx : p.tables.exec = Jvm.exec) (hlk : meth.locks = false) (hS : s.Since vm k0) (hk : k0 ≤ h.size) (hZ : Z.Warmed39 vm) (hEL : EW Z a0 EL) (eT : T.heap = h) (es : s.heap = h0) (CR : CHr Z EL s.vm h0 vm h) {pc : Nat} {Ls : Array Slot} {z : Int32} {rest : List Value} (hret : meth.sig.returnType = some .int)
    (hd : decode c.code pc = .ok (.ireturn, 1)) (q : Q (some (.int z)) T.heap locs) (hc : cells ≤ rc) (hs : slots ≤ rs) : OEndsW p e below s Z EL rc rs Q (T.setTop (mkF m pc Ls (.int z :: rest))) :=
  OEndsW.out X hlk hS hk hZ hEL eT es CR (fun h => by rw [hret] at h; cases h) (fun fs hr => retOut X hx hret rfl (Or.inl ⟨rfl, Or.inl rfl, z, rfl⟩) hd hr) q hc hs
theorem OEndsW.retJ (X : Stand p l e R (s.setVm vm) m args below meth c T locs cells slots) (hx : p.tables.exec = Jvm.exec) (hlk : meth.locks = false) (hS : s.Since vm k0) (hk : k0 ≤ h.size) (hZ : Z.Warmed39 vm) (hEL : EW Z a0 EL) (eT : T.heap = h) (es : s.heap = h0) (CR : CHr Z EL s.vm h0 vm h) {pc : Nat} {Ls : Array Slot} {z : Int64} {rest : List Value} (hret : meth.sig.returnType = some .long)
    (hd : decode c.code pc = .ok (.lreturn, 1)) (q : Q (some (.long z)) T.heap locs) (hc : cells ≤ rc) (hs : slots ≤ rs) : OEndsW p e below s Z EL rc rs Q (T.setTop (mkF m pc Ls (.long z :: rest))) :=
  OEndsW.out X hlk hS hk hZ hEL eT es CR (fun h => by rw [hret] at h; cases h) (fun fs hr => retOut X hx hret rfl (Or.inr (Or.inl ⟨rfl, rfl, z, rfl⟩)) hd hr) q hc hs
theorem OEndsW.retR (X : Stand p l e R (s.setVm vm) m args below meth c T locs cells slots) (hx : p.tables.exec = Jvm.exec) (hlk : meth.locks = false) (hS : s.Since vm k0) (hk : k0 ≤ h.size) (hZ : Z.Warmed39 vm) (hEL : EW Z a0 EL) (eT : T.heap = h) (es : s.heap = h0) (CR : CHr Z EL s.vm h0 vm h) {pc : Nat} {Ls : Array Slot} {w : Value} {t : FieldType} {rest : List Value} (hret : meth.sig.returnType = some t) (ht : t.isReference = true) (hw : w.isRef = true)
    (hd : decode c.code pc = .ok (.areturn, 1)) (q : Q (some w) T.heap locs) (hc : cells ≤ rc) (hs : slots ≤ rs) : OEndsW p e below s Z EL rc rs Q (T.setTop (mkF m pc Ls (w :: rest))) :=
  OEndsW.out X hlk hS hk hZ hEL eT es CR (fun h => by rw [hret] at h; cases h) (fun fs hr => retOut X hx hret (by rcases ref_cases hw with rfl | ⟨a, rfl⟩ <;> cases t <;> rfl) (Or.inr (Or.inr (Or.inr (Or.inr ⟨rfl, ht, hw⟩)))) hd hr) q hc hs
theorem OEndsW.retV (X : Stand p l e R (s.setVm vm) m args below meth c T locs cells slots) (hx : p.tables.exec = Jvm.exec) (hlk : meth.locks = false) (hS : s.Since vm k0) (hk : k0 ≤ h.size) (hZ : Z.Warmed39 vm) (hEL : EW Z a0 EL) (eT : T.heap = h) (es : s.heap = h0) (CR : CHr Z EL s.vm h0 vm h) {pc : Nat} {Ls : Array Slot} (hret : meth.sig.returnType = none)
    (hd : decode c.code pc = .ok (.return_, 1)) (q : Q none T.heap locs) (hc : cells ≤ rc) (hs : slots ≤ rs) : OEndsW p e below s Z EL rc rs Q (T.setTop (mkF m pc Ls [])) :=
  OEndsW.out X hlk hS hk hZ hEL eT es CR (fun _ => rfl) (fun fs hr => X.returnOut hx hret hd hr) q hc hs
theorem own_safeV {a : Addr} {k : ClassId} {ty : FieldType} {n : Int32} {vs : List Value} {d : Value} (hal : Z.vm.Alike vm) (V : Arv Z h a k ty n vs d) (ht : ty ≠ .byte) : Safe Z EL vm h a := by
  obtain ⟨c, A, -⟩ := V
  exact Safe.arr hal A ht
theorem own_safe_null {x : Addr} (hal : Z.vm.Alike vm) (E : Exa Z h x "java/lang/String") (F : Fld Z h x "java/lang/String" "value" "[B" .null) : Safe Z EL vm h x := fun B => by
  obtain ⟨p, -, u, a, -, q, -, G, rfl | rfl⟩ := B
  · obtain ⟨cell, cf, k, i, f, h1, h2, -, -, -, -, h7⟩ := F
    cases (show h[q.sa]? = some q.sC from G.ha).symm.trans h1
    obtain ⟨cS, ⟨⟨s1, s2, s3, ⟨cv, kv, iv, s4, s4'⟩, s5, s6, s7, s8, r⟩, hfS, hcS⟩, -⟩ := G
    obtain ⟨kv', z4⟩ := ff_back (U := Wst Z vm h) hal s4
    cases h2.symm.trans z4
    rw [s8] at h7
    cases h7
  · obtain ⟨cell, k, e1, e2, e3, -, -⟩ := E
    cases (show h[q.sd]? = some q.SA from G.hd).symm.trans e1
    obtain ⟨cS, -, -, f, -⟩ := G
    have f : vm.findClass "[B" = some q.SA.cls := f
    rw [hal.findClass] at f
    obtain ⟨k1, q1, q2⟩ := Vm.findClass_spec f
    obtain ⟨k2, q3, q4⟩ := Vm.findClass_spec e2
    cases q1.symm.trans q3
    exact absurd (q2.symm.trans q4) (by decide)
end OwnWide
end Jvm.RoadKit
/- laws to paste: Road.eqW (cut by pick.py; bodies as the Statement names them) -/
namespace Jvm.Pilot.@@N@@
namespace StrChars
open Jvm Sem ClassFile Op Lib Jvm.Stand Jvm.Free.XT Jvm.Free.ALB Jvm.Free.JM Jvm.Free
open Jvm.Lib.Cold (StaticIs)
/-- the byte that i2b leaves of a char -/
def lo8 (x : Int32) : Int32 := x.toInt8.toInt32
theorem fits_lo8 (y : Int32) : fits .byte (.int (lo8 y)) = true := by
  have h1 := y.toInt8.le_toInt
  have h2 := y.toInt8.toInt_lt
  simp only [lo8, fits, Bool.and_eq_true, decide_eq_true_eq, Int32.le_iff_toInt_le, Int8.toInt_toInt32, show (-128 : Int32).toInt = -128 from by decide, show (127 : Int32).toInt = 127 from by decide]
  omega
def U16 : String := "java/lang/StringUTF16"
/-- the byte, read back as charAt reads it, is the char -/
theorem lo8_mask {x : Int32} (h0 : ¬ x < 0) (h1 : ¬ 255 < x) : lo8 x &&& 255 = x := by
  have t : ∀ k : Fin 256, lo8 (Int32.ofNat k.val) &&& 255 = Int32.ofNat k.val := by decide +kernel
  rw [Int32.lt_iff_toInt_lt] at h0 h1
  have e0 : (0 : Int32).toInt = 0 := rfl
  have e1 : (255 : Int32).toInt = 255 := rfl
  obtain ⟨k, hk⟩ : ∃ k : Nat, x.toInt = k := ⟨x.toInt.toNat, by omega⟩
  have hx : x = Int32.ofNat k := Int32.toInt_inj.mp (by rw [hk, Int32.toInt_ofNat_small (by omega)])
  rw [hx]
  exact t ⟨k, by omega⟩
end StrChars
namespace StrChars.Road
open Jvm Sem ClassFile Op Lib Jvm.Stand Jvm.Free Jvm.Free.XT
open Jvm.Lib.Cold (StaticIs)
abbrev ST : String := "java/lang/String"
end StrChars.Road
namespace StrChars
open Jvm Sem ClassFile Op Lib Jvm.Stand Jvm.Free.XT Jvm.Free.ALB Jvm.Free.JM Jvm.Free
open Jvm.Lib.Cold (StaticIs)
def hi8 (x : Int32) : Int32 := lo8 (x >>> ((8 : Int32) &&& 31))
/-- what StringUTF16.getChar makes of two bytes -/
def pairCh (u v : Int32) : Int32 := (((u &&& 255) <<< ((0 : Int32) &&& 31)) ||| ((v &&& 255) <<< ((8 : Int32) &&& 31))).toUInt32.toUInt16.toUInt32.toInt32
theorem lo8_and (x : Int32) : (lo8 x &&& 255).toBitVec.toNat = x.toBitVec.toNat % 256 := by
  have h : (lo8 x).toBitVec = (x.toBitVec.signExtend 8).signExtend 32 := by rw [lo8, Int8.toBitVec_toInt32, Int32.toBitVec_toInt8]
  rw [Int32.toBitVec_and, BitVec.toNat_and, h]
  have e : ((x.toBitVec.signExtend 8).signExtend 32).toNat % 256 = x.toBitVec.toNat % 256 := by
    rw [BitVec.toNat_signExtend]
    have hlt := x.toBitVec.isLt
    simp only [BitVec.toNat_setWidth, BitVec.toNat_signExtend]
    split <;> split <;> omega
  rw [← e]
  exact Nat.and_two_pow_sub_one_eq_mod _ 8
theorem pair_says {c : Int32} (h0 : ¬ c < 0) (h1 : ¬ 65535 < c) : pairCh (lo8 c) (hi8 c) = c := by
  rw [Int32.lt_iff_toInt_lt] at h0 h1
  have e0 : (0 : Int32).toInt = 0 := rfl
  have e1 : (65535 : Int32).toInt = 65535 := rfl
  have hc : c.toInt = c.toBitVec.toNat := by
    have := c.toBitVec.isLt
    have e : c.toInt = c.toBitVec.toInt := rfl
    rw [e] at h0 h1
    rw [e]
    rw [BitVec.toInt_eq_toNat_cond] at h0 h1 ⊢
    split at h0 <;> split <;> omega
  have hn : c.toBitVec.toNat < 65536 := by omega
  have a1 := lo8_and c
  have a2 : (hi8 c &&& 255).toBitVec.toNat = c.toBitVec.toNat / 256 := by
    rw [hi8, lo8_and]
    have e : ((8 : Int32) &&& 31) = 8 := by decide
    rw [e, Int32.toBitVec_shiftRight]
    have e2 : ((8 : Int32).toBitVec.smod 32) = 8#32 := by decide
    rw [e2, BitVec.sshiftRight_eq', BitVec.toNat_sshiftRight_of_msb_false (by rw [BitVec.msb_eq_false_iff_two_mul_lt]; omega)]
    show c.toBitVec.toNat >>> 8 % 256 = _
    rw [Nat.shiftRight_eq_div_pow]
    omega
  unfold pairCh
  apply Int32.toBitVec_inj.mp
  apply BitVec.eq_of_toNat_eq
  have f0 : ((0 : Int32) &&& 31) = 0 := by decide
  have f8 : ((8 : Int32) &&& 31) = 8 := by decide
  rw [f0, f8]
  have g : (((lo8 c &&& 255) <<< (0 : Int32)) ||| ((hi8 c &&& 255) <<< (8 : Int32))).toBitVec.toNat = c.toBitVec.toNat := by
    rw [Int32.toBitVec_or, Int32.toBitVec_shiftLeft, Int32.toBitVec_shiftLeft]
    have s0 : ((0 : Int32).toBitVec.smod 32) = 0#32 := by decide
    have s8 : ((8 : Int32).toBitVec.smod 32) = 8#32 := by decide
    rw [s0, s8, BitVec.toNat_or]
    simp only [BitVec.shiftLeft_eq', BitVec.toNat_shiftLeft, a1, a2]
    show (c.toBitVec.toNat % 256) <<< 0 % 2 ^ 32 ||| (c.toBitVec.toNat / 256) <<< 8 % 2 ^ 32 = _
    rw [Nat.shiftLeft_zero, Nat.mod_eq_of_lt (show c.toBitVec.toNat % 256 < 2 ^ 32 by omega), Nat.mod_eq_of_lt (show (c.toBitVec.toNat / 256) <<< 8 < 2 ^ 32 by rw [Nat.shiftLeft_eq]; omega), Nat.or_comm, ← Nat.shiftLeft_add_eq_or_of_lt (by omega), Nat.shiftLeft_eq]
    omega
  show BitVec.toNat (((((lo8 c &&& 255) <<< (0 : Int32)) ||| ((hi8 c &&& 255) <<< (8 : Int32))).toBitVec.setWidth 16).setWidth 32) = _
  rw [BitVec.toNat_setWidth, BitVec.toNat_setWidth, g]
  omega
end StrChars
namespace StrChars
open Jvm Sem ClassFile Op Lib Jvm.Stand Jvm.Free.XT Jvm.Free.ALB Jvm.Free.JM Jvm.Free
open Jvm.Lib.Cold (StaticIs)
/-- the array's cell V codes the n chars f 0 .. f (n - 1) by the coder cd, as the JDK does: coder 1 just where some char is above 255 -/
def Cod (cd : Int32) (n : Nat) (f : Nat → Int32) (V : Cell) : Prop := (cd = 0 ∧ V.slots.size = n ∧ ∀ j, j < n → V.slots[j]? = some (.int (lo8 (f j))) ∧ ¬ 255 < f j) ∨ (cd = 1 ∧ V.slots.size = 2 * n ∧ (∀ j, j < n → V.slots[2 * j]? = some (.int (lo8 (f j))) ∧ V.slots[2 * j + 1]? = some (.int (hi8 (f j)))) ∧ ∃ j, j < n ∧ 255 < f j)
/-- **x is a String of the n chars f 0 .. f (n - 1)**, Latin-1 or UTF-16; its array at t has the cell V -/
def Txt (x t : Addr) (V : Cell) (cd : Int32) (n : Nat) (f : Nat → Int32) (U : State) : Prop := Exact "java/lang/String" x U ∧ Has x "java/lang/String" "value" "[B" (.ref t) U ∧ Has x "java/lang/String" "coder" "B" (.int cd) U ∧ XT.Arr .byte t V U ∧ Cod cd n f V ∧ ∀ j, j < n → ¬ f j < 0 ∧ ¬ 65535 < f j
theorem Txt.mv {x t : Addr} {V : Cell} {cd : Int32} {n : Nat} {f : Nat → Int32} {U U' : State} (h : Txt x t V cd n f U) (hal : U.vm.Alike U'.vm) (hh : U'.heap = U.heap) : Txt x t V cd n f U' := ⟨h.1.mv hal hh, h.2.1.mv hal hh, h.2.2.1.mv hal hh, h.2.2.2.1.mv hal hh, h.2.2.2.2⟩
end StrChars
namespace StrChars.Road
open Jvm Sem ClassFile Op Lib Jvm.Stand Jvm.Free Jvm.Free.XT
open Jvm.Lib.Cold (StaticIs)
theorem consq {a : Array Value} {s : State} {c : Jvm.Cond} {L : List Jvm.Cond} (h0 : c.before a s = true) (h : ∀ w ∈ L, w.before a s = true) : ∀ w ∈ c :: L, w.before a s = true := fun w hw => (List.mem_cons.mp hw).elim (fun e => e ▸ h0) (h w)
/-- the bytes of the chars cs, low before high -/
def wideBytes : List Int32 → List Value
  | [] => []
  | c :: cs => .int (lo8 c) :: .int (hi8 c) :: wideBytes cs
theorem wide_lo (d : Value) : ∀ (cs : List Int32) (j : Nat), j < cs.length → (wideBytes cs).getD (2 * j) d = .int (lo8 (cs.getD j 0))
  | [], j, h => absurd h (Nat.not_lt_zero j)
  | c :: cs, 0, _ => rfl
  | c :: cs, j + 1, h => by
    have q := wide_lo d cs j (by simpa using h)
    rw [show 2 * (j + 1) = 2 * j + 1 + 1 from by omega]
    simpa [wideBytes] using q
theorem wide_hi (d : Value) : ∀ (cs : List Int32) (j : Nat), j < cs.length → (wideBytes cs).getD (2 * j + 1) d = .int (hi8 (cs.getD j 0))
  | [], j, h => absurd h (Nat.not_lt_zero j)
  | c :: cs, 0, _ => rfl
  | c :: cs, j + 1, h => by
    have q := wide_hi d cs j (by simpa using h)
    rw [show 2 * (j + 1) + 1 = 2 * j + 1 + 1 + 1 from by omega]
    simpa [wideBytes] using q
theorem low_at (d : Value) (cs : List Int32) (j : Nat) (h : j < cs.length) : (cs.map fun c => Value.int (lo8 c)).getD j d = .int (lo8 (cs.getD j 0)) := by
  simp [List.getD_eq_getElem?_getD, h]
/-- an array of N2 bytes vs codes the chars cs by the coder cd -/
def CodA (cs : List Int32) (cd N2 : Int32) (vs : List Value) : Prop := (cd = 0 ∧ N2 = Int32.ofNat cs.length ∧ vs = (cs.map fun c => Value.int (lo8 c)) ∧ ∀ c ∈ cs, ¬ 255 < c) ∨ (cd = 1 ∧ N2 = Int32.ofNat (2 * cs.length) ∧ vs = wideBytes cs ∧ ∃ c ∈ cs, 255 < c)
theorem CodA.cod {cs : List Int32} {cd N2 : Int32} {vs : List Value} {V : Cell} (h : CodA cs cd N2 vs) (hn : 2 * cs.length < 2 ^ 31) (hs : V.slots.size = N2.toNatClampNeg) (hv : RoadKit.Has V vs (.int 0)) : Cod cd cs.length (fun j => cs.getD j 0) V := by
  rcases h with ⟨rfl, rfl, rfl, h⟩ | ⟨rfl, rfl, rfl, c, hc, hw⟩
  · rw [n32 (by omega)] at hs
    exact Or.inl ⟨rfl, hs, fun j hj => ⟨by rw [hv j (by omega), low_at _ _ _ hj], by
      have e : cs.getD j 0 = cs[j] := by simp [List.getD_eq_getElem?_getD, hj]
      show ¬ 255 < cs.getD j 0
      rw [e]; exact h _ (List.getElem_mem _)⟩⟩
  · rw [n32 (by omega)] at hs
    obtain ⟨j, hj, rfl⟩ := List.getElem_of_mem hc
    exact Or.inr ⟨rfl, hs, fun j hj => ⟨by rw [hv _ (by omega), wide_lo _ _ _ hj], by rw [hv _ (by omega), wide_hi _ _ _ hj]⟩, j, hj, by
      have e : cs.getD j 0 = cs[j] := by simp [List.getD_eq_getElem?_getD, hj]
      show 255 < cs.getD j 0
      rw [e]; exact hw⟩
/-- an object of exactly java/lang/String, its two fields found: as the laws ask it -/
theorem strObj {Z U : State} {a0 : Array Value} {kI : Nat} (wi : (Jvm.Cond.instantiable ST kI).before a0 Z = true) (al : Z.vm.Alike U.vm) {x : Addr} {v0 c0 : Value} (E : RoadKit.Exa Z U.heap x ST) (V : RoadKit.Fld Z U.heap x ST "value" "[B" v0) (C : RoadKit.Fld Z U.heap x ST "coder" "B" c0) :
    ∃ (D : Cell) (fV fC : Field), Blank ST x D U ∧ Found ST "value" "[B" fV U ∧ Found ST "coder" "B" fC U ∧ D.slots[fV.slot]? = some v0 ∧ D.slots[fC.slot]? = some c0 ∧ RoadKit.slotOf Z ST "value" "[B" = fV.slot ∧ RoadKit.slotOf Z ST "coder" "B" = fC.slot := by
  obtain ⟨D, cfV, kV, iV, fV, hD, gV, stV, knV, obV, asV, slV⟩ := V
  obtain ⟨D', cfC, kC, iC, fC, hD', gC, stC, -, -, asC, slC⟩ := C
  cases hD.symm.trans hD'
  obtain ⟨D2, kD, e1, e2, e3, e4, e5⟩ := E
  cases hD.symm.trans e1
  obtain ⟨c2, k2, i1, i2, i3, -⟩ := Cond.instantiable_spec wi
  cases e2.symm.trans i1
  cases e3.symm.trans i2
  obtain ⟨kU, u1, u2⟩ := al.2.2 _ _ e3
  exact ⟨D, fV, fC, ⟨hD, ⟨knV, fun q hq => by rw [hq] at obV; cases obV⟩, by rw [al.findClass]; exact e2, kU, u1, by rw [u2]; exact i3, by rw [u2]; exact e5 i3⟩, ⟨SBG.found_only al ⟨cfV, kV, iV, gV⟩, stV⟩, ⟨SBG.found_only al ⟨cfC, kC, iC, gC⟩, stC⟩, slV, slC, by simp [RoadKit.slotOf, gV], by simp [RoadKit.slotOf, gC]⟩
theorem sta_is {Z U : State} (al : Z.vm.Alike U.vm) {C n d : String} {v : Value} (S : RoadKit.Sta Z U.heap C n d v) : StaticIs U C n d v := by
  obtain ⟨cfS, iS, kS, fS, st, cS, t1, t2, t3, t4, t5, t6, t7⟩ := S
  exact StaticIs.there (s := { Z with heap := U.heap }) ⟨cfS, iS, kS, fS, st, cS, t1, t2, t3, t4, t5, (fun q => by rw [q] at t6; cases t6), t7⟩ al rfl
end StrChars.Road
namespace StrChars
open Jvm Sem ClassFile Op Lib Jvm.Stand Jvm.Free.XT Jvm.Free.ALB Jvm.Free.JM Jvm.Free
open Jvm.Lib.Cold (StaticIs)
/-- what place i of a byte[]'s cell holds -/
def yv (A : Cell) (i : Nat) : Int32 := match A.slots[i]? with | some (.int x) => x | _ => 0
theorem yv_get {a : Addr} {A : Cell} {U : State} (h : XT.Arr .byte a A U) (ht : Typed .byte A) {i : Nat} (hi : i < A.slots.size) : A.slots[i]? = some (.int (yv A i)) := by
  have e := Array.getElem?_eq_getElem hi
  have f := ht i _ e
  unfold yv; rw [e]
  generalize A.slots[i] = v at f
  cases v <;> simp [fits] at f ⊢
/-- the two arrays are equal, place for place -/
def EqC (A B : Cell) : Prop := A.slots.size = B.slots.size ∧ ∀ i, i < A.slots.size → yv A i = yv B i
/-- a boolean that says whether p -/
def Says01 (q : Prop) (r : Option Value) (s u : State) : Prop := ∃ v : Int32, r = some (.int v) ∧ u.heap = s.heap ∧ ((v = 1 ∧ q) ∨ (v = 0 ∧ ¬ q))
theorem Says01.mv {q : Prop} : ∀ r (U U' V V' : State), U'.heap = U.heap → V.vm.Alike V'.vm → V'.heap = V.heap → Says01 q r U V → Says01 q r U' V' :=
  fun r U U' V V' h1 _ h2 ⟨v, a, b, c⟩ => ⟨v, a, by rw [h1, h2]; exact b, c⟩
namespace LEq
def yN : MethodName := ⟨"java/lang/StringLatin1", "equals", "([B[B)Z"⟩
abbrev yB : ByteArray := jdk_43_method_13_code
theorem d0 : decode yB 0 = .ok (.aload_n 0, 1) := by decide +kernel
theorem d1 : decode yB 1 = .ok (.arraylength, 1) := by decide +kernel
theorem d2 : decode yB 2 = .ok (.aload_n 1, 1) := by decide +kernel
theorem d3 : decode yB 3 = .ok (.arraylength, 1) := by decide +kernel
theorem d4 : decode yB 4 = .ok (.if_icmp (.ne) 30, 3) := by decide +kernel
theorem d7 : decode yB 7 = .ok (.iconst 0, 1) := by decide +kernel
theorem d8 : decode yB 8 = .ok (.istore_n 2, 1) := by decide +kernel
theorem d9 : decode yB 9 = .ok (.iload_n 2, 1) := by decide +kernel
theorem d10 : decode yB 10 = .ok (.aload_n 0, 1) := by decide +kernel
theorem d11 : decode yB 11 = .ok (.arraylength, 1) := by decide +kernel
theorem d12 : decode yB 12 = .ok (.if_icmp (.ge) 20, 3) := by decide +kernel
theorem d15 : decode yB 15 = .ok (.aload_n 0, 1) := by decide +kernel
theorem d16 : decode yB 16 = .ok (.iload_n 2, 1) := by decide +kernel
theorem d17 : decode yB 17 = .ok (.baload, 1) := by decide +kernel
theorem d18 : decode yB 18 = .ok (.aload_n 1, 1) := by decide +kernel
theorem d19 : decode yB 19 = .ok (.iload_n 2, 1) := by decide +kernel
theorem d20 : decode yB 20 = .ok (.baload, 1) := by decide +kernel
theorem d21 : decode yB 21 = .ok (.if_icmp (.eq) 5, 3) := by decide +kernel
theorem d24 : decode yB 24 = .ok (.iconst 0, 1) := by decide +kernel
theorem d25 : decode yB 25 = .ok (.ireturn, 1) := by decide +kernel
theorem d26 : decode yB 26 = .ok (.iinc 2 1, 3) := by decide +kernel
theorem d29 : decode yB 29 = .ok (.goto (-20), 3) := by decide +kernel
theorem d32 : decode yB 32 = .ok (.iconst 1, 1) := by decide +kernel
theorem d33 : decode yB 33 = .ok (.ireturn, 1) := by decide +kernel
theorem d34 : decode yB 34 = .ok (.iconst 0, 1) := by decide +kernel
theorem d35 : decode yB 35 = .ok (.ireturn, 1) := by decide +kernel
def site : List Cond := []
def tab : Cond := tabOf yN yB 3 (some .boolean) site
def P (a : Addr) (A : Cell) (b : Addr) (B : Cell) (args : Array Value) (s : State) : Prop := args = #[.ref a, .ref b] ∧ XT.Arr .byte a A s ∧ Typed .byte A ∧ XT.Arr .byte b B s ∧ Typed .byte B
/-- whether two byte[] are equal, place for place -/
theorem law (l : Launch) (a : Addr) (A : Cell) (b : Addr) (B : Cell) : Law l yN 2 2 0 0 yB 3 (some .boolean) site (P a A b B) (Says01 (EqC A B)) [] 0 0 := by
  refine Law.of_walk (plainFor_of_name (by decide +kernel)) (by decide +kernel) (by decide +kernel) (by decide) (fun _ _ h => by rw [h.1]; rfl) (fun _ U U' hal hh h => ⟨h.1, h.2.1.mv hal hh, h.2.2.1, h.2.2.2.1.mv hal hh, h.2.2.2.2⟩) (fun r U U' V V' h1 hal h2 h => Says01.mv r U U' V V' h1 hal h2 h) ?_
  intro p e s m args below meth c s₁ X0 hexec hbytes hml hret hlk hnm hown hh0 W hP
  obtain ⟨rfl, hA, tA, hB, tB⟩ := hP
  have a31 := hA.2.2.2
  have b31 := hB.2.2.2
  have hA0 := hA.mv X0.warmed.alike hh0
  have hB0 := hB.mv X0.warmed.alike hh0
  have c1 : Steps p.tables e below (s₁.setTop (entryFrame m #[.ref a, .ref b] 3)) (s₁.setTop (mkF m 0 #[.val (.ref a), .val (.ref b), .unset] [])) := entry rfl
  have c2 : Steps p.tables e below (s₁.setTop (entryFrame m #[.ref a, .ref b] 3)) (s₁.setTop (mkF m 4 #[.val (.ref a), .val (.ref b), .unset] [.int (Int32.ofNat B.slots.size), .int (Int32.ofNat A.slots.size)])) := c1.trans (by
    refine XS.aloadN X0.here hexec rfl (hb hbytes d0) rfl rfl ?_
    refine X0.alen hexec hA0 rfl rfl (hb hbytes d1) ?_
    refine XS.aloadN X0.here hexec rfl (hb hbytes d2) rfl rfl ?_
    refine X0.alen hexec hB0 rfl rfl (hb hbytes d3) ?_
    exact Steps.refl _)
  by_cases hs : A.slots.size = B.slots.size
  · have c3 : Steps p.tables e below (s₁.setTop (entryFrame m #[.ref a, .ref b] 3)) (s₁.setTop (mkF m 9 #[.val (.ref a), .val (.ref b), .val (.int 0)] [])) := c2.trans (by
      refine XS.icmpNo X0.here hexec rfl (hb hbytes d4) rfl (ii_ne_f (by rw [hs])) ?_
      refine iconstV X0.here hexec rfl 0 (hb hbytes d7) (by decide) ?_
      refine XS.istoreN X0.here hexec rfl (hb hbytes d8) rfl rfl ?_
      exact Steps.refl _)
    have loop : ∀ (r i : Nat), i + r = A.slots.size → (∀ j, j < i → yv A j = yv B j) → Steps p.tables e below (s₁.setTop (entryFrame m #[.ref a, .ref b] 3)) (s₁.setTop (mkF m 9 #[.val (.ref a), .val (.ref b), .val (.int (Int32.ofNat i))] [])) → ∃ (pc : Nat) (Ls : Array Slot) (v : Int32), (pc = 25 ∨ pc = 33) ∧ ((v = 1 ∧ EqC A B) ∨ (v = 0 ∧ ¬ EqC A B)) ∧ Steps p.tables e below (s₁.setTop (entryFrame m #[.ref a, .ref b] 3)) (s₁.setTop (mkF m pc Ls [.int v])) := by
      intro r
      induction r with
      | zero =>
        intro i hi he cl
        exact ⟨33, _, 1, Or.inr rfl, Or.inl ⟨rfl, hs, fun j hj => he j (by omega)⟩, cl.trans (by
          refine XS.iloadN X0.here hexec rfl (hb hbytes d9) rfl ?_
          refine XS.aloadN X0.here hexec rfl (hb hbytes d10) rfl rfl ?_
          refine X0.alen hexec hA0 rfl rfl (hb hbytes d11) ?_
          refine XS.icmpYes X0.here hexec rfl (pc0 := 12) rfl (hb hbytes d12) rfl (ii_ge_t (nlt32 (by omega) (by omega))) (by decide) rfl ?_
          refine iconstV X0.here hexec rfl 1 (hb hbytes d32) (by decide) ?_
          exact Steps.refl _)⟩
      | succ r ih =>
        intro i hi he cl
        have c4 : Steps p.tables e below (s₁.setTop (entryFrame m #[.ref a, .ref b] 3)) (s₁.setTop (mkF m 21 #[.val (.ref a), .val (.ref b), .val (.int (Int32.ofNat i))] [.int (yv B i), .int (yv A i)])) := cl.trans (by
          refine XS.iloadN X0.here hexec rfl (hb hbytes d9) rfl ?_
          refine XS.aloadN X0.here hexec rfl (hb hbytes d10) rfl rfl ?_
          refine X0.alen hexec hA0 rfl rfl (hb hbytes d11) ?_
          refine XS.icmpNo X0.here hexec rfl (hb hbytes d12) rfl (ii_ge_f (lt32 (by omega) (by omega))) ?_
          refine XS.aloadN X0.here hexec rfl (hb hbytes d15) rfl rfl ?_
          refine XS.iloadN X0.here hexec rfl (hb hbytes d16) rfl ?_
          refine X0.aget hexec hA0 rfl (yv_get hA tA (i := i) (by omega)) rfl rfl (hb hbytes d17) ?_
          refine XS.aloadN X0.here hexec rfl (hb hbytes d18) rfl rfl ?_
          refine XS.iloadN X0.here hexec rfl (hb hbytes d19) rfl ?_
          refine X0.aget hexec hB0 rfl (yv_get hB tB (i := i) (by omega)) rfl rfl (hb hbytes d20) ?_
          exact Steps.refl _)
        by_cases hv : yv A i = yv B i
        · have c5 : Steps p.tables e below (s₁.setTop (entryFrame m #[.ref a, .ref b] 3)) (s₁.setTop (mkF m 9 #[.val (.ref a), .val (.ref b), .val (.int (Int32.ofNat i + 1))] [])) := c4.trans (by
            refine XS.icmpYes X0.here hexec rfl (pc0 := 21) rfl (hb hbytes d21) rfl (ii_eq_t hv) (by decide) rfl ?_
            refine iincV X0.here hexec rfl 1 (hb hbytes d26) (by decide) rfl rfl ?_
            refine XS.goto X0.here hexec rfl (pc0 := 29) rfl (hb hbytes d29) (by decide) rfl ?_
            exact Steps.refl _)
          rw [succ32] at c5
          exact ih (i + 1) (by omega) (fun j hj => by
            by_cases e : j = i
            · rw [e]; exact hv
            · exact he j (by omega)) c5
        · exact ⟨25, _, 0, Or.inl rfl, Or.inr ⟨rfl, fun q => hv (q.2 i (by omega))⟩, c4.trans (by
            refine XS.icmpNo X0.here hexec rfl (hb hbytes d21) rfl (ii_eq_f hv) ?_
            refine iconstV X0.here hexec rfl 0 (hb hbytes d24) (by decide) ?_
            exact Steps.refl _)⟩
    obtain ⟨pc, Ls, v, hpc, hv, cz⟩ := loop A.slots.size 0 (by omega) (fun j hj => absurd hj (Nat.not_lt_zero j)) c3
    have nv : narrow .boolean (.int v) = .int v := by rcases hv with ⟨rfl, -⟩ | ⟨rfl, -⟩ <;> rfl
    rcases hpc with rfl | rfl
    · exact ⟨s₁, some (.int v), _, _, _, X0, rfl, rfl, rfl, (fun h => by cases h), ⟨v, rfl, hh0, hv⟩, fun fs hl => cz.trans (X0.ireturnOut hexec hret nv (Or.inr (Or.inl rfl)) (hb hbytes d25) hl)⟩
    · exact ⟨s₁, some (.int v), _, _, _, X0, rfl, rfl, rfl, (fun h => by cases h), ⟨v, rfl, hh0, hv⟩, fun fs hl => cz.trans (X0.ireturnOut hexec hret nv (Or.inr (Or.inl rfl)) (hb hbytes d33) hl)⟩
  · have c3 : Steps p.tables e below (s₁.setTop (entryFrame m #[.ref a, .ref b] 3)) (s₁.setTop (mkF m 35 #[.val (.ref a), .val (.ref b), .unset] [.int 0])) := c2.trans (by
      refine XS.icmpYes X0.here hexec rfl (pc0 := 4) rfl (hb hbytes d4) rfl (ii_ne_t (ne32 a31 b31 hs)) (by decide) rfl ?_
      refine iconstV X0.here hexec rfl 0 (hb hbytes d34) (by decide) ?_
      exact Steps.refl _)
    exact ⟨s₁, some (.int 0), _, _, _, X0, rfl, rfl, rfl, (fun h => by cases h), ⟨0, rfl, hh0, Or.inr ⟨rfl, fun q => hs q.1⟩⟩, fun fs hl => c3.trans (X0.ireturnOut hexec hret rfl (Or.inr (Or.inl rfl)) (hb hbytes d35) hl)⟩
end LEq
theorem Cod.ty {cd : Int32} {n : Nat} {f : Nat → Int32} {V : Cell} (h : Cod cd n f V) : Typed .byte V := fun i v hv => by
  have hi : i < V.slots.size := (Array.getElem?_eq_some_iff.mp hv).1
  rcases h with ⟨-, k1, k2⟩ | ⟨-, k1, k2, -⟩
  · rw [(k2 i (by omega)).1] at hv; cases hv; exact fits_lo8 _
  · rcases Nat.mod_two_eq_zero_or_one i with e | e
    · obtain ⟨j, rfl⟩ : ∃ j, i = 2 * j := ⟨i / 2, by omega⟩
      rw [(k2 j (by omega)).1] at hv; cases hv; exact fits_lo8 _
    · obtain ⟨j, rfl⟩ : ∃ j, i = 2 * j + 1 := ⟨i / 2, by omega⟩
      rw [(k2 j (by omega)).2] at hv; cases hv; exact fits_lo8 _
/-- the same text -/
def SameT (n : Nat) (f : Nat → Int32) (k : Nat) (g : Nat → Int32) : Prop := n = k ∧ ∀ j, j < n → f j = g j
theorem lo8_inj {x y : Int32} (h0 : ¬ x < 0) (h1 : ¬ 255 < x) (k0 : ¬ y < 0) (k1 : ¬ 255 < y) (h : lo8 x = lo8 y) : x = y := by
  rw [← lo8_mask h0 h1, ← lo8_mask k0 k1, h]
/-- arrays coded by one coder are equal just where the texts are -/
theorem Cod.eqv {cd : Int32} {n k : Nat} {f g : Nat → Int32} {V V' : Cell} (h : Cod cd n f V) (h' : Cod cd k g V') (hf : ∀ j, j < n → ¬ f j < 0 ∧ ¬ 65535 < f j) (hg : ∀ j, j < k → ¬ g j < 0 ∧ ¬ 65535 < g j) : EqC V V' ↔ SameT n f k g := by
  have yvv : ∀ {W : Cell} {i : Nat} {x : Int32}, W.slots[i]? = some (.int x) → yv W i = x := fun q => by unfold yv; rw [q]
  rcases h with ⟨rfl, k1, k2⟩ | ⟨rfl, k1, k2, -⟩
  · rcases h' with ⟨-, m1, m2⟩ | ⟨e, -⟩
    · constructor
      · rintro ⟨e1, e2⟩
        refine ⟨by omega, fun j hj => ?_⟩
        have q := e2 j (by omega)
        rw [yvv (k2 j hj).1, yvv (m2 j (by omega)).1] at q
        exact lo8_inj (hf j hj).1 (k2 j hj).2 (hg j (by omega)).1 (m2 j (by omega)).2 q
      · rintro ⟨rfl, e2⟩
        refine ⟨by omega, fun j hj => ?_⟩
        rw [yvv (k2 j (by omega)).1, yvv (m2 j (by omega)).1, e2 j (by omega)]
    · exact absurd e (by decide)
  · rcases h' with ⟨e, -⟩ | ⟨-, m1, m2, -⟩
    · exact absurd e (by decide)
    · constructor
      · rintro ⟨e1, e2⟩
        refine ⟨by omega, fun j hj => ?_⟩
        have q1 := e2 (2 * j) (by omega)
        have q2 := e2 (2 * j + 1) (by omega)
        rw [yvv (k2 j hj).1, yvv (m2 j (by omega)).1] at q1
        rw [yvv (k2 j hj).2, yvv (m2 j (by omega)).2] at q2
        rw [← pair_says (hf j hj).1 (hf j hj).2, ← pair_says (hg j (by omega)).1 (hg j (by omega)).2, q1, q2]
      · rintro ⟨rfl, e2⟩
        refine ⟨by omega, fun i hi => ?_⟩
        rcases Nat.mod_two_eq_zero_or_one i with e | e
        · obtain ⟨j, rfl⟩ : ∃ j, i = 2 * j := ⟨i / 2, by omega⟩
          rw [yvv (k2 j (by omega)).1, yvv (m2 j (by omega)).1, e2 j (by omega)]
        · obtain ⟨j, rfl⟩ : ∃ j, i = 2 * j + 1 := ⟨i / 2, by omega⟩
          rw [yvv (k2 j (by omega)).2, yvv (m2 j (by omega)).2, e2 j (by omega)]
/-- two codings differ: so do the texts -/
theorem Cod.dif {cd cd' : Int32} {n k : Nat} {f g : Nat → Int32} {V V' : Cell} (h : Cod cd n f V) (h' : Cod cd' k g V') (hne : ¬ cd = cd') : ¬ SameT n f k g := by
  rintro ⟨rfl, e⟩
  rcases h with ⟨rfl, -, k2⟩ | ⟨rfl, -, -, j, hj, hw⟩
  · rcases h' with ⟨rfl, -⟩ | ⟨-, -, -, j, hj, hw⟩
    · exact hne rfl
    · exact (k2 j hj).2 (by rw [e j hj]; exact hw)
  · rcases h' with ⟨-, -, m2⟩ | ⟨rfl, -⟩
    · exact (m2 j hj).2 (by rw [← e j hj]; exact hw)
    · exact hne rfl
/-- an object of exactly C is an instance of C -/
theorem cinst {p : Program} {l : Launch} {e : Env} {R : Room} {s : State} {m : MethodId} {args : Array Value} {below : List Frame} {meth : Method} {c : Code} {T : State} {locs : List Loc} {cells slots : Nat} (X : Stand p l e R s m args below meth c T locs cells slots) (hexec : p.tables.exec = Jvm.exec) {own C : String} {index : Nat} (hown : s.vm.findClass own = some m.cls) (hlink : (Cond.classLink own index C).before args s = true) {a : Addr} (hE : Exact C a T)
    {g : JFrame} (hg : g.method = m) {rest : List Value} (hstack : g.stack = .ref a :: rest) (hdg : decode c.code g.pc = .ok (.instanceof index, 3)) :
    ∃ T', Stand p l e R s m args below meth c T' locs cells slots ∧ T'.heap = T.heap ∧ ∀ target, Steps p.tables e below (T'.setTop { g with pc := g.pc + 3, stack := .int 1 :: rest }) target → Steps p.tables e below (T.setTop g) target := by
  obtain ⟨cB, h1, D, h2, h3, h4⟩ := hE
  have h1' : s.vm.findClass C = some cB := by rw [← X.warmed.alike.findClass]; exact h1
  obtain ⟨vm', X', st⟩ := X.instanceofYes hexec hown hlink h2 h4 h1' (by rw [h3]; exact Jvm.Free.SB.assignable_self _ _) hg hstack hdg
  exact ⟨_, X', rfl, st⟩
theorem cself {p : Program} {l : Launch} {e : Env} {R : Room} {s : State} {m : MethodId} {args : Array Value} {below : List Frame} {meth : Method} {c : Code} {T : State} {locs : List Loc} {cells slots : Nat} (X : Stand p l e R s m args below meth c T locs cells slots) (hexec : p.tables.exec = Jvm.exec) {own C : String} {index : Nat} (hown : s.vm.findClass own = some m.cls) (hlink : (Cond.classLink own index C).before args s = true) {a : Addr} (hE : Exact C a T)
    {g : JFrame} (hg : g.method = m) {rest : List Value} (hstack : g.stack = .ref a :: rest) (hdg : decode c.code g.pc = .ok (.checkcast index, 3)) :
    ∃ T', Stand p l e R s m args below meth c T' locs cells slots ∧ T'.heap = T.heap ∧ ∀ target, Steps p.tables e below (T'.setTop { g with pc := g.pc + 3, stack := .ref a :: rest }) target → Steps p.tables e below (T.setTop g) target := by
  obtain ⟨cB, h1, D, h2, h3, h4⟩ := hE
  have h1' : s.vm.findClass C = some cB := by rw [← X.warmed.alike.findClass]; exact h1
  obtain ⟨vm', X', st⟩ := X.checkcastYes hexec hown hlink h2 h4 h1' (by rw [h3]; exact Jvm.Free.SB.assignable_self _ _) hg hstack hdg
  exact ⟨_, X', rfl, fun t h => st t (by rw [← hstack] at h; exact h)⟩
namespace SEq
def yN : MethodName := ⟨"java/lang/String", "equals", "(Ljava/lang/Object;)Z"⟩
abbrev yB : ByteArray := jdk_42_method_66_code
theorem d0 : decode yB 0 = .ok (.aload_n 0, 1) := by decide +kernel
theorem d1 : decode yB 1 = .ok (.aload_n 1, 1) := by decide +kernel
theorem d2 : decode yB 2 = .ok (.if_acmp (.ne) 5, 3) := by decide +kernel
theorem d5 : decode yB 5 = .ok (.iconst 1, 1) := by decide +kernel
theorem d6 : decode yB 6 = .ok (.ireturn, 1) := by decide +kernel
theorem d7 : decode yB 7 = .ok (.aload_n 1, 1) := by decide +kernel
theorem d8 : decode yB 8 = .ok (.instanceof 10, 3) := by decide +kernel
theorem d11 : decode yB 11 = .ok (.ifCond (.eq) 43, 3) := by decide +kernel
theorem d14 : decode yB 14 = .ok (.aload_n 1, 1) := by decide +kernel
theorem d15 : decode yB 15 = .ok (.checkcast 10, 3) := by decide +kernel
theorem d18 : decode yB 18 = .ok (.astore_n 2, 1) := by decide +kernel
theorem d19 : decode yB 19 = .ok (.getstatic 38, 3) := by decide +kernel
theorem d22 : decode yB 22 = .ok (.ifCond (.eq) 14, 3) := by decide +kernel
theorem d25 : decode yB 25 = .ok (.aload_n 0, 1) := by decide +kernel
theorem d26 : decode yB 26 = .ok (.getfield 15, 3) := by decide +kernel
theorem d29 : decode yB 29 = .ok (.aload_n 2, 1) := by decide +kernel
theorem d30 : decode yB 30 = .ok (.getfield 15, 3) := by decide +kernel
theorem d33 : decode yB 33 = .ok (.if_icmp (.ne) 21, 3) := by decide +kernel
theorem d36 : decode yB 36 = .ok (.aload_n 0, 1) := by decide +kernel
theorem d37 : decode yB 37 = .ok (.getfield 9, 3) := by decide +kernel
theorem d40 : decode yB 40 = .ok (.aload_n 2, 1) := by decide +kernel
theorem d41 : decode yB 41 = .ok (.getfield 9, 3) := by decide +kernel
theorem d44 : decode yB 44 = .ok (.invokestatic 541, 3) := by decide +kernel
theorem d47 : decode yB 47 = .ok (.ifCond (.eq) 7, 3) := by decide +kernel
theorem d50 : decode yB 50 = .ok (.iconst 1, 1) := by decide +kernel
theorem d51 : decode yB 51 = .ok (.goto 4, 3) := by decide +kernel
theorem d54 : decode yB 54 = .ok (.iconst 0, 1) := by decide +kernel
theorem d55 : decode yB 55 = .ok (.ireturn, 1) := by decide +kernel
def site : List Cond := [.classLink "java/lang/String" 10 "java/lang/String", .fieldLink "java/lang/String" 38 "java/lang/String" "COMPACT_STRINGS" "Z", .fieldLink "java/lang/String" 15 "java/lang/String" "coder" "B", .fieldLink "java/lang/String" 9 "java/lang/String" "value" "[B", LEq.tab] ++ staticW "java/lang/String" 541 LEq.yN
def tab : Cond := tabOf yN yB 3 (some .boolean) site
def P (x t : Addr) (V : Cell) (cd : Int32) (n : Nat) (f : Nat → Int32) (y t' : Addr) (V' : Cell) (cd' : Int32) (k : Nat) (g : Nat → Int32) (z : Int32) (args : Array Value) (s : State) : Prop := args = #[.ref x, .ref y] ∧ Txt x t V cd n f s ∧ Txt y t' V' cd' k g s ∧ StaticIs s "java/lang/String" "COMPACT_STRINGS" "Z" (.int z) ∧ ¬ z = 0
/-- equals(Object) of two Strings: whether the texts are the same -/
theorem law (l : Launch) (x t : Addr) (V : Cell) (cd : Int32) (n : Nat) (f : Nat → Int32) (y t' : Addr) (V' : Cell) (cd' : Int32) (k : Nat) (g : Nat → Int32) (z : Int32) : Law l yN 2 1 1 14 yB 3 (some .boolean) site (P x t V cd n f y t' V' cd' k g z) (Says01 (SameT n f k g)) [] 0 0 := by
  refine Law.of_walk (plainFor_of_name (by decide +kernel)) (by decide +kernel) (by decide +kernel) (by decide) (fun _ _ h => by rw [h.1]; rfl) (fun _ U U' hal hh h => ⟨h.1, h.2.1.mv hal hh, h.2.2.1.mv hal hh, h.2.2.2.1.there hal hh, h.2.2.2.2⟩) (fun r U U' V V' h1 hal h2 h => Says01.mv r U U' V V' h1 hal h2 h) ?_
  intro p e s m args below meth c s₁ X0 hexec hbytes hml hret hlk hnm hown hh0 W hP
  obtain ⟨rfl, hx, hy, s1, hz⟩ := hP
  have c1 : Steps p.tables e below (s₁.setTop (entryFrame m #[.ref x, .ref y] 3)) (s₁.setTop (mkF m 2 #[.val (.ref x), .val (.ref y), .unset] [.ref y, .ref x])) := Steps.trans (entry rfl) (by
    show Steps p.tables e below (s₁.setTop (mkF m 0 #[.val (.ref x), .val (.ref y), .unset] [])) _
    refine XS.aloadN X0.here hexec rfl (hb hbytes d0) rfl rfl ?_
    refine XS.aloadN X0.here hexec rfl (hb hbytes d1) rfl rfl ?_
    exact Steps.refl _)
  by_cases hxy : x = y
  · have c2 : Steps p.tables e below (s₁.setTop (entryFrame m #[.ref x, .ref y] 3)) (s₁.setTop (mkF m 6 #[.val (.ref x), .val (.ref y), .unset] [.int 1])) := c1.trans (by
      refine acmpNo X0.here hexec rfl (hb hbytes d2) rfl rfl rfl (by simp [acmp, hxy]) ?_
      refine iconstV X0.here hexec rfl 1 (hb hbytes d5) (by decide) ?_
      exact Steps.refl _)
    subst hxy
    have ec : cd = cd' := by
      obtain ⟨D, fd, a1, a2, a3⟩ := hx.2.2.1
      obtain ⟨D', fd', b1, b2, b3⟩ := hy.2.2.1
      cases a1.symm.trans b1
      obtain ⟨q1, q2, q3, q4⟩ := a2.1
      obtain ⟨r1, r2, r3, r4⟩ := b2.1
      cases q4.symm.trans r4
      cases a3.symm.trans b3; rfl
    have et : t = t' := by
      obtain ⟨D, fd, a1, a2, a3⟩ := hx.2.1
      obtain ⟨D', fd', b1, b2, b3⟩ := hy.2.1
      cases a1.symm.trans b1
      obtain ⟨q1, q2, q3, q4⟩ := a2.1
      obtain ⟨r1, r2, r3, r4⟩ := b2.1
      cases q4.symm.trans r4
      cases a3.symm.trans b3; rfl
    subst ec et
    have ev : V = V' := by cases hx.2.2.2.1.1.symm.trans hy.2.2.2.1.1; rfl
    subst ev
    have hs : SameT n f k g := (Cod.eqv hx.2.2.2.2.1 hy.2.2.2.2.1 hx.2.2.2.2.2 hy.2.2.2.2.2).mp ⟨rfl, fun _ _ => rfl⟩
    exact ⟨s₁, some (.int 1), _, _, _, X0, rfl, rfl, rfl, (fun h => by cases h), ⟨1, rfl, hh0, Or.inl ⟨rfl, hs⟩⟩, fun fs hl => c2.trans (X0.ireturnOut hexec hret rfl (Or.inr (Or.inl rfl)) (hb hbytes d6) hl)⟩
  · have c2 : Steps p.tables e below (s₁.setTop (entryFrame m #[.ref x, .ref y] 3)) (s₁.setTop (mkF m 8 #[.val (.ref x), .val (.ref y), .unset] [.ref y])) := c1.trans (by
      refine acmpYes X0.here hexec rfl (pc0 := 2) rfl (hb hbytes d2) rfl rfl rfl (by simp [acmp, hxy]) (by decide) rfl ?_
      refine XS.aloadN X0.here hexec rfl (hb hbytes d7) rfl rfl ?_
      exact Steps.refl _)
    obtain ⟨T3, X3, q3, st3⟩ := cinst X0 hexec hown (wk W (.classLink "java/lang/String" 10 "java/lang/String")) (hy.mv X0.warmed.alike hh0).1 (g := (mkF m 8 #[.val (.ref x), .val (.ref y), .unset] [.ref y])) rfl (rest := []) rfl (hb hbytes d8)
    have hh3 := q3.trans hh0
    have c4 : Steps p.tables e below (s₁.setTop (entryFrame m #[.ref x, .ref y] 3)) (T3.setTop (mkF m 15 #[.val (.ref x), .val (.ref y), .unset] [.ref y])) := (c2.trans (st3 _ (Steps.refl _))).trans (by
      refine XS.ifNo X3.here hexec rfl (hb hbytes d11) rfl (i0_eq_f (by decide)) ?_
      refine XS.aloadN X3.here hexec rfl (hb hbytes d14) rfl rfl ?_
      exact Steps.refl _)
    obtain ⟨T5, X5, q5, st5⟩ := cself X3 hexec hown (wk W (.classLink "java/lang/String" 10 "java/lang/String")) (hy.mv X3.warmed.alike hh3).1 (g := (mkF m 15 #[.val (.ref x), .val (.ref y), .unset] [.ref y])) rfl (rest := []) rfl (hb hbytes d15)
    have hh5 := q5.trans hh3
    have c6 : Steps p.tables e below (s₁.setTop (entryFrame m #[.ref x, .ref y] 3)) (T5.setTop (mkF m 19 #[.val (.ref x), .val (.ref y), .val (.ref y)] [])) := (c4.trans (st5 _ (Steps.refl _))).trans (by
      refine XS.astoreN X5.here hexec rfl (hb hbytes d18) rfl rfl rfl ?_
      exact Steps.refl _)
    obtain ⟨T7, X7, q7, st7⟩ := X5.sget hexec hown (wk W (.fieldLink "java/lang/String" 38 "java/lang/String" "COMPACT_STRINGS" "Z")) s1 (fun _ _ h => by rw [hh5]; exact h) (g := (mkF m 19 #[.val (.ref x), .val (.ref y), .val (.ref y)] [])) rfl (hb hbytes d19)
    have hh7 := q7.trans hh5
    have c8 : Steps p.tables e below (s₁.setTop (entryFrame m #[.ref x, .ref y] 3)) (T7.setTop (mkF m 26 #[.val (.ref x), .val (.ref y), .val (.ref y)] [.ref x])) := (c6.trans (st7 _ (Steps.refl _))).trans (by
      refine XS.ifNo X7.here hexec rfl (hb hbytes d22) rfl (i0_eq_f hz) ?_
      refine XS.aloadN X7.here hexec rfl (hb hbytes d25) rfl rfl ?_
      exact Steps.refl _)
    obtain ⟨T9, X9, q9, st9⟩ := X7.hget hexec hown (wk W (.fieldLink "java/lang/String" 15 "java/lang/String" "coder" "B")) (hx.mv X7.warmed.alike hh7).2.2.1 (g := (mkF m 26 #[.val (.ref x), .val (.ref y), .val (.ref y)] [.ref x])) rfl (rest := []) rfl (hb hbytes d26)
    have hh9 := q9.trans hh7
    have c10 : Steps p.tables e below (s₁.setTop (entryFrame m #[.ref x, .ref y] 3)) (T9.setTop (mkF m 30 #[.val (.ref x), .val (.ref y), .val (.ref y)] [.ref y, .int cd])) := (c8.trans (st9 _ (Steps.refl _))).trans (by
      refine XS.aloadN X9.here hexec rfl (hb hbytes d29) rfl rfl ?_
      exact Steps.refl _)
    obtain ⟨T11, X11, q11, st11⟩ := X9.hget hexec hown (wk W (.fieldLink "java/lang/String" 15 "java/lang/String" "coder" "B")) (hy.mv X9.warmed.alike hh9).2.2.1 (g := (mkF m 30 #[.val (.ref x), .val (.ref y), .val (.ref y)] [.ref y, .int cd])) rfl (rest := [.int cd]) rfl (hb hbytes d30)
    have hh11 := q11.trans hh9
    have c12 : Steps p.tables e below (s₁.setTop (entryFrame m #[.ref x, .ref y] 3)) (T11.setTop (mkF m 33 #[.val (.ref x), .val (.ref y), .val (.ref y)] [.int cd', .int cd])) := c10.trans (st11 _ (Steps.refl _))
    by_cases hcd : cd = cd'
    · subst hcd
      have c13 : Steps p.tables e below (s₁.setTop (entryFrame m #[.ref x, .ref y] 3)) (T11.setTop (mkF m 37 #[.val (.ref x), .val (.ref y), .val (.ref y)] [.ref x])) := c12.trans (by
        refine XS.icmpNo X11.here hexec rfl (hb hbytes d33) rfl (ii_ne_f rfl) ?_
        refine XS.aloadN X11.here hexec rfl (hb hbytes d36) rfl rfl ?_
        exact Steps.refl _)
      obtain ⟨T14, X14, q14, st14⟩ := X11.hget hexec hown (wk W (.fieldLink "java/lang/String" 9 "java/lang/String" "value" "[B")) (hx.mv X11.warmed.alike hh11).2.1 (g := (mkF m 37 #[.val (.ref x), .val (.ref y), .val (.ref y)] [.ref x])) rfl (rest := []) rfl (hb hbytes d37)
      have hh14 := q14.trans hh11
      have c15 : Steps p.tables e below (s₁.setTop (entryFrame m #[.ref x, .ref y] 3)) (T14.setTop (mkF m 41 #[.val (.ref x), .val (.ref y), .val (.ref y)] [.ref y, .ref t])) := (c13.trans (st14 _ (Steps.refl _))).trans (by
        refine XS.aloadN X14.here hexec rfl (hb hbytes d40) rfl rfl ?_
        exact Steps.refl _)
      obtain ⟨T16, X16, q16, st16⟩ := X14.hget hexec hown (wk W (.fieldLink "java/lang/String" 9 "java/lang/String" "value" "[B")) (hy.mv X14.warmed.alike hh14).2.1 (g := (mkF m 41 #[.val (.ref x), .val (.ref y), .val (.ref y)] [.ref y, .ref t])) rfl (rest := [.ref t]) rfl (hb hbytes d41)
      have hh16 := q16.trans hh14
      have c17 : Steps p.tables e below (s₁.setTop (entryFrame m #[.ref x, .ref y] 3)) (T16.setTop (mkF m 44 #[.val (.ref x), .val (.ref y), .val (.ref y)] [.ref t', .ref t])) := c15.trans (st16 _ (Steps.refl _))
      obtain ⟨v18, T18, X18, E18, g18⟩ := X16.callS hexec (LEq.law l t V t' V') hown (wks W (staticW "java/lang/String" 541 LEq.yN)) (wk W LEq.tab) (W := 0) (Nat.le_of_ble_eq_true rfl) (Nat.le_of_ble_eq_true rfl) (Nat.le_refl _) (Nat.le_refl _) (g := (mkF m 44 #[.val (.ref x), .val (.ref y), .val (.ref y)] [.ref t', .ref t])) rfl (by rw [hml]; rfl) c17 (argsL := [.ref t, .ref t']) (rest := []) rfl rfl (by show 2 * 0 + 0 ≤ _; decide) (hb hbytes d44) (⟨rfl, hx.2.2.2.1.mv X16.warmed.alike hh16, hx.2.2.2.2.1.ty, hy.2.2.2.1.mv X16.warmed.alike hh16, hy.2.2.2.2.1.ty⟩)
      obtain ⟨v, rfl, q18, hv⟩ := E18
      have iff := Cod.eqv hx.2.2.2.2.1 hy.2.2.2.2.1 hx.2.2.2.2.2 hy.2.2.2.2.2
      rcases hv with ⟨rfl, he⟩ | ⟨rfl, he⟩
      · have c19 : Steps p.tables e below (s₁.setTop (entryFrame m #[.ref x, .ref y] 3)) (T18.setTop (mkF m 55 #[.val (.ref x), .val (.ref y), .val (.ref y)] [.int 1])) := Steps.trans g18 (by
          refine XS.ifNo X18.here hexec rfl (hb hbytes d47) rfl (i0_eq_f (by decide)) ?_
          refine iconstV X18.here hexec rfl 1 (hb hbytes d50) (by decide) ?_
          refine XS.goto X18.here hexec rfl (pc0 := 51) rfl (hb hbytes d51) (by decide) rfl ?_
          exact Steps.refl _)
        exact ⟨T18, some (.int 1), _, _, _, X18, rfl, rfl, rfl, (fun h => by cases h), ⟨1, rfl, q18.trans hh16, Or.inl ⟨rfl, iff.mp he⟩⟩, fun fs hl => c19.trans (X18.ireturnOut hexec hret rfl (Or.inr (Or.inl rfl)) (hb hbytes d55) hl)⟩
      · have c19 : Steps p.tables e below (s₁.setTop (entryFrame m #[.ref x, .ref y] 3)) (T18.setTop (mkF m 55 #[.val (.ref x), .val (.ref y), .val (.ref y)] [.int 0])) := Steps.trans g18 (by
          refine XS.ifYes X18.here hexec rfl (pc0 := 47) rfl (hb hbytes d47) rfl (i0_eq_t rfl) (by decide) rfl ?_
          refine iconstV X18.here hexec rfl 0 (hb hbytes d54) (by decide) ?_
          exact Steps.refl _)
        exact ⟨T18, some (.int 0), _, _, _, X18, rfl, rfl, rfl, (fun h => by cases h), ⟨0, rfl, q18.trans hh16, Or.inr ⟨rfl, fun q => he (iff.mpr q)⟩⟩, fun fs hl => c19.trans (X18.ireturnOut hexec hret rfl (Or.inr (Or.inl rfl)) (hb hbytes d55) hl)⟩
    · have c13 : Steps p.tables e below (s₁.setTop (entryFrame m #[.ref x, .ref y] 3)) (T11.setTop (mkF m 55 #[.val (.ref x), .val (.ref y), .val (.ref y)] [.int 0])) := c12.trans (by
        refine XS.icmpYes X11.here hexec rfl (pc0 := 33) rfl (hb hbytes d33) rfl (ii_ne_t hcd) (by decide) rfl ?_
        refine iconstV X11.here hexec rfl 0 (hb hbytes d54) (by decide) ?_
        exact Steps.refl _)
      exact ⟨T11, some (.int 0), _, _, _, X11, rfl, rfl, rfl, (fun h => by cases h), ⟨0, rfl, hh11, Or.inr ⟨rfl, Cod.dif hx.2.2.2.2.1 hy.2.2.2.2.1 hcd⟩⟩, fun fs hl => c13.trans (X11.ireturnOut hexec hret rfl (Or.inr (Or.inl rfl)) (hb hbytes d55) hl)⟩
theorem pays {l : Launch} {R : Room} {p : Program} {e : Env} {below : List Frame} {s : State} {sargs : Array Value} {len W : Nat} (x t : Addr) (V : Cell) (cd : Int32) (n : Nat) (f : Nat → Int32) (y t' : Addr) (V' : Cell) (cd' : Int32) (k : Nat) (g : Nat → Int32) (z : Int32) (htab : tab.before sargs s = true) (hfr : 2 ≤ R.frames) (hlo : W + 28 ≤ R.locals) :
    Back l R p e below s sargs yN len W (fun A₁ a₁ => A₁.cells + 0 ≤ R.cells ∧ A₁.slots + 0 ≤ R.slots ∧ P x t V cd n f y t' V' cd' k g z a₁ A₁.U) (fun A₁ _ v₁ B₁ => Says01 (SameT n f k g) v₁ A₁.U B₁.U ∧ B₁.locs = A₁.locs ++ [] ∧ B₁.cells = A₁.cells + 0 ∧ B₁.slots = A₁.slots + 0) :=
  (law l x t V cd n f y t' V' cd' k g z).pays htab hfr (by omega)
end SEq
end StrChars
namespace StrChars.Road
open Jvm Sem ClassFile Op Lib Jvm.Stand Jvm.Free Jvm.Free.XT
open Jvm.Lib.Cold (StaticIs)
/-- the words of String.equals(Object) -/
abbrev wordsEq : List Jvm.Cond := [.code SEq.yN SEq.yB 3 (some .boolean), .initialized ST, .classLink ST 10 ST, .fieldLink ST 38 ST "COMPACT_STRINGS" "Z", .fieldLink ST 15 ST "coder" "B", .fieldLink ST 9 ST "value" "[B", .methodLink ST 541 LEq.yN, .static LEq.yN, .code LEq.yN LEq.yB 3 (some .boolean), .initialized "java/lang/StringLatin1"]
theorem tabEq_of {a : Array Value} {s : State} (h : ∀ w ∈ wordsEq, w.before a s = true) : SEq.tab.before a s = true := by
  have hl : LEq.tab.before a s = true := unparts (wk h (.code LEq.yN LEq.yB 3 (some .boolean))) (wks h (.initialized LEq.yN.cls :: LEq.site))
  have q := consq hl h
  exact unparts (wk q (.code SEq.yN SEq.yB 3 (some .boolean))) (wks q (.initialized SEq.yN.cls :: SEq.site))
theorem movedEq {Z s : State} {a0 args : Array Value} (hZ : Z.Warmed39 s.vm) (hw : ∀ d ∈ wordsEq, d.before a0 Z = true) : ∀ d ∈ wordsEq, d.before args s = true := fun d hd => by
  have t : ∀ d ∈ wordsEq, (d.onTables && d.keepsFace) = true := by decide +kernel
  exact RoadKit.mv hZ (hw d hd) (t d hd)
/-- the road's facts of a String, as the laws ask it -/
theorem txt_of {Z U : State} {a0 : Array Value} {kI : Nat} (wi : (Jvm.Cond.instantiable ST kI).before a0 Z = true) (al : Z.vm.Alike U.vm) {x t : Addr} {kb : ClassId} {cs : List Int32} {cd N2 : Int32} {vs : List Value} (E : RoadKit.Exa Z U.heap x ST) (V : RoadKit.Fld Z U.heap x ST "value" "[B" (.ref t)) (C : RoadKit.Fld Z U.heap x ST "coder" "B" (.int cd)) (K : RoadKit.Arv Z U.heap t kb .byte N2 vs (.int 0)) (hc : CodA cs cd N2 vs) (hb : ∀ c ∈ cs, ¬ c < 0 ∧ ¬ (65535 : Int32) < c) (l2 : cs.length ≤ 4000) :
    ∃ A, Txt x t A cd cs.length (fun j => cs.getD j 0) U := by
  obtain ⟨A, K1, K2, K3, K4, K5, K6⟩ := K
  have hcod := hc.cod (by omega) K3 K5
  obtain ⟨D, fV, fC, hB, F1, F2, g1, g2, -, -⟩ := strObj wi al E V C
  exact ⟨A, ⟨_, hB.2.2.1, D, hB.1, rfl, by cases q : D.vm <;> first | rfl | exact absurd q (hB.2.1.2 _)⟩, Has.of hB F1 g1, Has.of hB F2 g2, ⟨K1.1, State.isArrayOf_alike al K1.2.1, K1.2.2, by rcases hcod with ⟨-, q, -⟩ | ⟨-, q, -⟩ <;> omega⟩, hcod, fun j hj => by
    have e : cs.getD j 0 = cs[j] := by simp [List.getD_eq_getElem?_getD, hj]
    show ¬ cs.getD j 0 < 0 ∧ ¬ 65535 < cs.getD j 0
    rw [e]; exact hb _ (List.getElem_mem _)⟩
theorem same_list (cs ds : List Int32) : SameT cs.length (fun j => cs.getD j 0) ds.length (fun j => ds.getD j 0) ↔ cs = ds := by
  constructor
  · rintro ⟨e, q⟩
    refine List.ext_getElem e fun j h1 h2 => ?_
    have := q j h1
    simpa [List.getD_eq_getElem?_getD, h1, h2] using this
  · rintro rfl
    exact ⟨rfl, fun _ _ => rfl⟩
/-- **equals(Object) OF TWO SUCH STRINGS**: 1 just where the chars are the same -/
theorem eqW {p : Program} {l : Launch} {e : Env} {R : Room} {s : State} {args : Array Value} {below : List Frame} {len W : Nat} {Z : State} {a0 : Array Value} {h : Heap} (hZ : Z.Warmed39 s.vm) (hw : ∀ d ∈ wordsEq, d.before a0 Z = true) {kI : Nat} (wi : (Jvm.Cond.instantiable ST kI).before a0 Z = true)
    {x t : Addr} {kb : ClassId} {cs : List Int32} {cd N2 : Int32} {vs : List Value} (E : RoadKit.Exa Z h x ST) (V : RoadKit.Fld Z h x ST "value" "[B" (.ref t)) (C : RoadKit.Fld Z h x ST "coder" "B" (.int cd)) (K : RoadKit.Arv Z h t kb .byte N2 vs (.int 0)) (hc : CodA cs cd N2 vs) (hb : ∀ c ∈ cs, ¬ c < 0 ∧ ¬ (65535 : Int32) < c) (l2 : cs.length ≤ 4000)
    {y t' : Addr} {kb' : ClassId} {ds : List Int32} {cd' N2' : Int32} {vs' : List Value} (E' : RoadKit.Exa Z h y ST) (V' : RoadKit.Fld Z h y ST "value" "[B" (.ref t')) (C' : RoadKit.Fld Z h y ST "coder" "B" (.int cd')) (K' : RoadKit.Arv Z h t' kb' .byte N2' vs' (.int 0)) (hc' : CodA ds cd' N2' vs') (hb' : ∀ c ∈ ds, ¬ c < 0 ∧ ¬ (65535 : Int32) < c) (l2' : ds.length ≤ 4000)
    {z : Int32} (S : RoadKit.Sta Z h ST "COMPACT_STRINGS" "Z" (.int z)) (hz : ¬ z = 0) (hfr : 2 ≤ R.frames) (hlo : W + 28 ≤ R.locals) :
    Back l R p e below s args (⟨"java/lang/String", "equals", "(Ljava/lang/Object;)Z"⟩ : MethodName) len W (fun P a => a = #[.ref x, .ref y] ∧ P.U.heap = h ∧ P.cells + 0 ≤ R.cells ∧ P.slots + 0 ≤ R.slots)
      (fun P _ v B => ∃ L, (((v = some (.int 1) ∧ cs = ds) ∨ (v = some (.int 0) ∧ ¬ cs = ds)) ∧ L = [] ∧ B.U.heap = h) ∧ B.locs = P.locs ++ L ∧ B.cells = P.cells + 0 ∧ B.slots = P.slots + 0) := by
  intro m meth c P g ig mk a X hg hsize hdg hW hn hp'
  obtain ⟨rfl, rfl, r1, r2⟩ := hp'
  have al : Z.vm.Alike P.U.vm := hZ.alike.trans X.warmed.alike
  obtain ⟨A, hx⟩ := txt_of wi al E V C K hc hb l2
  obtain ⟨A', hy⟩ := txt_of wi al E' V' C' K' hc' hb' l2'
  obtain ⟨v, B, X', ⟨⟨w, hv, hh, hq⟩, hl, hk, hs⟩, st⟩ := SEq.pays x t A cd cs.length (fun j => cs.getD j 0) y t' A' cd' ds.length (fun j => ds.getD j 0) z (tabEq_of (movedEq hZ hw)) hfr hlo m meth c P g ig mk _ X hg hsize hdg hW hn ⟨r1, r2, rfl, hx, hy, sta_is al S, hz⟩
  refine ⟨v, B, X', ⟨[], ⟨?_, rfl, hh⟩, hl, hk, hs⟩, st⟩
  rcases hq with ⟨rfl, q⟩ | ⟨rfl, q⟩
  · exact Or.inl ⟨hv, (same_list cs ds).mp q⟩
  · exact Or.inr ⟨hv, fun e => q ((same_list cs ds).mpr e)⟩
end StrChars.Road
end Jvm.Pilot.@@N@@
@@BLOCK:NumsL.lean.txt@@
namespace Jvm.Pilot.@@N@@
open Jvm Jvm.ClassFile Sem Op Lib Jvm.Free Jvm.Stand Jvm.LawKit Jvm.RoadKit Bundle Jvm.Pilot.@@N@@.Jvm.D
theorem own_EW {Z : State} {a0 : Array Value} (hw : ∀ d ∈ tables_1, d.before a0 Z = true) : EW Z a0 consts_1 := (EW.cons (hw _ (List.mem_of_getElem? (i := 95) rfl)) (by decide) (EW.cons (hw _ (List.mem_of_getElem? (i := 151) rfl)) (by decide) (EW.cons (hw _ (List.mem_of_getElem? (i := 149) rfl)) (by decide) EW.nil)))
theorem own_wS {Z : State} {a0 : Array Value} (hw : ∀ d ∈ tables_1, d.before a0 Z = true) : ∀ a ∈ Bundle.stringAtoms, a.before a0 Z = true := fun d hd => hw d ((by decide +kernel : ∀ d ∈ Bundle.stringAtoms, d ∈ tables_1) d hd)
theorem own_up (cs : List Int32) (h : ∀ c ∈ cs, ¬ c < 0 ∧ ¬ (255 : Int32) < c) : ∀ c ∈ cs, ¬ c < 0 ∧ ¬ (65535 : Int32) < c := fun c hc => ⟨(h c hc).1, fun q => (h c hc).2 (by rw [Int32.lt_iff_toInt_lt] at q ⊢; have e1 : (65535 : Int32).toInt = 65535 := rfl; have e2 : (255 : Int32).toInt = 255 := rfl; omega)⟩
theorem own_all0 {P : Int32 → Prop} : ∀ c ∈ ([] : List Int32), P c := fun _ h => nomatch h
theorem own_allS {P : Int32 → Prop} {a : Int32} {L : List Int32} (h : P a) (r : ∀ c ∈ L, P c) : ∀ c ∈ a :: L, P c := fun c hc => (List.mem_cons.mp hc).elim (fun e => e ▸ h) (r c)
/-- a String of these chars -/
def OStr (Z : State) (h : Heap) (x : Addr) (cs : List Int32) : Prop := ∃ (t : Addr) (kb : ClassId) (cd N2 : Int32) (vs : List Value), Exa Z h x "java/lang/String" ∧ Fld Z h x "java/lang/String" "value" "[B" (.ref t) ∧ Fld Z h x "java/lang/String" "coder" "B" (.int cd) ∧ Arv Z h t kb .byte N2 vs (.int (0 : Int32)) ∧ StrChars.Road.CodA cs cd N2 vs
theorem own_cod0 : StrChars.Road.CodA [] 0 (0 : Int32) [] := Or.inl ⟨rfl, rfl, rfl, fun _ h => nomatch h⟩
theorem own_mod3 (x : Int32) : ((x &&& (2147483647 : Int32)) % (3 : Int32)) = 0 ∨ ((x &&& (2147483647 : Int32)) % (3 : Int32)) = 1 ∨ ((x &&& (2147483647 : Int32)) % (3 : Int32)) = 2 := by
  have e1 : (x &&& (2147483647 : Int32)).toInt = x.toInt % 2 ^ 31 := Jvm.Kit.i32_mask x _ (k := 31) (by decide) (by decide)
  have e2 : ((x &&& (2147483647 : Int32)) % (3 : Int32)).toInt = (x &&& (2147483647 : Int32)).toInt % (3 : Int32).toInt := Jvm.Kit.i32_rem_nonneg (by omega)
  rw [show (3 : Int32).toInt = 3 from rfl] at e2
  rw [← Int32.toInt_inj, ← Int32.toInt_inj, ← Int32.toInt_inj, show (0 : Int32).toInt = 0 from rfl, show (1 : Int32).toInt = 1 from rfl, show (2 : Int32).toInt = 2 from rfl]
  omega
theorem d6_0 : decode prog_1_method_1_code 0 = .ok (.getstatic 13, 3) := by decide +kernel
theorem d6_3 : decode prog_1_method_1_code 3 = .ok (.invokevirtual 17, 3) := by decide +kernel
theorem d6_6 : decode prog_1_method_1_code 6 = .ok (.checkcast 18, 3) := by decide +kernel
theorem d6_9 : decode prog_1_method_1_code 9 = .ok (.areturn, 1) := by decide +kernel
theorem pn_com_example_amber_gate_ambergate_Algorithm : plainName "com/example/amber_gate/ambergate/Algorithm" = true := by first | (simp [plainName, overriddenIn]; done) | decide +kernel
def Q_rmV (Z : State) (a_EXACT : Addr) (a_SLIDING : Addr) (a_FIXED : Addr) (va : Addr) (kA : ClassId) (h0 : Heap) (n0 : Nat) (v : Option Value) (h : Heap) (L : List Loc) : Prop := ∃ b, v = some (.ref b) ∧ Fr n0 L ∧ Keep h0 h [] ∧ h0.size ≤ b ∧ Arv Z h b kA (.object "com/example/amber_gate/ambergate/Algorithm") (3 : Int32) [(.ref a_EXACT), (.ref a_SLIDING), (.ref a_FIXED)] .null
theorem pd_2829Ljava2flang2fObject3b : parseMethodDescriptor "()Ljava/lang/Object;" = some ⟨[], some (.object "java/lang/Object")⟩ := by decide +kernel
set_option maxRecDepth 65536 in
set_option maxHeartbeats 40000000 in
theorem rmV (l : Launch) (Z : State) (a0 : Array Value) (hw : ∀ d ∈ tables_1, d.before a0 Z = true) (ws : List Jvm.Cond) (a_EXACT : Addr) (a_SLIDING : Addr) (a_FIXED : Addr) (va : Addr) (kA : ClassId) (h0 : Heap) (n0 : Nat) (O0 : Old Z n0 h0) (S_V : Sta Z Z.heap "com/example/amber_gate/ambergate/Algorithm" "$VALUES" "[Lcom/example/amber_gate/ambergate/Algorithm;" (.ref va)) (AV : Arv Z Z.heap va kA (.object "com/example/amber_gate/ambergate/Algorithm") (3 : Int32) [(.ref a_EXACT), (.ref a_SLIDING), (.ref a_FIXED)] .null) (EV : Exa Z Z.heap va "[Lcom/example/amber_gate/ambergate/Algorithm;") :
    MetFree l (⟨"com/example/amber_gate/ambergate/Algorithm", "values", "()[Lcom/example/amber_gate/ambergate/Algorithm;"⟩ : MethodName) (head1 (Jvm.Cond.code (⟨"com/example/amber_gate/ambergate/Algorithm", "values", "()[Lcom/example/amber_gate/ambergate/Algorithm;"⟩ : MethodName) prog_1_method_1_code 0 (some (.array (.object "com/example/amber_gate/ambergate/Algorithm"))) :: ws) ({ frames := 1, cells := 1, slots := 3, locals := 14 } : Room)) (fun ar' U => ar' = #[] ∧ Z.Warmed39 U.vm ∧ U.heap = h0) (fun _ _ _ _ _ => True) (fun _ U o U' => ∃ v L, o = .returned v ∧ (Q_rmV Z a_EXACT a_SLIDING a_FIXED va kA h0 n0) v U'.heap L ∧ FrameEnd U o U' L ({ frames := 1, cells := 1, slots := 3, locals := 14 } : Room).cells ({ frames := 1, cells := 1, slots := 3, locals := 14 } : Room).slots) := by
  refine MetFree.of_bodySF (plainFor_of_name pn_com_example_amber_gate_ambergate_Algorithm) hisR ?_
  intro p e s m args below meth c s₁ Bd hml0 hP hK
  obtain ⟨rfl, hZ, hh⟩ := hP
  have hx := Bd.exec
  have hby := Bd.bytes
  have hlk := BodyLoose.notSynchronized Bd
  have hml : c.maxLocals = 0 := hml0
  have hown : s.vm.findClass "com/example/amber_gate/ambergate/Algorithm" = some m.cls := findClass_of_methodNamed Bd.named
  have hnm := (name_of_methodNamed Bd.named Bd.method).1
  have X0 : Stand p l e ({ frames := 1, cells := 1, slots := 3, locals := 14 } : Room) s m #[] below meth c s₁ [] 0 0 := Stand.of_body Bd
  have e0 : s₁.heap = h0 := by rw [← hh, Bd.state]; rfl
  have N0 := Fr.nil n0
  have Z0 : n0 ≤ h0.size := O0.1 ▸ O0.2.1
  show OEnds p e below s ({ frames := 1, cells := 1, slots := 3, locals := 14 } : Room).cells ({ frames := 1, cells := 1, slots := 3, locals := 14 } : Room).slots (Q_rmV Z a_EXACT a_SLIDING a_FIXED va kA h0 n0) (s₁.setTop (entryFrame m #[] 0))
  refine OEnds.via (fun _ k_ => castTop (show entryFrame m #[] 0 = (mkF m 0 #[] []) by first | (simp [entryFrame, mkF, argsToLocals, Value.category, maxLocals]; done) | rfl) k_) ?_
  obtain ⟨T1, X1, e1, st1⟩ := getS2 X0 hx hZ hown (host := "") (Or.inl (hw _ (List.mem_of_getElem? (i := 34) rfl))) Via.refl e0 (Sta.ext O0.2 S_V) (g := (mkF m 0 #[] [])) rfl (hb hby d6_0)
  refine OEnds.via (fun _ k_ => st1 _ k_) ?_
  show OEnds p e below s _ _ _ (T1.setTop (mkF m 3 #[] [(.ref va)]))
  obtain ⟨T2, h2, X2, e2, E2, A2, F2, st2⟩ := cloneH X1 hx hZ hown (hw _ (List.mem_of_getElem? (i := 36) rfl)) (hw _ (List.mem_of_getElem? (i := 37) rfl)) (hw _ (List.mem_of_getElem? (i := 41) rfl)) (hw _ (List.mem_of_getElem? (i := 39) rfl)) (hw _ (List.mem_of_getElem? (i := 40) rfl)) (hw _ (List.mem_of_getElem? (i := 42) rfl)) e1 (AV.arh.ext O0.2) (EV.ext O0.2) (g := (mkF m 3 #[] [(.ref va)])) rfl (by rw [hml]; rfl) rfl (hb hby d6_3) (by decide) (W := 0) (cap := 3) (Nat.le_refl 0) (by decide) (by decide) (by decide) (by decide)
  refine OEnds.via (fun _ k_ => st2 _ k_) ?_
  show OEnds p e below s _ _ _ (T2.setTop (mkF m 6 #[] [(.ref h0.size)]))
  obtain ⟨T3, X3, e3, st3⟩ := castY X2 hx hZ hown (hw _ (List.mem_of_getElem? (i := 47) rfl)) e2 (Ins.self F2) (g := (mkF m 6 #[] [(.ref h0.size)])) rfl rfl (hb hby d6_6)
  refine OEnds.via (fun _ k_ => st3 _ k_) ?_
  show OEnds p e below s _ _ _ (T3.setTop (mkF m 9 #[] [(.ref h0.size)]))
  refine OEnds.retR X3 hx hlk Bd.returns rfl rfl (hb hby d6_9) ?_ (by decide) (by decide)
  rw [e3]
  exact ⟨_, rfl, N0, (Keep.refl h0 []).ext E2, Nat.le_refl _, A2⟩
theorem d20_0 : decode prog_1_method_6_code 0 = .ok (.invokestatic 40, 3) := by decide +kernel
theorem d20_3 : decode prog_1_method_6_code 3 = .ok (.astore_n 1, 1) := by decide +kernel
theorem d20_4 : decode prog_1_method_6_code 4 = .ok (.aload_n 1, 1) := by decide +kernel
theorem d20_5 : decode prog_1_method_6_code 5 = .ok (.arraylength, 1) := by decide +kernel
theorem d20_6 : decode prog_1_method_6_code 6 = .ok (.istore_n 2, 1) := by decide +kernel
theorem d20_7 : decode prog_1_method_6_code 7 = .ok (.iconst 0, 1) := by decide +kernel
theorem d20_8 : decode prog_1_method_6_code 8 = .ok (.istore_n 3, 1) := by decide +kernel
theorem d20_9 : decode prog_1_method_6_code 9 = .ok (.iload_n 3, 1) := by decide +kernel
theorem d20_10 : decode prog_1_method_6_code 10 = .ok (.iload_n 2, 1) := by decide +kernel
theorem d20_11 : decode prog_1_method_6_code 11 = .ok (.if_icmp .ge 29, 3) := by decide +kernel
theorem d20_14 : decode prog_1_method_6_code 14 = .ok (.aload_n 1, 1) := by decide +kernel
theorem d20_15 : decode prog_1_method_6_code 15 = .ok (.iload_n 3, 1) := by decide +kernel
theorem d20_16 : decode prog_1_method_6_code 16 = .ok (.aaload, 1) := by decide +kernel
theorem d20_17 : decode prog_1_method_6_code 17 = .ok (.astore 4, 2) := by decide +kernel
theorem d20_19 : decode prog_1_method_6_code 19 = .ok (.aload 4, 2) := by decide +kernel
theorem d20_21 : decode prog_1_method_6_code 21 = .ok (.getfield 32, 3) := by decide +kernel
theorem d20_24 : decode prog_1_method_6_code 24 = .ok (.aload_n 0, 1) := by decide +kernel
theorem d20_25 : decode prog_1_method_6_code 25 = .ok (.invokevirtual 44, 3) := by decide +kernel
theorem d20_28 : decode prog_1_method_6_code 28 = .ok (.ifCond .eq 6, 3) := by decide +kernel
theorem d20_31 : decode prog_1_method_6_code 31 = .ok (.aload 4, 2) := by decide +kernel
theorem d20_33 : decode prog_1_method_6_code 33 = .ok (.areturn, 1) := by decide +kernel
theorem d20_34 : decode prog_1_method_6_code 34 = .ok (.iinc 3 1, 3) := by decide +kernel
theorem d20_37 : decode prog_1_method_6_code 37 = .ok (.goto (-28), 3) := by decide +kernel
theorem d20_40 : decode prog_1_method_6_code 40 = .ok (.new 50, 3) := by decide +kernel
theorem d20_43 : decode prog_1_method_6_code 43 = .ok (.dup, 1) := by decide +kernel
theorem d20_44 : decode prog_1_method_6_code 44 = .ok (.aload_n 0, 1) := by decide +kernel
theorem d20_45 : decode prog_1_method_6_code 45 = .ok (.ldc 52, 2) := by decide +kernel
theorem d20_47 : decode prog_1_method_6_code 47 = .ok (.invokestatic 54, 3) := by decide +kernel
theorem d20_50 : decode prog_1_method_6_code 50 = .ok (.invokestatic 58, 3) := by decide +kernel
theorem d20_53 : decode prog_1_method_6_code 53 = .ok (.invokedynamic 62, 5) := by decide +kernel
theorem d20_58 : decode prog_1_method_6_code 58 = .ok (.invokespecial 66, 3) := by decide +kernel
theorem d20_61 : decode prog_1_method_6_code 61 = .ok (.athrow, 1) := by decide +kernel
def Q_rmN0 (Z : State) (x : Addr) (tx : Addr) (kx : ClassId) (a_EXACT : Addr) (a_SLIDING : Addr) (a_FIXED : Addr) (t_EXACT : Addr) (t_SLIDING : Addr) (t_FIXED : Addr) (tv_EXACT : Addr) (tv_SLIDING : Addr) (tv_FIXED : Addr) (kt_EXACT : ClassId) (kt_SLIDING : ClassId) (kt_FIXED : ClassId) (va : Addr) (kA : ClassId) (G1 : Int32) (h0 : Heap) (n0 : Nat) (v : Option Value) (h : Heap) (L : List Loc) : Prop := v = some (.ref a_EXACT) ∧ Fr n0 L ∧ Keep h0 h []
theorem pd_28295bLcom2fexample2famber_gate2fambergate2fAlgorithm3b : parseMethodDescriptor "()[Lcom/example/amber_gate/ambergate/Algorithm;" = some ⟨[], some (.array (.object "com/example/amber_gate/ambergate/Algorithm"))⟩ := by decide +kernel
theorem pd_28Ljava2flang2fObject3b29Z : parseMethodDescriptor "(Ljava/lang/Object;)Z" = some ⟨[(.object "java/lang/Object")], some .boolean⟩ := by decide +kernel
set_option maxRecDepth 65536 in
set_option maxHeartbeats 40000000 in
theorem rmN0 (l : Launch) (Z : State) (a0 : Array Value) (hw : ∀ d ∈ tables_1, d.before a0 Z = true) (ws : List Jvm.Cond) (x : Addr) (tx : Addr) (kx : ClassId) (a_EXACT : Addr) (a_SLIDING : Addr) (a_FIXED : Addr) (t_EXACT : Addr) (t_SLIDING : Addr) (t_FIXED : Addr) (tv_EXACT : Addr) (tv_SLIDING : Addr) (tv_FIXED : Addr) (kt_EXACT : ClassId) (kt_SLIDING : ClassId) (kt_FIXED : ClassId) (va : Addr) (kA : ClassId) (G1 : Int32) (h0 : Heap) (n0 : Nat) (O0 : Old Z n0 h0) (Ex : Exa Z h0 x "java/lang/String") (Vx : Fld Z h0 x "java/lang/String" "value" "[B" (.ref tx)) (Cx : Fld Z h0 x "java/lang/String" "coder" "B" (.int (0 : Int32))) (Kx : Arv Z h0 tx kx .byte (5 : Int32) ((([(101 : Int32), (120 : Int32), (97 : Int32), (99 : Int32), (116 : Int32)] : List Int32).map (fun c => c.toInt8.toInt32)).map Value.int) (.int (0 : Int32))) (S_CS : Sta Z Z.heap "java/lang/String" "COMPACT_STRINGS" "Z" (.int G1)) (nz_CS : ¬ (G1 = (0 : Int32))) (S_V : Sta Z Z.heap "com/example/amber_gate/ambergate/Algorithm" "$VALUES" "[Lcom/example/amber_gate/ambergate/Algorithm;" (.ref va)) (AV : Arv Z Z.heap va kA (.object "com/example/amber_gate/ambergate/Algorithm") (3 : Int32) [(.ref a_EXACT), (.ref a_SLIDING), (.ref a_FIXED)] .null) (EV : Exa Z Z.heap va "[Lcom/example/amber_gate/ambergate/Algorithm;") (Et_EXACT : Exa Z Z.heap t_EXACT "java/lang/String") (Vt_EXACT : Fld Z Z.heap t_EXACT "java/lang/String" "value" "[B" (.ref tv_EXACT)) (Ct_EXACT : Fld Z Z.heap t_EXACT "java/lang/String" "coder" "B" (.int (0 : Int32))) (Kt_EXACT : Arv Z Z.heap tv_EXACT kt_EXACT .byte (5 : Int32) [(.int (101 : Int32)), (.int (120 : Int32)), (.int (97 : Int32)), (.int (99 : Int32)), (.int (116 : Int32))] (.int (0 : Int32))) (Ft_EXACT : Fld Z Z.heap a_EXACT "com/example/amber_gate/ambergate/Algorithm" "text" "Ljava/lang/String;" (.ref t_EXACT)) (Et_SLIDING : Exa Z Z.heap t_SLIDING "java/lang/String") (Vt_SLIDING : Fld Z Z.heap t_SLIDING "java/lang/String" "value" "[B" (.ref tv_SLIDING)) (Ct_SLIDING : Fld Z Z.heap t_SLIDING "java/lang/String" "coder" "B" (.int (0 : Int32))) (Kt_SLIDING : Arv Z Z.heap tv_SLIDING kt_SLIDING .byte (7 : Int32) [(.int (115 : Int32)), (.int (108 : Int32)), (.int (105 : Int32)), (.int (100 : Int32)), (.int (105 : Int32)), (.int (110 : Int32)), (.int (103 : Int32))] (.int (0 : Int32))) (Ft_SLIDING : Fld Z Z.heap a_SLIDING "com/example/amber_gate/ambergate/Algorithm" "text" "Ljava/lang/String;" (.ref t_SLIDING)) (Et_FIXED : Exa Z Z.heap t_FIXED "java/lang/String") (Vt_FIXED : Fld Z Z.heap t_FIXED "java/lang/String" "value" "[B" (.ref tv_FIXED)) (Ct_FIXED : Fld Z Z.heap t_FIXED "java/lang/String" "coder" "B" (.int (0 : Int32))) (Kt_FIXED : Arv Z Z.heap tv_FIXED kt_FIXED .byte (5 : Int32) [(.int (102 : Int32)), (.int (105 : Int32)), (.int (120 : Int32)), (.int (101 : Int32)), (.int (100 : Int32))] (.int (0 : Int32))) (Ft_FIXED : Fld Z Z.heap a_FIXED "com/example/amber_gate/ambergate/Algorithm" "text" "Ljava/lang/String;" (.ref t_FIXED)) :
    MetFree l (⟨"com/example/amber_gate/ambergate/Algorithm", "named", "(Ljava/lang/String;)Lcom/example/amber_gate/ambergate/Algorithm;"⟩ : MethodName) (head1 (Jvm.Cond.code (⟨"com/example/amber_gate/ambergate/Algorithm", "named", "(Ljava/lang/String;)Lcom/example/amber_gate/ambergate/Algorithm;"⟩ : MethodName) prog_1_method_6_code 5 (some (.object "com/example/amber_gate/ambergate/Algorithm")) :: ws) ({ frames := 3, cells := 1, slots := 3, locals := 60 } : Room)) (fun ar' U => ar' = #[(.ref x)] ∧ Z.Warmed39 U.vm ∧ U.heap = h0) (fun _ _ _ _ _ => True) (fun _ U o U' => ∃ v L, o = .returned v ∧ (Q_rmN0 Z x tx kx a_EXACT a_SLIDING a_FIXED t_EXACT t_SLIDING t_FIXED tv_EXACT tv_SLIDING tv_FIXED kt_EXACT kt_SLIDING kt_FIXED va kA G1 h0 n0) v U'.heap L ∧ FrameEnd U o U' L ({ frames := 3, cells := 1, slots := 3, locals := 60 } : Room).cells ({ frames := 3, cells := 1, slots := 3, locals := 60 } : Room).slots) := by
  refine MetFree.of_bodySF (plainFor_of_name pn_com_example_amber_gate_ambergate_Algorithm) hisR ?_
  intro p e s m args below meth c s₁ Bd hml0 hP hK
  obtain ⟨rfl, hZ, hh⟩ := hP
  have hx := Bd.exec
  have hby := Bd.bytes
  have hlk := BodyLoose.notSynchronized Bd
  have hml : c.maxLocals = 5 := hml0
  have hown : s.vm.findClass "com/example/amber_gate/ambergate/Algorithm" = some m.cls := findClass_of_methodNamed Bd.named
  have hnm := (name_of_methodNamed Bd.named Bd.method).1
  have X0 : Stand p l e ({ frames := 3, cells := 1, slots := 3, locals := 60 } : Room) s m #[(.ref x)] below meth c s₁ [] 0 0 := Stand.of_body Bd
  have e0 : s₁.heap = h0 := by rw [← hh, Bd.state]; rfl
  have N0 := Fr.nil n0
  have Z0 : n0 ≤ h0.size := O0.1 ▸ O0.2.1
  show OEnds p e below s ({ frames := 3, cells := 1, slots := 3, locals := 60 } : Room).cells ({ frames := 3, cells := 1, slots := 3, locals := 60 } : Room).slots (Q_rmN0 Z x tx kx a_EXACT a_SLIDING a_FIXED t_EXACT t_SLIDING t_FIXED tv_EXACT tv_SLIDING tv_FIXED kt_EXACT kt_SLIDING kt_FIXED va kA G1 h0 n0) (s₁.setTop (entryFrame m #[(.ref x)] 5))
  refine OEnds.via (fun _ k_ => castTop (show entryFrame m #[(.ref x)] 5 = (mkF m 0 #[.val (.ref x), .unset, .unset, .unset, .unset] []) by first | (simp [entryFrame, mkF, argsToLocals, Value.category, maxLocals]; done) | rfl) k_) ?_
  have heq : ∀ d ∈ StrChars.Road.wordsEq, d.before a0 Z = true := fun d hd => hw d ((by decide +kernel : ∀ d ∈ StrChars.Road.wordsEq, d ∈ tables_1) d hd)
  have Od := O0
  have Kp := Keep.refl h0 []
  have hp_t_EXACT : ∀ c ∈ ([(101 : Int32), (120 : Int32), (97 : Int32), (99 : Int32), (116 : Int32)] : List Int32), ¬ c < 0 ∧ ¬ (255 : Int32) < c := by decide
  have hcd_t_EXACT : StrChars.Road.CodA ([(101 : Int32), (120 : Int32), (97 : Int32), (99 : Int32), (116 : Int32)] : List Int32) 0 (5 : Int32) [(.int (101 : Int32)), (.int (120 : Int32)), (.int (97 : Int32)), (.int (99 : Int32)), (.int (116 : Int32))] := Or.inl ⟨rfl, rfl, rfl, fun c hc => (hp_t_EXACT c hc).2⟩
  have hbd_t_EXACT := own_up _ hp_t_EXACT
  have hp_t_SLIDING : ∀ c ∈ ([(115 : Int32), (108 : Int32), (105 : Int32), (100 : Int32), (105 : Int32), (110 : Int32), (103 : Int32)] : List Int32), ¬ c < 0 ∧ ¬ (255 : Int32) < c := by decide
  have hcd_t_SLIDING : StrChars.Road.CodA ([(115 : Int32), (108 : Int32), (105 : Int32), (100 : Int32), (105 : Int32), (110 : Int32), (103 : Int32)] : List Int32) 0 (7 : Int32) [(.int (115 : Int32)), (.int (108 : Int32)), (.int (105 : Int32)), (.int (100 : Int32)), (.int (105 : Int32)), (.int (110 : Int32)), (.int (103 : Int32))] := Or.inl ⟨rfl, rfl, rfl, fun c hc => (hp_t_SLIDING c hc).2⟩
  have hbd_t_SLIDING := own_up _ hp_t_SLIDING
  have hp_t_FIXED : ∀ c ∈ ([(102 : Int32), (105 : Int32), (120 : Int32), (101 : Int32), (100 : Int32)] : List Int32), ¬ c < 0 ∧ ¬ (255 : Int32) < c := by decide
  have hcd_t_FIXED : StrChars.Road.CodA ([(102 : Int32), (105 : Int32), (120 : Int32), (101 : Int32), (100 : Int32)] : List Int32) 0 (5 : Int32) [(.int (102 : Int32)), (.int (105 : Int32)), (.int (120 : Int32)), (.int (101 : Int32)), (.int (100 : Int32))] := Or.inl ⟨rfl, rfl, rfl, fun c hc => (hp_t_FIXED c hc).2⟩
  have hbd_t_FIXED := own_up _ hp_t_FIXED
  have hp_x : ∀ c ∈ ([(101 : Int32), (120 : Int32), (97 : Int32), (99 : Int32), (116 : Int32)] : List Int32), ¬ c < 0 ∧ ¬ (255 : Int32) < c := by decide
  have hcd_x : StrChars.Road.CodA ([(101 : Int32), (120 : Int32), (97 : Int32), (99 : Int32), (116 : Int32)] : List Int32) 0 (5 : Int32) ((([(101 : Int32), (120 : Int32), (97 : Int32), (99 : Int32), (116 : Int32)] : List Int32).map (fun c => c.toInt8.toInt32)).map Value.int) := Or.inl ⟨rfl, rfl, rfl, fun c hc => (hp_x c hc).2⟩
  have hbd_x := own_up _ hp_x
  show OEnds p e below s _ _ _ (s₁.setTop (mkF m 0 #[.val (.ref x), .unset, .unset, .unset, .unset] []))
  obtain ⟨_, _, ⟨T1, L1, k1, n1⟩, -, X1, ⟨Lc1, hQ1, l1, y1, z1⟩, st1⟩ := Jvm.LawKit.callS X0 hx (y := (⟨"com/example/amber_gate/ambergate/Algorithm", "values", "()[Lcom/example/amber_gate/ambergate/Algorithm;"⟩ : MethodName)) hown (mvT hZ (hw _ (List.mem_of_getElem? (i := 31) rfl))) (mvT hZ (hw _ (List.mem_of_getElem? (i := 32) rfl))) (mvT hZ (hw _ (List.mem_of_getElem? (i := 3) rfl))) (mvT hZ (hw _ (List.mem_of_getElem? (i := 33) rfl))) (by decide) (backOf (W := 0) (rmV l Z a0 hw [] a_EXACT a_SLIDING a_FIXED va kA h0 n0 Od S_V AV EV) hZ (hw _ (List.mem_of_getElem? (i := 33) rfl)) (hw _ (List.mem_of_getElem? (i := 3) rfl)) (by decide) (by decide)) (g := (mkF m 0 #[.val (.ref x), .unset, .unset, .unset, .unset] [])) rfl (by rw [hml]; rfl) (argsL := []) (rest := []) (lenOf pd_28295bLcom2fexample2famber_gate2fambergate2fAlgorithm3b rfl) rfl (by show 2 * 0 + _ ≤ _; exact Nat.le_of_eq rfl) (hb hby d20_0) (fun _ _ => ⟨rfl, e0, Nat.le_of_ble_eq_true rfl, Nat.le_of_ble_eq_true rfl⟩)
  dsimp only [Pt.U, Pt.locs, Pt.cells, Pt.slots] at X1 l1 y1 z1 st1 hQ1
  subst l1 y1 z1
  obtain ⟨ar, rfl, N1q, K1, szA1, A1⟩ := hQ1
  have ne_x_ar : x ≠ ar := Nat.ne_of_lt (Nat.lt_of_lt_of_le Ex.lt szA1)
  have ne_tx_ar : tx ≠ ar := Nat.ne_of_lt (Nat.lt_of_lt_of_le Kx.lt szA1)
  have N1 := Fr.app N0 N1q
  replace Od := Od.keep K1 all0
  replace Kp := Kp.trans K1 all0
  replace Ex := Ex.keep K1
  replace Vx := Vx.keep K1 nin0
  replace Cx := Cx.keep K1 nin0
  replace Kx := Kx.keep K1 nin0
  obtain ⟨cl, Ar, qA, Sa, MA, HA, GA⟩ := A1
  refine OEnds.via (fun _ k_ => st1 _ k_) ?_
  show OEnds p e below s _ _ _ (T1.setTop (mkF m 3 #[.val (.ref x), .unset, .unset, .unset, .unset] [(.ref ar)]))
  refine OEnds.via (fun _ k_ => XS.astoreN X1.here hx rfl (hb hby d20_3) rfl rfl (l' := #[.val (.ref x), .val (.ref ar), .unset, .unset, .unset]) rfl k_) ?_
  show OEnds p e below s _ _ _ (T1.setTop (mkF m 4 #[.val (.ref x), .val (.ref ar), .unset, .unset, .unset] []))
  refine OEnds.via (fun _ k_ => XS.aloadN X1.here hx rfl (hb hby d20_4) rfl rfl k_) ?_
  show OEnds p e below s _ _ _ (T1.setTop (mkF m 5 #[.val (.ref x), .val (.ref ar), .unset, .unset, .unset] [(.ref ar)]))
  refine OEnds.via (fun _ k_ => X1.arraylength hx Ar.1 (State.isArrayOf_alike hZ.alike Ar.2.1) (g := (mkF m 5 #[.val (.ref x), .val (.ref ar), .unset, .unset, .unset] [(.ref ar)])) rfl rfl (hb hby d20_5) _ k_) ?_
  rw [len_of Sa MA]
  show OEnds p e below s _ _ _ (T1.setTop (mkF m 6 #[.val (.ref x), .val (.ref ar), .unset, .unset, .unset] [(.int (3 : Int32))]))
  refine OEnds.via (fun _ k_ => XS.istoreN X1.here hx rfl (hb hby d20_6) rfl (l' := #[.val (.ref x), .val (.ref ar), .val (.int (3 : Int32)), .unset, .unset]) rfl k_) ?_
  show OEnds p e below s _ _ _ (T1.setTop (mkF m 7 #[.val (.ref x), .val (.ref ar), .val (.int (3 : Int32)), .unset, .unset] []))
  refine OEnds.via (fun _ k_ => XS.iconst X1.here hx rfl (hb hby d20_7) k_) ?_
  show OEnds p e below s _ _ _ (T1.setTop (mkF m 8 #[.val (.ref x), .val (.ref ar), .val (.int (3 : Int32)), .unset, .unset] [(.int (0 : Int32))]))
  refine OEnds.via (fun _ k_ => XS.istoreN X1.here hx rfl (hb hby d20_8) rfl (l' := #[.val (.ref x), .val (.ref ar), .val (.int (3 : Int32)), .val (.int (0 : Int32)), .unset]) rfl k_) ?_
  show OEnds p e below s _ _ _ (T1.setTop (mkF m 9 #[.val (.ref x), .val (.ref ar), .val (.int (3 : Int32)), .val (.int (0 : Int32)), .unset] []))
  refine OEnds.via (fun _ k_ => XS.iloadN X1.here hx rfl (hb hby d20_9) rfl k_) ?_
  show OEnds p e below s _ _ _ (T1.setTop (mkF m 10 #[.val (.ref x), .val (.ref ar), .val (.int (3 : Int32)), .val (.int (0 : Int32)), .unset] [(.int (0 : Int32))]))
  refine OEnds.via (fun _ k_ => XS.iloadN X1.here hx rfl (hb hby d20_10) rfl k_) ?_
  show OEnds p e below s _ _ _ (T1.setTop (mkF m 11 #[.val (.ref x), .val (.ref ar), .val (.int (3 : Int32)), .val (.int (0 : Int32)), .unset] [(.int (3 : Int32)), (.int (0 : Int32))]))
  refine OEnds.via (fun _ k_ => XS.icmpNo X1.here hx rfl (hb hby d20_11) rfl (tlt (by decide : (0 : Int32) < (3 : Int32))).2.1 k_) ?_
  show OEnds p e below s _ _ _ (T1.setTop (mkF m 14 #[.val (.ref x), .val (.ref ar), .val (.int (3 : Int32)), .val (.int (0 : Int32)), .unset] []))
  refine OEnds.via (fun _ k_ => XS.aloadN X1.here hx rfl (hb hby d20_14) rfl rfl k_) ?_
  show OEnds p e below s _ _ _ (T1.setTop (mkF m 15 #[.val (.ref x), .val (.ref ar), .val (.int (3 : Int32)), .val (.int (0 : Int32)), .unset] [(.ref ar)]))
  refine OEnds.via (fun _ k_ => XS.iloadN X1.here hx rfl (hb hby d20_15) rfl k_) ?_
  show OEnds p e below s _ _ _ (T1.setTop (mkF m 16 #[.val (.ref x), .val (.ref ar), .val (.int (3 : Int32)), .val (.int (0 : Int32)), .unset] [(.int (0 : Int32)), (.ref ar)]))
  refine OEnds.via (fun _ k_ => X1.aaload hx (j := (0 : Int32)) (v := (.ref a_EXACT)) Ar.1 (State.isArrayOf_alike hZ.alike Ar.2.1) rfl Ar.2.2 (inb_of Sa ⟨by decide, by decide⟩) (HA 0 (by rw [Sa]; decide)) (g := (mkF m 16 #[.val (.ref x), .val (.ref ar), .val (.int (3 : Int32)), .val (.int (0 : Int32)), .unset] [(.int (0 : Int32)), (.ref ar)])) rfl rfl (hb hby d20_16) _ k_) ?_
  show OEnds p e below s _ _ _ (T1.setTop (mkF m 17 #[.val (.ref x), .val (.ref ar), .val (.int (3 : Int32)), .val (.int (0 : Int32)), .unset] [(.ref a_EXACT)]))
  refine OEnds.via (fun _ k_ => XS.astore X1.here hx rfl (hb hby d20_17) rfl rfl (l' := #[.val (.ref x), .val (.ref ar), .val (.int (3 : Int32)), .val (.int (0 : Int32)), .val (.ref a_EXACT)]) rfl k_) ?_
  show OEnds p e below s _ _ _ (T1.setTop (mkF m 19 #[.val (.ref x), .val (.ref ar), .val (.int (3 : Int32)), .val (.int (0 : Int32)), .val (.ref a_EXACT)] []))
  refine OEnds.via (fun _ k_ => XS.aload X1.here hx rfl (hb hby d20_19) rfl rfl k_) ?_
  show OEnds p e below s _ _ _ (T1.setTop (mkF m 21 #[.val (.ref x), .val (.ref ar), .val (.int (3 : Int32)), .val (.int (0 : Int32)), .val (.ref a_EXACT)] [(.ref a_EXACT)]))
  obtain ⟨T2, X2, e2, st2⟩ := getF X1 hx hZ hown (host := "") (Or.inl (hw _ (List.mem_of_getElem? (i := 49) rfl))) Via.refl rfl (Fld.ext Od.2 Ft_EXACT) (g := (mkF m 21 #[.val (.ref x), .val (.ref ar), .val (.int (3 : Int32)), .val (.int (0 : Int32)), .val (.ref a_EXACT)] [(.ref a_EXACT)])) rfl rfl (hb hby d20_21)
  refine OEnds.via (fun _ k_ => st2 _ k_) ?_
  show OEnds p e below s _ _ _ (T2.setTop (mkF m 24 #[.val (.ref x), .val (.ref ar), .val (.int (3 : Int32)), .val (.int (0 : Int32)), .val (.ref a_EXACT)] [(.ref t_EXACT)]))
  refine OEnds.via (fun _ k_ => XS.aloadN X2.here hx rfl (hb hby d20_24) rfl rfl k_) ?_
  show OEnds p e below s _ _ _ (T2.setTop (mkF m 25 #[.val (.ref x), .val (.ref ar), .val (.int (3 : Int32)), .val (.int (0 : Int32)), .val (.ref a_EXACT)] [(.ref x), (.ref t_EXACT)]))
  obtain ⟨cq3, kq3, q3a, q3b, q3c⟩ := isOf hZ e2 (Exa.ext Od.2 Et_EXACT)
  obtain ⟨_, _, ⟨T3, L3, k3, n3⟩, -, X3, ⟨Lc3, hQ3, l3, y3, z3⟩, st3⟩ := X2.virtualBack hx (y := (⟨"java/lang/String", "equals", "(Ljava/lang/Object;)Z"⟩ : MethodName)) (z := (⟨"java/lang/String", "equals", "(Ljava/lang/Object;)Z"⟩ : MethodName)) hown (mvT hZ (hw _ (List.mem_of_getElem? (i := 147) rfl))) (mvT hZ (hw _ (List.mem_of_getElem? (i := 127) rfl))) (notFace_of_selects (args := #[]) (mvT hZ (hw _ (List.mem_of_getElem? (i := 129) rfl)))) (mvT hZ (hw _ (List.mem_of_getElem? (i := 129) rfl))) (mvT hZ (hw _ (List.mem_of_getElem? (i := 128) rfl))) (by decide) (StrChars.Road.eqW (W := 0) hZ heq (kI := 4) (hw _ (List.mem_of_getElem? (i := 97) rfl)) (Exa.ext Od.2 Et_EXACT) (Fld.ext Od.2 Vt_EXACT) (Fld.ext Od.2 Ct_EXACT) (Kt_EXACT.ext Od.2) hcd_t_EXACT hbd_t_EXACT (by decide) Ex Vx Cx Kx hcd_x hbd_x (by decide) (Sta.ext Od.2 S_CS) nz_CS (by decide) (by decide)) q3a q3c (g := (mkF m 25 #[.val (.ref x), .val (.ref ar), .val (.int (3 : Int32)), .val (.int (0 : Int32)), .val (.ref a_EXACT)] [(.ref x), (.ref t_EXACT)])) rfl (by rw [hml]; rfl) (Steps.refl _) (argsL := [(.ref x)]) (rest := []) (lenOf pd_28Ljava2flang2fObject3b29Z rfl) rfl (by show 2 * 0 + _ ≤ _; exact Nat.le_of_eq rfl) (hb hby d20_25) (fun _ _ => ⟨rfl, e2, Nat.le_of_ble_eq_true rfl, Nat.le_of_ble_eq_true rfl⟩)
  dsimp only [Pt.U, Pt.locs, Pt.cells, Pt.slots] at X3 l3 y3 z3 st3 hQ3
  subst l3 y3 z3
  obtain ⟨hcase3, rfl, e3⟩ := hQ3
  have N3 := Fr.app N1 (Fr.nil n0)
  have hv3 : _ = some (Value.int 1) := hcase3.elim (fun q => q.1) (fun q => absurd rfl q.2)
  subst hv3
  refine OEnds.via (fun _ k_ => st3.trans k_) ?_
  show OEnds p e below s _ _ _ (T3.setTop (mkF m 28 #[.val (.ref x), .val (.ref ar), .val (.int (3 : Int32)), .val (.int (0 : Int32)), .val (.ref a_EXACT)] [(.int (1 : Int32))]))
  refine OEnds.via (fun _ k_ => XS.ifNo X3.here hx rfl (hb hby d20_28) rfl ((if0 _ _).trans (feq (by decide : ¬ ((1 : Int32) = (0 : Int32)))).1) k_) ?_
  show OEnds p e below s _ _ _ (T3.setTop (mkF m 31 #[.val (.ref x), .val (.ref ar), .val (.int (3 : Int32)), .val (.int (0 : Int32)), .val (.ref a_EXACT)] []))
  refine OEnds.via (fun _ k_ => XS.aload X3.here hx rfl (hb hby d20_31) rfl rfl k_) ?_
  show OEnds p e below s _ _ _ (T3.setTop (mkF m 33 #[.val (.ref x), .val (.ref ar), .val (.int (3 : Int32)), .val (.int (0 : Int32)), .val (.ref a_EXACT)] [(.ref a_EXACT)]))
  refine OEnds.retR X3 hx hlk Bd.returns rfl rfl (hb hby d20_33) ?_ (by decide) (by decide)
  exact ⟨rfl, N3, by rw [e3]; exact Kp⟩
def Q_rmN1 (Z : State) (x : Addr) (tx : Addr) (kx : ClassId) (a_EXACT : Addr) (a_SLIDING : Addr) (a_FIXED : Addr) (t_EXACT : Addr) (t_SLIDING : Addr) (t_FIXED : Addr) (tv_EXACT : Addr) (tv_SLIDING : Addr) (tv_FIXED : Addr) (kt_EXACT : ClassId) (kt_SLIDING : ClassId) (kt_FIXED : ClassId) (va : Addr) (kA : ClassId) (G1 : Int32) (h0 : Heap) (n0 : Nat) (v : Option Value) (h : Heap) (L : List Loc) : Prop := v = some (.ref a_SLIDING) ∧ Fr n0 L ∧ Keep h0 h []
set_option maxRecDepth 65536 in
set_option maxHeartbeats 40000000 in
theorem rmN1 (l : Launch) (Z : State) (a0 : Array Value) (hw : ∀ d ∈ tables_1, d.before a0 Z = true) (ws : List Jvm.Cond) (x : Addr) (tx : Addr) (kx : ClassId) (a_EXACT : Addr) (a_SLIDING : Addr) (a_FIXED : Addr) (t_EXACT : Addr) (t_SLIDING : Addr) (t_FIXED : Addr) (tv_EXACT : Addr) (tv_SLIDING : Addr) (tv_FIXED : Addr) (kt_EXACT : ClassId) (kt_SLIDING : ClassId) (kt_FIXED : ClassId) (va : Addr) (kA : ClassId) (G1 : Int32) (h0 : Heap) (n0 : Nat) (O0 : Old Z n0 h0) (Ex : Exa Z h0 x "java/lang/String") (Vx : Fld Z h0 x "java/lang/String" "value" "[B" (.ref tx)) (Cx : Fld Z h0 x "java/lang/String" "coder" "B" (.int (0 : Int32))) (Kx : Arv Z h0 tx kx .byte (7 : Int32) ((([(115 : Int32), (108 : Int32), (105 : Int32), (100 : Int32), (105 : Int32), (110 : Int32), (103 : Int32)] : List Int32).map (fun c => c.toInt8.toInt32)).map Value.int) (.int (0 : Int32))) (S_CS : Sta Z Z.heap "java/lang/String" "COMPACT_STRINGS" "Z" (.int G1)) (nz_CS : ¬ (G1 = (0 : Int32))) (S_V : Sta Z Z.heap "com/example/amber_gate/ambergate/Algorithm" "$VALUES" "[Lcom/example/amber_gate/ambergate/Algorithm;" (.ref va)) (AV : Arv Z Z.heap va kA (.object "com/example/amber_gate/ambergate/Algorithm") (3 : Int32) [(.ref a_EXACT), (.ref a_SLIDING), (.ref a_FIXED)] .null) (EV : Exa Z Z.heap va "[Lcom/example/amber_gate/ambergate/Algorithm;") (Et_EXACT : Exa Z Z.heap t_EXACT "java/lang/String") (Vt_EXACT : Fld Z Z.heap t_EXACT "java/lang/String" "value" "[B" (.ref tv_EXACT)) (Ct_EXACT : Fld Z Z.heap t_EXACT "java/lang/String" "coder" "B" (.int (0 : Int32))) (Kt_EXACT : Arv Z Z.heap tv_EXACT kt_EXACT .byte (5 : Int32) [(.int (101 : Int32)), (.int (120 : Int32)), (.int (97 : Int32)), (.int (99 : Int32)), (.int (116 : Int32))] (.int (0 : Int32))) (Ft_EXACT : Fld Z Z.heap a_EXACT "com/example/amber_gate/ambergate/Algorithm" "text" "Ljava/lang/String;" (.ref t_EXACT)) (Et_SLIDING : Exa Z Z.heap t_SLIDING "java/lang/String") (Vt_SLIDING : Fld Z Z.heap t_SLIDING "java/lang/String" "value" "[B" (.ref tv_SLIDING)) (Ct_SLIDING : Fld Z Z.heap t_SLIDING "java/lang/String" "coder" "B" (.int (0 : Int32))) (Kt_SLIDING : Arv Z Z.heap tv_SLIDING kt_SLIDING .byte (7 : Int32) [(.int (115 : Int32)), (.int (108 : Int32)), (.int (105 : Int32)), (.int (100 : Int32)), (.int (105 : Int32)), (.int (110 : Int32)), (.int (103 : Int32))] (.int (0 : Int32))) (Ft_SLIDING : Fld Z Z.heap a_SLIDING "com/example/amber_gate/ambergate/Algorithm" "text" "Ljava/lang/String;" (.ref t_SLIDING)) (Et_FIXED : Exa Z Z.heap t_FIXED "java/lang/String") (Vt_FIXED : Fld Z Z.heap t_FIXED "java/lang/String" "value" "[B" (.ref tv_FIXED)) (Ct_FIXED : Fld Z Z.heap t_FIXED "java/lang/String" "coder" "B" (.int (0 : Int32))) (Kt_FIXED : Arv Z Z.heap tv_FIXED kt_FIXED .byte (5 : Int32) [(.int (102 : Int32)), (.int (105 : Int32)), (.int (120 : Int32)), (.int (101 : Int32)), (.int (100 : Int32))] (.int (0 : Int32))) (Ft_FIXED : Fld Z Z.heap a_FIXED "com/example/amber_gate/ambergate/Algorithm" "text" "Ljava/lang/String;" (.ref t_FIXED)) :
    MetFree l (⟨"com/example/amber_gate/ambergate/Algorithm", "named", "(Ljava/lang/String;)Lcom/example/amber_gate/ambergate/Algorithm;"⟩ : MethodName) (head1 (Jvm.Cond.code (⟨"com/example/amber_gate/ambergate/Algorithm", "named", "(Ljava/lang/String;)Lcom/example/amber_gate/ambergate/Algorithm;"⟩ : MethodName) prog_1_method_6_code 5 (some (.object "com/example/amber_gate/ambergate/Algorithm")) :: ws) ({ frames := 3, cells := 1, slots := 3, locals := 60 } : Room)) (fun ar' U => ar' = #[(.ref x)] ∧ Z.Warmed39 U.vm ∧ U.heap = h0) (fun _ _ _ _ _ => True) (fun _ U o U' => ∃ v L, o = .returned v ∧ (Q_rmN1 Z x tx kx a_EXACT a_SLIDING a_FIXED t_EXACT t_SLIDING t_FIXED tv_EXACT tv_SLIDING tv_FIXED kt_EXACT kt_SLIDING kt_FIXED va kA G1 h0 n0) v U'.heap L ∧ FrameEnd U o U' L ({ frames := 3, cells := 1, slots := 3, locals := 60 } : Room).cells ({ frames := 3, cells := 1, slots := 3, locals := 60 } : Room).slots) := by
  refine MetFree.of_bodySF (plainFor_of_name pn_com_example_amber_gate_ambergate_Algorithm) hisR ?_
  intro p e s m args below meth c s₁ Bd hml0 hP hK
  obtain ⟨rfl, hZ, hh⟩ := hP
  have hx := Bd.exec
  have hby := Bd.bytes
  have hlk := BodyLoose.notSynchronized Bd
  have hml : c.maxLocals = 5 := hml0
  have hown : s.vm.findClass "com/example/amber_gate/ambergate/Algorithm" = some m.cls := findClass_of_methodNamed Bd.named
  have hnm := (name_of_methodNamed Bd.named Bd.method).1
  have X0 : Stand p l e ({ frames := 3, cells := 1, slots := 3, locals := 60 } : Room) s m #[(.ref x)] below meth c s₁ [] 0 0 := Stand.of_body Bd
  have e0 : s₁.heap = h0 := by rw [← hh, Bd.state]; rfl
  have N0 := Fr.nil n0
  have Z0 : n0 ≤ h0.size := O0.1 ▸ O0.2.1
  show OEnds p e below s ({ frames := 3, cells := 1, slots := 3, locals := 60 } : Room).cells ({ frames := 3, cells := 1, slots := 3, locals := 60 } : Room).slots (Q_rmN1 Z x tx kx a_EXACT a_SLIDING a_FIXED t_EXACT t_SLIDING t_FIXED tv_EXACT tv_SLIDING tv_FIXED kt_EXACT kt_SLIDING kt_FIXED va kA G1 h0 n0) (s₁.setTop (entryFrame m #[(.ref x)] 5))
  refine OEnds.via (fun _ k_ => castTop (show entryFrame m #[(.ref x)] 5 = (mkF m 0 #[.val (.ref x), .unset, .unset, .unset, .unset] []) by first | (simp [entryFrame, mkF, argsToLocals, Value.category, maxLocals]; done) | rfl) k_) ?_
  have heq : ∀ d ∈ StrChars.Road.wordsEq, d.before a0 Z = true := fun d hd => hw d ((by decide +kernel : ∀ d ∈ StrChars.Road.wordsEq, d ∈ tables_1) d hd)
  have Od := O0
  have Kp := Keep.refl h0 []
  have hp_t_EXACT : ∀ c ∈ ([(101 : Int32), (120 : Int32), (97 : Int32), (99 : Int32), (116 : Int32)] : List Int32), ¬ c < 0 ∧ ¬ (255 : Int32) < c := by decide
  have hcd_t_EXACT : StrChars.Road.CodA ([(101 : Int32), (120 : Int32), (97 : Int32), (99 : Int32), (116 : Int32)] : List Int32) 0 (5 : Int32) [(.int (101 : Int32)), (.int (120 : Int32)), (.int (97 : Int32)), (.int (99 : Int32)), (.int (116 : Int32))] := Or.inl ⟨rfl, rfl, rfl, fun c hc => (hp_t_EXACT c hc).2⟩
  have hbd_t_EXACT := own_up _ hp_t_EXACT
  have hp_t_SLIDING : ∀ c ∈ ([(115 : Int32), (108 : Int32), (105 : Int32), (100 : Int32), (105 : Int32), (110 : Int32), (103 : Int32)] : List Int32), ¬ c < 0 ∧ ¬ (255 : Int32) < c := by decide
  have hcd_t_SLIDING : StrChars.Road.CodA ([(115 : Int32), (108 : Int32), (105 : Int32), (100 : Int32), (105 : Int32), (110 : Int32), (103 : Int32)] : List Int32) 0 (7 : Int32) [(.int (115 : Int32)), (.int (108 : Int32)), (.int (105 : Int32)), (.int (100 : Int32)), (.int (105 : Int32)), (.int (110 : Int32)), (.int (103 : Int32))] := Or.inl ⟨rfl, rfl, rfl, fun c hc => (hp_t_SLIDING c hc).2⟩
  have hbd_t_SLIDING := own_up _ hp_t_SLIDING
  have hp_t_FIXED : ∀ c ∈ ([(102 : Int32), (105 : Int32), (120 : Int32), (101 : Int32), (100 : Int32)] : List Int32), ¬ c < 0 ∧ ¬ (255 : Int32) < c := by decide
  have hcd_t_FIXED : StrChars.Road.CodA ([(102 : Int32), (105 : Int32), (120 : Int32), (101 : Int32), (100 : Int32)] : List Int32) 0 (5 : Int32) [(.int (102 : Int32)), (.int (105 : Int32)), (.int (120 : Int32)), (.int (101 : Int32)), (.int (100 : Int32))] := Or.inl ⟨rfl, rfl, rfl, fun c hc => (hp_t_FIXED c hc).2⟩
  have hbd_t_FIXED := own_up _ hp_t_FIXED
  have hp_x : ∀ c ∈ ([(115 : Int32), (108 : Int32), (105 : Int32), (100 : Int32), (105 : Int32), (110 : Int32), (103 : Int32)] : List Int32), ¬ c < 0 ∧ ¬ (255 : Int32) < c := by decide
  have hcd_x : StrChars.Road.CodA ([(115 : Int32), (108 : Int32), (105 : Int32), (100 : Int32), (105 : Int32), (110 : Int32), (103 : Int32)] : List Int32) 0 (7 : Int32) ((([(115 : Int32), (108 : Int32), (105 : Int32), (100 : Int32), (105 : Int32), (110 : Int32), (103 : Int32)] : List Int32).map (fun c => c.toInt8.toInt32)).map Value.int) := Or.inl ⟨rfl, rfl, rfl, fun c hc => (hp_x c hc).2⟩
  have hbd_x := own_up _ hp_x
  show OEnds p e below s _ _ _ (s₁.setTop (mkF m 0 #[.val (.ref x), .unset, .unset, .unset, .unset] []))
  obtain ⟨_, _, ⟨T1, L1, k1, n1⟩, -, X1, ⟨Lc1, hQ1, l1, y1, z1⟩, st1⟩ := Jvm.LawKit.callS X0 hx (y := (⟨"com/example/amber_gate/ambergate/Algorithm", "values", "()[Lcom/example/amber_gate/ambergate/Algorithm;"⟩ : MethodName)) hown (mvT hZ (hw _ (List.mem_of_getElem? (i := 31) rfl))) (mvT hZ (hw _ (List.mem_of_getElem? (i := 32) rfl))) (mvT hZ (hw _ (List.mem_of_getElem? (i := 3) rfl))) (mvT hZ (hw _ (List.mem_of_getElem? (i := 33) rfl))) (by decide) (backOf (W := 0) (rmV l Z a0 hw [] a_EXACT a_SLIDING a_FIXED va kA h0 n0 Od S_V AV EV) hZ (hw _ (List.mem_of_getElem? (i := 33) rfl)) (hw _ (List.mem_of_getElem? (i := 3) rfl)) (by decide) (by decide)) (g := (mkF m 0 #[.val (.ref x), .unset, .unset, .unset, .unset] [])) rfl (by rw [hml]; rfl) (argsL := []) (rest := []) (lenOf pd_28295bLcom2fexample2famber_gate2fambergate2fAlgorithm3b rfl) rfl (by show 2 * 0 + _ ≤ _; exact Nat.le_of_eq rfl) (hb hby d20_0) (fun _ _ => ⟨rfl, e0, Nat.le_of_ble_eq_true rfl, Nat.le_of_ble_eq_true rfl⟩)
  dsimp only [Pt.U, Pt.locs, Pt.cells, Pt.slots] at X1 l1 y1 z1 st1 hQ1
  subst l1 y1 z1
  obtain ⟨ar, rfl, N1q, K1, szA1, A1⟩ := hQ1
  have ne_x_ar : x ≠ ar := Nat.ne_of_lt (Nat.lt_of_lt_of_le Ex.lt szA1)
  have ne_tx_ar : tx ≠ ar := Nat.ne_of_lt (Nat.lt_of_lt_of_le Kx.lt szA1)
  have N1 := Fr.app N0 N1q
  replace Od := Od.keep K1 all0
  replace Kp := Kp.trans K1 all0
  replace Ex := Ex.keep K1
  replace Vx := Vx.keep K1 nin0
  replace Cx := Cx.keep K1 nin0
  replace Kx := Kx.keep K1 nin0
  obtain ⟨cl, Ar, qA, Sa, MA, HA, GA⟩ := A1
  refine OEnds.via (fun _ k_ => st1 _ k_) ?_
  show OEnds p e below s _ _ _ (T1.setTop (mkF m 3 #[.val (.ref x), .unset, .unset, .unset, .unset] [(.ref ar)]))
  refine OEnds.via (fun _ k_ => XS.astoreN X1.here hx rfl (hb hby d20_3) rfl rfl (l' := #[.val (.ref x), .val (.ref ar), .unset, .unset, .unset]) rfl k_) ?_
  show OEnds p e below s _ _ _ (T1.setTop (mkF m 4 #[.val (.ref x), .val (.ref ar), .unset, .unset, .unset] []))
  refine OEnds.via (fun _ k_ => XS.aloadN X1.here hx rfl (hb hby d20_4) rfl rfl k_) ?_
  show OEnds p e below s _ _ _ (T1.setTop (mkF m 5 #[.val (.ref x), .val (.ref ar), .unset, .unset, .unset] [(.ref ar)]))
  refine OEnds.via (fun _ k_ => X1.arraylength hx Ar.1 (State.isArrayOf_alike hZ.alike Ar.2.1) (g := (mkF m 5 #[.val (.ref x), .val (.ref ar), .unset, .unset, .unset] [(.ref ar)])) rfl rfl (hb hby d20_5) _ k_) ?_
  rw [len_of Sa MA]
  show OEnds p e below s _ _ _ (T1.setTop (mkF m 6 #[.val (.ref x), .val (.ref ar), .unset, .unset, .unset] [(.int (3 : Int32))]))
  refine OEnds.via (fun _ k_ => XS.istoreN X1.here hx rfl (hb hby d20_6) rfl (l' := #[.val (.ref x), .val (.ref ar), .val (.int (3 : Int32)), .unset, .unset]) rfl k_) ?_
  show OEnds p e below s _ _ _ (T1.setTop (mkF m 7 #[.val (.ref x), .val (.ref ar), .val (.int (3 : Int32)), .unset, .unset] []))
  refine OEnds.via (fun _ k_ => XS.iconst X1.here hx rfl (hb hby d20_7) k_) ?_
  show OEnds p e below s _ _ _ (T1.setTop (mkF m 8 #[.val (.ref x), .val (.ref ar), .val (.int (3 : Int32)), .unset, .unset] [(.int (0 : Int32))]))
  refine OEnds.via (fun _ k_ => XS.istoreN X1.here hx rfl (hb hby d20_8) rfl (l' := #[.val (.ref x), .val (.ref ar), .val (.int (3 : Int32)), .val (.int (0 : Int32)), .unset]) rfl k_) ?_
  show OEnds p e below s _ _ _ (T1.setTop (mkF m 9 #[.val (.ref x), .val (.ref ar), .val (.int (3 : Int32)), .val (.int (0 : Int32)), .unset] []))
  refine OEnds.via (fun _ k_ => XS.iloadN X1.here hx rfl (hb hby d20_9) rfl k_) ?_
  show OEnds p e below s _ _ _ (T1.setTop (mkF m 10 #[.val (.ref x), .val (.ref ar), .val (.int (3 : Int32)), .val (.int (0 : Int32)), .unset] [(.int (0 : Int32))]))
  refine OEnds.via (fun _ k_ => XS.iloadN X1.here hx rfl (hb hby d20_10) rfl k_) ?_
  show OEnds p e below s _ _ _ (T1.setTop (mkF m 11 #[.val (.ref x), .val (.ref ar), .val (.int (3 : Int32)), .val (.int (0 : Int32)), .unset] [(.int (3 : Int32)), (.int (0 : Int32))]))
  refine OEnds.via (fun _ k_ => XS.icmpNo X1.here hx rfl (hb hby d20_11) rfl (tlt (by decide : (0 : Int32) < (3 : Int32))).2.1 k_) ?_
  show OEnds p e below s _ _ _ (T1.setTop (mkF m 14 #[.val (.ref x), .val (.ref ar), .val (.int (3 : Int32)), .val (.int (0 : Int32)), .unset] []))
  refine OEnds.via (fun _ k_ => XS.aloadN X1.here hx rfl (hb hby d20_14) rfl rfl k_) ?_
  show OEnds p e below s _ _ _ (T1.setTop (mkF m 15 #[.val (.ref x), .val (.ref ar), .val (.int (3 : Int32)), .val (.int (0 : Int32)), .unset] [(.ref ar)]))
  refine OEnds.via (fun _ k_ => XS.iloadN X1.here hx rfl (hb hby d20_15) rfl k_) ?_
  show OEnds p e below s _ _ _ (T1.setTop (mkF m 16 #[.val (.ref x), .val (.ref ar), .val (.int (3 : Int32)), .val (.int (0 : Int32)), .unset] [(.int (0 : Int32)), (.ref ar)]))
  refine OEnds.via (fun _ k_ => X1.aaload hx (j := (0 : Int32)) (v := (.ref a_EXACT)) Ar.1 (State.isArrayOf_alike hZ.alike Ar.2.1) rfl Ar.2.2 (inb_of Sa ⟨by decide, by decide⟩) (HA 0 (by rw [Sa]; decide)) (g := (mkF m 16 #[.val (.ref x), .val (.ref ar), .val (.int (3 : Int32)), .val (.int (0 : Int32)), .unset] [(.int (0 : Int32)), (.ref ar)])) rfl rfl (hb hby d20_16) _ k_) ?_
  show OEnds p e below s _ _ _ (T1.setTop (mkF m 17 #[.val (.ref x), .val (.ref ar), .val (.int (3 : Int32)), .val (.int (0 : Int32)), .unset] [(.ref a_EXACT)]))
  refine OEnds.via (fun _ k_ => XS.astore X1.here hx rfl (hb hby d20_17) rfl rfl (l' := #[.val (.ref x), .val (.ref ar), .val (.int (3 : Int32)), .val (.int (0 : Int32)), .val (.ref a_EXACT)]) rfl k_) ?_
  show OEnds p e below s _ _ _ (T1.setTop (mkF m 19 #[.val (.ref x), .val (.ref ar), .val (.int (3 : Int32)), .val (.int (0 : Int32)), .val (.ref a_EXACT)] []))
  refine OEnds.via (fun _ k_ => XS.aload X1.here hx rfl (hb hby d20_19) rfl rfl k_) ?_
  show OEnds p e below s _ _ _ (T1.setTop (mkF m 21 #[.val (.ref x), .val (.ref ar), .val (.int (3 : Int32)), .val (.int (0 : Int32)), .val (.ref a_EXACT)] [(.ref a_EXACT)]))
  obtain ⟨T2, X2, e2, st2⟩ := getF X1 hx hZ hown (host := "") (Or.inl (hw _ (List.mem_of_getElem? (i := 49) rfl))) Via.refl rfl (Fld.ext Od.2 Ft_EXACT) (g := (mkF m 21 #[.val (.ref x), .val (.ref ar), .val (.int (3 : Int32)), .val (.int (0 : Int32)), .val (.ref a_EXACT)] [(.ref a_EXACT)])) rfl rfl (hb hby d20_21)
  refine OEnds.via (fun _ k_ => st2 _ k_) ?_
  show OEnds p e below s _ _ _ (T2.setTop (mkF m 24 #[.val (.ref x), .val (.ref ar), .val (.int (3 : Int32)), .val (.int (0 : Int32)), .val (.ref a_EXACT)] [(.ref t_EXACT)]))
  refine OEnds.via (fun _ k_ => XS.aloadN X2.here hx rfl (hb hby d20_24) rfl rfl k_) ?_
  show OEnds p e below s _ _ _ (T2.setTop (mkF m 25 #[.val (.ref x), .val (.ref ar), .val (.int (3 : Int32)), .val (.int (0 : Int32)), .val (.ref a_EXACT)] [(.ref x), (.ref t_EXACT)]))
  obtain ⟨cq3, kq3, q3a, q3b, q3c⟩ := isOf hZ e2 (Exa.ext Od.2 Et_EXACT)
  obtain ⟨_, _, ⟨T3, L3, k3, n3⟩, -, X3, ⟨Lc3, hQ3, l3, y3, z3⟩, st3⟩ := X2.virtualBack hx (y := (⟨"java/lang/String", "equals", "(Ljava/lang/Object;)Z"⟩ : MethodName)) (z := (⟨"java/lang/String", "equals", "(Ljava/lang/Object;)Z"⟩ : MethodName)) hown (mvT hZ (hw _ (List.mem_of_getElem? (i := 147) rfl))) (mvT hZ (hw _ (List.mem_of_getElem? (i := 127) rfl))) (notFace_of_selects (args := #[]) (mvT hZ (hw _ (List.mem_of_getElem? (i := 129) rfl)))) (mvT hZ (hw _ (List.mem_of_getElem? (i := 129) rfl))) (mvT hZ (hw _ (List.mem_of_getElem? (i := 128) rfl))) (by decide) (StrChars.Road.eqW (W := 0) hZ heq (kI := 4) (hw _ (List.mem_of_getElem? (i := 97) rfl)) (Exa.ext Od.2 Et_EXACT) (Fld.ext Od.2 Vt_EXACT) (Fld.ext Od.2 Ct_EXACT) (Kt_EXACT.ext Od.2) hcd_t_EXACT hbd_t_EXACT (by decide) Ex Vx Cx Kx hcd_x hbd_x (by decide) (Sta.ext Od.2 S_CS) nz_CS (by decide) (by decide)) q3a q3c (g := (mkF m 25 #[.val (.ref x), .val (.ref ar), .val (.int (3 : Int32)), .val (.int (0 : Int32)), .val (.ref a_EXACT)] [(.ref x), (.ref t_EXACT)])) rfl (by rw [hml]; rfl) (Steps.refl _) (argsL := [(.ref x)]) (rest := []) (lenOf pd_28Ljava2flang2fObject3b29Z rfl) rfl (by show 2 * 0 + _ ≤ _; exact Nat.le_of_eq rfl) (hb hby d20_25) (fun _ _ => ⟨rfl, e2, Nat.le_of_ble_eq_true rfl, Nat.le_of_ble_eq_true rfl⟩)
  dsimp only [Pt.U, Pt.locs, Pt.cells, Pt.slots] at X3 l3 y3 z3 st3 hQ3
  subst l3 y3 z3
  obtain ⟨hcase3, rfl, e3⟩ := hQ3
  have N3 := Fr.app N1 (Fr.nil n0)
  have hv3 : _ = some (Value.int 0) := hcase3.elim (fun q => absurd q.2 (by decide)) (fun q => q.1)
  subst hv3
  refine OEnds.via (fun _ k_ => st3.trans k_) ?_
  show OEnds p e below s _ _ _ (T3.setTop (mkF m 28 #[.val (.ref x), .val (.ref ar), .val (.int (3 : Int32)), .val (.int (0 : Int32)), .val (.ref a_EXACT)] [(.int (0 : Int32))]))
  refine OEnds.via (fun _ k_ => XS.ifYes X3.here hx rfl (pc0 := 28) (pc' := 34) rfl (hb hby d20_28) rfl ((if0 _ _).trans (teq (by decide : (0 : Int32) = (0 : Int32))).1) (by decide) (by decide) k_) ?_
  show OEnds p e below s _ _ _ (T3.setTop (mkF m 34 #[.val (.ref x), .val (.ref ar), .val (.int (3 : Int32)), .val (.int (0 : Int32)), .val (.ref a_EXACT)] []))
  refine OEnds.via (fun _ k_ => XS.iinc X3.here hx rfl (hb hby d20_34) rfl (l' := #[.val (.ref x), .val (.ref ar), .val (.int (3 : Int32)), .val (.int (1 : Int32)), .val (.ref a_EXACT)]) rfl k_) ?_
  show OEnds p e below s _ _ _ (T3.setTop (mkF m 37 #[.val (.ref x), .val (.ref ar), .val (.int (3 : Int32)), .val (.int (1 : Int32)), .val (.ref a_EXACT)] []))
  refine OEnds.via (fun _ k_ => XS.goto X3.here hx rfl (pc0 := 37) (pc' := 9) rfl (hb hby d20_37) (by decide) (by decide) k_) ?_
  show OEnds p e below s _ _ _ (T3.setTop (mkF m 9 #[.val (.ref x), .val (.ref ar), .val (.int (3 : Int32)), .val (.int (1 : Int32)), .val (.ref a_EXACT)] []))
  refine OEnds.via (fun _ k_ => XS.iloadN X3.here hx rfl (hb hby d20_9) rfl k_) ?_
  show OEnds p e below s _ _ _ (T3.setTop (mkF m 10 #[.val (.ref x), .val (.ref ar), .val (.int (3 : Int32)), .val (.int (1 : Int32)), .val (.ref a_EXACT)] [(.int (1 : Int32))]))
  refine OEnds.via (fun _ k_ => XS.iloadN X3.here hx rfl (hb hby d20_10) rfl k_) ?_
  show OEnds p e below s _ _ _ (T3.setTop (mkF m 11 #[.val (.ref x), .val (.ref ar), .val (.int (3 : Int32)), .val (.int (1 : Int32)), .val (.ref a_EXACT)] [(.int (3 : Int32)), (.int (1 : Int32))]))
  refine OEnds.via (fun _ k_ => XS.icmpNo X3.here hx rfl (hb hby d20_11) rfl (tlt (by decide : (1 : Int32) < (3 : Int32))).2.1 k_) ?_
  show OEnds p e below s _ _ _ (T3.setTop (mkF m 14 #[.val (.ref x), .val (.ref ar), .val (.int (3 : Int32)), .val (.int (1 : Int32)), .val (.ref a_EXACT)] []))
  refine OEnds.via (fun _ k_ => XS.aloadN X3.here hx rfl (hb hby d20_14) rfl rfl k_) ?_
  show OEnds p e below s _ _ _ (T3.setTop (mkF m 15 #[.val (.ref x), .val (.ref ar), .val (.int (3 : Int32)), .val (.int (1 : Int32)), .val (.ref a_EXACT)] [(.ref ar)]))
  refine OEnds.via (fun _ k_ => XS.iloadN X3.here hx rfl (hb hby d20_15) rfl k_) ?_
  show OEnds p e below s _ _ _ (T3.setTop (mkF m 16 #[.val (.ref x), .val (.ref ar), .val (.int (3 : Int32)), .val (.int (1 : Int32)), .val (.ref a_EXACT)] [(.int (1 : Int32)), (.ref ar)]))
  refine OEnds.via (fun _ k_ => X3.aaload hx (j := (1 : Int32)) (v := (.ref a_SLIDING)) (by rw [e3]; exact Ar.1) (State.isArrayOf_alike hZ.alike Ar.2.1) rfl Ar.2.2 (inb_of Sa ⟨by decide, by decide⟩) (HA 1 (by rw [Sa]; decide)) (g := (mkF m 16 #[.val (.ref x), .val (.ref ar), .val (.int (3 : Int32)), .val (.int (1 : Int32)), .val (.ref a_EXACT)] [(.int (1 : Int32)), (.ref ar)])) rfl rfl (hb hby d20_16) _ k_) ?_
  show OEnds p e below s _ _ _ (T3.setTop (mkF m 17 #[.val (.ref x), .val (.ref ar), .val (.int (3 : Int32)), .val (.int (1 : Int32)), .val (.ref a_EXACT)] [(.ref a_SLIDING)]))
  refine OEnds.via (fun _ k_ => XS.astore X3.here hx rfl (hb hby d20_17) rfl rfl (l' := #[.val (.ref x), .val (.ref ar), .val (.int (3 : Int32)), .val (.int (1 : Int32)), .val (.ref a_SLIDING)]) rfl k_) ?_
  show OEnds p e below s _ _ _ (T3.setTop (mkF m 19 #[.val (.ref x), .val (.ref ar), .val (.int (3 : Int32)), .val (.int (1 : Int32)), .val (.ref a_SLIDING)] []))
  refine OEnds.via (fun _ k_ => XS.aload X3.here hx rfl (hb hby d20_19) rfl rfl k_) ?_
  show OEnds p e below s _ _ _ (T3.setTop (mkF m 21 #[.val (.ref x), .val (.ref ar), .val (.int (3 : Int32)), .val (.int (1 : Int32)), .val (.ref a_SLIDING)] [(.ref a_SLIDING)]))
  obtain ⟨T4, X4, e4, st4⟩ := getF X3 hx hZ hown (host := "") (Or.inl (hw _ (List.mem_of_getElem? (i := 49) rfl))) Via.refl e3 (Fld.ext Od.2 Ft_SLIDING) (g := (mkF m 21 #[.val (.ref x), .val (.ref ar), .val (.int (3 : Int32)), .val (.int (1 : Int32)), .val (.ref a_SLIDING)] [(.ref a_SLIDING)])) rfl rfl (hb hby d20_21)
  refine OEnds.via (fun _ k_ => st4 _ k_) ?_
  show OEnds p e below s _ _ _ (T4.setTop (mkF m 24 #[.val (.ref x), .val (.ref ar), .val (.int (3 : Int32)), .val (.int (1 : Int32)), .val (.ref a_SLIDING)] [(.ref t_SLIDING)]))
  refine OEnds.via (fun _ k_ => XS.aloadN X4.here hx rfl (hb hby d20_24) rfl rfl k_) ?_
  show OEnds p e below s _ _ _ (T4.setTop (mkF m 25 #[.val (.ref x), .val (.ref ar), .val (.int (3 : Int32)), .val (.int (1 : Int32)), .val (.ref a_SLIDING)] [(.ref x), (.ref t_SLIDING)]))
  obtain ⟨cq5, kq5, q5a, q5b, q5c⟩ := isOf hZ e4 (Exa.ext Od.2 Et_SLIDING)
  obtain ⟨_, _, ⟨T5, L5, k5, n5⟩, -, X5, ⟨Lc5, hQ5, l5, y5, z5⟩, st5⟩ := X4.virtualBack hx (y := (⟨"java/lang/String", "equals", "(Ljava/lang/Object;)Z"⟩ : MethodName)) (z := (⟨"java/lang/String", "equals", "(Ljava/lang/Object;)Z"⟩ : MethodName)) hown (mvT hZ (hw _ (List.mem_of_getElem? (i := 147) rfl))) (mvT hZ (hw _ (List.mem_of_getElem? (i := 127) rfl))) (notFace_of_selects (args := #[]) (mvT hZ (hw _ (List.mem_of_getElem? (i := 129) rfl)))) (mvT hZ (hw _ (List.mem_of_getElem? (i := 129) rfl))) (mvT hZ (hw _ (List.mem_of_getElem? (i := 128) rfl))) (by decide) (StrChars.Road.eqW (W := 0) hZ heq (kI := 4) (hw _ (List.mem_of_getElem? (i := 97) rfl)) (Exa.ext Od.2 Et_SLIDING) (Fld.ext Od.2 Vt_SLIDING) (Fld.ext Od.2 Ct_SLIDING) (Kt_SLIDING.ext Od.2) hcd_t_SLIDING hbd_t_SLIDING (by decide) Ex Vx Cx Kx hcd_x hbd_x (by decide) (Sta.ext Od.2 S_CS) nz_CS (by decide) (by decide)) q5a q5c (g := (mkF m 25 #[.val (.ref x), .val (.ref ar), .val (.int (3 : Int32)), .val (.int (1 : Int32)), .val (.ref a_SLIDING)] [(.ref x), (.ref t_SLIDING)])) rfl (by rw [hml]; rfl) (Steps.refl _) (argsL := [(.ref x)]) (rest := []) (lenOf pd_28Ljava2flang2fObject3b29Z rfl) rfl (by show 2 * 0 + _ ≤ _; exact Nat.le_of_eq rfl) (hb hby d20_25) (fun _ _ => ⟨rfl, e4, Nat.le_of_ble_eq_true rfl, Nat.le_of_ble_eq_true rfl⟩)
  dsimp only [Pt.U, Pt.locs, Pt.cells, Pt.slots] at X5 l5 y5 z5 st5 hQ5
  subst l5 y5 z5
  obtain ⟨hcase5, rfl, e5⟩ := hQ5
  have N5 := Fr.app N3 (Fr.nil n0)
  have hv5 : _ = some (Value.int 1) := hcase5.elim (fun q => q.1) (fun q => absurd rfl q.2)
  subst hv5
  refine OEnds.via (fun _ k_ => st5.trans k_) ?_
  show OEnds p e below s _ _ _ (T5.setTop (mkF m 28 #[.val (.ref x), .val (.ref ar), .val (.int (3 : Int32)), .val (.int (1 : Int32)), .val (.ref a_SLIDING)] [(.int (1 : Int32))]))
  refine OEnds.via (fun _ k_ => XS.ifNo X5.here hx rfl (hb hby d20_28) rfl ((if0 _ _).trans (feq (by decide : ¬ ((1 : Int32) = (0 : Int32)))).1) k_) ?_
  show OEnds p e below s _ _ _ (T5.setTop (mkF m 31 #[.val (.ref x), .val (.ref ar), .val (.int (3 : Int32)), .val (.int (1 : Int32)), .val (.ref a_SLIDING)] []))
  refine OEnds.via (fun _ k_ => XS.aload X5.here hx rfl (hb hby d20_31) rfl rfl k_) ?_
  show OEnds p e below s _ _ _ (T5.setTop (mkF m 33 #[.val (.ref x), .val (.ref ar), .val (.int (3 : Int32)), .val (.int (1 : Int32)), .val (.ref a_SLIDING)] [(.ref a_SLIDING)]))
  refine OEnds.retR X5 hx hlk Bd.returns rfl rfl (hb hby d20_33) ?_ (by decide) (by decide)
  exact ⟨rfl, N5, by rw [e5]; exact Kp⟩
def Q_rmN2 (Z : State) (x : Addr) (tx : Addr) (kx : ClassId) (a_EXACT : Addr) (a_SLIDING : Addr) (a_FIXED : Addr) (t_EXACT : Addr) (t_SLIDING : Addr) (t_FIXED : Addr) (tv_EXACT : Addr) (tv_SLIDING : Addr) (tv_FIXED : Addr) (kt_EXACT : ClassId) (kt_SLIDING : ClassId) (kt_FIXED : ClassId) (va : Addr) (kA : ClassId) (G1 : Int32) (h0 : Heap) (n0 : Nat) (v : Option Value) (h : Heap) (L : List Loc) : Prop := v = some (.ref a_FIXED) ∧ Fr n0 L ∧ Keep h0 h []
set_option maxRecDepth 65536 in
set_option maxHeartbeats 40000000 in
theorem rmN2 (l : Launch) (Z : State) (a0 : Array Value) (hw : ∀ d ∈ tables_1, d.before a0 Z = true) (ws : List Jvm.Cond) (x : Addr) (tx : Addr) (kx : ClassId) (a_EXACT : Addr) (a_SLIDING : Addr) (a_FIXED : Addr) (t_EXACT : Addr) (t_SLIDING : Addr) (t_FIXED : Addr) (tv_EXACT : Addr) (tv_SLIDING : Addr) (tv_FIXED : Addr) (kt_EXACT : ClassId) (kt_SLIDING : ClassId) (kt_FIXED : ClassId) (va : Addr) (kA : ClassId) (G1 : Int32) (h0 : Heap) (n0 : Nat) (O0 : Old Z n0 h0) (Ex : Exa Z h0 x "java/lang/String") (Vx : Fld Z h0 x "java/lang/String" "value" "[B" (.ref tx)) (Cx : Fld Z h0 x "java/lang/String" "coder" "B" (.int (0 : Int32))) (Kx : Arv Z h0 tx kx .byte (5 : Int32) ((([(102 : Int32), (105 : Int32), (120 : Int32), (101 : Int32), (100 : Int32)] : List Int32).map (fun c => c.toInt8.toInt32)).map Value.int) (.int (0 : Int32))) (S_CS : Sta Z Z.heap "java/lang/String" "COMPACT_STRINGS" "Z" (.int G1)) (nz_CS : ¬ (G1 = (0 : Int32))) (S_V : Sta Z Z.heap "com/example/amber_gate/ambergate/Algorithm" "$VALUES" "[Lcom/example/amber_gate/ambergate/Algorithm;" (.ref va)) (AV : Arv Z Z.heap va kA (.object "com/example/amber_gate/ambergate/Algorithm") (3 : Int32) [(.ref a_EXACT), (.ref a_SLIDING), (.ref a_FIXED)] .null) (EV : Exa Z Z.heap va "[Lcom/example/amber_gate/ambergate/Algorithm;") (Et_EXACT : Exa Z Z.heap t_EXACT "java/lang/String") (Vt_EXACT : Fld Z Z.heap t_EXACT "java/lang/String" "value" "[B" (.ref tv_EXACT)) (Ct_EXACT : Fld Z Z.heap t_EXACT "java/lang/String" "coder" "B" (.int (0 : Int32))) (Kt_EXACT : Arv Z Z.heap tv_EXACT kt_EXACT .byte (5 : Int32) [(.int (101 : Int32)), (.int (120 : Int32)), (.int (97 : Int32)), (.int (99 : Int32)), (.int (116 : Int32))] (.int (0 : Int32))) (Ft_EXACT : Fld Z Z.heap a_EXACT "com/example/amber_gate/ambergate/Algorithm" "text" "Ljava/lang/String;" (.ref t_EXACT)) (Et_SLIDING : Exa Z Z.heap t_SLIDING "java/lang/String") (Vt_SLIDING : Fld Z Z.heap t_SLIDING "java/lang/String" "value" "[B" (.ref tv_SLIDING)) (Ct_SLIDING : Fld Z Z.heap t_SLIDING "java/lang/String" "coder" "B" (.int (0 : Int32))) (Kt_SLIDING : Arv Z Z.heap tv_SLIDING kt_SLIDING .byte (7 : Int32) [(.int (115 : Int32)), (.int (108 : Int32)), (.int (105 : Int32)), (.int (100 : Int32)), (.int (105 : Int32)), (.int (110 : Int32)), (.int (103 : Int32))] (.int (0 : Int32))) (Ft_SLIDING : Fld Z Z.heap a_SLIDING "com/example/amber_gate/ambergate/Algorithm" "text" "Ljava/lang/String;" (.ref t_SLIDING)) (Et_FIXED : Exa Z Z.heap t_FIXED "java/lang/String") (Vt_FIXED : Fld Z Z.heap t_FIXED "java/lang/String" "value" "[B" (.ref tv_FIXED)) (Ct_FIXED : Fld Z Z.heap t_FIXED "java/lang/String" "coder" "B" (.int (0 : Int32))) (Kt_FIXED : Arv Z Z.heap tv_FIXED kt_FIXED .byte (5 : Int32) [(.int (102 : Int32)), (.int (105 : Int32)), (.int (120 : Int32)), (.int (101 : Int32)), (.int (100 : Int32))] (.int (0 : Int32))) (Ft_FIXED : Fld Z Z.heap a_FIXED "com/example/amber_gate/ambergate/Algorithm" "text" "Ljava/lang/String;" (.ref t_FIXED)) :
    MetFree l (⟨"com/example/amber_gate/ambergate/Algorithm", "named", "(Ljava/lang/String;)Lcom/example/amber_gate/ambergate/Algorithm;"⟩ : MethodName) (head1 (Jvm.Cond.code (⟨"com/example/amber_gate/ambergate/Algorithm", "named", "(Ljava/lang/String;)Lcom/example/amber_gate/ambergate/Algorithm;"⟩ : MethodName) prog_1_method_6_code 5 (some (.object "com/example/amber_gate/ambergate/Algorithm")) :: ws) ({ frames := 3, cells := 1, slots := 3, locals := 60 } : Room)) (fun ar' U => ar' = #[(.ref x)] ∧ Z.Warmed39 U.vm ∧ U.heap = h0) (fun _ _ _ _ _ => True) (fun _ U o U' => ∃ v L, o = .returned v ∧ (Q_rmN2 Z x tx kx a_EXACT a_SLIDING a_FIXED t_EXACT t_SLIDING t_FIXED tv_EXACT tv_SLIDING tv_FIXED kt_EXACT kt_SLIDING kt_FIXED va kA G1 h0 n0) v U'.heap L ∧ FrameEnd U o U' L ({ frames := 3, cells := 1, slots := 3, locals := 60 } : Room).cells ({ frames := 3, cells := 1, slots := 3, locals := 60 } : Room).slots) := by
  refine MetFree.of_bodySF (plainFor_of_name pn_com_example_amber_gate_ambergate_Algorithm) hisR ?_
  intro p e s m args below meth c s₁ Bd hml0 hP hK
  obtain ⟨rfl, hZ, hh⟩ := hP
  have hx := Bd.exec
  have hby := Bd.bytes
  have hlk := BodyLoose.notSynchronized Bd
  have hml : c.maxLocals = 5 := hml0
  have hown : s.vm.findClass "com/example/amber_gate/ambergate/Algorithm" = some m.cls := findClass_of_methodNamed Bd.named
  have hnm := (name_of_methodNamed Bd.named Bd.method).1
  have X0 : Stand p l e ({ frames := 3, cells := 1, slots := 3, locals := 60 } : Room) s m #[(.ref x)] below meth c s₁ [] 0 0 := Stand.of_body Bd
  have e0 : s₁.heap = h0 := by rw [← hh, Bd.state]; rfl
  have N0 := Fr.nil n0
  have Z0 : n0 ≤ h0.size := O0.1 ▸ O0.2.1
  show OEnds p e below s ({ frames := 3, cells := 1, slots := 3, locals := 60 } : Room).cells ({ frames := 3, cells := 1, slots := 3, locals := 60 } : Room).slots (Q_rmN2 Z x tx kx a_EXACT a_SLIDING a_FIXED t_EXACT t_SLIDING t_FIXED tv_EXACT tv_SLIDING tv_FIXED kt_EXACT kt_SLIDING kt_FIXED va kA G1 h0 n0) (s₁.setTop (entryFrame m #[(.ref x)] 5))
  refine OEnds.via (fun _ k_ => castTop (show entryFrame m #[(.ref x)] 5 = (mkF m 0 #[.val (.ref x), .unset, .unset, .unset, .unset] []) by first | (simp [entryFrame, mkF, argsToLocals, Value.category, maxLocals]; done) | rfl) k_) ?_
  have heq : ∀ d ∈ StrChars.Road.wordsEq, d.before a0 Z = true := fun d hd => hw d ((by decide +kernel : ∀ d ∈ StrChars.Road.wordsEq, d ∈ tables_1) d hd)
  have Od := O0
  have Kp := Keep.refl h0 []
  have hp_t_EXACT : ∀ c ∈ ([(101 : Int32), (120 : Int32), (97 : Int32), (99 : Int32), (116 : Int32)] : List Int32), ¬ c < 0 ∧ ¬ (255 : Int32) < c := by decide
  have hcd_t_EXACT : StrChars.Road.CodA ([(101 : Int32), (120 : Int32), (97 : Int32), (99 : Int32), (116 : Int32)] : List Int32) 0 (5 : Int32) [(.int (101 : Int32)), (.int (120 : Int32)), (.int (97 : Int32)), (.int (99 : Int32)), (.int (116 : Int32))] := Or.inl ⟨rfl, rfl, rfl, fun c hc => (hp_t_EXACT c hc).2⟩
  have hbd_t_EXACT := own_up _ hp_t_EXACT
  have hp_t_SLIDING : ∀ c ∈ ([(115 : Int32), (108 : Int32), (105 : Int32), (100 : Int32), (105 : Int32), (110 : Int32), (103 : Int32)] : List Int32), ¬ c < 0 ∧ ¬ (255 : Int32) < c := by decide
  have hcd_t_SLIDING : StrChars.Road.CodA ([(115 : Int32), (108 : Int32), (105 : Int32), (100 : Int32), (105 : Int32), (110 : Int32), (103 : Int32)] : List Int32) 0 (7 : Int32) [(.int (115 : Int32)), (.int (108 : Int32)), (.int (105 : Int32)), (.int (100 : Int32)), (.int (105 : Int32)), (.int (110 : Int32)), (.int (103 : Int32))] := Or.inl ⟨rfl, rfl, rfl, fun c hc => (hp_t_SLIDING c hc).2⟩
  have hbd_t_SLIDING := own_up _ hp_t_SLIDING
  have hp_t_FIXED : ∀ c ∈ ([(102 : Int32), (105 : Int32), (120 : Int32), (101 : Int32), (100 : Int32)] : List Int32), ¬ c < 0 ∧ ¬ (255 : Int32) < c := by decide
  have hcd_t_FIXED : StrChars.Road.CodA ([(102 : Int32), (105 : Int32), (120 : Int32), (101 : Int32), (100 : Int32)] : List Int32) 0 (5 : Int32) [(.int (102 : Int32)), (.int (105 : Int32)), (.int (120 : Int32)), (.int (101 : Int32)), (.int (100 : Int32))] := Or.inl ⟨rfl, rfl, rfl, fun c hc => (hp_t_FIXED c hc).2⟩
  have hbd_t_FIXED := own_up _ hp_t_FIXED
  have hp_x : ∀ c ∈ ([(102 : Int32), (105 : Int32), (120 : Int32), (101 : Int32), (100 : Int32)] : List Int32), ¬ c < 0 ∧ ¬ (255 : Int32) < c := by decide
  have hcd_x : StrChars.Road.CodA ([(102 : Int32), (105 : Int32), (120 : Int32), (101 : Int32), (100 : Int32)] : List Int32) 0 (5 : Int32) ((([(102 : Int32), (105 : Int32), (120 : Int32), (101 : Int32), (100 : Int32)] : List Int32).map (fun c => c.toInt8.toInt32)).map Value.int) := Or.inl ⟨rfl, rfl, rfl, fun c hc => (hp_x c hc).2⟩
  have hbd_x := own_up _ hp_x
  show OEnds p e below s _ _ _ (s₁.setTop (mkF m 0 #[.val (.ref x), .unset, .unset, .unset, .unset] []))
  obtain ⟨_, _, ⟨T1, L1, k1, n1⟩, -, X1, ⟨Lc1, hQ1, l1, y1, z1⟩, st1⟩ := Jvm.LawKit.callS X0 hx (y := (⟨"com/example/amber_gate/ambergate/Algorithm", "values", "()[Lcom/example/amber_gate/ambergate/Algorithm;"⟩ : MethodName)) hown (mvT hZ (hw _ (List.mem_of_getElem? (i := 31) rfl))) (mvT hZ (hw _ (List.mem_of_getElem? (i := 32) rfl))) (mvT hZ (hw _ (List.mem_of_getElem? (i := 3) rfl))) (mvT hZ (hw _ (List.mem_of_getElem? (i := 33) rfl))) (by decide) (backOf (W := 0) (rmV l Z a0 hw [] a_EXACT a_SLIDING a_FIXED va kA h0 n0 Od S_V AV EV) hZ (hw _ (List.mem_of_getElem? (i := 33) rfl)) (hw _ (List.mem_of_getElem? (i := 3) rfl)) (by decide) (by decide)) (g := (mkF m 0 #[.val (.ref x), .unset, .unset, .unset, .unset] [])) rfl (by rw [hml]; rfl) (argsL := []) (rest := []) (lenOf pd_28295bLcom2fexample2famber_gate2fambergate2fAlgorithm3b rfl) rfl (by show 2 * 0 + _ ≤ _; exact Nat.le_of_eq rfl) (hb hby d20_0) (fun _ _ => ⟨rfl, e0, Nat.le_of_ble_eq_true rfl, Nat.le_of_ble_eq_true rfl⟩)
  dsimp only [Pt.U, Pt.locs, Pt.cells, Pt.slots] at X1 l1 y1 z1 st1 hQ1
  subst l1 y1 z1
  obtain ⟨ar, rfl, N1q, K1, szA1, A1⟩ := hQ1
  have ne_x_ar : x ≠ ar := Nat.ne_of_lt (Nat.lt_of_lt_of_le Ex.lt szA1)
  have ne_tx_ar : tx ≠ ar := Nat.ne_of_lt (Nat.lt_of_lt_of_le Kx.lt szA1)
  have N1 := Fr.app N0 N1q
  replace Od := Od.keep K1 all0
  replace Kp := Kp.trans K1 all0
  replace Ex := Ex.keep K1
  replace Vx := Vx.keep K1 nin0
  replace Cx := Cx.keep K1 nin0
  replace Kx := Kx.keep K1 nin0
  obtain ⟨cl, Ar, qA, Sa, MA, HA, GA⟩ := A1
  refine OEnds.via (fun _ k_ => st1 _ k_) ?_
  show OEnds p e below s _ _ _ (T1.setTop (mkF m 3 #[.val (.ref x), .unset, .unset, .unset, .unset] [(.ref ar)]))
  refine OEnds.via (fun _ k_ => XS.astoreN X1.here hx rfl (hb hby d20_3) rfl rfl (l' := #[.val (.ref x), .val (.ref ar), .unset, .unset, .unset]) rfl k_) ?_
  show OEnds p e below s _ _ _ (T1.setTop (mkF m 4 #[.val (.ref x), .val (.ref ar), .unset, .unset, .unset] []))
  refine OEnds.via (fun _ k_ => XS.aloadN X1.here hx rfl (hb hby d20_4) rfl rfl k_) ?_
  show OEnds p e below s _ _ _ (T1.setTop (mkF m 5 #[.val (.ref x), .val (.ref ar), .unset, .unset, .unset] [(.ref ar)]))
  refine OEnds.via (fun _ k_ => X1.arraylength hx Ar.1 (State.isArrayOf_alike hZ.alike Ar.2.1) (g := (mkF m 5 #[.val (.ref x), .val (.ref ar), .unset, .unset, .unset] [(.ref ar)])) rfl rfl (hb hby d20_5) _ k_) ?_
  rw [len_of Sa MA]
  show OEnds p e below s _ _ _ (T1.setTop (mkF m 6 #[.val (.ref x), .val (.ref ar), .unset, .unset, .unset] [(.int (3 : Int32))]))
  refine OEnds.via (fun _ k_ => XS.istoreN X1.here hx rfl (hb hby d20_6) rfl (l' := #[.val (.ref x), .val (.ref ar), .val (.int (3 : Int32)), .unset, .unset]) rfl k_) ?_
  show OEnds p e below s _ _ _ (T1.setTop (mkF m 7 #[.val (.ref x), .val (.ref ar), .val (.int (3 : Int32)), .unset, .unset] []))
  refine OEnds.via (fun _ k_ => XS.iconst X1.here hx rfl (hb hby d20_7) k_) ?_
  show OEnds p e below s _ _ _ (T1.setTop (mkF m 8 #[.val (.ref x), .val (.ref ar), .val (.int (3 : Int32)), .unset, .unset] [(.int (0 : Int32))]))
  refine OEnds.via (fun _ k_ => XS.istoreN X1.here hx rfl (hb hby d20_8) rfl (l' := #[.val (.ref x), .val (.ref ar), .val (.int (3 : Int32)), .val (.int (0 : Int32)), .unset]) rfl k_) ?_
  show OEnds p e below s _ _ _ (T1.setTop (mkF m 9 #[.val (.ref x), .val (.ref ar), .val (.int (3 : Int32)), .val (.int (0 : Int32)), .unset] []))
  refine OEnds.via (fun _ k_ => XS.iloadN X1.here hx rfl (hb hby d20_9) rfl k_) ?_
  show OEnds p e below s _ _ _ (T1.setTop (mkF m 10 #[.val (.ref x), .val (.ref ar), .val (.int (3 : Int32)), .val (.int (0 : Int32)), .unset] [(.int (0 : Int32))]))
  refine OEnds.via (fun _ k_ => XS.iloadN X1.here hx rfl (hb hby d20_10) rfl k_) ?_
  show OEnds p e below s _ _ _ (T1.setTop (mkF m 11 #[.val (.ref x), .val (.ref ar), .val (.int (3 : Int32)), .val (.int (0 : Int32)), .unset] [(.int (3 : Int32)), (.int (0 : Int32))]))
  refine OEnds.via (fun _ k_ => XS.icmpNo X1.here hx rfl (hb hby d20_11) rfl (tlt (by decide : (0 : Int32) < (3 : Int32))).2.1 k_) ?_
  show OEnds p e below s _ _ _ (T1.setTop (mkF m 14 #[.val (.ref x), .val (.ref ar), .val (.int (3 : Int32)), .val (.int (0 : Int32)), .unset] []))
  refine OEnds.via (fun _ k_ => XS.aloadN X1.here hx rfl (hb hby d20_14) rfl rfl k_) ?_
  show OEnds p e below s _ _ _ (T1.setTop (mkF m 15 #[.val (.ref x), .val (.ref ar), .val (.int (3 : Int32)), .val (.int (0 : Int32)), .unset] [(.ref ar)]))
  refine OEnds.via (fun _ k_ => XS.iloadN X1.here hx rfl (hb hby d20_15) rfl k_) ?_
  show OEnds p e below s _ _ _ (T1.setTop (mkF m 16 #[.val (.ref x), .val (.ref ar), .val (.int (3 : Int32)), .val (.int (0 : Int32)), .unset] [(.int (0 : Int32)), (.ref ar)]))
  refine OEnds.via (fun _ k_ => X1.aaload hx (j := (0 : Int32)) (v := (.ref a_EXACT)) Ar.1 (State.isArrayOf_alike hZ.alike Ar.2.1) rfl Ar.2.2 (inb_of Sa ⟨by decide, by decide⟩) (HA 0 (by rw [Sa]; decide)) (g := (mkF m 16 #[.val (.ref x), .val (.ref ar), .val (.int (3 : Int32)), .val (.int (0 : Int32)), .unset] [(.int (0 : Int32)), (.ref ar)])) rfl rfl (hb hby d20_16) _ k_) ?_
  show OEnds p e below s _ _ _ (T1.setTop (mkF m 17 #[.val (.ref x), .val (.ref ar), .val (.int (3 : Int32)), .val (.int (0 : Int32)), .unset] [(.ref a_EXACT)]))
  refine OEnds.via (fun _ k_ => XS.astore X1.here hx rfl (hb hby d20_17) rfl rfl (l' := #[.val (.ref x), .val (.ref ar), .val (.int (3 : Int32)), .val (.int (0 : Int32)), .val (.ref a_EXACT)]) rfl k_) ?_
  show OEnds p e below s _ _ _ (T1.setTop (mkF m 19 #[.val (.ref x), .val (.ref ar), .val (.int (3 : Int32)), .val (.int (0 : Int32)), .val (.ref a_EXACT)] []))
  refine OEnds.via (fun _ k_ => XS.aload X1.here hx rfl (hb hby d20_19) rfl rfl k_) ?_
  show OEnds p e below s _ _ _ (T1.setTop (mkF m 21 #[.val (.ref x), .val (.ref ar), .val (.int (3 : Int32)), .val (.int (0 : Int32)), .val (.ref a_EXACT)] [(.ref a_EXACT)]))
  obtain ⟨T2, X2, e2, st2⟩ := getF X1 hx hZ hown (host := "") (Or.inl (hw _ (List.mem_of_getElem? (i := 49) rfl))) Via.refl rfl (Fld.ext Od.2 Ft_EXACT) (g := (mkF m 21 #[.val (.ref x), .val (.ref ar), .val (.int (3 : Int32)), .val (.int (0 : Int32)), .val (.ref a_EXACT)] [(.ref a_EXACT)])) rfl rfl (hb hby d20_21)
  refine OEnds.via (fun _ k_ => st2 _ k_) ?_
  show OEnds p e below s _ _ _ (T2.setTop (mkF m 24 #[.val (.ref x), .val (.ref ar), .val (.int (3 : Int32)), .val (.int (0 : Int32)), .val (.ref a_EXACT)] [(.ref t_EXACT)]))
  refine OEnds.via (fun _ k_ => XS.aloadN X2.here hx rfl (hb hby d20_24) rfl rfl k_) ?_
  show OEnds p e below s _ _ _ (T2.setTop (mkF m 25 #[.val (.ref x), .val (.ref ar), .val (.int (3 : Int32)), .val (.int (0 : Int32)), .val (.ref a_EXACT)] [(.ref x), (.ref t_EXACT)]))
  obtain ⟨cq3, kq3, q3a, q3b, q3c⟩ := isOf hZ e2 (Exa.ext Od.2 Et_EXACT)
  obtain ⟨_, _, ⟨T3, L3, k3, n3⟩, -, X3, ⟨Lc3, hQ3, l3, y3, z3⟩, st3⟩ := X2.virtualBack hx (y := (⟨"java/lang/String", "equals", "(Ljava/lang/Object;)Z"⟩ : MethodName)) (z := (⟨"java/lang/String", "equals", "(Ljava/lang/Object;)Z"⟩ : MethodName)) hown (mvT hZ (hw _ (List.mem_of_getElem? (i := 147) rfl))) (mvT hZ (hw _ (List.mem_of_getElem? (i := 127) rfl))) (notFace_of_selects (args := #[]) (mvT hZ (hw _ (List.mem_of_getElem? (i := 129) rfl)))) (mvT hZ (hw _ (List.mem_of_getElem? (i := 129) rfl))) (mvT hZ (hw _ (List.mem_of_getElem? (i := 128) rfl))) (by decide) (StrChars.Road.eqW (W := 0) hZ heq (kI := 4) (hw _ (List.mem_of_getElem? (i := 97) rfl)) (Exa.ext Od.2 Et_EXACT) (Fld.ext Od.2 Vt_EXACT) (Fld.ext Od.2 Ct_EXACT) (Kt_EXACT.ext Od.2) hcd_t_EXACT hbd_t_EXACT (by decide) Ex Vx Cx Kx hcd_x hbd_x (by decide) (Sta.ext Od.2 S_CS) nz_CS (by decide) (by decide)) q3a q3c (g := (mkF m 25 #[.val (.ref x), .val (.ref ar), .val (.int (3 : Int32)), .val (.int (0 : Int32)), .val (.ref a_EXACT)] [(.ref x), (.ref t_EXACT)])) rfl (by rw [hml]; rfl) (Steps.refl _) (argsL := [(.ref x)]) (rest := []) (lenOf pd_28Ljava2flang2fObject3b29Z rfl) rfl (by show 2 * 0 + _ ≤ _; exact Nat.le_of_eq rfl) (hb hby d20_25) (fun _ _ => ⟨rfl, e2, Nat.le_of_ble_eq_true rfl, Nat.le_of_ble_eq_true rfl⟩)
  dsimp only [Pt.U, Pt.locs, Pt.cells, Pt.slots] at X3 l3 y3 z3 st3 hQ3
  subst l3 y3 z3
  obtain ⟨hcase3, rfl, e3⟩ := hQ3
  have N3 := Fr.app N1 (Fr.nil n0)
  have hv3 : _ = some (Value.int 0) := hcase3.elim (fun q => absurd q.2 (by decide)) (fun q => q.1)
  subst hv3
  refine OEnds.via (fun _ k_ => st3.trans k_) ?_
  show OEnds p e below s _ _ _ (T3.setTop (mkF m 28 #[.val (.ref x), .val (.ref ar), .val (.int (3 : Int32)), .val (.int (0 : Int32)), .val (.ref a_EXACT)] [(.int (0 : Int32))]))
  refine OEnds.via (fun _ k_ => XS.ifYes X3.here hx rfl (pc0 := 28) (pc' := 34) rfl (hb hby d20_28) rfl ((if0 _ _).trans (teq (by decide : (0 : Int32) = (0 : Int32))).1) (by decide) (by decide) k_) ?_
  show OEnds p e below s _ _ _ (T3.setTop (mkF m 34 #[.val (.ref x), .val (.ref ar), .val (.int (3 : Int32)), .val (.int (0 : Int32)), .val (.ref a_EXACT)] []))
  refine OEnds.via (fun _ k_ => XS.iinc X3.here hx rfl (hb hby d20_34) rfl (l' := #[.val (.ref x), .val (.ref ar), .val (.int (3 : Int32)), .val (.int (1 : Int32)), .val (.ref a_EXACT)]) rfl k_) ?_
  show OEnds p e below s _ _ _ (T3.setTop (mkF m 37 #[.val (.ref x), .val (.ref ar), .val (.int (3 : Int32)), .val (.int (1 : Int32)), .val (.ref a_EXACT)] []))
  refine OEnds.via (fun _ k_ => XS.goto X3.here hx rfl (pc0 := 37) (pc' := 9) rfl (hb hby d20_37) (by decide) (by decide) k_) ?_
  show OEnds p e below s _ _ _ (T3.setTop (mkF m 9 #[.val (.ref x), .val (.ref ar), .val (.int (3 : Int32)), .val (.int (1 : Int32)), .val (.ref a_EXACT)] []))
  refine OEnds.via (fun _ k_ => XS.iloadN X3.here hx rfl (hb hby d20_9) rfl k_) ?_
  show OEnds p e below s _ _ _ (T3.setTop (mkF m 10 #[.val (.ref x), .val (.ref ar), .val (.int (3 : Int32)), .val (.int (1 : Int32)), .val (.ref a_EXACT)] [(.int (1 : Int32))]))
  refine OEnds.via (fun _ k_ => XS.iloadN X3.here hx rfl (hb hby d20_10) rfl k_) ?_
  show OEnds p e below s _ _ _ (T3.setTop (mkF m 11 #[.val (.ref x), .val (.ref ar), .val (.int (3 : Int32)), .val (.int (1 : Int32)), .val (.ref a_EXACT)] [(.int (3 : Int32)), (.int (1 : Int32))]))
  refine OEnds.via (fun _ k_ => XS.icmpNo X3.here hx rfl (hb hby d20_11) rfl (tlt (by decide : (1 : Int32) < (3 : Int32))).2.1 k_) ?_
  show OEnds p e below s _ _ _ (T3.setTop (mkF m 14 #[.val (.ref x), .val (.ref ar), .val (.int (3 : Int32)), .val (.int (1 : Int32)), .val (.ref a_EXACT)] []))
  refine OEnds.via (fun _ k_ => XS.aloadN X3.here hx rfl (hb hby d20_14) rfl rfl k_) ?_
  show OEnds p e below s _ _ _ (T3.setTop (mkF m 15 #[.val (.ref x), .val (.ref ar), .val (.int (3 : Int32)), .val (.int (1 : Int32)), .val (.ref a_EXACT)] [(.ref ar)]))
  refine OEnds.via (fun _ k_ => XS.iloadN X3.here hx rfl (hb hby d20_15) rfl k_) ?_
  show OEnds p e below s _ _ _ (T3.setTop (mkF m 16 #[.val (.ref x), .val (.ref ar), .val (.int (3 : Int32)), .val (.int (1 : Int32)), .val (.ref a_EXACT)] [(.int (1 : Int32)), (.ref ar)]))
  refine OEnds.via (fun _ k_ => X3.aaload hx (j := (1 : Int32)) (v := (.ref a_SLIDING)) (by rw [e3]; exact Ar.1) (State.isArrayOf_alike hZ.alike Ar.2.1) rfl Ar.2.2 (inb_of Sa ⟨by decide, by decide⟩) (HA 1 (by rw [Sa]; decide)) (g := (mkF m 16 #[.val (.ref x), .val (.ref ar), .val (.int (3 : Int32)), .val (.int (1 : Int32)), .val (.ref a_EXACT)] [(.int (1 : Int32)), (.ref ar)])) rfl rfl (hb hby d20_16) _ k_) ?_
  show OEnds p e below s _ _ _ (T3.setTop (mkF m 17 #[.val (.ref x), .val (.ref ar), .val (.int (3 : Int32)), .val (.int (1 : Int32)), .val (.ref a_EXACT)] [(.ref a_SLIDING)]))
  refine OEnds.via (fun _ k_ => XS.astore X3.here hx rfl (hb hby d20_17) rfl rfl (l' := #[.val (.ref x), .val (.ref ar), .val (.int (3 : Int32)), .val (.int (1 : Int32)), .val (.ref a_SLIDING)]) rfl k_) ?_
  show OEnds p e below s _ _ _ (T3.setTop (mkF m 19 #[.val (.ref x), .val (.ref ar), .val (.int (3 : Int32)), .val (.int (1 : Int32)), .val (.ref a_SLIDING)] []))
  refine OEnds.via (fun _ k_ => XS.aload X3.here hx rfl (hb hby d20_19) rfl rfl k_) ?_
  show OEnds p e below s _ _ _ (T3.setTop (mkF m 21 #[.val (.ref x), .val (.ref ar), .val (.int (3 : Int32)), .val (.int (1 : Int32)), .val (.ref a_SLIDING)] [(.ref a_SLIDING)]))
  obtain ⟨T4, X4, e4, st4⟩ := getF X3 hx hZ hown (host := "") (Or.inl (hw _ (List.mem_of_getElem? (i := 49) rfl))) Via.refl e3 (Fld.ext Od.2 Ft_SLIDING) (g := (mkF m 21 #[.val (.ref x), .val (.ref ar), .val (.int (3 : Int32)), .val (.int (1 : Int32)), .val (.ref a_SLIDING)] [(.ref a_SLIDING)])) rfl rfl (hb hby d20_21)
  refine OEnds.via (fun _ k_ => st4 _ k_) ?_
  show OEnds p e below s _ _ _ (T4.setTop (mkF m 24 #[.val (.ref x), .val (.ref ar), .val (.int (3 : Int32)), .val (.int (1 : Int32)), .val (.ref a_SLIDING)] [(.ref t_SLIDING)]))
  refine OEnds.via (fun _ k_ => XS.aloadN X4.here hx rfl (hb hby d20_24) rfl rfl k_) ?_
  show OEnds p e below s _ _ _ (T4.setTop (mkF m 25 #[.val (.ref x), .val (.ref ar), .val (.int (3 : Int32)), .val (.int (1 : Int32)), .val (.ref a_SLIDING)] [(.ref x), (.ref t_SLIDING)]))
  obtain ⟨cq5, kq5, q5a, q5b, q5c⟩ := isOf hZ e4 (Exa.ext Od.2 Et_SLIDING)
  obtain ⟨_, _, ⟨T5, L5, k5, n5⟩, -, X5, ⟨Lc5, hQ5, l5, y5, z5⟩, st5⟩ := X4.virtualBack hx (y := (⟨"java/lang/String", "equals", "(Ljava/lang/Object;)Z"⟩ : MethodName)) (z := (⟨"java/lang/String", "equals", "(Ljava/lang/Object;)Z"⟩ : MethodName)) hown (mvT hZ (hw _ (List.mem_of_getElem? (i := 147) rfl))) (mvT hZ (hw _ (List.mem_of_getElem? (i := 127) rfl))) (notFace_of_selects (args := #[]) (mvT hZ (hw _ (List.mem_of_getElem? (i := 129) rfl)))) (mvT hZ (hw _ (List.mem_of_getElem? (i := 129) rfl))) (mvT hZ (hw _ (List.mem_of_getElem? (i := 128) rfl))) (by decide) (StrChars.Road.eqW (W := 0) hZ heq (kI := 4) (hw _ (List.mem_of_getElem? (i := 97) rfl)) (Exa.ext Od.2 Et_SLIDING) (Fld.ext Od.2 Vt_SLIDING) (Fld.ext Od.2 Ct_SLIDING) (Kt_SLIDING.ext Od.2) hcd_t_SLIDING hbd_t_SLIDING (by decide) Ex Vx Cx Kx hcd_x hbd_x (by decide) (Sta.ext Od.2 S_CS) nz_CS (by decide) (by decide)) q5a q5c (g := (mkF m 25 #[.val (.ref x), .val (.ref ar), .val (.int (3 : Int32)), .val (.int (1 : Int32)), .val (.ref a_SLIDING)] [(.ref x), (.ref t_SLIDING)])) rfl (by rw [hml]; rfl) (Steps.refl _) (argsL := [(.ref x)]) (rest := []) (lenOf pd_28Ljava2flang2fObject3b29Z rfl) rfl (by show 2 * 0 + _ ≤ _; exact Nat.le_of_eq rfl) (hb hby d20_25) (fun _ _ => ⟨rfl, e4, Nat.le_of_ble_eq_true rfl, Nat.le_of_ble_eq_true rfl⟩)
  dsimp only [Pt.U, Pt.locs, Pt.cells, Pt.slots] at X5 l5 y5 z5 st5 hQ5
  subst l5 y5 z5
  obtain ⟨hcase5, rfl, e5⟩ := hQ5
  have N5 := Fr.app N3 (Fr.nil n0)
  have hv5 : _ = some (Value.int 0) := hcase5.elim (fun q => absurd q.2 (by decide)) (fun q => q.1)
  subst hv5
  refine OEnds.via (fun _ k_ => st5.trans k_) ?_
  show OEnds p e below s _ _ _ (T5.setTop (mkF m 28 #[.val (.ref x), .val (.ref ar), .val (.int (3 : Int32)), .val (.int (1 : Int32)), .val (.ref a_SLIDING)] [(.int (0 : Int32))]))
  refine OEnds.via (fun _ k_ => XS.ifYes X5.here hx rfl (pc0 := 28) (pc' := 34) rfl (hb hby d20_28) rfl ((if0 _ _).trans (teq (by decide : (0 : Int32) = (0 : Int32))).1) (by decide) (by decide) k_) ?_
  show OEnds p e below s _ _ _ (T5.setTop (mkF m 34 #[.val (.ref x), .val (.ref ar), .val (.int (3 : Int32)), .val (.int (1 : Int32)), .val (.ref a_SLIDING)] []))
  refine OEnds.via (fun _ k_ => XS.iinc X5.here hx rfl (hb hby d20_34) rfl (l' := #[.val (.ref x), .val (.ref ar), .val (.int (3 : Int32)), .val (.int (2 : Int32)), .val (.ref a_SLIDING)]) rfl k_) ?_
  show OEnds p e below s _ _ _ (T5.setTop (mkF m 37 #[.val (.ref x), .val (.ref ar), .val (.int (3 : Int32)), .val (.int (2 : Int32)), .val (.ref a_SLIDING)] []))
  refine OEnds.via (fun _ k_ => XS.goto X5.here hx rfl (pc0 := 37) (pc' := 9) rfl (hb hby d20_37) (by decide) (by decide) k_) ?_
  show OEnds p e below s _ _ _ (T5.setTop (mkF m 9 #[.val (.ref x), .val (.ref ar), .val (.int (3 : Int32)), .val (.int (2 : Int32)), .val (.ref a_SLIDING)] []))
  refine OEnds.via (fun _ k_ => XS.iloadN X5.here hx rfl (hb hby d20_9) rfl k_) ?_
  show OEnds p e below s _ _ _ (T5.setTop (mkF m 10 #[.val (.ref x), .val (.ref ar), .val (.int (3 : Int32)), .val (.int (2 : Int32)), .val (.ref a_SLIDING)] [(.int (2 : Int32))]))
  refine OEnds.via (fun _ k_ => XS.iloadN X5.here hx rfl (hb hby d20_10) rfl k_) ?_
  show OEnds p e below s _ _ _ (T5.setTop (mkF m 11 #[.val (.ref x), .val (.ref ar), .val (.int (3 : Int32)), .val (.int (2 : Int32)), .val (.ref a_SLIDING)] [(.int (3 : Int32)), (.int (2 : Int32))]))
  refine OEnds.via (fun _ k_ => XS.icmpNo X5.here hx rfl (hb hby d20_11) rfl (tlt (by decide : (2 : Int32) < (3 : Int32))).2.1 k_) ?_
  show OEnds p e below s _ _ _ (T5.setTop (mkF m 14 #[.val (.ref x), .val (.ref ar), .val (.int (3 : Int32)), .val (.int (2 : Int32)), .val (.ref a_SLIDING)] []))
  refine OEnds.via (fun _ k_ => XS.aloadN X5.here hx rfl (hb hby d20_14) rfl rfl k_) ?_
  show OEnds p e below s _ _ _ (T5.setTop (mkF m 15 #[.val (.ref x), .val (.ref ar), .val (.int (3 : Int32)), .val (.int (2 : Int32)), .val (.ref a_SLIDING)] [(.ref ar)]))
  refine OEnds.via (fun _ k_ => XS.iloadN X5.here hx rfl (hb hby d20_15) rfl k_) ?_
  show OEnds p e below s _ _ _ (T5.setTop (mkF m 16 #[.val (.ref x), .val (.ref ar), .val (.int (3 : Int32)), .val (.int (2 : Int32)), .val (.ref a_SLIDING)] [(.int (2 : Int32)), (.ref ar)]))
  refine OEnds.via (fun _ k_ => X5.aaload hx (j := (2 : Int32)) (v := (.ref a_FIXED)) (by rw [e5]; exact Ar.1) (State.isArrayOf_alike hZ.alike Ar.2.1) rfl Ar.2.2 (inb_of Sa ⟨by decide, by decide⟩) (HA 2 (by rw [Sa]; decide)) (g := (mkF m 16 #[.val (.ref x), .val (.ref ar), .val (.int (3 : Int32)), .val (.int (2 : Int32)), .val (.ref a_SLIDING)] [(.int (2 : Int32)), (.ref ar)])) rfl rfl (hb hby d20_16) _ k_) ?_
  show OEnds p e below s _ _ _ (T5.setTop (mkF m 17 #[.val (.ref x), .val (.ref ar), .val (.int (3 : Int32)), .val (.int (2 : Int32)), .val (.ref a_SLIDING)] [(.ref a_FIXED)]))
  refine OEnds.via (fun _ k_ => XS.astore X5.here hx rfl (hb hby d20_17) rfl rfl (l' := #[.val (.ref x), .val (.ref ar), .val (.int (3 : Int32)), .val (.int (2 : Int32)), .val (.ref a_FIXED)]) rfl k_) ?_
  show OEnds p e below s _ _ _ (T5.setTop (mkF m 19 #[.val (.ref x), .val (.ref ar), .val (.int (3 : Int32)), .val (.int (2 : Int32)), .val (.ref a_FIXED)] []))
  refine OEnds.via (fun _ k_ => XS.aload X5.here hx rfl (hb hby d20_19) rfl rfl k_) ?_
  show OEnds p e below s _ _ _ (T5.setTop (mkF m 21 #[.val (.ref x), .val (.ref ar), .val (.int (3 : Int32)), .val (.int (2 : Int32)), .val (.ref a_FIXED)] [(.ref a_FIXED)]))
  obtain ⟨T6, X6, e6, st6⟩ := getF X5 hx hZ hown (host := "") (Or.inl (hw _ (List.mem_of_getElem? (i := 49) rfl))) Via.refl e5 (Fld.ext Od.2 Ft_FIXED) (g := (mkF m 21 #[.val (.ref x), .val (.ref ar), .val (.int (3 : Int32)), .val (.int (2 : Int32)), .val (.ref a_FIXED)] [(.ref a_FIXED)])) rfl rfl (hb hby d20_21)
  refine OEnds.via (fun _ k_ => st6 _ k_) ?_
  show OEnds p e below s _ _ _ (T6.setTop (mkF m 24 #[.val (.ref x), .val (.ref ar), .val (.int (3 : Int32)), .val (.int (2 : Int32)), .val (.ref a_FIXED)] [(.ref t_FIXED)]))
  refine OEnds.via (fun _ k_ => XS.aloadN X6.here hx rfl (hb hby d20_24) rfl rfl k_) ?_
  show OEnds p e below s _ _ _ (T6.setTop (mkF m 25 #[.val (.ref x), .val (.ref ar), .val (.int (3 : Int32)), .val (.int (2 : Int32)), .val (.ref a_FIXED)] [(.ref x), (.ref t_FIXED)]))
  obtain ⟨cq7, kq7, q7a, q7b, q7c⟩ := isOf hZ e6 (Exa.ext Od.2 Et_FIXED)
  obtain ⟨_, _, ⟨T7, L7, k7, n7⟩, -, X7, ⟨Lc7, hQ7, l7, y7, z7⟩, st7⟩ := X6.virtualBack hx (y := (⟨"java/lang/String", "equals", "(Ljava/lang/Object;)Z"⟩ : MethodName)) (z := (⟨"java/lang/String", "equals", "(Ljava/lang/Object;)Z"⟩ : MethodName)) hown (mvT hZ (hw _ (List.mem_of_getElem? (i := 147) rfl))) (mvT hZ (hw _ (List.mem_of_getElem? (i := 127) rfl))) (notFace_of_selects (args := #[]) (mvT hZ (hw _ (List.mem_of_getElem? (i := 129) rfl)))) (mvT hZ (hw _ (List.mem_of_getElem? (i := 129) rfl))) (mvT hZ (hw _ (List.mem_of_getElem? (i := 128) rfl))) (by decide) (StrChars.Road.eqW (W := 0) hZ heq (kI := 4) (hw _ (List.mem_of_getElem? (i := 97) rfl)) (Exa.ext Od.2 Et_FIXED) (Fld.ext Od.2 Vt_FIXED) (Fld.ext Od.2 Ct_FIXED) (Kt_FIXED.ext Od.2) hcd_t_FIXED hbd_t_FIXED (by decide) Ex Vx Cx Kx hcd_x hbd_x (by decide) (Sta.ext Od.2 S_CS) nz_CS (by decide) (by decide)) q7a q7c (g := (mkF m 25 #[.val (.ref x), .val (.ref ar), .val (.int (3 : Int32)), .val (.int (2 : Int32)), .val (.ref a_FIXED)] [(.ref x), (.ref t_FIXED)])) rfl (by rw [hml]; rfl) (Steps.refl _) (argsL := [(.ref x)]) (rest := []) (lenOf pd_28Ljava2flang2fObject3b29Z rfl) rfl (by show 2 * 0 + _ ≤ _; exact Nat.le_of_eq rfl) (hb hby d20_25) (fun _ _ => ⟨rfl, e6, Nat.le_of_ble_eq_true rfl, Nat.le_of_ble_eq_true rfl⟩)
  dsimp only [Pt.U, Pt.locs, Pt.cells, Pt.slots] at X7 l7 y7 z7 st7 hQ7
  subst l7 y7 z7
  obtain ⟨hcase7, rfl, e7⟩ := hQ7
  have N7 := Fr.app N5 (Fr.nil n0)
  have hv7 : _ = some (Value.int 1) := hcase7.elim (fun q => q.1) (fun q => absurd rfl q.2)
  subst hv7
  refine OEnds.via (fun _ k_ => st7.trans k_) ?_
  show OEnds p e below s _ _ _ (T7.setTop (mkF m 28 #[.val (.ref x), .val (.ref ar), .val (.int (3 : Int32)), .val (.int (2 : Int32)), .val (.ref a_FIXED)] [(.int (1 : Int32))]))
  refine OEnds.via (fun _ k_ => XS.ifNo X7.here hx rfl (hb hby d20_28) rfl ((if0 _ _).trans (feq (by decide : ¬ ((1 : Int32) = (0 : Int32)))).1) k_) ?_
  show OEnds p e below s _ _ _ (T7.setTop (mkF m 31 #[.val (.ref x), .val (.ref ar), .val (.int (3 : Int32)), .val (.int (2 : Int32)), .val (.ref a_FIXED)] []))
  refine OEnds.via (fun _ k_ => XS.aload X7.here hx rfl (hb hby d20_31) rfl rfl k_) ?_
  show OEnds p e below s _ _ _ (T7.setTop (mkF m 33 #[.val (.ref x), .val (.ref ar), .val (.int (3 : Int32)), .val (.int (2 : Int32)), .val (.ref a_FIXED)] [(.ref a_FIXED)]))
  refine OEnds.retR X7 hx hlk Bd.returns rfl rfl (hb hby d20_33) ?_ (by decide) (by decide)
  exact ⟨rfl, N7, by rw [e7]; exact Kp⟩
theorem d19_0 : decode prog_1_method_5_code 0 = .ok (.aload_n 0, 1) := by decide +kernel
theorem d19_1 : decode prog_1_method_5_code 1 = .ok (.getfield 32, 3) := by decide +kernel
theorem d19_4 : decode prog_1_method_5_code 4 = .ok (.areturn, 1) := by decide +kernel
set_option maxRecDepth 65536 in
set_option maxHeartbeats 40000000 in
theorem rmT (l : Launch) (Z : State) (a0 : Array Value) (hw : ∀ d ∈ tables_1, d.before a0 Z = true) (ws : List Jvm.Cond) (r : Addr) (b : Addr) (h0 : Heap) (n0 : Nat) (O0 : Old Z n0 h0) (F : Fld Z Z.heap r "com/example/amber_gate/ambergate/Algorithm" "text" "Ljava/lang/String;" (.ref b)) :
    MetFree l (⟨"com/example/amber_gate/ambergate/Algorithm", "toString", "()Ljava/lang/String;"⟩ : MethodName) (head1 (Jvm.Cond.code (⟨"com/example/amber_gate/ambergate/Algorithm", "toString", "()Ljava/lang/String;"⟩ : MethodName) prog_1_method_5_code 1 (some (.object "java/lang/String")) :: ws) ({ frames := 0, cells := 0, slots := 0, locals := 0 } : Room)) (fun ar' U => ar' = #[(.ref r)] ∧ Z.Warmed39 U.vm ∧ U.heap = h0) (fun _ _ _ _ _ => True) (fun _ U o U' => ∃ v L, o = .returned v ∧ (QA (some (.ref b)) h0 n0) v U'.heap L ∧ FrameEnd U o U' L ({ frames := 0, cells := 0, slots := 0, locals := 0 } : Room).cells ({ frames := 0, cells := 0, slots := 0, locals := 0 } : Room).slots) := by
  refine MetFree.of_bodySF (plainFor_of_name pn_com_example_amber_gate_ambergate_Algorithm) hisR ?_
  intro p e s m args below meth c s₁ Bd hml0 hP hK
  obtain ⟨rfl, hZ, hh⟩ := hP
  have hx := Bd.exec
  have hby := Bd.bytes
  have hlk := BodyLoose.notSynchronized Bd
  have hml : c.maxLocals = 1 := hml0
  have hown : s.vm.findClass "com/example/amber_gate/ambergate/Algorithm" = some m.cls := findClass_of_methodNamed Bd.named
  have hnm := (name_of_methodNamed Bd.named Bd.method).1
  have X0 : Stand p l e ({ frames := 0, cells := 0, slots := 0, locals := 0 } : Room) s m #[(.ref r)] below meth c s₁ [] 0 0 := Stand.of_body Bd
  have e0 : s₁.heap = h0 := by rw [← hh, Bd.state]; rfl
  have N0 := Fr.nil n0
  have Z0 : n0 ≤ h0.size := O0.1 ▸ O0.2.1
  show OEnds p e below s ({ frames := 0, cells := 0, slots := 0, locals := 0 } : Room).cells ({ frames := 0, cells := 0, slots := 0, locals := 0 } : Room).slots (QA (some (.ref b)) h0 n0) (s₁.setTop (entryFrame m #[(.ref r)] 1))
  refine OEnds.via (fun _ k_ => castTop (show entryFrame m #[(.ref r)] 1 = (mkF m 0 #[.val (.ref r)] []) by first | (simp [entryFrame, mkF, argsToLocals, Value.category, maxLocals]; done) | rfl) k_) ?_
  refine OEnds.via (fun _ k_ => XS.aloadN X0.here hx rfl (hb hby d19_0) rfl rfl k_) ?_
  show OEnds p e below s _ _ _ (s₁.setTop (mkF m 1 #[.val (.ref r)] [(.ref r)]))
  obtain ⟨T1, X1, e1, st1⟩ := getF X0 hx hZ hown (host := "") (Or.inl (hw _ (List.mem_of_getElem? (i := 49) rfl))) Via.refl e0 (Fld.ext O0.2 F) (g := (mkF m 1 #[.val (.ref r)] [(.ref r)])) rfl rfl (hb hby d19_1)
  refine OEnds.via (fun _ k_ => st1 _ k_) ?_
  show OEnds p e below s _ _ _ (T1.setTop (mkF m 4 #[.val (.ref r)] [(.ref b)]))
  refine OEnds.retR X1 hx hlk Bd.returns rfl rfl (hb hby d19_4) ?_ (by decide) (by decide)
  exact ⟨rfl, N0, e1⟩
theorem d4_0 : decode jdk_22_method_1_code 0 = .ok (.aload_n 0, 1) := by decide +kernel
theorem d4_1 : decode jdk_22_method_1_code 1 = .ok (.invokespecial 1, 3) := by decide +kernel
theorem d4_4 : decode jdk_22_method_1_code 4 = .ok (.return_, 1) := by decide +kernel
theorem pn_java_util_AbstractCollection : plainName "java/util/AbstractCollection" = true := by first | (simp [plainName, overriddenIn]; done) | decide +kernel
theorem pd_2829V : parseMethodDescriptor "()V" = some ⟨[], none⟩ := by decide +kernel
set_option maxRecDepth 65536 in
set_option maxHeartbeats 40000000 in
theorem rmAC (l : Launch) (Z : State) (a0 : Array Value) (hw : ∀ d ∈ tables_1, d.before a0 Z = true) (ws : List Jvm.Cond) (r : Addr) (h0 : Heap) (n0 : Nat) (O0 : Old Z n0 h0) :
    MetFree l (⟨"java/util/AbstractCollection", "<init>", "()V"⟩ : MethodName) (head1 (Jvm.Cond.code (⟨"java/util/AbstractCollection", "<init>", "()V"⟩ : MethodName) jdk_22_method_1_code 1 none :: ws) ({ frames := 1, cells := 0, slots := 0, locals := 12 } : Room)) (fun ar' U => ar' = #[(.ref r)] ∧ Z.Warmed39 U.vm ∧ U.heap = h0) (fun _ _ _ _ _ => True) (fun _ U o U' => ∃ v L, o = .returned v ∧ (QA none h0 n0) v U'.heap L ∧ FrameEnd U o U' L ({ frames := 1, cells := 0, slots := 0, locals := 12 } : Room).cells ({ frames := 1, cells := 0, slots := 0, locals := 12 } : Room).slots) := by
  refine MetFree.of_bodySF (plainFor_of_name pn_java_util_AbstractCollection) hisR ?_
  intro p e s m args below meth c s₁ Bd hml0 hP hK
  obtain ⟨rfl, hZ, hh⟩ := hP
  have hx := Bd.exec
  have hby := Bd.bytes
  have hlk := BodyLoose.notSynchronized Bd
  have hml : c.maxLocals = 1 := hml0
  have hown : s.vm.findClass "java/util/AbstractCollection" = some m.cls := findClass_of_methodNamed Bd.named
  have hnm := (name_of_methodNamed Bd.named Bd.method).1
  have X0 : Stand p l e ({ frames := 1, cells := 0, slots := 0, locals := 12 } : Room) s m #[(.ref r)] below meth c s₁ [] 0 0 := Stand.of_body Bd
  have e0 : s₁.heap = h0 := by rw [← hh, Bd.state]; rfl
  have N0 := Fr.nil n0
  have Z0 : n0 ≤ h0.size := O0.1 ▸ O0.2.1
  show OEnds p e below s ({ frames := 1, cells := 0, slots := 0, locals := 12 } : Room).cells ({ frames := 1, cells := 0, slots := 0, locals := 12 } : Room).slots (QA none h0 n0) (s₁.setTop (entryFrame m #[(.ref r)] 1))
  refine OEnds.via (fun _ k_ => castTop (show entryFrame m #[(.ref r)] 1 = (mkF m 0 #[.val (.ref r)] []) by first | (simp [entryFrame, mkF, argsToLocals, Value.category, maxLocals]; done) | rfl) k_) ?_
  refine OEnds.via (fun _ k_ => XS.aloadN X0.here hx rfl (hb hby d4_0) rfl rfl k_) ?_
  show OEnds p e below s _ _ _ (s₁.setTop (mkF m 1 #[.val (.ref r)] [(.ref r)]))
  obtain ⟨T1, X1, e1, st1⟩ := initO X0 hx hZ hown (hw _ (List.mem_of_getElem? (i := 23) rfl)) (hw _ (List.mem_of_getElem? (i := 24) rfl)) (hw _ (List.mem_of_getElem? (i := 25) rfl)) e0 (g := (mkF m 1 #[.val (.ref r)] [(.ref r)])) rfl (by rw [hml]; rfl) rfl (hb hby d4_1) (by decide) (W := 0) (by show 2 * 0 + _ ≤ _; exact Nat.le_of_eq rfl) (by decide)
  refine OEnds.via (fun _ k_ => st1 _ k_) ?_
  show OEnds p e below s _ _ _ (T1.setTop (mkF m 4 #[.val (.ref r)] []))
  refine OEnds.retV X1 hx hlk Bd.returns (hb hby d4_4) ?_ (by decide) (by decide)
  exact ⟨rfl, N0, e1⟩
theorem d3_0 : decode jdk_39_method_1_code 0 = .ok (.aload_n 0, 1) := by decide +kernel
theorem d3_1 : decode jdk_39_method_1_code 1 = .ok (.invokespecial 1, 3) := by decide +kernel
theorem d3_4 : decode jdk_39_method_1_code 4 = .ok (.aload_n 0, 1) := by decide +kernel
theorem d3_5 : decode jdk_39_method_1_code 5 = .ok (.iconst 0, 1) := by decide +kernel
theorem d3_6 : decode jdk_39_method_1_code 6 = .ok (.putfield 7, 3) := by decide +kernel
theorem d3_9 : decode jdk_39_method_1_code 9 = .ok (.return_, 1) := by decide +kernel
theorem pn_java_util_AbstractList : plainName "java/util/AbstractList" = true := by first | (simp [plainName, overriddenIn]; done) | decide +kernel
def Q_rmAL (Z : State) (r : Addr) (h0 : Heap) (n0 : Nat) (v : Option Value) (h : Heap) (L : List Loc) : Prop := v = none ∧ Fr n0 L ∧ Keep h0 h [r] ∧ Exa Z h r "java/util/ArrayList" ∧ Fld Z h r "java/util/AbstractList" "modCount" "I" (.int (0 : Int32)) ∧ Fld Z h r "java/util/ArrayList" "elementData" "[Ljava/lang/Object;" .null ∧ Fld Z h r "java/util/ArrayList" "size" "I" (.int (0 : Int32))
set_option maxRecDepth 65536 in
set_option maxHeartbeats 40000000 in
theorem rmAL (l : Launch) (Z : State) (a0 : Array Value) (hw : ∀ d ∈ tables_1, d.before a0 Z = true) (ws : List Jvm.Cond) (r : Addr) (h0 : Heap) (n0 : Nat) (O0 : Old Z n0 h0) (F_modCount_r : Fld Z h0 r "java/util/AbstractList" "modCount" "I" (.int (0 : Int32))) (F_elementData_r : Fld Z h0 r "java/util/ArrayList" "elementData" "[Ljava/lang/Object;" .null) (F_size_r : Fld Z h0 r "java/util/ArrayList" "size" "I" (.int (0 : Int32))) (E_r : Exa Z h0 r "java/util/ArrayList") (ge_r : n0 ≤ r) :
    MetFree l (⟨"java/util/AbstractList", "<init>", "()V"⟩ : MethodName) (head1 (Jvm.Cond.code (⟨"java/util/AbstractList", "<init>", "()V"⟩ : MethodName) jdk_39_method_1_code 1 none :: ws) ({ frames := 2, cells := 0, slots := 0, locals := 30 } : Room)) (fun ar' U => ar' = #[(.ref r)] ∧ Z.Warmed39 U.vm ∧ U.heap = h0) (fun _ _ _ _ _ => True) (fun _ U o U' => ∃ v L, o = .returned v ∧ (Q_rmAL Z r h0 n0) v U'.heap L ∧ FrameEnd U o U' L ({ frames := 2, cells := 0, slots := 0, locals := 30 } : Room).cells ({ frames := 2, cells := 0, slots := 0, locals := 30 } : Room).slots) := by
  refine MetFree.of_bodySF (plainFor_of_name pn_java_util_AbstractList) hisR ?_
  intro p e s m args below meth c s₁ Bd hml0 hP hK
  obtain ⟨rfl, hZ, hh⟩ := hP
  have hx := Bd.exec
  have hby := Bd.bytes
  have hlk := BodyLoose.notSynchronized Bd
  have hml : c.maxLocals = 1 := hml0
  have hown : s.vm.findClass "java/util/AbstractList" = some m.cls := findClass_of_methodNamed Bd.named
  have hnm := (name_of_methodNamed Bd.named Bd.method).1
  have X0 : Stand p l e ({ frames := 2, cells := 0, slots := 0, locals := 30 } : Room) s m #[(.ref r)] below meth c s₁ [] 0 0 := Stand.of_body Bd
  have e0 : s₁.heap = h0 := by rw [← hh, Bd.state]; rfl
  have N0 := Fr.nil n0
  have Z0 : n0 ≤ h0.size := O0.1 ▸ O0.2.1
  show OEnds p e below s ({ frames := 2, cells := 0, slots := 0, locals := 30 } : Room).cells ({ frames := 2, cells := 0, slots := 0, locals := 30 } : Room).slots (Q_rmAL Z r h0 n0) (s₁.setTop (entryFrame m #[(.ref r)] 1))
  refine OEnds.via (fun _ k_ => castTop (show entryFrame m #[(.ref r)] 1 = (mkF m 0 #[.val (.ref r)] []) by first | (simp [entryFrame, mkF, argsToLocals, Value.category, maxLocals]; done) | rfl) k_) ?_
  have Kp := Keep.refl h0 [r]
  show OEnds p e below s _ _ _ (s₁.setTop (mkF m 0 #[.val (.ref r)] []))
  refine OEnds.via (fun _ k_ => XS.aloadN X0.here hx rfl (hb hby d3_0) rfl rfl k_) ?_
  show OEnds p e below s _ _ _ (s₁.setTop (mkF m 1 #[.val (.ref r)] [(.ref r)]))
  obtain ⟨_, _, ⟨T1, L1, k1, n1⟩, -, X1, ⟨Lc1, hQ1, l1, y1, z1⟩, st1⟩ := X0.specialBack hx (y := (⟨"java/util/AbstractCollection", "<init>", "()V"⟩ : MethodName)) rfl hown (mvT hZ (hw _ (List.mem_of_getElem? (i := 17) rfl))) (mvT hZ (hw _ (List.mem_of_getElem? (i := 18) rfl))) (mvT hZ (hw _ (List.mem_of_getElem? (i := 22) rfl))) (by decide) (backOf (W := 0) (rmAC l Z a0 hw [] r h0 n0 O0 ) hZ (hw _ (List.mem_of_getElem? (i := 22) rfl)) (hw _ (List.mem_of_getElem? (i := 21) rfl)) (by decide) (by decide)) (g := (mkF m 1 #[.val (.ref r)] [(.ref r)])) rfl (by rw [hml]; rfl) (Steps.refl _) (a := r) (argsL := []) (rest := []) (lenOf pd_2829V rfl) rfl (by show 2 * 0 + _ ≤ _; exact Nat.le_of_eq rfl) (hb hby d3_1) (fun _ _ => ⟨rfl, e0, Nat.le_of_ble_eq_true rfl, Nat.le_of_ble_eq_true rfl⟩)
  dsimp only [Pt.U, Pt.locs, Pt.cells, Pt.slots] at X1 l1 y1 z1 st1 hQ1
  subst l1 y1 z1
  obtain ⟨rfl, N1q, e1⟩ := hQ1
  have N1 := Fr.app N0 N1q
  refine OEnds.via (fun _ k_ => st1.trans k_) ?_
  show OEnds p e below s _ _ _ (T1.setTop (mkF m 4 #[.val (.ref r)] []))
  refine OEnds.via (fun _ k_ => XS.aloadN X1.here hx rfl (hb hby d3_4) rfl rfl k_) ?_
  show OEnds p e below s _ _ _ (T1.setTop (mkF m 5 #[.val (.ref r)] [(.ref r)]))
  refine OEnds.via (fun _ k_ => XS.iconst X1.here hx rfl (hb hby d3_5) k_) ?_
  show OEnds p e below s _ _ _ (T1.setTop (mkF m 6 #[.val (.ref r)] [(.int (0 : Int32)), (.ref r)]))
  obtain ⟨T2, h2, X2, e2, W2, st2⟩ := putF X1 hx hZ hown (host := "") (Or.inl (hw _ (List.mem_of_getElem? (i := 26) rfl))) Via.refl e1 F_modCount_r E_r (Or.inl (hw _ (List.mem_of_getElem? (i := 27) rfl))) (hw _ (List.mem_of_getElem? (i := 6) rfl)) (ty := .int) (by decide) rfl rfl (g := (mkF m 6 #[.val (.ref r)] [(.int (0 : Int32)), (.ref r)])) rfl rfl (hb hby d3_6)
  have N2 := Fr.snoc X2 N1 ge_r
  replace F_modCount_r := Fld.same W2 F_modCount_r
  replace F_elementData_r := Fld.other W2 F_elementData_r (Or.inr (slot_ne (Or.inl (hw _ (List.mem_of_getElem? (i := 30) rfl))) (Or.inl (hw _ (List.mem_of_getElem? (i := 27) rfl))) (by decide) (t := (.array (.object "java/lang/Object"))) (t' := .int) (by decide) (by decide)))
  replace F_size_r := Fld.other W2 F_size_r (Or.inr (slot_ne (Or.inl (hw _ (List.mem_of_getElem? (i := 63) rfl))) (Or.inl (hw _ (List.mem_of_getElem? (i := 27) rfl))) (by decide) (t := .int) (t' := .int) (by decide) (by decide)))
  replace E_r := Exa.wr W2 E_r
  replace Kp := Kp.wr W2 (Or.inl (by simp))
  refine OEnds.via (fun _ k_ => st2 _ k_) ?_
  show OEnds p e below s _ _ _ (T2.setTop (mkF m 9 #[.val (.ref r)] []))
  refine OEnds.retV X2 hx hlk Bd.returns (hb hby d3_9) ?_ (by decide) (by decide)
  rw [e2]
  exact ⟨rfl, N2, Kp, E_r, F_modCount_r, F_elementData_r, F_size_r⟩
theorem d2_0 : decode jdk_38_method_2_code 0 = .ok (.aload_n 0, 1) := by decide +kernel
theorem d2_1 : decode jdk_38_method_2_code 1 = .ok (.invokespecial 1, 3) := by decide +kernel
theorem d2_4 : decode jdk_38_method_2_code 4 = .ok (.aload_n 0, 1) := by decide +kernel
theorem d2_5 : decode jdk_38_method_2_code 5 = .ok (.getstatic 39, 3) := by decide +kernel
theorem d2_8 : decode jdk_38_method_2_code 8 = .ok (.putfield 9, 3) := by decide +kernel
theorem d2_11 : decode jdk_38_method_2_code 11 = .ok (.return_, 1) := by decide +kernel
theorem pn_java_util_ArrayList : plainName "java/util/ArrayList" = true := by first | (simp [plainName, overriddenIn]; done) | decide +kernel
def Q_rmNew (Z : State) (r : Addr) (dc : Addr) (h0 : Heap) (n0 : Nat) (v : Option Value) (h : Heap) (L : List Loc) : Prop := v = none ∧ Fr n0 L ∧ Keep h0 h [r] ∧ Exa Z h r "java/util/ArrayList" ∧ Fld Z h r "java/util/AbstractList" "modCount" "I" (.int (0 : Int32)) ∧ Fld Z h r "java/util/ArrayList" "elementData" "[Ljava/lang/Object;" (.ref dc) ∧ Fld Z h r "java/util/ArrayList" "size" "I" (.int (0 : Int32))
set_option maxRecDepth 65536 in
set_option maxHeartbeats 40000000 in
theorem rmNew (l : Launch) (Z : State) (a0 : Array Value) (hw : ∀ d ∈ tables_1, d.before a0 Z = true) (ws : List Jvm.Cond) (r : Addr) (dc : Addr) (h0 : Heap) (n0 : Nat) (O0 : Old Z n0 h0) (F_modCount_r : Fld Z h0 r "java/util/AbstractList" "modCount" "I" (.int (0 : Int32))) (F_elementData_r : Fld Z h0 r "java/util/ArrayList" "elementData" "[Ljava/lang/Object;" .null) (F_size_r : Fld Z h0 r "java/util/ArrayList" "size" "I" (.int (0 : Int32))) (E_r : Exa Z h0 r "java/util/ArrayList") (ge_r : n0 ≤ r) (S_dc : Sta Z Z.heap "java/util/ArrayList" "DEFAULTCAPACITY_EMPTY_ELEMENTDATA" "[Ljava/lang/Object;" (.ref dc)) :
    MetFree l (⟨"java/util/ArrayList", "<init>", "()V"⟩ : MethodName) (head1 (Jvm.Cond.code (⟨"java/util/ArrayList", "<init>", "()V"⟩ : MethodName) jdk_38_method_2_code 1 none :: ws) ({ frames := 3, cells := 0, slots := 0, locals := 44 } : Room)) (fun ar' U => ar' = #[(.ref r)] ∧ Z.Warmed39 U.vm ∧ U.heap = h0) (fun _ _ _ _ _ => True) (fun _ U o U' => ∃ v L, o = .returned v ∧ (Q_rmNew Z r dc h0 n0) v U'.heap L ∧ FrameEnd U o U' L ({ frames := 3, cells := 0, slots := 0, locals := 44 } : Room).cells ({ frames := 3, cells := 0, slots := 0, locals := 44 } : Room).slots) := by
  refine MetFree.of_bodySF (plainFor_of_name pn_java_util_ArrayList) hisR ?_
  intro p e s m args below meth c s₁ Bd hml0 hP hK
  obtain ⟨rfl, hZ, hh⟩ := hP
  have hx := Bd.exec
  have hby := Bd.bytes
  have hlk := BodyLoose.notSynchronized Bd
  have hml : c.maxLocals = 1 := hml0
  have hown : s.vm.findClass "java/util/ArrayList" = some m.cls := findClass_of_methodNamed Bd.named
  have hnm := (name_of_methodNamed Bd.named Bd.method).1
  have X0 : Stand p l e ({ frames := 3, cells := 0, slots := 0, locals := 44 } : Room) s m #[(.ref r)] below meth c s₁ [] 0 0 := Stand.of_body Bd
  have e0 : s₁.heap = h0 := by rw [← hh, Bd.state]; rfl
  have N0 := Fr.nil n0
  have Z0 : n0 ≤ h0.size := O0.1 ▸ O0.2.1
  show OEnds p e below s ({ frames := 3, cells := 0, slots := 0, locals := 44 } : Room).cells ({ frames := 3, cells := 0, slots := 0, locals := 44 } : Room).slots (Q_rmNew Z r dc h0 n0) (s₁.setTop (entryFrame m #[(.ref r)] 1))
  refine OEnds.via (fun _ k_ => castTop (show entryFrame m #[(.ref r)] 1 = (mkF m 0 #[.val (.ref r)] []) by first | (simp [entryFrame, mkF, argsToLocals, Value.category, maxLocals]; done) | rfl) k_) ?_
  have Od := O0
  have Kp := Keep.refl h0 [r]
  show OEnds p e below s _ _ _ (s₁.setTop (mkF m 0 #[.val (.ref r)] []))
  refine OEnds.via (fun _ k_ => XS.aloadN X0.here hx rfl (hb hby d2_0) rfl rfl k_) ?_
  show OEnds p e below s _ _ _ (s₁.setTop (mkF m 1 #[.val (.ref r)] [(.ref r)]))
  obtain ⟨_, _, ⟨T1, L1, k1, n1⟩, -, X1, ⟨Lc1, hQ1, l1, y1, z1⟩, st1⟩ := X0.specialBack hx (y := (⟨"java/util/AbstractList", "<init>", "()V"⟩ : MethodName)) rfl hown (mvT hZ (hw _ (List.mem_of_getElem? (i := 11) rfl))) (mvT hZ (hw _ (List.mem_of_getElem? (i := 12) rfl))) (mvT hZ (hw _ (List.mem_of_getElem? (i := 16) rfl))) (by decide) (backOf (W := 0) (rmAL l Z a0 hw [] r h0 n0 Od F_modCount_r F_elementData_r F_size_r E_r ge_r) hZ (hw _ (List.mem_of_getElem? (i := 16) rfl)) (hw _ (List.mem_of_getElem? (i := 15) rfl)) (by decide) (by decide)) (g := (mkF m 1 #[.val (.ref r)] [(.ref r)])) rfl (by rw [hml]; rfl) (Steps.refl _) (a := r) (argsL := []) (rest := []) (lenOf pd_2829V rfl) rfl (by show 2 * 0 + _ ≤ _; exact Nat.le_of_eq rfl) (hb hby d2_1) (fun _ _ => ⟨rfl, e0, Nat.le_of_ble_eq_true rfl, Nat.le_of_ble_eq_true rfl⟩)
  dsimp only [Pt.U, Pt.locs, Pt.cells, Pt.slots] at X1 l1 y1 z1 st1 hQ1
  subst l1 y1 z1
  obtain ⟨rfl, N1q, K1, G_E, F_modCount_r, F_elementData_r, F_size_r⟩ := hQ1
  have N1 := Fr.app N0 N1q
  replace Od := Od.keep K1 (allS ge_r all0)
  replace E_r := G_E
  replace Kp := Kp.trans K1 (allS (Or.inl (by simp)) all0)
  refine OEnds.via (fun _ k_ => st1.trans k_) ?_
  show OEnds p e below s _ _ _ (T1.setTop (mkF m 4 #[.val (.ref r)] []))
  refine OEnds.via (fun _ k_ => XS.aloadN X1.here hx rfl (hb hby d2_4) rfl rfl k_) ?_
  show OEnds p e below s _ _ _ (T1.setTop (mkF m 5 #[.val (.ref r)] [(.ref r)]))
  obtain ⟨T2, X2, e2, st2⟩ := getS2 X1 hx hZ hown (host := "") (Or.inl (hw _ (List.mem_of_getElem? (i := 28) rfl))) Via.refl rfl (Sta.ext Od.2 S_dc) (g := (mkF m 5 #[.val (.ref r)] [(.ref r)])) rfl (hb hby d2_5)
  refine OEnds.via (fun _ k_ => st2 _ k_) ?_
  show OEnds p e below s _ _ _ (T2.setTop (mkF m 8 #[.val (.ref r)] [(.ref dc), (.ref r)]))
  obtain ⟨T3, h3, X3, e3, W3, st3⟩ := putF X2 hx hZ hown (host := "") (Or.inl (hw _ (List.mem_of_getElem? (i := 29) rfl))) Via.refl e2 F_elementData_r E_r (Or.inl (hw _ (List.mem_of_getElem? (i := 30) rfl))) (hw _ (List.mem_of_getElem? (i := 6) rfl)) (ty := (.array (.object "java/lang/Object"))) (by decide) rfl rfl (g := (mkF m 8 #[.val (.ref r)] [(.ref dc), (.ref r)])) rfl rfl (hb hby d2_8)
  have N3 := Fr.snoc X3 N1 ge_r
  replace Od := Od.wr W3 ge_r
  replace E_r := Exa.wr W3 E_r
  replace Kp := Kp.wr W3 (Or.inl (by simp))
  replace F_modCount_r := Fld.other W3 F_modCount_r (Or.inr (slot_ne (Or.inl (hw _ (List.mem_of_getElem? (i := 27) rfl))) (Or.inl (hw _ (List.mem_of_getElem? (i := 30) rfl))) (by decide) (t := .int) (t' := (.array (.object "java/lang/Object"))) (by decide) (by decide)))
  replace F_elementData_r := Fld.same W3 F_elementData_r
  replace F_size_r := Fld.other W3 F_size_r (Or.inr (slot_ne (Or.inl (hw _ (List.mem_of_getElem? (i := 63) rfl))) (Or.inl (hw _ (List.mem_of_getElem? (i := 30) rfl))) (by decide) (t := .int) (t' := (.array (.object "java/lang/Object"))) (by decide) (by decide)))
  refine OEnds.via (fun _ k_ => st3 _ k_) ?_
  show OEnds p e below s _ _ _ (T3.setTop (mkF m 11 #[.val (.ref r)] []))
  refine OEnds.retV X3 hx hlk Bd.returns (hb hby d2_11) ?_ (by decide) (by decide)
  rw [e3]
  exact ⟨rfl, N3, Kp, E_r, F_modCount_r, F_elementData_r, F_size_r⟩
theorem d11_0 : decode jdk_29_method_65_code 0 = .ok (.iload_n 0, 1) := by decide +kernel
theorem d11_1 : decode jdk_29_method_65_code 1 = .ok (.iload_n 1, 1) := by decide +kernel
theorem d11_2 : decode jdk_29_method_65_code 2 = .ok (.if_icmp .lt 7, 3) := by decide +kernel
theorem d11_5 : decode jdk_29_method_65_code 5 = .ok (.iload_n 0, 1) := by decide +kernel
theorem d11_6 : decode jdk_29_method_65_code 6 = .ok (.goto 4, 3) := by decide +kernel
theorem d11_9 : decode jdk_29_method_65_code 9 = .ok (.iload_n 1, 1) := by decide +kernel
theorem d11_10 : decode jdk_29_method_65_code 10 = .ok (.ireturn, 1) := by decide +kernel
set_option maxRecDepth 65536 in
set_option maxHeartbeats 40000000 in
theorem rmMx (l : Launch) (Z : State) (a0 : Array Value) (hw : ∀ d ∈ tables_1, d.before a0 Z = true) (ws : List Jvm.Cond) (h0 : Heap) (n0 : Nat) (O0 : Old Z n0 h0) :
    MetFree l (⟨"java/lang/Math", "max", "(II)I"⟩ : MethodName) (head1 (Jvm.Cond.code (⟨"java/lang/Math", "max", "(II)I"⟩ : MethodName) jdk_29_method_65_code 2 (some .int) :: ws) ({ frames := 0, cells := 0, slots := 0, locals := 0 } : Room)) (fun ar' U => ar' = #[(.int (10 : Int32)), (.int (1 : Int32))] ∧ Z.Warmed39 U.vm ∧ U.heap = h0) (fun _ _ _ _ _ => True) (fun _ U o U' => ∃ v L, o = .returned v ∧ (QA (some (.int 10)) h0 n0) v U'.heap L ∧ FrameEnd U o U' L ({ frames := 0, cells := 0, slots := 0, locals := 0 } : Room).cells ({ frames := 0, cells := 0, slots := 0, locals := 0 } : Room).slots) := by
  refine MetFree.of_bodySF (Jvm.Free.JP.mathPlain rfl (by decide +kernel)) hisR ?_
  intro p e s m args below meth c s₁ Bd hml0 hP hK
  obtain ⟨rfl, hZ, hh⟩ := hP
  have hx := Bd.exec
  have hby := Bd.bytes
  have hlk := BodyLoose.notSynchronized Bd
  have hml : c.maxLocals = 2 := hml0
  have hown : s.vm.findClass "java/lang/Math" = some m.cls := findClass_of_methodNamed Bd.named
  have hnm := (name_of_methodNamed Bd.named Bd.method).1
  have X0 : Stand p l e ({ frames := 0, cells := 0, slots := 0, locals := 0 } : Room) s m #[(.int (10 : Int32)), (.int (1 : Int32))] below meth c s₁ [] 0 0 := Stand.of_body Bd
  have e0 : s₁.heap = h0 := by rw [← hh, Bd.state]; rfl
  have N0 := Fr.nil n0
  have Z0 : n0 ≤ h0.size := O0.1 ▸ O0.2.1
  show OEnds p e below s ({ frames := 0, cells := 0, slots := 0, locals := 0 } : Room).cells ({ frames := 0, cells := 0, slots := 0, locals := 0 } : Room).slots (QA (some (.int 10)) h0 n0) (s₁.setTop (entryFrame m #[(.int (10 : Int32)), (.int (1 : Int32))] 2))
  refine OEnds.via (fun _ k_ => castTop (show entryFrame m #[(.int (10 : Int32)), (.int (1 : Int32))] 2 = (mkF m 0 #[.val (.int (10 : Int32)), .val (.int (1 : Int32))] []) by first | (simp [entryFrame, mkF, argsToLocals, Value.category, maxLocals]; done) | rfl) k_) ?_
  refine OEnds.via (fun _ k_ => XS.iloadN X0.here hx rfl (hb hby d11_0) rfl k_) ?_
  show OEnds p e below s _ _ _ (s₁.setTop (mkF m 1 #[.val (.int (10 : Int32)), .val (.int (1 : Int32))] [(.int (10 : Int32))]))
  refine OEnds.via (fun _ k_ => XS.iloadN X0.here hx rfl (hb hby d11_1) rfl k_) ?_
  show OEnds p e below s _ _ _ (s₁.setTop (mkF m 2 #[.val (.int (10 : Int32)), .val (.int (1 : Int32))] [(.int (1 : Int32)), (.int (10 : Int32))]))
  refine OEnds.via (fun _ k_ => XS.icmpNo X0.here hx rfl (hb hby d11_2) rfl (flt (by decide : ¬ ((10 : Int32) < (1 : Int32)))).1 k_) ?_
  show OEnds p e below s _ _ _ (s₁.setTop (mkF m 5 #[.val (.int (10 : Int32)), .val (.int (1 : Int32))] []))
  refine OEnds.via (fun _ k_ => XS.iloadN X0.here hx rfl (hb hby d11_5) rfl k_) ?_
  show OEnds p e below s _ _ _ (s₁.setTop (mkF m 6 #[.val (.int (10 : Int32)), .val (.int (1 : Int32))] [(.int (10 : Int32))]))
  refine OEnds.via (fun _ k_ => XS.goto X0.here hx rfl (pc0 := 6) (pc' := 10) rfl (hb hby d11_6) (by decide) (by decide) k_) ?_
  show OEnds p e below s _ _ _ (s₁.setTop (mkF m 10 #[.val (.int (10 : Int32)), .val (.int (1 : Int32))] [(.int (10 : Int32))]))
  refine OEnds.retI X0 hx hlk Bd.returns (hb hby d11_10) ?_ (by decide) (by decide)
  exact ⟨rfl, N0, e0⟩
theorem d10_0 : decode jdk_38_method_6_code 0 = .ok (.aload_n 0, 1) := by decide +kernel
theorem d10_1 : decode jdk_38_method_6_code 1 = .ok (.getfield 9, 3) := by decide +kernel
theorem d10_4 : decode jdk_38_method_6_code 4 = .ok (.arraylength, 1) := by decide +kernel
theorem d10_5 : decode jdk_38_method_6_code 5 = .ok (.istore_n 2, 1) := by decide +kernel
theorem d10_6 : decode jdk_38_method_6_code 6 = .ok (.iload_n 2, 1) := by decide +kernel
theorem d10_7 : decode jdk_38_method_6_code 7 = .ok (.ifCond .gt 13, 3) := by decide +kernel
theorem d10_10 : decode jdk_38_method_6_code 10 = .ok (.aload_n 0, 1) := by decide +kernel
theorem d10_11 : decode jdk_38_method_6_code 11 = .ok (.getfield 9, 3) := by decide +kernel
theorem d10_14 : decode jdk_38_method_6_code 14 = .ok (.getstatic 39, 3) := by decide +kernel
theorem d10_17 : decode jdk_38_method_6_code 17 = .ok (.if_acmp .eq 28, 3) := by decide +kernel
theorem d10_20 : decode jdk_38_method_6_code 20 = .ok (.iload_n 2, 1) := by decide +kernel
theorem d10_21 : decode jdk_38_method_6_code 21 = .ok (.iload_n 1, 1) := by decide +kernel
theorem d10_22 : decode jdk_38_method_6_code 22 = .ok (.iload_n 2, 1) := by decide +kernel
theorem d10_23 : decode jdk_38_method_6_code 23 = .ok (.isub, 1) := by decide +kernel
theorem d10_24 : decode jdk_38_method_6_code 24 = .ok (.iload_n 2, 1) := by decide +kernel
theorem d10_25 : decode jdk_38_method_6_code 25 = .ok (.iconst 1, 1) := by decide +kernel
theorem d10_26 : decode jdk_38_method_6_code 26 = .ok (.ishr, 1) := by decide +kernel
theorem d10_27 : decode jdk_38_method_6_code 27 = .ok (.invokestatic 73, 3) := by decide +kernel
theorem d10_30 : decode jdk_38_method_6_code 30 = .ok (.istore_n 3, 1) := by decide +kernel
theorem d10_31 : decode jdk_38_method_6_code 31 = .ok (.aload_n 0, 1) := by decide +kernel
theorem d10_32 : decode jdk_38_method_6_code 32 = .ok (.aload_n 0, 1) := by decide +kernel
theorem d10_33 : decode jdk_38_method_6_code 33 = .ok (.getfield 9, 3) := by decide +kernel
theorem d10_36 : decode jdk_38_method_6_code 36 = .ok (.iload_n 3, 1) := by decide +kernel
theorem d10_37 : decode jdk_38_method_6_code 37 = .ok (.invokestatic 66, 3) := by decide +kernel
theorem d10_40 : decode jdk_38_method_6_code 40 = .ok (.dup_x1, 1) := by decide +kernel
theorem d10_41 : decode jdk_38_method_6_code 41 = .ok (.putfield 9, 3) := by decide +kernel
theorem d10_44 : decode jdk_38_method_6_code 44 = .ok (.areturn, 1) := by decide +kernel
theorem d10_45 : decode jdk_38_method_6_code 45 = .ok (.aload_n 0, 1) := by decide +kernel
theorem d10_46 : decode jdk_38_method_6_code 46 = .ok (.bipush 10, 2) := by decide +kernel
theorem d10_48 : decode jdk_38_method_6_code 48 = .ok (.iload_n 1, 1) := by decide +kernel
theorem d10_49 : decode jdk_38_method_6_code 49 = .ok (.invokestatic 79, 3) := by decide +kernel
theorem d10_52 : decode jdk_38_method_6_code 52 = .ok (.anewarray 7, 3) := by decide +kernel
theorem d10_55 : decode jdk_38_method_6_code 55 = .ok (.dup_x1, 1) := by decide +kernel
theorem d10_56 : decode jdk_38_method_6_code 56 = .ok (.putfield 9, 3) := by decide +kernel
theorem d10_59 : decode jdk_38_method_6_code 59 = .ok (.areturn, 1) := by decide +kernel
def Q_rmG1 (Z : State) (r : Addr) (mc : Int32) (dc : Addr) (kdc : ClassId) (h0 : Heap) (n0 : Nat) (v : Option Value) (h : Heap) (L : List Loc) : Prop := ∃ d kd, v = some (.ref d) ∧ Fr n0 L ∧ Keep h0 h [r] ∧ Exa Z h r "java/util/ArrayList" ∧ Fld Z h r "java/util/AbstractList" "modCount" "I" (.int mc) ∧ Fld Z h r "java/util/ArrayList" "elementData" "[Ljava/lang/Object;" (.ref d) ∧ Fld Z h r "java/util/ArrayList" "size" "I" (.int (0 : Int32)) ∧ n0 ≤ d ∧ h0.size ≤ d ∧ Ovr Z kd "java/lang/Object" ∧ Arv Z h d kd (.object "java/lang/Object") (10 : Int32) [.null, .null, .null, .null, .null, .null, .null, .null, .null, .null] .null
theorem pd_28II29I : parseMethodDescriptor "(II)I" = some ⟨[.int, .int], some .int⟩ := by decide +kernel
set_option maxRecDepth 65536 in
set_option maxHeartbeats 40000000 in
theorem rmG1 (l : Launch) (Z : State) (a0 : Array Value) (hw : ∀ d ∈ tables_1, d.before a0 Z = true) (ws : List Jvm.Cond) (r : Addr) (mc : Int32) (dc : Addr) (kdc : ClassId) (h0 : Heap) (n0 : Nat) (O0 : Old Z n0 h0) (F_modCount_r : Fld Z h0 r "java/util/AbstractList" "modCount" "I" (.int mc)) (F_elementData_r : Fld Z h0 r "java/util/ArrayList" "elementData" "[Ljava/lang/Object;" (.ref dc)) (F_size_r : Fld Z h0 r "java/util/ArrayList" "size" "I" (.int (0 : Int32))) (E_r : Exa Z h0 r "java/util/ArrayList") (ge_r : n0 ≤ r) (S_dc : Sta Z Z.heap "java/util/ArrayList" "DEFAULTCAPACITY_EMPTY_ELEMENTDATA" "[Ljava/lang/Object;" (.ref dc)) (V_dc : Arv Z Z.heap dc kdc (.object "java/lang/Object") (0 : Int32) [] .null) :
    MetFree l (⟨"java/util/ArrayList", "grow", "(I)[Ljava/lang/Object;"⟩ : MethodName) (head1 (Jvm.Cond.code (⟨"java/util/ArrayList", "grow", "(I)[Ljava/lang/Object;"⟩ : MethodName) jdk_38_method_6_code 4 (some (.array (.object "java/lang/Object"))) :: ws) ({ frames := 1, cells := 1, slots := 10, locals := 20 } : Room)) (fun ar' U => ar' = #[(.ref r), (.int (1 : Int32))] ∧ Z.Warmed39 U.vm ∧ U.heap = h0) (fun _ _ _ _ _ => True) (fun _ U o U' => ∃ v L, o = .returned v ∧ (Q_rmG1 Z r mc dc kdc h0 n0) v U'.heap L ∧ FrameEnd U o U' L ({ frames := 1, cells := 1, slots := 10, locals := 20 } : Room).cells ({ frames := 1, cells := 1, slots := 10, locals := 20 } : Room).slots) := by
  refine MetFree.of_bodySF (plainFor_of_name pn_java_util_ArrayList) hisR ?_
  intro p e s m args below meth c s₁ Bd hml0 hP hK
  obtain ⟨rfl, hZ, hh⟩ := hP
  have hx := Bd.exec
  have hby := Bd.bytes
  have hlk := BodyLoose.notSynchronized Bd
  have hml : c.maxLocals = 4 := hml0
  have hown : s.vm.findClass "java/util/ArrayList" = some m.cls := findClass_of_methodNamed Bd.named
  have hnm := (name_of_methodNamed Bd.named Bd.method).1
  have X0 : Stand p l e ({ frames := 1, cells := 1, slots := 10, locals := 20 } : Room) s m #[(.ref r), (.int (1 : Int32))] below meth c s₁ [] 0 0 := Stand.of_body Bd
  have e0 : s₁.heap = h0 := by rw [← hh, Bd.state]; rfl
  have N0 := Fr.nil n0
  have Z0 : n0 ≤ h0.size := O0.1 ▸ O0.2.1
  show OEnds p e below s ({ frames := 1, cells := 1, slots := 10, locals := 20 } : Room).cells ({ frames := 1, cells := 1, slots := 10, locals := 20 } : Room).slots (Q_rmG1 Z r mc dc kdc h0 n0) (s₁.setTop (entryFrame m #[(.ref r), (.int (1 : Int32))] 4))
  refine OEnds.via (fun _ k_ => castTop (show entryFrame m #[(.ref r), (.int (1 : Int32))] 4 = (mkF m 0 #[.val (.ref r), .val (.int (1 : Int32)), .unset, .unset] []) by first | (simp [entryFrame, mkF, argsToLocals, Value.category, maxLocals]; done) | rfl) k_) ?_
  have Od := O0
  have Kp := Keep.refl h0 [r]
  obtain ⟨cdc, Adc, qdc, Sdc, Mdc, -, -⟩ := V_dc
  show OEnds p e below s _ _ _ (s₁.setTop (mkF m 0 #[.val (.ref r), .val (.int (1 : Int32)), .unset, .unset] []))
  refine OEnds.via (fun _ k_ => XS.aloadN X0.here hx rfl (hb hby d10_0) rfl rfl k_) ?_
  show OEnds p e below s _ _ _ (s₁.setTop (mkF m 1 #[.val (.ref r), .val (.int (1 : Int32)), .unset, .unset] [(.ref r)]))
  obtain ⟨T1, X1, e1, st1⟩ := getF X0 hx hZ hown (host := "") (Or.inl (hw _ (List.mem_of_getElem? (i := 29) rfl))) Via.refl e0 F_elementData_r (g := (mkF m 1 #[.val (.ref r), .val (.int (1 : Int32)), .unset, .unset] [(.ref r)])) rfl rfl (hb hby d10_1)
  refine OEnds.via (fun _ k_ => st1 _ k_) ?_
  show OEnds p e below s _ _ _ (T1.setTop (mkF m 4 #[.val (.ref r), .val (.int (1 : Int32)), .unset, .unset] [(.ref dc)]))
  refine OEnds.via (fun _ k_ => X1.arraylength hx (by rw [e1]; exact (Arr.ext Od.2 Adc).1) (State.isArrayOf_alike hZ.alike (Arr.ext Od.2 Adc).2.1) (g := (mkF m 4 #[.val (.ref r), .val (.int (1 : Int32)), .unset, .unset] [(.ref dc)])) rfl rfl (hb hby d10_4) _ k_) ?_
  rw [len_of Sdc Mdc]
  show OEnds p e below s _ _ _ (T1.setTop (mkF m 5 #[.val (.ref r), .val (.int (1 : Int32)), .unset, .unset] [(.int (0 : Int32))]))
  refine OEnds.via (fun _ k_ => XS.istoreN X1.here hx rfl (hb hby d10_5) rfl (l' := #[.val (.ref r), .val (.int (1 : Int32)), .val (.int (0 : Int32)), .unset]) rfl k_) ?_
  show OEnds p e below s _ _ _ (T1.setTop (mkF m 6 #[.val (.ref r), .val (.int (1 : Int32)), .val (.int (0 : Int32)), .unset] []))
  refine OEnds.via (fun _ k_ => XS.iloadN X1.here hx rfl (hb hby d10_6) rfl k_) ?_
  show OEnds p e below s _ _ _ (T1.setTop (mkF m 7 #[.val (.ref r), .val (.int (1 : Int32)), .val (.int (0 : Int32)), .unset] [(.int (0 : Int32))]))
  refine OEnds.via (fun _ k_ => XS.ifNo X1.here hx rfl (hb hby d10_7) rfl ((if0 _ _).trans (flt (by decide : ¬ ((0 : Int32) < (0 : Int32)))).2.2.1) k_) ?_
  show OEnds p e below s _ _ _ (T1.setTop (mkF m 10 #[.val (.ref r), .val (.int (1 : Int32)), .val (.int (0 : Int32)), .unset] []))
  refine OEnds.via (fun _ k_ => XS.aloadN X1.here hx rfl (hb hby d10_10) rfl rfl k_) ?_
  show OEnds p e below s _ _ _ (T1.setTop (mkF m 11 #[.val (.ref r), .val (.int (1 : Int32)), .val (.int (0 : Int32)), .unset] [(.ref r)]))
  obtain ⟨T2, X2, e2, st2⟩ := getF X1 hx hZ hown (host := "") (Or.inl (hw _ (List.mem_of_getElem? (i := 29) rfl))) Via.refl e1 F_elementData_r (g := (mkF m 11 #[.val (.ref r), .val (.int (1 : Int32)), .val (.int (0 : Int32)), .unset] [(.ref r)])) rfl rfl (hb hby d10_11)
  refine OEnds.via (fun _ k_ => st2 _ k_) ?_
  show OEnds p e below s _ _ _ (T2.setTop (mkF m 14 #[.val (.ref r), .val (.int (1 : Int32)), .val (.int (0 : Int32)), .unset] [(.ref dc)]))
  obtain ⟨T3, X3, e3, st3⟩ := getS2 X2 hx hZ hown (host := "") (Or.inl (hw _ (List.mem_of_getElem? (i := 28) rfl))) Via.refl e2 (Sta.ext Od.2 S_dc) (g := (mkF m 14 #[.val (.ref r), .val (.int (1 : Int32)), .val (.int (0 : Int32)), .unset] [(.ref dc)])) rfl (hb hby d10_14)
  refine OEnds.via (fun _ k_ => st3 _ k_) ?_
  show OEnds p e below s _ _ _ (T3.setTop (mkF m 17 #[.val (.ref r), .val (.int (1 : Int32)), .val (.int (0 : Int32)), .unset] [(.ref dc), (.ref dc)]))
  refine OEnds.via (fun _ k_ => Jvm.RoadKit.acmp (g := (mkF m 17 #[.val (.ref r), .val (.int (1 : Int32)), .val (.int (0 : Int32)), .unset] [(.ref dc), (.ref dc)])) X3 hx rfl rfl rfl (pc0 := 17) (pc' := 45) (same := true) rfl (hb hby d10_17) rfl (decide_eq_true rfl) (by decide) (by decide) k_) ?_
  show OEnds p e below s _ _ _ (T3.setTop (mkF m 45 #[.val (.ref r), .val (.int (1 : Int32)), .val (.int (0 : Int32)), .unset] []))
  refine OEnds.via (fun _ k_ => XS.aloadN X3.here hx rfl (hb hby d10_45) rfl rfl k_) ?_
  show OEnds p e below s _ _ _ (T3.setTop (mkF m 46 #[.val (.ref r), .val (.int (1 : Int32)), .val (.int (0 : Int32)), .unset] [(.ref r)]))
  refine OEnds.via (fun _ k_ => XS.bipush X3.here hx rfl (hb hby d10_46) k_) ?_
  show OEnds p e below s _ _ _ (T3.setTop (mkF m 48 #[.val (.ref r), .val (.int (1 : Int32)), .val (.int (0 : Int32)), .unset] [(.int (10 : Int32)), (.ref r)]))
  refine OEnds.via (fun _ k_ => XS.iloadN X3.here hx rfl (hb hby d10_48) rfl k_) ?_
  show OEnds p e below s _ _ _ (T3.setTop (mkF m 49 #[.val (.ref r), .val (.int (1 : Int32)), .val (.int (0 : Int32)), .unset] [(.int (1 : Int32)), (.int (10 : Int32)), (.ref r)]))
  obtain ⟨_, _, ⟨T4, L4, k4, n4⟩, -, X4, ⟨Lc4, hQ4, l4, y4, z4⟩, st4⟩ := Jvm.LawKit.callS X3 hx (y := (⟨"java/lang/Math", "max", "(II)I"⟩ : MethodName)) hown (mvT hZ (hw _ (List.mem_of_getElem? (i := 79) rfl))) (mvT hZ (hw _ (List.mem_of_getElem? (i := 80) rfl))) (mvT hZ (hw _ (List.mem_of_getElem? (i := 81) rfl))) (mvT hZ (hw _ (List.mem_of_getElem? (i := 82) rfl))) (by decide) (backOf (W := 1) (rmMx l Z a0 hw []  h0 n0 Od ) hZ (hw _ (List.mem_of_getElem? (i := 82) rfl)) (hw _ (List.mem_of_getElem? (i := 81) rfl)) (by decide) (by decide)) (g := (mkF m 49 #[.val (.ref r), .val (.int (1 : Int32)), .val (.int (0 : Int32)), .unset] [(.int (1 : Int32)), (.int (10 : Int32)), (.ref r)])) rfl (by rw [hml]; rfl) (argsL := [(.int (10 : Int32)), (.int (1 : Int32))]) (rest := [(.ref r)]) (lenOf pd_28II29I rfl) rfl (by show 2 * 0 + _ ≤ _; exact Nat.le_of_eq rfl) (hb hby d10_49) (fun _ _ => ⟨rfl, e3, Nat.le_of_ble_eq_true rfl, Nat.le_of_ble_eq_true rfl⟩)
  dsimp only [Pt.U, Pt.locs, Pt.cells, Pt.slots] at X4 l4 y4 z4 st4 hQ4
  subst l4 y4 z4
  obtain ⟨rfl, N4q, e4⟩ := hQ4
  have N4 := Fr.app N0 N4q
  refine OEnds.via (fun _ k_ => st4 _ k_) ?_
  show OEnds p e below s _ _ _ (T4.setTop (mkF m 52 #[.val (.ref r), .val (.int (1 : Int32)), .val (.int (0 : Int32)), .unset] [(.int (10 : Int32)), (.ref r)]))
  obtain ⟨T5, h5, k5, X5, e5, E5, A5, O5, st5⟩ := newR X4 hx hZ hown (hw _ (List.mem_of_getElem? (i := 83) rfl)) (hw _ (List.mem_of_getElem? (i := 84) rfl)) e4 (g := (mkF m 52 #[.val (.ref r), .val (.int (1 : Int32)), .val (.int (0 : Int32)), .unset] [(.int (10 : Int32)), (.ref r)])) rfl (hb hby d10_52) rfl (by decide) (cap := 10) (by decide) (by decide) (by decide) (by decide)
  obtain ⟨b5, g5⟩ : ∃ z, z = h0.size := ⟨_, rfl⟩
  have ne_r_b5 : r ≠ b5 := Nat.ne_of_lt (Nat.lt_of_lt_of_le F_modCount_r.lt (Nat.le_of_eq g5.symm))
  have ge_b5 : n0 ≤ b5 := Nat.le_trans (Od.1 ▸ Od.2.1) (Nat.le_of_eq g5.symm)
  have sz_b5 : h0.size ≤ b5 := Nat.le_trans Kp.1 (Nat.le_of_eq g5.symm)
  rw [← g5] at A5 st5
  replace Od := Od.ext E5
  replace F_modCount_r := Fld.ext E5 F_modCount_r
  replace F_elementData_r := Fld.ext E5 F_elementData_r
  replace F_size_r := Fld.ext E5 F_size_r
  replace E_r := Exa.ext E5 E_r
  replace Kp := Kp.ext E5
  have V_b5 : Arv Z h5 b5 k5 (.object "java/lang/Object") (10 : Int32) [.null, .null, .null, .null, .null, .null, .null, .null, .null, .null] .null := (Arv.new A5 (by decide)).pad (pad_rep [] .null 10)
  refine OEnds.via (fun _ k_ => st5 _ k_) ?_
  show OEnds p e below s _ _ _ (T5.setTop (mkF m 55 #[.val (.ref r), .val (.int (1 : Int32)), .val (.int (0 : Int32)), .unset] [(.ref b5), (.ref r)]))
  refine OEnds.via (fun _ k_ => XS.dupX1 X5.here hx rfl (hb hby d10_55) rfl rfl rfl k_) ?_
  show OEnds p e below s _ _ _ (T5.setTop (mkF m 56 #[.val (.ref r), .val (.int (1 : Int32)), .val (.int (0 : Int32)), .unset] [(.ref b5), (.ref r), (.ref b5)]))
  obtain ⟨T6, h6, X6, e6, W6, st6⟩ := putF X5 hx hZ hown (host := "") (Or.inl (hw _ (List.mem_of_getElem? (i := 29) rfl))) Via.refl e5 F_elementData_r E_r (Or.inl (hw _ (List.mem_of_getElem? (i := 30) rfl))) (hw _ (List.mem_of_getElem? (i := 6) rfl)) (ty := (.array (.object "java/lang/Object"))) (by decide) rfl rfl (g := (mkF m 56 #[.val (.ref r), .val (.int (1 : Int32)), .val (.int (0 : Int32)), .unset] [(.ref b5), (.ref r), (.ref b5)])) rfl rfl (hb hby d10_56)
  have N6 := Fr.snoc X6 N4 ge_r
  replace Od := Od.wr W6 ge_r
  replace F_modCount_r := Fld.other W6 F_modCount_r (Or.inr (slot_ne (Or.inl (hw _ (List.mem_of_getElem? (i := 27) rfl))) (Or.inl (hw _ (List.mem_of_getElem? (i := 30) rfl))) (by decide) (t := .int) (t' := (.array (.object "java/lang/Object"))) (by decide) (by decide)))
  replace F_elementData_r := Fld.same W6 F_elementData_r
  replace F_size_r := Fld.other W6 F_size_r (Or.inr (slot_ne (Or.inl (hw _ (List.mem_of_getElem? (i := 63) rfl))) (Or.inl (hw _ (List.mem_of_getElem? (i := 30) rfl))) (by decide) (t := .int) (t' := (.array (.object "java/lang/Object"))) (by decide) (by decide)))
  replace E_r := Exa.wr W6 E_r
  replace Kp := Kp.wr W6 (Or.inl (by simp))
  replace V_b5 := V_b5.other W6 (Ne.symm ne_r_b5)
  refine OEnds.via (fun _ k_ => st6 _ k_) ?_
  show OEnds p e below s _ _ _ (T6.setTop (mkF m 59 #[.val (.ref r), .val (.int (1 : Int32)), .val (.int (0 : Int32)), .unset] [(.ref b5)]))
  refine OEnds.retR X6 hx hlk Bd.returns rfl rfl (hb hby d10_59) ?_ (by decide) (by decide)
  rw [e6]
  exact ⟨_, _, rfl, N6, Kp, E_r, F_modCount_r, F_elementData_r, F_size_r, ge_b5, sz_b5, O5, V_b5⟩
theorem d9_0 : decode jdk_38_method_7_code 0 = .ok (.aload_n 0, 1) := by decide +kernel
theorem d9_1 : decode jdk_38_method_7_code 1 = .ok (.aload_n 0, 1) := by decide +kernel
theorem d9_2 : decode jdk_38_method_7_code 2 = .ok (.getfield 48, 3) := by decide +kernel
theorem d9_5 : decode jdk_38_method_7_code 5 = .ok (.iconst 1, 1) := by decide +kernel
theorem d9_6 : decode jdk_38_method_7_code 6 = .ok (.iadd, 1) := by decide +kernel
theorem d9_7 : decode jdk_38_method_7_code 7 = .ok (.invokevirtual 69, 3) := by decide +kernel
theorem d9_10 : decode jdk_38_method_7_code 10 = .ok (.areturn, 1) := by decide +kernel
def Q_rmG0 (Z : State) (r : Addr) (mc : Int32) (dc : Addr) (kdc : ClassId) (h0 : Heap) (n0 : Nat) (v : Option Value) (h : Heap) (L : List Loc) : Prop := ∃ d kd, v = some (.ref d) ∧ Fr n0 L ∧ Keep h0 h [r] ∧ Exa Z h r "java/util/ArrayList" ∧ Fld Z h r "java/util/AbstractList" "modCount" "I" (.int mc) ∧ Fld Z h r "java/util/ArrayList" "elementData" "[Ljava/lang/Object;" (.ref d) ∧ Fld Z h r "java/util/ArrayList" "size" "I" (.int (0 : Int32)) ∧ n0 ≤ d ∧ h0.size ≤ d ∧ Ovr Z kd "java/lang/Object" ∧ Arv Z h d kd (.object "java/lang/Object") (10 : Int32) [.null, .null, .null, .null, .null, .null, .null, .null, .null, .null] .null
theorem pd_28I295bLjava2flang2fObject3b : parseMethodDescriptor "(I)[Ljava/lang/Object;" = some ⟨[.int], some (.array (.object "java/lang/Object"))⟩ := by decide +kernel
set_option maxRecDepth 65536 in
set_option maxHeartbeats 40000000 in
theorem rmG0 (l : Launch) (Z : State) (a0 : Array Value) (hw : ∀ d ∈ tables_1, d.before a0 Z = true) (ws : List Jvm.Cond) (r : Addr) (mc : Int32) (dc : Addr) (kdc : ClassId) (h0 : Heap) (n0 : Nat) (O0 : Old Z n0 h0) (F_modCount_r : Fld Z h0 r "java/util/AbstractList" "modCount" "I" (.int mc)) (F_elementData_r : Fld Z h0 r "java/util/ArrayList" "elementData" "[Ljava/lang/Object;" (.ref dc)) (F_size_r : Fld Z h0 r "java/util/ArrayList" "size" "I" (.int (0 : Int32))) (E_r : Exa Z h0 r "java/util/ArrayList") (ge_r : n0 ≤ r) (S_dc : Sta Z Z.heap "java/util/ArrayList" "DEFAULTCAPACITY_EMPTY_ELEMENTDATA" "[Ljava/lang/Object;" (.ref dc)) (V_dc : Arv Z Z.heap dc kdc (.object "java/lang/Object") (0 : Int32) [] .null) :
    MetFree l (⟨"java/util/ArrayList", "grow", "()[Ljava/lang/Object;"⟩ : MethodName) (head1 (Jvm.Cond.code (⟨"java/util/ArrayList", "grow", "()[Ljava/lang/Object;"⟩ : MethodName) jdk_38_method_7_code 1 (some (.array (.object "java/lang/Object"))) :: ws) ({ frames := 2, cells := 1, slots := 10, locals := 40 } : Room)) (fun ar' U => ar' = #[(.ref r)] ∧ Z.Warmed39 U.vm ∧ U.heap = h0) (fun _ _ _ _ _ => True) (fun _ U o U' => ∃ v L, o = .returned v ∧ (Q_rmG0 Z r mc dc kdc h0 n0) v U'.heap L ∧ FrameEnd U o U' L ({ frames := 2, cells := 1, slots := 10, locals := 40 } : Room).cells ({ frames := 2, cells := 1, slots := 10, locals := 40 } : Room).slots) := by
  refine MetFree.of_bodySF (plainFor_of_name pn_java_util_ArrayList) hisR ?_
  intro p e s m args below meth c s₁ Bd hml0 hP hK
  obtain ⟨rfl, hZ, hh⟩ := hP
  have hx := Bd.exec
  have hby := Bd.bytes
  have hlk := BodyLoose.notSynchronized Bd
  have hml : c.maxLocals = 1 := hml0
  have hown : s.vm.findClass "java/util/ArrayList" = some m.cls := findClass_of_methodNamed Bd.named
  have hnm := (name_of_methodNamed Bd.named Bd.method).1
  have X0 : Stand p l e ({ frames := 2, cells := 1, slots := 10, locals := 40 } : Room) s m #[(.ref r)] below meth c s₁ [] 0 0 := Stand.of_body Bd
  have e0 : s₁.heap = h0 := by rw [← hh, Bd.state]; rfl
  have N0 := Fr.nil n0
  have Z0 : n0 ≤ h0.size := O0.1 ▸ O0.2.1
  show OEnds p e below s ({ frames := 2, cells := 1, slots := 10, locals := 40 } : Room).cells ({ frames := 2, cells := 1, slots := 10, locals := 40 } : Room).slots (Q_rmG0 Z r mc dc kdc h0 n0) (s₁.setTop (entryFrame m #[(.ref r)] 1))
  refine OEnds.via (fun _ k_ => castTop (show entryFrame m #[(.ref r)] 1 = (mkF m 0 #[.val (.ref r)] []) by first | (simp [entryFrame, mkF, argsToLocals, Value.category, maxLocals]; done) | rfl) k_) ?_
  have Od := O0
  show OEnds p e below s _ _ _ (s₁.setTop (mkF m 0 #[.val (.ref r)] []))
  refine OEnds.via (fun _ k_ => XS.aloadN X0.here hx rfl (hb hby d9_0) rfl rfl k_) ?_
  show OEnds p e below s _ _ _ (s₁.setTop (mkF m 1 #[.val (.ref r)] [(.ref r)]))
  refine OEnds.via (fun _ k_ => XS.aloadN X0.here hx rfl (hb hby d9_1) rfl rfl k_) ?_
  show OEnds p e below s _ _ _ (s₁.setTop (mkF m 2 #[.val (.ref r)] [(.ref r), (.ref r)]))
  obtain ⟨T1, X1, e1, st1⟩ := getF X0 hx hZ hown (host := "") (Or.inl (hw _ (List.mem_of_getElem? (i := 62) rfl))) Via.refl e0 F_size_r (g := (mkF m 2 #[.val (.ref r)] [(.ref r), (.ref r)])) rfl rfl (hb hby d9_2)
  refine OEnds.via (fun _ k_ => st1 _ k_) ?_
  show OEnds p e below s _ _ _ (T1.setTop (mkF m 5 #[.val (.ref r)] [(.int (0 : Int32)), (.ref r)]))
  refine OEnds.via (fun _ k_ => XS.iconst X1.here hx rfl (hb hby d9_5) k_) ?_
  show OEnds p e below s _ _ _ (T1.setTop (mkF m 6 #[.val (.ref r)] [(.int (1 : Int32)), (.int (0 : Int32)), (.ref r)]))
  refine OEnds.via (fun _ k_ => XS.iadd X1.here hx rfl (hb hby d9_6) rfl k_) ?_
  show OEnds p e below s _ _ _ (T1.setTop (mkF m 7 #[.val (.ref r)] [(.int (1 : Int32)), (.ref r)]))
  obtain ⟨cq2, q2, q2'⟩ := E_r.cell
  obtain ⟨_, _, ⟨T2, L2, k2, n2⟩, -, X2, ⟨Lc2, hQ2, l2, y2, z2⟩, st2⟩ := X1.privateBack hx (y := (⟨"java/util/ArrayList", "grow", "(I)[Ljava/lang/Object;"⟩ : MethodName)) hown (mvT hZ (hw _ (List.mem_of_getElem? (i := 74) rfl))) (mvT hZ (hw _ (List.mem_of_getElem? (i := 75) rfl))) (mvT hZ (hw _ (List.mem_of_getElem? (i := 77) rfl))) (Cond.privateMethod_at (mvP hZ (hw _ (List.mem_of_getElem? (i := 76) rfl)) (args := #[]))) (mvT hZ (hw _ (List.mem_of_getElem? (i := 78) rfl))) (by decide) (backOf (W := 0) (rmG1 l Z a0 hw [] r mc dc kdc h0 n0 Od F_modCount_r F_elementData_r F_size_r E_r ge_r S_dc V_dc) hZ (hw _ (List.mem_of_getElem? (i := 78) rfl)) (hw _ (List.mem_of_getElem? (i := 7) rfl)) (by decide) (by decide)) (g := (mkF m 7 #[.val (.ref r)] [(.int (1 : Int32)), (.ref r)])) rfl (by rw [hml]; rfl) (Steps.refl _) (a := r) (by rw [e1]; exact q2) q2' (argsL := [(.int (1 : Int32))]) (rest := []) (lenOf pd_28I295bLjava2flang2fObject3b rfl) rfl (by show 2 * 0 + _ ≤ _; exact Nat.le_of_eq rfl) (hb hby d9_7) (fun _ _ => ⟨rfl, e1, Nat.le_of_ble_eq_true rfl, Nat.le_of_ble_eq_true rfl⟩)
  dsimp only [Pt.U, Pt.locs, Pt.cells, Pt.slots] at X2 l2 y2 z2 st2 hQ2
  subst l2 y2 z2
  obtain ⟨d, kd, rfl, N2q, R2⟩ := hQ2
  have N2 := Fr.app N0 N2q
  refine OEnds.via (fun _ k_ => st2.trans k_) ?_
  show OEnds p e below s _ _ _ (T2.setTop (mkF m 10 #[.val (.ref r)] [(.ref d)]))
  refine OEnds.retR X2 hx hlk Bd.returns rfl rfl (hb hby d9_10) ?_ (by decide) (by decide)
  exact ⟨_, _, rfl, N2, R2⟩
theorem d8_0 : decode jdk_38_method_24_code 0 = .ok (.iload_n 3, 1) := by decide +kernel
theorem d8_1 : decode jdk_38_method_24_code 1 = .ok (.aload_n 2, 1) := by decide +kernel
theorem d8_2 : decode jdk_38_method_24_code 2 = .ok (.arraylength, 1) := by decide +kernel
theorem d8_3 : decode jdk_38_method_24_code 3 = .ok (.if_icmp .ne 8, 3) := by decide +kernel
theorem d8_6 : decode jdk_38_method_24_code 6 = .ok (.aload_n 0, 1) := by decide +kernel
theorem d8_7 : decode jdk_38_method_24_code 7 = .ok (.invokevirtual 129, 3) := by decide +kernel
theorem d8_10 : decode jdk_38_method_24_code 10 = .ok (.astore_n 2, 1) := by decide +kernel
theorem d8_11 : decode jdk_38_method_24_code 11 = .ok (.aload_n 2, 1) := by decide +kernel
theorem d8_12 : decode jdk_38_method_24_code 12 = .ok (.iload_n 3, 1) := by decide +kernel
theorem d8_13 : decode jdk_38_method_24_code 13 = .ok (.aload_n 1, 1) := by decide +kernel
theorem d8_14 : decode jdk_38_method_24_code 14 = .ok (.aastore, 1) := by decide +kernel
theorem d8_15 : decode jdk_38_method_24_code 15 = .ok (.aload_n 0, 1) := by decide +kernel
theorem d8_16 : decode jdk_38_method_24_code 16 = .ok (.iload_n 3, 1) := by decide +kernel
theorem d8_17 : decode jdk_38_method_24_code 17 = .ok (.iconst 1, 1) := by decide +kernel
theorem d8_18 : decode jdk_38_method_24_code 18 = .ok (.iadd, 1) := by decide +kernel
theorem d8_19 : decode jdk_38_method_24_code 19 = .ok (.putfield 48, 3) := by decide +kernel
theorem d8_22 : decode jdk_38_method_24_code 22 = .ok (.return_, 1) := by decide +kernel
def Q_rmP1 (Z : State) (r : Addr) (y : Addr) (mc : Int32) (dc : Addr) (kdc : ClassId) (h0 : Heap) (n0 : Nat) (v : Option Value) (h : Heap) (L : List Loc) : Prop := ∃ d kd, v = none ∧ Fr n0 L ∧ Keep h0 h [r] ∧ Exa Z h r "java/util/ArrayList" ∧ Fld Z h r "java/util/AbstractList" "modCount" "I" (.int mc) ∧ Fld Z h r "java/util/ArrayList" "elementData" "[Ljava/lang/Object;" (.ref d) ∧ Fld Z h r "java/util/ArrayList" "size" "I" (.int (1 : Int32)) ∧ n0 ≤ d ∧ h0.size ≤ d ∧ Ovr Z kd "java/lang/Object" ∧ Arv Z h d kd (.object "java/lang/Object") (10 : Int32) [(.ref y), .null, .null, .null, .null, .null, .null, .null, .null, .null] .null
theorem pd_28295bLjava2flang2fObject3b : parseMethodDescriptor "()[Ljava/lang/Object;" = some ⟨[], some (.array (.object "java/lang/Object"))⟩ := by decide +kernel
set_option maxRecDepth 65536 in
set_option maxHeartbeats 40000000 in
theorem rmP1 (l : Launch) (Z : State) (a0 : Array Value) (hw : ∀ d ∈ tables_1, d.before a0 Z = true) (ws : List Jvm.Cond) (r : Addr) (y : Addr) (mc : Int32) (dc : Addr) (kdc : ClassId) (h0 : Heap) (n0 : Nat) (O0 : Old Z n0 h0) (F_modCount_r : Fld Z h0 r "java/util/AbstractList" "modCount" "I" (.int mc)) (F_elementData_r : Fld Z h0 r "java/util/ArrayList" "elementData" "[Ljava/lang/Object;" (.ref dc)) (F_size_r : Fld Z h0 r "java/util/ArrayList" "size" "I" (.int (0 : Int32))) (E_r : Exa Z h0 r "java/util/ArrayList") (ge_r : n0 ≤ r) (S_dc : Sta Z Z.heap "java/util/ArrayList" "DEFAULTCAPACITY_EMPTY_ELEMENTDATA" "[Ljava/lang/Object;" (.ref dc)) (V_dc : Arv Z Z.heap dc kdc (.object "java/lang/Object") (0 : Int32) [] .null) (E_y : Exa Z h0 y "java/lang/String") (hyr : y ≠ r) :
    MetFree l (⟨"java/util/ArrayList", "add", "(Ljava/lang/Object;[Ljava/lang/Object;I)V"⟩ : MethodName) (head1 (Jvm.Cond.code (⟨"java/util/ArrayList", "add", "(Ljava/lang/Object;[Ljava/lang/Object;I)V"⟩ : MethodName) jdk_38_method_24_code 4 none :: ws) ({ frames := 3, cells := 1, slots := 10, locals := 60 } : Room)) (fun ar' U => ar' = #[(.ref r), (.ref y), (.ref dc), (.int (0 : Int32))] ∧ Z.Warmed39 U.vm ∧ U.heap = h0) (fun _ _ _ _ _ => True) (fun _ U o U' => ∃ v L, o = .returned v ∧ (Q_rmP1 Z r y mc dc kdc h0 n0) v U'.heap L ∧ FrameEnd U o U' L ({ frames := 3, cells := 1, slots := 10, locals := 60 } : Room).cells ({ frames := 3, cells := 1, slots := 10, locals := 60 } : Room).slots) := by
  refine MetFree.of_bodySF (plainFor_of_name pn_java_util_ArrayList) hisR ?_
  intro p e s m args below meth c s₁ Bd hml0 hP hK
  obtain ⟨rfl, hZ, hh⟩ := hP
  have hx := Bd.exec
  have hby := Bd.bytes
  have hlk := BodyLoose.notSynchronized Bd
  have hml : c.maxLocals = 4 := hml0
  have hown : s.vm.findClass "java/util/ArrayList" = some m.cls := findClass_of_methodNamed Bd.named
  have hnm := (name_of_methodNamed Bd.named Bd.method).1
  have X0 : Stand p l e ({ frames := 3, cells := 1, slots := 10, locals := 60 } : Room) s m #[(.ref r), (.ref y), (.ref dc), (.int (0 : Int32))] below meth c s₁ [] 0 0 := Stand.of_body Bd
  have e0 : s₁.heap = h0 := by rw [← hh, Bd.state]; rfl
  have N0 := Fr.nil n0
  have Z0 : n0 ≤ h0.size := O0.1 ▸ O0.2.1
  show OEnds p e below s ({ frames := 3, cells := 1, slots := 10, locals := 60 } : Room).cells ({ frames := 3, cells := 1, slots := 10, locals := 60 } : Room).slots (Q_rmP1 Z r y mc dc kdc h0 n0) (s₁.setTop (entryFrame m #[(.ref r), (.ref y), (.ref dc), (.int (0 : Int32))] 4))
  refine OEnds.via (fun _ k_ => castTop (show entryFrame m #[(.ref r), (.ref y), (.ref dc), (.int (0 : Int32))] 4 = (mkF m 0 #[.val (.ref r), .val (.ref y), .val (.ref dc), .val (.int (0 : Int32))] []) by first | (simp [entryFrame, mkF, argsToLocals, Value.category, maxLocals]; done) | rfl) k_) ?_
  have Od := O0
  have Kp := Keep.refl h0 [r]
  have V_dc' := V_dc
  obtain ⟨cdc, Adc, qdc, Sdc, Mdc, -, -⟩ := V_dc'
  show OEnds p e below s _ _ _ (s₁.setTop (mkF m 0 #[.val (.ref r), .val (.ref y), .val (.ref dc), .val (.int (0 : Int32))] []))
  refine OEnds.via (fun _ k_ => XS.iloadN X0.here hx rfl (hb hby d8_0) rfl k_) ?_
  show OEnds p e below s _ _ _ (s₁.setTop (mkF m 1 #[.val (.ref r), .val (.ref y), .val (.ref dc), .val (.int (0 : Int32))] [(.int (0 : Int32))]))
  refine OEnds.via (fun _ k_ => XS.aloadN X0.here hx rfl (hb hby d8_1) rfl rfl k_) ?_
  show OEnds p e below s _ _ _ (s₁.setTop (mkF m 2 #[.val (.ref r), .val (.ref y), .val (.ref dc), .val (.int (0 : Int32))] [(.ref dc), (.int (0 : Int32))]))
  refine OEnds.via (fun _ k_ => X0.arraylength hx (by rw [e0]; exact (Arr.ext Od.2 Adc).1) (State.isArrayOf_alike hZ.alike (Arr.ext Od.2 Adc).2.1) (g := (mkF m 2 #[.val (.ref r), .val (.ref y), .val (.ref dc), .val (.int (0 : Int32))] [(.ref dc), (.int (0 : Int32))])) rfl rfl (hb hby d8_2) _ k_) ?_
  rw [len_of Sdc Mdc]
  show OEnds p e below s _ _ _ (s₁.setTop (mkF m 3 #[.val (.ref r), .val (.ref y), .val (.ref dc), .val (.int (0 : Int32))] [(.int (0 : Int32)), (.int (0 : Int32))]))
  refine OEnds.via (fun _ k_ => XS.icmpNo X0.here hx rfl (hb hby d8_3) rfl (teq (by decide : (0 : Int32) = (0 : Int32))).2 k_) ?_
  show OEnds p e below s _ _ _ (s₁.setTop (mkF m 6 #[.val (.ref r), .val (.ref y), .val (.ref dc), .val (.int (0 : Int32))] []))
  refine OEnds.via (fun _ k_ => XS.aloadN X0.here hx rfl (hb hby d8_6) rfl rfl k_) ?_
  show OEnds p e below s _ _ _ (s₁.setTop (mkF m 7 #[.val (.ref r), .val (.ref y), .val (.ref dc), .val (.int (0 : Int32))] [(.ref r)]))
  obtain ⟨cq1, q1, q1'⟩ := E_r.cell
  obtain ⟨_, _, ⟨T1, L1, k1, n1⟩, -, X1, ⟨Lc1, hQ1, l1, y1, z1⟩, st1⟩ := X0.privateBack hx (y := (⟨"java/util/ArrayList", "grow", "()[Ljava/lang/Object;"⟩ : MethodName)) hown (mvT hZ (hw _ (List.mem_of_getElem? (i := 69) rfl))) (mvT hZ (hw _ (List.mem_of_getElem? (i := 70) rfl))) (mvT hZ (hw _ (List.mem_of_getElem? (i := 72) rfl))) (Cond.privateMethod_at (mvP hZ (hw _ (List.mem_of_getElem? (i := 71) rfl)) (args := #[]))) (mvT hZ (hw _ (List.mem_of_getElem? (i := 73) rfl))) (by decide) (backOf (W := 0) (rmG0 l Z a0 hw [] r mc dc kdc h0 n0 Od F_modCount_r F_elementData_r F_size_r E_r ge_r S_dc V_dc) hZ (hw _ (List.mem_of_getElem? (i := 73) rfl)) (hw _ (List.mem_of_getElem? (i := 7) rfl)) (by decide) (by decide)) (g := (mkF m 7 #[.val (.ref r), .val (.ref y), .val (.ref dc), .val (.int (0 : Int32))] [(.ref r)])) rfl (by rw [hml]; rfl) (Steps.refl _) (a := r) (by rw [e0]; exact q1) q1' (argsL := []) (rest := []) (lenOf pd_28295bLjava2flang2fObject3b rfl) rfl (by show 2 * 0 + _ ≤ _; exact Nat.le_of_eq rfl) (hb hby d8_7) (fun _ _ => ⟨rfl, e0, Nat.le_of_ble_eq_true rfl, Nat.le_of_ble_eq_true rfl⟩)
  dsimp only [Pt.U, Pt.locs, Pt.cells, Pt.slots] at X1 l1 y1 z1 st1 hQ1
  subst l1 y1 z1
  obtain ⟨d, kd, rfl, N1q, K1, -, G_mc, G_ed, G_sz, ge_d, sz_d, O_d, V_d⟩ := hQ1
  have ne_r_d : r ≠ d := Nat.ne_of_lt (Nat.lt_of_lt_of_le F_modCount_r.lt sz_d)
  have ne_y_d : y ≠ d := Nat.ne_of_lt (Nat.lt_of_lt_of_le E_y.lt sz_d)
  have N1 := Fr.app N0 N1q
  have szd : h0.size ≤ d := Nat.le_trans Kp.1 sz_d
  replace Od := Od.keep K1 (allS ge_r all0)
  replace E_r := E_r.keep K1
  replace E_y := E_y.keep K1
  replace Kp := Kp.trans K1 (allS (Or.inl (by simp)) all0)
  have F_modCount_r := G_mc
  have F_elementData_r := G_ed
  have F_size_r := G_sz
  refine OEnds.via (fun _ k_ => st1.trans k_) ?_
  show OEnds p e below s _ _ _ (T1.setTop (mkF m 10 #[.val (.ref r), .val (.ref y), .val (.ref dc), .val (.int (0 : Int32))] [(.ref d)]))
  refine OEnds.via (fun _ k_ => XS.astoreN X1.here hx rfl (hb hby d8_10) rfl rfl (l' := #[.val (.ref r), .val (.ref y), .val (.ref d), .val (.int (0 : Int32))]) rfl k_) ?_
  show OEnds p e below s _ _ _ (T1.setTop (mkF m 11 #[.val (.ref r), .val (.ref y), .val (.ref d), .val (.int (0 : Int32))] []))
  refine OEnds.via (fun _ k_ => XS.aloadN X1.here hx rfl (hb hby d8_11) rfl rfl k_) ?_
  show OEnds p e below s _ _ _ (T1.setTop (mkF m 12 #[.val (.ref r), .val (.ref y), .val (.ref d), .val (.int (0 : Int32))] [(.ref d)]))
  refine OEnds.via (fun _ k_ => XS.iloadN X1.here hx rfl (hb hby d8_12) rfl k_) ?_
  show OEnds p e below s _ _ _ (T1.setTop (mkF m 13 #[.val (.ref r), .val (.ref y), .val (.ref d), .val (.int (0 : Int32))] [(.int (0 : Int32)), (.ref d)]))
  refine OEnds.via (fun _ k_ => XS.aloadN X1.here hx rfl (hb hby d8_13) rfl rfl k_) ?_
  show OEnds p e below s _ _ _ (T1.setTop (mkF m 14 #[.val (.ref r), .val (.ref y), .val (.ref d), .val (.int (0 : Int32))] [(.ref y), (.int (0 : Int32)), (.ref d)]))
  obtain ⟨cl2, Ar2, q2, S2, M2, H2, G2⟩ := V_d
  obtain ⟨T2, h2, X2, e2, W2, st2⟩ := stR X1 hx hZ rfl Ar2 (j := (0 : Int32)) (inb_of S2 ⟨by decide, by decide⟩) rfl (Sto.ofV Ar2 q2 O_d (Ins.of_exa E_y (hw _ (List.mem_of_getElem? (i := 85) rfl)))) (g := (mkF m 14 #[.val (.ref r), .val (.ref y), .val (.ref d), .val (.int (0 : Int32))] [(.ref y), (.int (0 : Int32)), (.ref d)])) rfl rfl (hb hby d8_14)
  have V_d : Arv Z h2 d kd (.object "java/lang/Object") (10 : Int32) [(.ref y), .null, .null, .null, .null, .null, .null, .null, .null, .null] .null := Arv.set Ar2 q2 S2 M2 H2 G2 rfl W2 0 rfl (Nat.le_of_ble_eq_true rfl)
  have N2 := Fr.snoc X2 N1 ge_d
  replace Od := Od.wr W2 ge_d
  replace E_r := Exa.wr W2 E_r
  replace E_y := Exa.wr W2 E_y
  replace Kp := Kp.wr W2 (Or.inr szd)
  replace F_modCount_r := Fld.other W2 F_modCount_r (Or.inl ne_r_d)
  replace F_elementData_r := Fld.other W2 F_elementData_r (Or.inl ne_r_d)
  replace F_size_r := Fld.other W2 F_size_r (Or.inl ne_r_d)
  refine OEnds.via (fun _ k_ => st2 _ k_) ?_
  show OEnds p e below s _ _ _ (T2.setTop (mkF m 15 #[.val (.ref r), .val (.ref y), .val (.ref d), .val (.int (0 : Int32))] []))
  refine OEnds.via (fun _ k_ => XS.aloadN X2.here hx rfl (hb hby d8_15) rfl rfl k_) ?_
  show OEnds p e below s _ _ _ (T2.setTop (mkF m 16 #[.val (.ref r), .val (.ref y), .val (.ref d), .val (.int (0 : Int32))] [(.ref r)]))
  refine OEnds.via (fun _ k_ => XS.iloadN X2.here hx rfl (hb hby d8_16) rfl k_) ?_
  show OEnds p e below s _ _ _ (T2.setTop (mkF m 17 #[.val (.ref r), .val (.ref y), .val (.ref d), .val (.int (0 : Int32))] [(.int (0 : Int32)), (.ref r)]))
  refine OEnds.via (fun _ k_ => XS.iconst X2.here hx rfl (hb hby d8_17) k_) ?_
  show OEnds p e below s _ _ _ (T2.setTop (mkF m 18 #[.val (.ref r), .val (.ref y), .val (.ref d), .val (.int (0 : Int32))] [(.int (1 : Int32)), (.int (0 : Int32)), (.ref r)]))
  refine OEnds.via (fun _ k_ => XS.iadd X2.here hx rfl (hb hby d8_18) rfl k_) ?_
  show OEnds p e below s _ _ _ (T2.setTop (mkF m 19 #[.val (.ref r), .val (.ref y), .val (.ref d), .val (.int (0 : Int32))] [(.int (1 : Int32)), (.ref r)]))
  obtain ⟨T3, h3, X3, e3, W3, st3⟩ := putF X2 hx hZ hown (host := "") (Or.inl (hw _ (List.mem_of_getElem? (i := 62) rfl))) Via.refl e2 F_size_r E_r (Or.inl (hw _ (List.mem_of_getElem? (i := 63) rfl))) (hw _ (List.mem_of_getElem? (i := 6) rfl)) (ty := .int) (by decide) rfl rfl (g := (mkF m 19 #[.val (.ref r), .val (.ref y), .val (.ref d), .val (.int (0 : Int32))] [(.int (1 : Int32)), (.ref r)])) rfl rfl (hb hby d8_19)
  have N3 := Fr.snoc X3 N2 ge_r
  replace Od := Od.wr W3 ge_r
  replace E_r := Exa.wr W3 E_r
  replace E_y := Exa.wr W3 E_y
  replace Kp := Kp.wr W3 (Or.inl (by simp))
  replace F_modCount_r := Fld.other W3 F_modCount_r (Or.inr (slot_ne (Or.inl (hw _ (List.mem_of_getElem? (i := 27) rfl))) (Or.inl (hw _ (List.mem_of_getElem? (i := 63) rfl))) (by decide) (t := .int) (t' := .int) (by decide) (by decide)))
  replace F_elementData_r := Fld.other W3 F_elementData_r (Or.inr (slot_ne (Or.inl (hw _ (List.mem_of_getElem? (i := 30) rfl))) (Or.inl (hw _ (List.mem_of_getElem? (i := 63) rfl))) (by decide) (t := (.array (.object "java/lang/Object"))) (t' := .int) (by decide) (by decide)))
  replace F_size_r := Fld.same W3 F_size_r
  replace V_d := V_d.other W3 (Ne.symm ne_r_d)
  refine OEnds.via (fun _ k_ => st3 _ k_) ?_
  show OEnds p e below s _ _ _ (T3.setTop (mkF m 22 #[.val (.ref r), .val (.ref y), .val (.ref d), .val (.int (0 : Int32))] []))
  refine OEnds.retV X3 hx hlk Bd.returns (hb hby d8_22) ?_ (by decide) (by decide)
  rw [e3]
  exact ⟨_, _, rfl, N3, Kp, E_r, F_modCount_r, F_elementData_r, F_size_r, ge_d, szd, O_d, V_d⟩
theorem d7_0 : decode jdk_38_method_25_code 0 = .ok (.aload_n 0, 1) := by decide +kernel
theorem d7_1 : decode jdk_38_method_25_code 1 = .ok (.dup, 1) := by decide +kernel
theorem d7_2 : decode jdk_38_method_25_code 2 = .ok (.getfield 63, 3) := by decide +kernel
theorem d7_5 : decode jdk_38_method_25_code 5 = .ok (.iconst 1, 1) := by decide +kernel
theorem d7_6 : decode jdk_38_method_25_code 6 = .ok (.iadd, 1) := by decide +kernel
theorem d7_7 : decode jdk_38_method_25_code 7 = .ok (.putfield 63, 3) := by decide +kernel
theorem d7_10 : decode jdk_38_method_25_code 10 = .ok (.aload_n 0, 1) := by decide +kernel
theorem d7_11 : decode jdk_38_method_25_code 11 = .ok (.aload_n 1, 1) := by decide +kernel
theorem d7_12 : decode jdk_38_method_25_code 12 = .ok (.aload_n 0, 1) := by decide +kernel
theorem d7_13 : decode jdk_38_method_25_code 13 = .ok (.getfield 9, 3) := by decide +kernel
theorem d7_16 : decode jdk_38_method_25_code 16 = .ok (.aload_n 0, 1) := by decide +kernel
theorem d7_17 : decode jdk_38_method_25_code 17 = .ok (.getfield 48, 3) := by decide +kernel
theorem d7_20 : decode jdk_38_method_25_code 20 = .ok (.invokevirtual 131, 3) := by decide +kernel
theorem d7_23 : decode jdk_38_method_25_code 23 = .ok (.iconst 1, 1) := by decide +kernel
theorem d7_24 : decode jdk_38_method_25_code 24 = .ok (.ireturn, 1) := by decide +kernel
def Q_rmA0 (Z : State) (r : Addr) (y : Addr) (mc : Int32) (dc : Addr) (kdc : ClassId) (h0 : Heap) (n0 : Nat) (v : Option Value) (h : Heap) (L : List Loc) : Prop := ∃ d kd, v = some (.int 1) ∧ Fr n0 L ∧ Keep h0 h [r] ∧ Exa Z h r "java/util/ArrayList" ∧ Fld Z h r "java/util/AbstractList" "modCount" "I" (.int (mc + (1 : Int32))) ∧ Fld Z h r "java/util/ArrayList" "elementData" "[Ljava/lang/Object;" (.ref d) ∧ Fld Z h r "java/util/ArrayList" "size" "I" (.int (1 : Int32)) ∧ n0 ≤ d ∧ h0.size ≤ d ∧ Ovr Z kd "java/lang/Object" ∧ Arv Z h d kd (.object "java/lang/Object") (10 : Int32) [(.ref y), .null, .null, .null, .null, .null, .null, .null, .null, .null] .null
theorem pd_28Ljava2flang2fObject3b5bLjava2flang2fObject3bI29V : parseMethodDescriptor "(Ljava/lang/Object;[Ljava/lang/Object;I)V" = some ⟨[(.object "java/lang/Object"), (.array (.object "java/lang/Object")), .int], none⟩ := by decide +kernel
set_option maxRecDepth 65536 in
set_option maxHeartbeats 40000000 in
theorem rmA0 (l : Launch) (Z : State) (a0 : Array Value) (hw : ∀ d ∈ tables_1, d.before a0 Z = true) (ws : List Jvm.Cond) (r : Addr) (y : Addr) (mc : Int32) (dc : Addr) (kdc : ClassId) (h0 : Heap) (n0 : Nat) (O0 : Old Z n0 h0) (F_modCount_r : Fld Z h0 r "java/util/AbstractList" "modCount" "I" (.int mc)) (F_elementData_r : Fld Z h0 r "java/util/ArrayList" "elementData" "[Ljava/lang/Object;" (.ref dc)) (F_size_r : Fld Z h0 r "java/util/ArrayList" "size" "I" (.int (0 : Int32))) (E_r : Exa Z h0 r "java/util/ArrayList") (ge_r : n0 ≤ r) (S_dc : Sta Z Z.heap "java/util/ArrayList" "DEFAULTCAPACITY_EMPTY_ELEMENTDATA" "[Ljava/lang/Object;" (.ref dc)) (V_dc : Arv Z Z.heap dc kdc (.object "java/lang/Object") (0 : Int32) [] .null) (E_y : Exa Z h0 y "java/lang/String") (hyr : y ≠ r) :
    MetFree l (⟨"java/util/ArrayList", "add", "(Ljava/lang/Object;)Z"⟩ : MethodName) (head1 (Jvm.Cond.code (⟨"java/util/ArrayList", "add", "(Ljava/lang/Object;)Z"⟩ : MethodName) jdk_38_method_25_code 2 (some .boolean) :: ws) ({ frames := 4, cells := 1, slots := 10, locals := 90 } : Room)) (fun ar' U => ar' = #[(.ref r), (.ref y)] ∧ Z.Warmed39 U.vm ∧ U.heap = h0) (fun _ _ _ _ _ => True) (fun _ U o U' => ∃ v L, o = .returned v ∧ (Q_rmA0 Z r y mc dc kdc h0 n0) v U'.heap L ∧ FrameEnd U o U' L ({ frames := 4, cells := 1, slots := 10, locals := 90 } : Room).cells ({ frames := 4, cells := 1, slots := 10, locals := 90 } : Room).slots) := by
  refine MetFree.of_bodySF (plainFor_of_name pn_java_util_ArrayList) hisR ?_
  intro p e s m args below meth c s₁ Bd hml0 hP hK
  obtain ⟨rfl, hZ, hh⟩ := hP
  have hx := Bd.exec
  have hby := Bd.bytes
  have hlk := BodyLoose.notSynchronized Bd
  have hml : c.maxLocals = 2 := hml0
  have hown : s.vm.findClass "java/util/ArrayList" = some m.cls := findClass_of_methodNamed Bd.named
  have hnm := (name_of_methodNamed Bd.named Bd.method).1
  have X0 : Stand p l e ({ frames := 4, cells := 1, slots := 10, locals := 90 } : Room) s m #[(.ref r), (.ref y)] below meth c s₁ [] 0 0 := Stand.of_body Bd
  have e0 : s₁.heap = h0 := by rw [← hh, Bd.state]; rfl
  have N0 := Fr.nil n0
  have Z0 : n0 ≤ h0.size := O0.1 ▸ O0.2.1
  show OEnds p e below s ({ frames := 4, cells := 1, slots := 10, locals := 90 } : Room).cells ({ frames := 4, cells := 1, slots := 10, locals := 90 } : Room).slots (Q_rmA0 Z r y mc dc kdc h0 n0) (s₁.setTop (entryFrame m #[(.ref r), (.ref y)] 2))
  refine OEnds.via (fun _ k_ => castTop (show entryFrame m #[(.ref r), (.ref y)] 2 = (mkF m 0 #[.val (.ref r), .val (.ref y)] []) by first | (simp [entryFrame, mkF, argsToLocals, Value.category, maxLocals]; done) | rfl) k_) ?_
  have Od := O0
  have Kp := Keep.refl h0 [r]
  show OEnds p e below s _ _ _ (s₁.setTop (mkF m 0 #[.val (.ref r), .val (.ref y)] []))
  refine OEnds.via (fun _ k_ => XS.aloadN X0.here hx rfl (hb hby d7_0) rfl rfl k_) ?_
  show OEnds p e below s _ _ _ (s₁.setTop (mkF m 1 #[.val (.ref r), .val (.ref y)] [(.ref r)]))
  refine OEnds.via (fun _ k_ => XS.dup X0.here hx rfl (hb hby d7_1) rfl rfl k_) ?_
  show OEnds p e below s _ _ _ (s₁.setTop (mkF m 2 #[.val (.ref r), .val (.ref y)] [(.ref r), (.ref r)]))
  obtain ⟨T1, X1, e1, st1⟩ := getF X0 hx hZ hown (host := "") (Or.inl (hw _ (List.mem_of_getElem? (i := 60) rfl))) (Via.of (hw _ (List.mem_of_getElem? (i := 61) rfl))) e0 F_modCount_r (g := (mkF m 2 #[.val (.ref r), .val (.ref y)] [(.ref r), (.ref r)])) rfl rfl (hb hby d7_2)
  refine OEnds.via (fun _ k_ => st1 _ k_) ?_
  show OEnds p e below s _ _ _ (T1.setTop (mkF m 5 #[.val (.ref r), .val (.ref y)] [(.int mc), (.ref r)]))
  refine OEnds.via (fun _ k_ => XS.iconst X1.here hx rfl (hb hby d7_5) k_) ?_
  show OEnds p e below s _ _ _ (T1.setTop (mkF m 6 #[.val (.ref r), .val (.ref y)] [(.int (1 : Int32)), (.int mc), (.ref r)]))
  refine OEnds.via (fun _ k_ => XS.iadd X1.here hx rfl (hb hby d7_6) rfl k_) ?_
  show OEnds p e below s _ _ _ (T1.setTop (mkF m 7 #[.val (.ref r), .val (.ref y)] [(.int (mc + (1 : Int32))), (.ref r)]))
  obtain ⟨T2, h2, X2, e2, W2, st2⟩ := putF X1 hx hZ hown (host := "") (Or.inl (hw _ (List.mem_of_getElem? (i := 60) rfl))) (Via.of (hw _ (List.mem_of_getElem? (i := 61) rfl))) e1 F_modCount_r E_r (Or.inl (hw _ (List.mem_of_getElem? (i := 27) rfl))) (hw _ (List.mem_of_getElem? (i := 6) rfl)) (ty := .int) (by decide) rfl rfl (g := (mkF m 7 #[.val (.ref r), .val (.ref y)] [(.int (mc + (1 : Int32))), (.ref r)])) rfl rfl (hb hby d7_7)
  have N2 := Fr.snoc X2 N0 ge_r
  replace Od := Od.wr W2 ge_r
  replace F_modCount_r := Fld.same W2 F_modCount_r
  replace F_elementData_r := Fld.other W2 F_elementData_r (Or.inr (slot_ne (Or.inl (hw _ (List.mem_of_getElem? (i := 30) rfl))) (Or.inl (hw _ (List.mem_of_getElem? (i := 27) rfl))) (by decide) (t := (.array (.object "java/lang/Object"))) (t' := .int) (by decide) (by decide)))
  replace F_size_r := Fld.other W2 F_size_r (Or.inr (slot_ne (Or.inl (hw _ (List.mem_of_getElem? (i := 63) rfl))) (Or.inl (hw _ (List.mem_of_getElem? (i := 27) rfl))) (by decide) (t := .int) (t' := .int) (by decide) (by decide)))
  replace E_r := Exa.wr W2 E_r
  replace E_y := Exa.wr W2 E_y
  replace Kp := Kp.wr W2 (Or.inl (by simp))
  refine OEnds.via (fun _ k_ => st2 _ k_) ?_
  show OEnds p e below s _ _ _ (T2.setTop (mkF m 10 #[.val (.ref r), .val (.ref y)] []))
  refine OEnds.via (fun _ k_ => XS.aloadN X2.here hx rfl (hb hby d7_10) rfl rfl k_) ?_
  show OEnds p e below s _ _ _ (T2.setTop (mkF m 11 #[.val (.ref r), .val (.ref y)] [(.ref r)]))
  refine OEnds.via (fun _ k_ => XS.aloadN X2.here hx rfl (hb hby d7_11) rfl rfl k_) ?_
  show OEnds p e below s _ _ _ (T2.setTop (mkF m 12 #[.val (.ref r), .val (.ref y)] [(.ref y), (.ref r)]))
  refine OEnds.via (fun _ k_ => XS.aloadN X2.here hx rfl (hb hby d7_12) rfl rfl k_) ?_
  show OEnds p e below s _ _ _ (T2.setTop (mkF m 13 #[.val (.ref r), .val (.ref y)] [(.ref r), (.ref y), (.ref r)]))
  obtain ⟨T3, X3, e3, st3⟩ := getF X2 hx hZ hown (host := "") (Or.inl (hw _ (List.mem_of_getElem? (i := 29) rfl))) Via.refl e2 F_elementData_r (g := (mkF m 13 #[.val (.ref r), .val (.ref y)] [(.ref r), (.ref y), (.ref r)])) rfl rfl (hb hby d7_13)
  refine OEnds.via (fun _ k_ => st3 _ k_) ?_
  show OEnds p e below s _ _ _ (T3.setTop (mkF m 16 #[.val (.ref r), .val (.ref y)] [(.ref dc), (.ref y), (.ref r)]))
  refine OEnds.via (fun _ k_ => XS.aloadN X3.here hx rfl (hb hby d7_16) rfl rfl k_) ?_
  show OEnds p e below s _ _ _ (T3.setTop (mkF m 17 #[.val (.ref r), .val (.ref y)] [(.ref r), (.ref dc), (.ref y), (.ref r)]))
  obtain ⟨T4, X4, e4, st4⟩ := getF X3 hx hZ hown (host := "") (Or.inl (hw _ (List.mem_of_getElem? (i := 62) rfl))) Via.refl e3 F_size_r (g := (mkF m 17 #[.val (.ref r), .val (.ref y)] [(.ref r), (.ref dc), (.ref y), (.ref r)])) rfl rfl (hb hby d7_17)
  refine OEnds.via (fun _ k_ => st4 _ k_) ?_
  show OEnds p e below s _ _ _ (T4.setTop (mkF m 20 #[.val (.ref r), .val (.ref y)] [(.int (0 : Int32)), (.ref dc), (.ref y), (.ref r)]))
  obtain ⟨cq5, q5, q5'⟩ := E_r.cell
  obtain ⟨_, _, ⟨T5, L5, k5, n5⟩, -, X5, ⟨Lc5, hQ5, l5, y5, z5⟩, st5⟩ := X4.privateBack hx (y := (⟨"java/util/ArrayList", "add", "(Ljava/lang/Object;[Ljava/lang/Object;I)V"⟩ : MethodName)) hown (mvT hZ (hw _ (List.mem_of_getElem? (i := 64) rfl))) (mvT hZ (hw _ (List.mem_of_getElem? (i := 65) rfl))) (mvT hZ (hw _ (List.mem_of_getElem? (i := 67) rfl))) (Cond.privateMethod_at (mvP hZ (hw _ (List.mem_of_getElem? (i := 66) rfl)) (args := #[]))) (mvT hZ (hw _ (List.mem_of_getElem? (i := 68) rfl))) (by decide) (backOf (W := 0) (rmP1 l Z a0 hw [] r y (mc + (1 : Int32)) dc kdc h2 n0 Od F_modCount_r F_elementData_r F_size_r E_r ge_r S_dc V_dc E_y hyr) hZ (hw _ (List.mem_of_getElem? (i := 68) rfl)) (hw _ (List.mem_of_getElem? (i := 7) rfl)) (by decide) (by decide)) (g := (mkF m 20 #[.val (.ref r), .val (.ref y)] [(.int (0 : Int32)), (.ref dc), (.ref y), (.ref r)])) rfl (by rw [hml]; rfl) (Steps.refl _) (a := r) (by rw [e4]; exact q5) q5' (argsL := [(.ref y), (.ref dc), (.int (0 : Int32))]) (rest := []) (lenOf pd_28Ljava2flang2fObject3b5bLjava2flang2fObject3bI29V rfl) rfl (by show 2 * 0 + _ ≤ _; exact Nat.le_of_eq rfl) (hb hby d7_20) (fun _ _ => ⟨rfl, e4, Nat.le_of_ble_eq_true rfl, Nat.le_of_ble_eq_true rfl⟩)
  dsimp only [Pt.U, Pt.locs, Pt.cells, Pt.slots] at X5 l5 y5 z5 st5 hQ5
  subst l5 y5 z5
  obtain ⟨d, kd, rfl, N5q, K5, G_E, G_mc, G_ed, G_sz, ge_d, sz_d, O_d, V_d⟩ := hQ5
  have N5 := Fr.app N2 N5q
  have szd : h0.size ≤ d := Nat.le_trans Kp.1 sz_d
  replace Od := Od.keep K5 (allS ge_r all0)
  replace E_r := E_r.keep K5
  replace E_y := E_y.keep K5
  replace Kp := Kp.trans K5 (allS (Or.inl (by simp)) all0)
  refine OEnds.via (fun _ k_ => st5.trans k_) ?_
  show OEnds p e below s _ _ _ (T5.setTop (mkF m 23 #[.val (.ref r), .val (.ref y)] []))
  refine OEnds.via (fun _ k_ => XS.iconst X5.here hx rfl (hb hby d7_23) k_) ?_
  show OEnds p e below s _ _ _ (T5.setTop (mkF m 24 #[.val (.ref r), .val (.ref y)] [(.int (1 : Int32))]))
  refine OEnds.retN X5 hx hlk (t := .boolean) Bd.returns (by simp) (hb hby d7_24) ?_ (by decide) (by decide)
  exact ⟨_, _, rfl, N5, Kp, G_E, G_mc, G_ed, G_sz, ge_d, szd, O_d, V_d⟩
def Q_rmPn1 (Z : State) (r : Addr) (y : Addr) (mc : Int32) (d : Addr) (kd : ClassId) (y0 : Addr) (h0 : Heap) (n0 : Nat) (v : Option Value) (h : Heap) (L : List Loc) : Prop := v = none ∧ Fr n0 L ∧ Keep h0 h [r, d] ∧ Exa Z h r "java/util/ArrayList" ∧ Fld Z h r "java/util/AbstractList" "modCount" "I" (.int mc) ∧ Fld Z h r "java/util/ArrayList" "elementData" "[Ljava/lang/Object;" (.ref d) ∧ Fld Z h r "java/util/ArrayList" "size" "I" (.int (2 : Int32)) ∧ Arv Z h d kd (.object "java/lang/Object") (10 : Int32) [(.ref y0), (.ref y), .null, .null, .null, .null, .null, .null, .null, .null] .null
set_option maxRecDepth 65536 in
set_option maxHeartbeats 40000000 in
theorem rmPn1 (l : Launch) (Z : State) (a0 : Array Value) (hw : ∀ d ∈ tables_1, d.before a0 Z = true) (ws : List Jvm.Cond) (r : Addr) (y : Addr) (mc : Int32) (d : Addr) (kd : ClassId) (y0 : Addr) (h0 : Heap) (n0 : Nat) (O0 : Old Z n0 h0) (F_modCount_r : Fld Z h0 r "java/util/AbstractList" "modCount" "I" (.int mc)) (F_elementData_r : Fld Z h0 r "java/util/ArrayList" "elementData" "[Ljava/lang/Object;" (.ref d)) (F_size_r : Fld Z h0 r "java/util/ArrayList" "size" "I" (.int (1 : Int32))) (E_r : Exa Z h0 r "java/util/ArrayList") (ge_r : n0 ≤ r) (V_d : Arv Z h0 d kd (.object "java/lang/Object") (10 : Int32) [(.ref y0), .null, .null, .null, .null, .null, .null, .null, .null, .null] .null) (ge_d : n0 ≤ d) (O_d : Ovr Z kd "java/lang/Object") (E_y : Exa Z h0 y "java/lang/String") (hyr : y ≠ r) (hrd : r ≠ d) :
    MetFree l (⟨"java/util/ArrayList", "add", "(Ljava/lang/Object;[Ljava/lang/Object;I)V"⟩ : MethodName) (head1 (Jvm.Cond.code (⟨"java/util/ArrayList", "add", "(Ljava/lang/Object;[Ljava/lang/Object;I)V"⟩ : MethodName) jdk_38_method_24_code 4 none :: ws) ({ frames := 1, cells := 0, slots := 0, locals := 20 } : Room)) (fun ar' U => ar' = #[(.ref r), (.ref y), (.ref d), (.int (1 : Int32))] ∧ Z.Warmed39 U.vm ∧ U.heap = h0) (fun _ _ _ _ _ => True) (fun _ U o U' => ∃ v L, o = .returned v ∧ (Q_rmPn1 Z r y mc d kd y0 h0 n0) v U'.heap L ∧ FrameEnd U o U' L ({ frames := 1, cells := 0, slots := 0, locals := 20 } : Room).cells ({ frames := 1, cells := 0, slots := 0, locals := 20 } : Room).slots) := by
  refine MetFree.of_bodySF (plainFor_of_name pn_java_util_ArrayList) hisR ?_
  intro p e s m args below meth c s₁ Bd hml0 hP hK
  obtain ⟨rfl, hZ, hh⟩ := hP
  have hx := Bd.exec
  have hby := Bd.bytes
  have hlk := BodyLoose.notSynchronized Bd
  have hml : c.maxLocals = 4 := hml0
  have hown : s.vm.findClass "java/util/ArrayList" = some m.cls := findClass_of_methodNamed Bd.named
  have hnm := (name_of_methodNamed Bd.named Bd.method).1
  have X0 : Stand p l e ({ frames := 1, cells := 0, slots := 0, locals := 20 } : Room) s m #[(.ref r), (.ref y), (.ref d), (.int (1 : Int32))] below meth c s₁ [] 0 0 := Stand.of_body Bd
  have e0 : s₁.heap = h0 := by rw [← hh, Bd.state]; rfl
  have N0 := Fr.nil n0
  have Z0 : n0 ≤ h0.size := O0.1 ▸ O0.2.1
  show OEnds p e below s ({ frames := 1, cells := 0, slots := 0, locals := 20 } : Room).cells ({ frames := 1, cells := 0, slots := 0, locals := 20 } : Room).slots (Q_rmPn1 Z r y mc d kd y0 h0 n0) (s₁.setTop (entryFrame m #[(.ref r), (.ref y), (.ref d), (.int (1 : Int32))] 4))
  refine OEnds.via (fun _ k_ => castTop (show entryFrame m #[(.ref r), (.ref y), (.ref d), (.int (1 : Int32))] 4 = (mkF m 0 #[.val (.ref r), .val (.ref y), .val (.ref d), .val (.int (1 : Int32))] []) by first | (simp [entryFrame, mkF, argsToLocals, Value.category, maxLocals]; done) | rfl) k_) ?_
  have Od := O0
  have Kp := Keep.refl h0 [r, d]
  have V_d' := V_d
  obtain ⟨cd0, Ad0, qd0, Sd0, Md0, -, -⟩ := V_d'
  show OEnds p e below s _ _ _ (s₁.setTop (mkF m 0 #[.val (.ref r), .val (.ref y), .val (.ref d), .val (.int (1 : Int32))] []))
  refine OEnds.via (fun _ k_ => XS.iloadN X0.here hx rfl (hb hby d8_0) rfl k_) ?_
  show OEnds p e below s _ _ _ (s₁.setTop (mkF m 1 #[.val (.ref r), .val (.ref y), .val (.ref d), .val (.int (1 : Int32))] [(.int (1 : Int32))]))
  refine OEnds.via (fun _ k_ => XS.aloadN X0.here hx rfl (hb hby d8_1) rfl rfl k_) ?_
  show OEnds p e below s _ _ _ (s₁.setTop (mkF m 2 #[.val (.ref r), .val (.ref y), .val (.ref d), .val (.int (1 : Int32))] [(.ref d), (.int (1 : Int32))]))
  refine OEnds.via (fun _ k_ => X0.arraylength hx (by rw [e0]; exact Ad0.1) (State.isArrayOf_alike hZ.alike Ad0.2.1) (g := (mkF m 2 #[.val (.ref r), .val (.ref y), .val (.ref d), .val (.int (1 : Int32))] [(.ref d), (.int (1 : Int32))])) rfl rfl (hb hby d8_2) _ k_) ?_
  rw [len_of Sd0 Md0]
  show OEnds p e below s _ _ _ (s₁.setTop (mkF m 3 #[.val (.ref r), .val (.ref y), .val (.ref d), .val (.int (1 : Int32))] [(.int (10 : Int32)), (.int (1 : Int32))]))
  refine OEnds.via (fun _ k_ => XS.icmpYes X0.here hx rfl (pc0 := 3) (pc' := 11) rfl (hb hby d8_3) rfl (feq (by decide : ¬ ((1 : Int32) = (10 : Int32)))).2 (by decide) (by decide) k_) ?_
  show OEnds p e below s _ _ _ (s₁.setTop (mkF m 11 #[.val (.ref r), .val (.ref y), .val (.ref d), .val (.int (1 : Int32))] []))
  refine OEnds.via (fun _ k_ => XS.aloadN X0.here hx rfl (hb hby d8_11) rfl rfl k_) ?_
  show OEnds p e below s _ _ _ (s₁.setTop (mkF m 12 #[.val (.ref r), .val (.ref y), .val (.ref d), .val (.int (1 : Int32))] [(.ref d)]))
  refine OEnds.via (fun _ k_ => XS.iloadN X0.here hx rfl (hb hby d8_12) rfl k_) ?_
  show OEnds p e below s _ _ _ (s₁.setTop (mkF m 13 #[.val (.ref r), .val (.ref y), .val (.ref d), .val (.int (1 : Int32))] [(.int (1 : Int32)), (.ref d)]))
  refine OEnds.via (fun _ k_ => XS.aloadN X0.here hx rfl (hb hby d8_13) rfl rfl k_) ?_
  show OEnds p e below s _ _ _ (s₁.setTop (mkF m 14 #[.val (.ref r), .val (.ref y), .val (.ref d), .val (.int (1 : Int32))] [(.ref y), (.int (1 : Int32)), (.ref d)]))
  obtain ⟨cl1, Ar1, q1, S1, M1, H1, G1⟩ := V_d
  obtain ⟨T1, h1, X1, e1, W1, st1⟩ := stR X0 hx hZ e0 Ar1 (j := (1 : Int32)) (inb_of S1 ⟨by decide, by decide⟩) rfl (Sto.ofV Ar1 q1 O_d (Ins.of_exa E_y (hw _ (List.mem_of_getElem? (i := 85) rfl)))) (g := (mkF m 14 #[.val (.ref r), .val (.ref y), .val (.ref d), .val (.int (1 : Int32))] [(.ref y), (.int (1 : Int32)), (.ref d)])) rfl rfl (hb hby d8_14)
  have V_d : Arv Z h1 d kd (.object "java/lang/Object") (10 : Int32) [(.ref y0), (.ref y), .null, .null, .null, .null, .null, .null, .null, .null] .null := Arv.set Ar1 q1 S1 M1 H1 G1 rfl W1 1 rfl (Nat.le_of_ble_eq_true rfl)
  have N1 := Fr.snoc X1 N0 ge_d
  replace Od := Od.wr W1 ge_d
  replace F_modCount_r := Fld.other W1 F_modCount_r (Or.inl hrd)
  replace F_elementData_r := Fld.other W1 F_elementData_r (Or.inl hrd)
  replace F_size_r := Fld.other W1 F_size_r (Or.inl hrd)
  replace E_r := Exa.wr W1 E_r
  replace E_y := Exa.wr W1 E_y
  replace Kp := Kp.wr W1 (Or.inl (by simp))
  refine OEnds.via (fun _ k_ => st1 _ k_) ?_
  show OEnds p e below s _ _ _ (T1.setTop (mkF m 15 #[.val (.ref r), .val (.ref y), .val (.ref d), .val (.int (1 : Int32))] []))
  refine OEnds.via (fun _ k_ => XS.aloadN X1.here hx rfl (hb hby d8_15) rfl rfl k_) ?_
  show OEnds p e below s _ _ _ (T1.setTop (mkF m 16 #[.val (.ref r), .val (.ref y), .val (.ref d), .val (.int (1 : Int32))] [(.ref r)]))
  refine OEnds.via (fun _ k_ => XS.iloadN X1.here hx rfl (hb hby d8_16) rfl k_) ?_
  show OEnds p e below s _ _ _ (T1.setTop (mkF m 17 #[.val (.ref r), .val (.ref y), .val (.ref d), .val (.int (1 : Int32))] [(.int (1 : Int32)), (.ref r)]))
  refine OEnds.via (fun _ k_ => XS.iconst X1.here hx rfl (hb hby d8_17) k_) ?_
  show OEnds p e below s _ _ _ (T1.setTop (mkF m 18 #[.val (.ref r), .val (.ref y), .val (.ref d), .val (.int (1 : Int32))] [(.int (1 : Int32)), (.int (1 : Int32)), (.ref r)]))
  refine OEnds.via (fun _ k_ => XS.iadd X1.here hx rfl (hb hby d8_18) rfl k_) ?_
  show OEnds p e below s _ _ _ (T1.setTop (mkF m 19 #[.val (.ref r), .val (.ref y), .val (.ref d), .val (.int (1 : Int32))] [(.int (2 : Int32)), (.ref r)]))
  obtain ⟨T2, h2, X2, e2, W2, st2⟩ := putF X1 hx hZ hown (host := "") (Or.inl (hw _ (List.mem_of_getElem? (i := 62) rfl))) Via.refl e1 F_size_r E_r (Or.inl (hw _ (List.mem_of_getElem? (i := 63) rfl))) (hw _ (List.mem_of_getElem? (i := 6) rfl)) (ty := .int) (by decide) rfl rfl (g := (mkF m 19 #[.val (.ref r), .val (.ref y), .val (.ref d), .val (.int (1 : Int32))] [(.int (2 : Int32)), (.ref r)])) rfl rfl (hb hby d8_19)
  have N2 := Fr.snoc X2 N1 ge_r
  replace Od := Od.wr W2 ge_r
  replace F_modCount_r := Fld.other W2 F_modCount_r (Or.inr (slot_ne (Or.inl (hw _ (List.mem_of_getElem? (i := 27) rfl))) (Or.inl (hw _ (List.mem_of_getElem? (i := 63) rfl))) (by decide) (t := .int) (t' := .int) (by decide) (by decide)))
  replace F_elementData_r := Fld.other W2 F_elementData_r (Or.inr (slot_ne (Or.inl (hw _ (List.mem_of_getElem? (i := 30) rfl))) (Or.inl (hw _ (List.mem_of_getElem? (i := 63) rfl))) (by decide) (t := (.array (.object "java/lang/Object"))) (t' := .int) (by decide) (by decide)))
  replace F_size_r := Fld.same W2 F_size_r
  replace E_r := Exa.wr W2 E_r
  replace E_y := Exa.wr W2 E_y
  replace Kp := Kp.wr W2 (Or.inl (by simp))
  replace V_d := V_d.other W2 (Ne.symm hrd)
  refine OEnds.via (fun _ k_ => st2 _ k_) ?_
  show OEnds p e below s _ _ _ (T2.setTop (mkF m 22 #[.val (.ref r), .val (.ref y), .val (.ref d), .val (.int (1 : Int32))] []))
  refine OEnds.retV X2 hx hlk Bd.returns (hb hby d8_22) ?_ (by decide) (by decide)
  rw [e2]
  exact ⟨rfl, N2, Kp, E_r, F_modCount_r, F_elementData_r, F_size_r, V_d⟩
def Q_rmA1 (Z : State) (r : Addr) (y : Addr) (mc : Int32) (d : Addr) (kd : ClassId) (y0 : Addr) (h0 : Heap) (n0 : Nat) (v : Option Value) (h : Heap) (L : List Loc) : Prop := v = some (.int 1) ∧ Fr n0 L ∧ Keep h0 h [r, d] ∧ Exa Z h r "java/util/ArrayList" ∧ Fld Z h r "java/util/AbstractList" "modCount" "I" (.int (mc + (1 : Int32))) ∧ Fld Z h r "java/util/ArrayList" "elementData" "[Ljava/lang/Object;" (.ref d) ∧ Fld Z h r "java/util/ArrayList" "size" "I" (.int (2 : Int32)) ∧ Arv Z h d kd (.object "java/lang/Object") (10 : Int32) [(.ref y0), (.ref y), .null, .null, .null, .null, .null, .null, .null, .null] .null
set_option maxRecDepth 65536 in
set_option maxHeartbeats 40000000 in
theorem rmA1 (l : Launch) (Z : State) (a0 : Array Value) (hw : ∀ d ∈ tables_1, d.before a0 Z = true) (ws : List Jvm.Cond) (r : Addr) (y : Addr) (mc : Int32) (d : Addr) (kd : ClassId) (y0 : Addr) (h0 : Heap) (n0 : Nat) (O0 : Old Z n0 h0) (F_modCount_r : Fld Z h0 r "java/util/AbstractList" "modCount" "I" (.int mc)) (F_elementData_r : Fld Z h0 r "java/util/ArrayList" "elementData" "[Ljava/lang/Object;" (.ref d)) (F_size_r : Fld Z h0 r "java/util/ArrayList" "size" "I" (.int (1 : Int32))) (E_r : Exa Z h0 r "java/util/ArrayList") (ge_r : n0 ≤ r) (V_d : Arv Z h0 d kd (.object "java/lang/Object") (10 : Int32) [(.ref y0), .null, .null, .null, .null, .null, .null, .null, .null, .null] .null) (ge_d : n0 ≤ d) (O_d : Ovr Z kd "java/lang/Object") (E_y : Exa Z h0 y "java/lang/String") (hyr : y ≠ r) (hrd : r ≠ d) :
    MetFree l (⟨"java/util/ArrayList", "add", "(Ljava/lang/Object;)Z"⟩ : MethodName) (head1 (Jvm.Cond.code (⟨"java/util/ArrayList", "add", "(Ljava/lang/Object;)Z"⟩ : MethodName) jdk_38_method_25_code 2 (some .boolean) :: ws) ({ frames := 2, cells := 0, slots := 0, locals := 50 } : Room)) (fun ar' U => ar' = #[(.ref r), (.ref y)] ∧ Z.Warmed39 U.vm ∧ U.heap = h0) (fun _ _ _ _ _ => True) (fun _ U o U' => ∃ v L, o = .returned v ∧ (Q_rmA1 Z r y mc d kd y0 h0 n0) v U'.heap L ∧ FrameEnd U o U' L ({ frames := 2, cells := 0, slots := 0, locals := 50 } : Room).cells ({ frames := 2, cells := 0, slots := 0, locals := 50 } : Room).slots) := by
  refine MetFree.of_bodySF (plainFor_of_name pn_java_util_ArrayList) hisR ?_
  intro p e s m args below meth c s₁ Bd hml0 hP hK
  obtain ⟨rfl, hZ, hh⟩ := hP
  have hx := Bd.exec
  have hby := Bd.bytes
  have hlk := BodyLoose.notSynchronized Bd
  have hml : c.maxLocals = 2 := hml0
  have hown : s.vm.findClass "java/util/ArrayList" = some m.cls := findClass_of_methodNamed Bd.named
  have hnm := (name_of_methodNamed Bd.named Bd.method).1
  have X0 : Stand p l e ({ frames := 2, cells := 0, slots := 0, locals := 50 } : Room) s m #[(.ref r), (.ref y)] below meth c s₁ [] 0 0 := Stand.of_body Bd
  have e0 : s₁.heap = h0 := by rw [← hh, Bd.state]; rfl
  have N0 := Fr.nil n0
  have Z0 : n0 ≤ h0.size := O0.1 ▸ O0.2.1
  show OEnds p e below s ({ frames := 2, cells := 0, slots := 0, locals := 50 } : Room).cells ({ frames := 2, cells := 0, slots := 0, locals := 50 } : Room).slots (Q_rmA1 Z r y mc d kd y0 h0 n0) (s₁.setTop (entryFrame m #[(.ref r), (.ref y)] 2))
  refine OEnds.via (fun _ k_ => castTop (show entryFrame m #[(.ref r), (.ref y)] 2 = (mkF m 0 #[.val (.ref r), .val (.ref y)] []) by first | (simp [entryFrame, mkF, argsToLocals, Value.category, maxLocals]; done) | rfl) k_) ?_
  have Od := O0
  have Kp := Keep.refl h0 [r, d]
  show OEnds p e below s _ _ _ (s₁.setTop (mkF m 0 #[.val (.ref r), .val (.ref y)] []))
  refine OEnds.via (fun _ k_ => XS.aloadN X0.here hx rfl (hb hby d7_0) rfl rfl k_) ?_
  show OEnds p e below s _ _ _ (s₁.setTop (mkF m 1 #[.val (.ref r), .val (.ref y)] [(.ref r)]))
  refine OEnds.via (fun _ k_ => XS.dup X0.here hx rfl (hb hby d7_1) rfl rfl k_) ?_
  show OEnds p e below s _ _ _ (s₁.setTop (mkF m 2 #[.val (.ref r), .val (.ref y)] [(.ref r), (.ref r)]))
  obtain ⟨T1, X1, e1, st1⟩ := getF X0 hx hZ hown (host := "") (Or.inl (hw _ (List.mem_of_getElem? (i := 60) rfl))) (Via.of (hw _ (List.mem_of_getElem? (i := 61) rfl))) e0 F_modCount_r (g := (mkF m 2 #[.val (.ref r), .val (.ref y)] [(.ref r), (.ref r)])) rfl rfl (hb hby d7_2)
  refine OEnds.via (fun _ k_ => st1 _ k_) ?_
  show OEnds p e below s _ _ _ (T1.setTop (mkF m 5 #[.val (.ref r), .val (.ref y)] [(.int mc), (.ref r)]))
  refine OEnds.via (fun _ k_ => XS.iconst X1.here hx rfl (hb hby d7_5) k_) ?_
  show OEnds p e below s _ _ _ (T1.setTop (mkF m 6 #[.val (.ref r), .val (.ref y)] [(.int (1 : Int32)), (.int mc), (.ref r)]))
  refine OEnds.via (fun _ k_ => XS.iadd X1.here hx rfl (hb hby d7_6) rfl k_) ?_
  show OEnds p e below s _ _ _ (T1.setTop (mkF m 7 #[.val (.ref r), .val (.ref y)] [(.int (mc + (1 : Int32))), (.ref r)]))
  obtain ⟨T2, h2, X2, e2, W2, st2⟩ := putF X1 hx hZ hown (host := "") (Or.inl (hw _ (List.mem_of_getElem? (i := 60) rfl))) (Via.of (hw _ (List.mem_of_getElem? (i := 61) rfl))) e1 F_modCount_r E_r (Or.inl (hw _ (List.mem_of_getElem? (i := 27) rfl))) (hw _ (List.mem_of_getElem? (i := 6) rfl)) (ty := .int) (by decide) rfl rfl (g := (mkF m 7 #[.val (.ref r), .val (.ref y)] [(.int (mc + (1 : Int32))), (.ref r)])) rfl rfl (hb hby d7_7)
  have N2 := Fr.snoc X2 N0 ge_r
  replace Od := Od.wr W2 ge_r
  replace F_modCount_r := Fld.same W2 F_modCount_r
  replace F_elementData_r := Fld.other W2 F_elementData_r (Or.inr (slot_ne (Or.inl (hw _ (List.mem_of_getElem? (i := 30) rfl))) (Or.inl (hw _ (List.mem_of_getElem? (i := 27) rfl))) (by decide) (t := (.array (.object "java/lang/Object"))) (t' := .int) (by decide) (by decide)))
  replace F_size_r := Fld.other W2 F_size_r (Or.inr (slot_ne (Or.inl (hw _ (List.mem_of_getElem? (i := 63) rfl))) (Or.inl (hw _ (List.mem_of_getElem? (i := 27) rfl))) (by decide) (t := .int) (t' := .int) (by decide) (by decide)))
  replace E_r := Exa.wr W2 E_r
  replace E_y := Exa.wr W2 E_y
  replace V_d := V_d.other W2 (Ne.symm hrd)
  replace Kp := Kp.wr W2 (Or.inl (by simp))
  refine OEnds.via (fun _ k_ => st2 _ k_) ?_
  show OEnds p e below s _ _ _ (T2.setTop (mkF m 10 #[.val (.ref r), .val (.ref y)] []))
  refine OEnds.via (fun _ k_ => XS.aloadN X2.here hx rfl (hb hby d7_10) rfl rfl k_) ?_
  show OEnds p e below s _ _ _ (T2.setTop (mkF m 11 #[.val (.ref r), .val (.ref y)] [(.ref r)]))
  refine OEnds.via (fun _ k_ => XS.aloadN X2.here hx rfl (hb hby d7_11) rfl rfl k_) ?_
  show OEnds p e below s _ _ _ (T2.setTop (mkF m 12 #[.val (.ref r), .val (.ref y)] [(.ref y), (.ref r)]))
  refine OEnds.via (fun _ k_ => XS.aloadN X2.here hx rfl (hb hby d7_12) rfl rfl k_) ?_
  show OEnds p e below s _ _ _ (T2.setTop (mkF m 13 #[.val (.ref r), .val (.ref y)] [(.ref r), (.ref y), (.ref r)]))
  obtain ⟨T3, X3, e3, st3⟩ := getF X2 hx hZ hown (host := "") (Or.inl (hw _ (List.mem_of_getElem? (i := 29) rfl))) Via.refl e2 F_elementData_r (g := (mkF m 13 #[.val (.ref r), .val (.ref y)] [(.ref r), (.ref y), (.ref r)])) rfl rfl (hb hby d7_13)
  refine OEnds.via (fun _ k_ => st3 _ k_) ?_
  show OEnds p e below s _ _ _ (T3.setTop (mkF m 16 #[.val (.ref r), .val (.ref y)] [(.ref d), (.ref y), (.ref r)]))
  refine OEnds.via (fun _ k_ => XS.aloadN X3.here hx rfl (hb hby d7_16) rfl rfl k_) ?_
  show OEnds p e below s _ _ _ (T3.setTop (mkF m 17 #[.val (.ref r), .val (.ref y)] [(.ref r), (.ref d), (.ref y), (.ref r)]))
  obtain ⟨T4, X4, e4, st4⟩ := getF X3 hx hZ hown (host := "") (Or.inl (hw _ (List.mem_of_getElem? (i := 62) rfl))) Via.refl e3 F_size_r (g := (mkF m 17 #[.val (.ref r), .val (.ref y)] [(.ref r), (.ref d), (.ref y), (.ref r)])) rfl rfl (hb hby d7_17)
  refine OEnds.via (fun _ k_ => st4 _ k_) ?_
  show OEnds p e below s _ _ _ (T4.setTop (mkF m 20 #[.val (.ref r), .val (.ref y)] [(.int (1 : Int32)), (.ref d), (.ref y), (.ref r)]))
  obtain ⟨cq5, q5, q5'⟩ := E_r.cell
  obtain ⟨_, _, ⟨T5, L5, k5, n5⟩, -, X5, ⟨Lc5, hQ5, l5, y5, z5⟩, st5⟩ := X4.privateBack hx (y := (⟨"java/util/ArrayList", "add", "(Ljava/lang/Object;[Ljava/lang/Object;I)V"⟩ : MethodName)) hown (mvT hZ (hw _ (List.mem_of_getElem? (i := 64) rfl))) (mvT hZ (hw _ (List.mem_of_getElem? (i := 65) rfl))) (mvT hZ (hw _ (List.mem_of_getElem? (i := 67) rfl))) (Cond.privateMethod_at (mvP hZ (hw _ (List.mem_of_getElem? (i := 66) rfl)) (args := #[]))) (mvT hZ (hw _ (List.mem_of_getElem? (i := 68) rfl))) (by decide) (backOf (W := 0) (rmPn1 l Z a0 hw [] r y (mc + (1 : Int32)) d kd y0 h2 n0 Od F_modCount_r F_elementData_r F_size_r E_r ge_r V_d ge_d O_d E_y hyr hrd) hZ (hw _ (List.mem_of_getElem? (i := 68) rfl)) (hw _ (List.mem_of_getElem? (i := 7) rfl)) (by decide) (by decide)) (g := (mkF m 20 #[.val (.ref r), .val (.ref y)] [(.int (1 : Int32)), (.ref d), (.ref y), (.ref r)])) rfl (by rw [hml]; rfl) (Steps.refl _) (a := r) (by rw [e4]; exact q5) q5' (argsL := [(.ref y), (.ref d), (.int (1 : Int32))]) (rest := []) (lenOf pd_28Ljava2flang2fObject3b5bLjava2flang2fObject3bI29V rfl) rfl (by show 2 * 0 + _ ≤ _; exact Nat.le_of_eq rfl) (hb hby d7_20) (fun _ _ => ⟨rfl, e4, Nat.le_of_ble_eq_true rfl, Nat.le_of_ble_eq_true rfl⟩)
  dsimp only [Pt.U, Pt.locs, Pt.cells, Pt.slots] at X5 l5 y5 z5 st5 hQ5
  subst l5 y5 z5
  obtain ⟨rfl, N5q, K5, G_E, G_mc, G_ed, G_sz, G_V⟩ := hQ5
  have N5 := Fr.app N2 N5q
  replace Kp := Kp.trans K5 (allS (Or.inl (by simp)) (allS (Or.inl (by simp)) all0))
  refine OEnds.via (fun _ k_ => st5.trans k_) ?_
  show OEnds p e below s _ _ _ (T5.setTop (mkF m 23 #[.val (.ref r), .val (.ref y)] []))
  refine OEnds.via (fun _ k_ => XS.iconst X5.here hx rfl (hb hby d7_23) k_) ?_
  show OEnds p e below s _ _ _ (T5.setTop (mkF m 24 #[.val (.ref r), .val (.ref y)] [(.int (1 : Int32))]))
  refine OEnds.retN X5 hx hlk (t := .boolean) Bd.returns (by simp) (hb hby d7_24) ?_ (by decide) (by decide)
  exact ⟨rfl, N5, Kp, G_E, G_mc, G_ed, G_sz, G_V⟩
def Q_rmPn2 (Z : State) (r : Addr) (y : Addr) (mc : Int32) (d : Addr) (kd : ClassId) (y0 : Addr) (y1 : Addr) (h0 : Heap) (n0 : Nat) (v : Option Value) (h : Heap) (L : List Loc) : Prop := v = none ∧ Fr n0 L ∧ Keep h0 h [r, d] ∧ Exa Z h r "java/util/ArrayList" ∧ Fld Z h r "java/util/AbstractList" "modCount" "I" (.int mc) ∧ Fld Z h r "java/util/ArrayList" "elementData" "[Ljava/lang/Object;" (.ref d) ∧ Fld Z h r "java/util/ArrayList" "size" "I" (.int (3 : Int32)) ∧ Arv Z h d kd (.object "java/lang/Object") (10 : Int32) [(.ref y0), (.ref y1), (.ref y), .null, .null, .null, .null, .null, .null, .null] .null
set_option maxRecDepth 65536 in
set_option maxHeartbeats 40000000 in
theorem rmPn2 (l : Launch) (Z : State) (a0 : Array Value) (hw : ∀ d ∈ tables_1, d.before a0 Z = true) (ws : List Jvm.Cond) (r : Addr) (y : Addr) (mc : Int32) (d : Addr) (kd : ClassId) (y0 : Addr) (y1 : Addr) (h0 : Heap) (n0 : Nat) (O0 : Old Z n0 h0) (F_modCount_r : Fld Z h0 r "java/util/AbstractList" "modCount" "I" (.int mc)) (F_elementData_r : Fld Z h0 r "java/util/ArrayList" "elementData" "[Ljava/lang/Object;" (.ref d)) (F_size_r : Fld Z h0 r "java/util/ArrayList" "size" "I" (.int (2 : Int32))) (E_r : Exa Z h0 r "java/util/ArrayList") (ge_r : n0 ≤ r) (V_d : Arv Z h0 d kd (.object "java/lang/Object") (10 : Int32) [(.ref y0), (.ref y1), .null, .null, .null, .null, .null, .null, .null, .null] .null) (ge_d : n0 ≤ d) (O_d : Ovr Z kd "java/lang/Object") (E_y : Exa Z h0 y "java/lang/String") (hyr : y ≠ r) (hrd : r ≠ d) :
    MetFree l (⟨"java/util/ArrayList", "add", "(Ljava/lang/Object;[Ljava/lang/Object;I)V"⟩ : MethodName) (head1 (Jvm.Cond.code (⟨"java/util/ArrayList", "add", "(Ljava/lang/Object;[Ljava/lang/Object;I)V"⟩ : MethodName) jdk_38_method_24_code 4 none :: ws) ({ frames := 1, cells := 0, slots := 0, locals := 20 } : Room)) (fun ar' U => ar' = #[(.ref r), (.ref y), (.ref d), (.int (2 : Int32))] ∧ Z.Warmed39 U.vm ∧ U.heap = h0) (fun _ _ _ _ _ => True) (fun _ U o U' => ∃ v L, o = .returned v ∧ (Q_rmPn2 Z r y mc d kd y0 y1 h0 n0) v U'.heap L ∧ FrameEnd U o U' L ({ frames := 1, cells := 0, slots := 0, locals := 20 } : Room).cells ({ frames := 1, cells := 0, slots := 0, locals := 20 } : Room).slots) := by
  refine MetFree.of_bodySF (plainFor_of_name pn_java_util_ArrayList) hisR ?_
  intro p e s m args below meth c s₁ Bd hml0 hP hK
  obtain ⟨rfl, hZ, hh⟩ := hP
  have hx := Bd.exec
  have hby := Bd.bytes
  have hlk := BodyLoose.notSynchronized Bd
  have hml : c.maxLocals = 4 := hml0
  have hown : s.vm.findClass "java/util/ArrayList" = some m.cls := findClass_of_methodNamed Bd.named
  have hnm := (name_of_methodNamed Bd.named Bd.method).1
  have X0 : Stand p l e ({ frames := 1, cells := 0, slots := 0, locals := 20 } : Room) s m #[(.ref r), (.ref y), (.ref d), (.int (2 : Int32))] below meth c s₁ [] 0 0 := Stand.of_body Bd
  have e0 : s₁.heap = h0 := by rw [← hh, Bd.state]; rfl
  have N0 := Fr.nil n0
  have Z0 : n0 ≤ h0.size := O0.1 ▸ O0.2.1
  show OEnds p e below s ({ frames := 1, cells := 0, slots := 0, locals := 20 } : Room).cells ({ frames := 1, cells := 0, slots := 0, locals := 20 } : Room).slots (Q_rmPn2 Z r y mc d kd y0 y1 h0 n0) (s₁.setTop (entryFrame m #[(.ref r), (.ref y), (.ref d), (.int (2 : Int32))] 4))
  refine OEnds.via (fun _ k_ => castTop (show entryFrame m #[(.ref r), (.ref y), (.ref d), (.int (2 : Int32))] 4 = (mkF m 0 #[.val (.ref r), .val (.ref y), .val (.ref d), .val (.int (2 : Int32))] []) by first | (simp [entryFrame, mkF, argsToLocals, Value.category, maxLocals]; done) | rfl) k_) ?_
  have Od := O0
  have Kp := Keep.refl h0 [r, d]
  have V_d' := V_d
  obtain ⟨cd0, Ad0, qd0, Sd0, Md0, -, -⟩ := V_d'
  show OEnds p e below s _ _ _ (s₁.setTop (mkF m 0 #[.val (.ref r), .val (.ref y), .val (.ref d), .val (.int (2 : Int32))] []))
  refine OEnds.via (fun _ k_ => XS.iloadN X0.here hx rfl (hb hby d8_0) rfl k_) ?_
  show OEnds p e below s _ _ _ (s₁.setTop (mkF m 1 #[.val (.ref r), .val (.ref y), .val (.ref d), .val (.int (2 : Int32))] [(.int (2 : Int32))]))
  refine OEnds.via (fun _ k_ => XS.aloadN X0.here hx rfl (hb hby d8_1) rfl rfl k_) ?_
  show OEnds p e below s _ _ _ (s₁.setTop (mkF m 2 #[.val (.ref r), .val (.ref y), .val (.ref d), .val (.int (2 : Int32))] [(.ref d), (.int (2 : Int32))]))
  refine OEnds.via (fun _ k_ => X0.arraylength hx (by rw [e0]; exact Ad0.1) (State.isArrayOf_alike hZ.alike Ad0.2.1) (g := (mkF m 2 #[.val (.ref r), .val (.ref y), .val (.ref d), .val (.int (2 : Int32))] [(.ref d), (.int (2 : Int32))])) rfl rfl (hb hby d8_2) _ k_) ?_
  rw [len_of Sd0 Md0]
  show OEnds p e below s _ _ _ (s₁.setTop (mkF m 3 #[.val (.ref r), .val (.ref y), .val (.ref d), .val (.int (2 : Int32))] [(.int (10 : Int32)), (.int (2 : Int32))]))
  refine OEnds.via (fun _ k_ => XS.icmpYes X0.here hx rfl (pc0 := 3) (pc' := 11) rfl (hb hby d8_3) rfl (feq (by decide : ¬ ((2 : Int32) = (10 : Int32)))).2 (by decide) (by decide) k_) ?_
  show OEnds p e below s _ _ _ (s₁.setTop (mkF m 11 #[.val (.ref r), .val (.ref y), .val (.ref d), .val (.int (2 : Int32))] []))
  refine OEnds.via (fun _ k_ => XS.aloadN X0.here hx rfl (hb hby d8_11) rfl rfl k_) ?_
  show OEnds p e below s _ _ _ (s₁.setTop (mkF m 12 #[.val (.ref r), .val (.ref y), .val (.ref d), .val (.int (2 : Int32))] [(.ref d)]))
  refine OEnds.via (fun _ k_ => XS.iloadN X0.here hx rfl (hb hby d8_12) rfl k_) ?_
  show OEnds p e below s _ _ _ (s₁.setTop (mkF m 13 #[.val (.ref r), .val (.ref y), .val (.ref d), .val (.int (2 : Int32))] [(.int (2 : Int32)), (.ref d)]))
  refine OEnds.via (fun _ k_ => XS.aloadN X0.here hx rfl (hb hby d8_13) rfl rfl k_) ?_
  show OEnds p e below s _ _ _ (s₁.setTop (mkF m 14 #[.val (.ref r), .val (.ref y), .val (.ref d), .val (.int (2 : Int32))] [(.ref y), (.int (2 : Int32)), (.ref d)]))
  obtain ⟨cl1, Ar1, q1, S1, M1, H1, G1⟩ := V_d
  obtain ⟨T1, h1, X1, e1, W1, st1⟩ := stR X0 hx hZ e0 Ar1 (j := (2 : Int32)) (inb_of S1 ⟨by decide, by decide⟩) rfl (Sto.ofV Ar1 q1 O_d (Ins.of_exa E_y (hw _ (List.mem_of_getElem? (i := 85) rfl)))) (g := (mkF m 14 #[.val (.ref r), .val (.ref y), .val (.ref d), .val (.int (2 : Int32))] [(.ref y), (.int (2 : Int32)), (.ref d)])) rfl rfl (hb hby d8_14)
  have V_d : Arv Z h1 d kd (.object "java/lang/Object") (10 : Int32) [(.ref y0), (.ref y1), (.ref y), .null, .null, .null, .null, .null, .null, .null] .null := Arv.set Ar1 q1 S1 M1 H1 G1 rfl W1 2 rfl (Nat.le_of_ble_eq_true rfl)
  have N1 := Fr.snoc X1 N0 ge_d
  replace Od := Od.wr W1 ge_d
  replace F_modCount_r := Fld.other W1 F_modCount_r (Or.inl hrd)
  replace F_elementData_r := Fld.other W1 F_elementData_r (Or.inl hrd)
  replace F_size_r := Fld.other W1 F_size_r (Or.inl hrd)
  replace E_r := Exa.wr W1 E_r
  replace E_y := Exa.wr W1 E_y
  replace Kp := Kp.wr W1 (Or.inl (by simp))
  refine OEnds.via (fun _ k_ => st1 _ k_) ?_
  show OEnds p e below s _ _ _ (T1.setTop (mkF m 15 #[.val (.ref r), .val (.ref y), .val (.ref d), .val (.int (2 : Int32))] []))
  refine OEnds.via (fun _ k_ => XS.aloadN X1.here hx rfl (hb hby d8_15) rfl rfl k_) ?_
  show OEnds p e below s _ _ _ (T1.setTop (mkF m 16 #[.val (.ref r), .val (.ref y), .val (.ref d), .val (.int (2 : Int32))] [(.ref r)]))
  refine OEnds.via (fun _ k_ => XS.iloadN X1.here hx rfl (hb hby d8_16) rfl k_) ?_
  show OEnds p e below s _ _ _ (T1.setTop (mkF m 17 #[.val (.ref r), .val (.ref y), .val (.ref d), .val (.int (2 : Int32))] [(.int (2 : Int32)), (.ref r)]))
  refine OEnds.via (fun _ k_ => XS.iconst X1.here hx rfl (hb hby d8_17) k_) ?_
  show OEnds p e below s _ _ _ (T1.setTop (mkF m 18 #[.val (.ref r), .val (.ref y), .val (.ref d), .val (.int (2 : Int32))] [(.int (1 : Int32)), (.int (2 : Int32)), (.ref r)]))
  refine OEnds.via (fun _ k_ => XS.iadd X1.here hx rfl (hb hby d8_18) rfl k_) ?_
  show OEnds p e below s _ _ _ (T1.setTop (mkF m 19 #[.val (.ref r), .val (.ref y), .val (.ref d), .val (.int (2 : Int32))] [(.int (3 : Int32)), (.ref r)]))
  obtain ⟨T2, h2, X2, e2, W2, st2⟩ := putF X1 hx hZ hown (host := "") (Or.inl (hw _ (List.mem_of_getElem? (i := 62) rfl))) Via.refl e1 F_size_r E_r (Or.inl (hw _ (List.mem_of_getElem? (i := 63) rfl))) (hw _ (List.mem_of_getElem? (i := 6) rfl)) (ty := .int) (by decide) rfl rfl (g := (mkF m 19 #[.val (.ref r), .val (.ref y), .val (.ref d), .val (.int (2 : Int32))] [(.int (3 : Int32)), (.ref r)])) rfl rfl (hb hby d8_19)
  have N2 := Fr.snoc X2 N1 ge_r
  replace Od := Od.wr W2 ge_r
  replace F_modCount_r := Fld.other W2 F_modCount_r (Or.inr (slot_ne (Or.inl (hw _ (List.mem_of_getElem? (i := 27) rfl))) (Or.inl (hw _ (List.mem_of_getElem? (i := 63) rfl))) (by decide) (t := .int) (t' := .int) (by decide) (by decide)))
  replace F_elementData_r := Fld.other W2 F_elementData_r (Or.inr (slot_ne (Or.inl (hw _ (List.mem_of_getElem? (i := 30) rfl))) (Or.inl (hw _ (List.mem_of_getElem? (i := 63) rfl))) (by decide) (t := (.array (.object "java/lang/Object"))) (t' := .int) (by decide) (by decide)))
  replace F_size_r := Fld.same W2 F_size_r
  replace E_r := Exa.wr W2 E_r
  replace E_y := Exa.wr W2 E_y
  replace Kp := Kp.wr W2 (Or.inl (by simp))
  replace V_d := V_d.other W2 (Ne.symm hrd)
  refine OEnds.via (fun _ k_ => st2 _ k_) ?_
  show OEnds p e below s _ _ _ (T2.setTop (mkF m 22 #[.val (.ref r), .val (.ref y), .val (.ref d), .val (.int (2 : Int32))] []))
  refine OEnds.retV X2 hx hlk Bd.returns (hb hby d8_22) ?_ (by decide) (by decide)
  rw [e2]
  exact ⟨rfl, N2, Kp, E_r, F_modCount_r, F_elementData_r, F_size_r, V_d⟩
def Q_rmA2 (Z : State) (r : Addr) (y : Addr) (mc : Int32) (d : Addr) (kd : ClassId) (y0 : Addr) (y1 : Addr) (h0 : Heap) (n0 : Nat) (v : Option Value) (h : Heap) (L : List Loc) : Prop := v = some (.int 1) ∧ Fr n0 L ∧ Keep h0 h [r, d] ∧ Exa Z h r "java/util/ArrayList" ∧ Fld Z h r "java/util/AbstractList" "modCount" "I" (.int (mc + (1 : Int32))) ∧ Fld Z h r "java/util/ArrayList" "elementData" "[Ljava/lang/Object;" (.ref d) ∧ Fld Z h r "java/util/ArrayList" "size" "I" (.int (3 : Int32)) ∧ Arv Z h d kd (.object "java/lang/Object") (10 : Int32) [(.ref y0), (.ref y1), (.ref y), .null, .null, .null, .null, .null, .null, .null] .null
set_option maxRecDepth 65536 in
set_option maxHeartbeats 40000000 in
theorem rmA2 (l : Launch) (Z : State) (a0 : Array Value) (hw : ∀ d ∈ tables_1, d.before a0 Z = true) (ws : List Jvm.Cond) (r : Addr) (y : Addr) (mc : Int32) (d : Addr) (kd : ClassId) (y0 : Addr) (y1 : Addr) (h0 : Heap) (n0 : Nat) (O0 : Old Z n0 h0) (F_modCount_r : Fld Z h0 r "java/util/AbstractList" "modCount" "I" (.int mc)) (F_elementData_r : Fld Z h0 r "java/util/ArrayList" "elementData" "[Ljava/lang/Object;" (.ref d)) (F_size_r : Fld Z h0 r "java/util/ArrayList" "size" "I" (.int (2 : Int32))) (E_r : Exa Z h0 r "java/util/ArrayList") (ge_r : n0 ≤ r) (V_d : Arv Z h0 d kd (.object "java/lang/Object") (10 : Int32) [(.ref y0), (.ref y1), .null, .null, .null, .null, .null, .null, .null, .null] .null) (ge_d : n0 ≤ d) (O_d : Ovr Z kd "java/lang/Object") (E_y : Exa Z h0 y "java/lang/String") (hyr : y ≠ r) (hrd : r ≠ d) :
    MetFree l (⟨"java/util/ArrayList", "add", "(Ljava/lang/Object;)Z"⟩ : MethodName) (head1 (Jvm.Cond.code (⟨"java/util/ArrayList", "add", "(Ljava/lang/Object;)Z"⟩ : MethodName) jdk_38_method_25_code 2 (some .boolean) :: ws) ({ frames := 2, cells := 0, slots := 0, locals := 50 } : Room)) (fun ar' U => ar' = #[(.ref r), (.ref y)] ∧ Z.Warmed39 U.vm ∧ U.heap = h0) (fun _ _ _ _ _ => True) (fun _ U o U' => ∃ v L, o = .returned v ∧ (Q_rmA2 Z r y mc d kd y0 y1 h0 n0) v U'.heap L ∧ FrameEnd U o U' L ({ frames := 2, cells := 0, slots := 0, locals := 50 } : Room).cells ({ frames := 2, cells := 0, slots := 0, locals := 50 } : Room).slots) := by
  refine MetFree.of_bodySF (plainFor_of_name pn_java_util_ArrayList) hisR ?_
  intro p e s m args below meth c s₁ Bd hml0 hP hK
  obtain ⟨rfl, hZ, hh⟩ := hP
  have hx := Bd.exec
  have hby := Bd.bytes
  have hlk := BodyLoose.notSynchronized Bd
  have hml : c.maxLocals = 2 := hml0
  have hown : s.vm.findClass "java/util/ArrayList" = some m.cls := findClass_of_methodNamed Bd.named
  have hnm := (name_of_methodNamed Bd.named Bd.method).1
  have X0 : Stand p l e ({ frames := 2, cells := 0, slots := 0, locals := 50 } : Room) s m #[(.ref r), (.ref y)] below meth c s₁ [] 0 0 := Stand.of_body Bd
  have e0 : s₁.heap = h0 := by rw [← hh, Bd.state]; rfl
  have N0 := Fr.nil n0
  have Z0 : n0 ≤ h0.size := O0.1 ▸ O0.2.1
  show OEnds p e below s ({ frames := 2, cells := 0, slots := 0, locals := 50 } : Room).cells ({ frames := 2, cells := 0, slots := 0, locals := 50 } : Room).slots (Q_rmA2 Z r y mc d kd y0 y1 h0 n0) (s₁.setTop (entryFrame m #[(.ref r), (.ref y)] 2))
  refine OEnds.via (fun _ k_ => castTop (show entryFrame m #[(.ref r), (.ref y)] 2 = (mkF m 0 #[.val (.ref r), .val (.ref y)] []) by first | (simp [entryFrame, mkF, argsToLocals, Value.category, maxLocals]; done) | rfl) k_) ?_
  have Od := O0
  have Kp := Keep.refl h0 [r, d]
  show OEnds p e below s _ _ _ (s₁.setTop (mkF m 0 #[.val (.ref r), .val (.ref y)] []))
  refine OEnds.via (fun _ k_ => XS.aloadN X0.here hx rfl (hb hby d7_0) rfl rfl k_) ?_
  show OEnds p e below s _ _ _ (s₁.setTop (mkF m 1 #[.val (.ref r), .val (.ref y)] [(.ref r)]))
  refine OEnds.via (fun _ k_ => XS.dup X0.here hx rfl (hb hby d7_1) rfl rfl k_) ?_
  show OEnds p e below s _ _ _ (s₁.setTop (mkF m 2 #[.val (.ref r), .val (.ref y)] [(.ref r), (.ref r)]))
  obtain ⟨T1, X1, e1, st1⟩ := getF X0 hx hZ hown (host := "") (Or.inl (hw _ (List.mem_of_getElem? (i := 60) rfl))) (Via.of (hw _ (List.mem_of_getElem? (i := 61) rfl))) e0 F_modCount_r (g := (mkF m 2 #[.val (.ref r), .val (.ref y)] [(.ref r), (.ref r)])) rfl rfl (hb hby d7_2)
  refine OEnds.via (fun _ k_ => st1 _ k_) ?_
  show OEnds p e below s _ _ _ (T1.setTop (mkF m 5 #[.val (.ref r), .val (.ref y)] [(.int mc), (.ref r)]))
  refine OEnds.via (fun _ k_ => XS.iconst X1.here hx rfl (hb hby d7_5) k_) ?_
  show OEnds p e below s _ _ _ (T1.setTop (mkF m 6 #[.val (.ref r), .val (.ref y)] [(.int (1 : Int32)), (.int mc), (.ref r)]))
  refine OEnds.via (fun _ k_ => XS.iadd X1.here hx rfl (hb hby d7_6) rfl k_) ?_
  show OEnds p e below s _ _ _ (T1.setTop (mkF m 7 #[.val (.ref r), .val (.ref y)] [(.int (mc + (1 : Int32))), (.ref r)]))
  obtain ⟨T2, h2, X2, e2, W2, st2⟩ := putF X1 hx hZ hown (host := "") (Or.inl (hw _ (List.mem_of_getElem? (i := 60) rfl))) (Via.of (hw _ (List.mem_of_getElem? (i := 61) rfl))) e1 F_modCount_r E_r (Or.inl (hw _ (List.mem_of_getElem? (i := 27) rfl))) (hw _ (List.mem_of_getElem? (i := 6) rfl)) (ty := .int) (by decide) rfl rfl (g := (mkF m 7 #[.val (.ref r), .val (.ref y)] [(.int (mc + (1 : Int32))), (.ref r)])) rfl rfl (hb hby d7_7)
  have N2 := Fr.snoc X2 N0 ge_r
  replace Od := Od.wr W2 ge_r
  replace F_modCount_r := Fld.same W2 F_modCount_r
  replace F_elementData_r := Fld.other W2 F_elementData_r (Or.inr (slot_ne (Or.inl (hw _ (List.mem_of_getElem? (i := 30) rfl))) (Or.inl (hw _ (List.mem_of_getElem? (i := 27) rfl))) (by decide) (t := (.array (.object "java/lang/Object"))) (t' := .int) (by decide) (by decide)))
  replace F_size_r := Fld.other W2 F_size_r (Or.inr (slot_ne (Or.inl (hw _ (List.mem_of_getElem? (i := 63) rfl))) (Or.inl (hw _ (List.mem_of_getElem? (i := 27) rfl))) (by decide) (t := .int) (t' := .int) (by decide) (by decide)))
  replace E_r := Exa.wr W2 E_r
  replace E_y := Exa.wr W2 E_y
  replace V_d := V_d.other W2 (Ne.symm hrd)
  replace Kp := Kp.wr W2 (Or.inl (by simp))
  refine OEnds.via (fun _ k_ => st2 _ k_) ?_
  show OEnds p e below s _ _ _ (T2.setTop (mkF m 10 #[.val (.ref r), .val (.ref y)] []))
  refine OEnds.via (fun _ k_ => XS.aloadN X2.here hx rfl (hb hby d7_10) rfl rfl k_) ?_
  show OEnds p e below s _ _ _ (T2.setTop (mkF m 11 #[.val (.ref r), .val (.ref y)] [(.ref r)]))
  refine OEnds.via (fun _ k_ => XS.aloadN X2.here hx rfl (hb hby d7_11) rfl rfl k_) ?_
  show OEnds p e below s _ _ _ (T2.setTop (mkF m 12 #[.val (.ref r), .val (.ref y)] [(.ref y), (.ref r)]))
  refine OEnds.via (fun _ k_ => XS.aloadN X2.here hx rfl (hb hby d7_12) rfl rfl k_) ?_
  show OEnds p e below s _ _ _ (T2.setTop (mkF m 13 #[.val (.ref r), .val (.ref y)] [(.ref r), (.ref y), (.ref r)]))
  obtain ⟨T3, X3, e3, st3⟩ := getF X2 hx hZ hown (host := "") (Or.inl (hw _ (List.mem_of_getElem? (i := 29) rfl))) Via.refl e2 F_elementData_r (g := (mkF m 13 #[.val (.ref r), .val (.ref y)] [(.ref r), (.ref y), (.ref r)])) rfl rfl (hb hby d7_13)
  refine OEnds.via (fun _ k_ => st3 _ k_) ?_
  show OEnds p e below s _ _ _ (T3.setTop (mkF m 16 #[.val (.ref r), .val (.ref y)] [(.ref d), (.ref y), (.ref r)]))
  refine OEnds.via (fun _ k_ => XS.aloadN X3.here hx rfl (hb hby d7_16) rfl rfl k_) ?_
  show OEnds p e below s _ _ _ (T3.setTop (mkF m 17 #[.val (.ref r), .val (.ref y)] [(.ref r), (.ref d), (.ref y), (.ref r)]))
  obtain ⟨T4, X4, e4, st4⟩ := getF X3 hx hZ hown (host := "") (Or.inl (hw _ (List.mem_of_getElem? (i := 62) rfl))) Via.refl e3 F_size_r (g := (mkF m 17 #[.val (.ref r), .val (.ref y)] [(.ref r), (.ref d), (.ref y), (.ref r)])) rfl rfl (hb hby d7_17)
  refine OEnds.via (fun _ k_ => st4 _ k_) ?_
  show OEnds p e below s _ _ _ (T4.setTop (mkF m 20 #[.val (.ref r), .val (.ref y)] [(.int (2 : Int32)), (.ref d), (.ref y), (.ref r)]))
  obtain ⟨cq5, q5, q5'⟩ := E_r.cell
  obtain ⟨_, _, ⟨T5, L5, k5, n5⟩, -, X5, ⟨Lc5, hQ5, l5, y5, z5⟩, st5⟩ := X4.privateBack hx (y := (⟨"java/util/ArrayList", "add", "(Ljava/lang/Object;[Ljava/lang/Object;I)V"⟩ : MethodName)) hown (mvT hZ (hw _ (List.mem_of_getElem? (i := 64) rfl))) (mvT hZ (hw _ (List.mem_of_getElem? (i := 65) rfl))) (mvT hZ (hw _ (List.mem_of_getElem? (i := 67) rfl))) (Cond.privateMethod_at (mvP hZ (hw _ (List.mem_of_getElem? (i := 66) rfl)) (args := #[]))) (mvT hZ (hw _ (List.mem_of_getElem? (i := 68) rfl))) (by decide) (backOf (W := 0) (rmPn2 l Z a0 hw [] r y (mc + (1 : Int32)) d kd y0 y1 h2 n0 Od F_modCount_r F_elementData_r F_size_r E_r ge_r V_d ge_d O_d E_y hyr hrd) hZ (hw _ (List.mem_of_getElem? (i := 68) rfl)) (hw _ (List.mem_of_getElem? (i := 7) rfl)) (by decide) (by decide)) (g := (mkF m 20 #[.val (.ref r), .val (.ref y)] [(.int (2 : Int32)), (.ref d), (.ref y), (.ref r)])) rfl (by rw [hml]; rfl) (Steps.refl _) (a := r) (by rw [e4]; exact q5) q5' (argsL := [(.ref y), (.ref d), (.int (2 : Int32))]) (rest := []) (lenOf pd_28Ljava2flang2fObject3b5bLjava2flang2fObject3bI29V rfl) rfl (by show 2 * 0 + _ ≤ _; exact Nat.le_of_eq rfl) (hb hby d7_20) (fun _ _ => ⟨rfl, e4, Nat.le_of_ble_eq_true rfl, Nat.le_of_ble_eq_true rfl⟩)
  dsimp only [Pt.U, Pt.locs, Pt.cells, Pt.slots] at X5 l5 y5 z5 st5 hQ5
  subst l5 y5 z5
  obtain ⟨rfl, N5q, K5, G_E, G_mc, G_ed, G_sz, G_V⟩ := hQ5
  have N5 := Fr.app N2 N5q
  replace Kp := Kp.trans K5 (allS (Or.inl (by simp)) (allS (Or.inl (by simp)) all0))
  refine OEnds.via (fun _ k_ => st5.trans k_) ?_
  show OEnds p e below s _ _ _ (T5.setTop (mkF m 23 #[.val (.ref r), .val (.ref y)] []))
  refine OEnds.via (fun _ k_ => XS.iconst X5.here hx rfl (hb hby d7_23) k_) ?_
  show OEnds p e below s _ _ _ (T5.setTop (mkF m 24 #[.val (.ref r), .val (.ref y)] [(.int (1 : Int32))]))
  refine OEnds.retN X5 hx hlk (t := .boolean) Bd.returns (by simp) (hb hby d7_24) ?_ (by decide) (by decide)
  exact ⟨rfl, N5, Kp, G_E, G_mc, G_ed, G_sz, G_V⟩
theorem d12_0 : decode jdk_38_method_8_code 0 = .ok (.aload_n 0, 1) := by decide +kernel
theorem d12_1 : decode jdk_38_method_8_code 1 = .ok (.getfield 48, 3) := by decide +kernel
theorem d12_4 : decode jdk_38_method_8_code 4 = .ok (.ireturn, 1) := by decide +kernel
set_option maxRecDepth 65536 in
set_option maxHeartbeats 40000000 in
theorem rmSize (l : Launch) (Z : State) (a0 : Array Value) (hw : ∀ d ∈ tables_1, d.before a0 Z = true) (ws : List Jvm.Cond) (r : Addr) (k : Int32) (h0 : Heap) (n0 : Nat) (O0 : Old Z n0 h0) (F : Fld Z h0 r "java/util/ArrayList" "size" "I" (.int k)) :
    MetFree l (⟨"java/util/ArrayList", "size", "()I"⟩ : MethodName) (head1 (Jvm.Cond.code (⟨"java/util/ArrayList", "size", "()I"⟩ : MethodName) jdk_38_method_8_code 1 (some .int) :: ws) ({ frames := 0, cells := 0, slots := 0, locals := 0 } : Room)) (fun ar' U => ar' = #[(.ref r)] ∧ Z.Warmed39 U.vm ∧ U.heap = h0) (fun _ _ _ _ _ => True) (fun _ U o U' => ∃ v L, o = .returned v ∧ (QA (some (.int k)) h0 n0) v U'.heap L ∧ FrameEnd U o U' L ({ frames := 0, cells := 0, slots := 0, locals := 0 } : Room).cells ({ frames := 0, cells := 0, slots := 0, locals := 0 } : Room).slots) := by
  refine MetFree.of_bodySF (plainFor_of_name pn_java_util_ArrayList) hisR ?_
  intro p e s m args below meth c s₁ Bd hml0 hP hK
  obtain ⟨rfl, hZ, hh⟩ := hP
  have hx := Bd.exec
  have hby := Bd.bytes
  have hlk := BodyLoose.notSynchronized Bd
  have hml : c.maxLocals = 1 := hml0
  have hown : s.vm.findClass "java/util/ArrayList" = some m.cls := findClass_of_methodNamed Bd.named
  have hnm := (name_of_methodNamed Bd.named Bd.method).1
  have X0 : Stand p l e ({ frames := 0, cells := 0, slots := 0, locals := 0 } : Room) s m #[(.ref r)] below meth c s₁ [] 0 0 := Stand.of_body Bd
  have e0 : s₁.heap = h0 := by rw [← hh, Bd.state]; rfl
  have N0 := Fr.nil n0
  have Z0 : n0 ≤ h0.size := O0.1 ▸ O0.2.1
  show OEnds p e below s ({ frames := 0, cells := 0, slots := 0, locals := 0 } : Room).cells ({ frames := 0, cells := 0, slots := 0, locals := 0 } : Room).slots (QA (some (.int k)) h0 n0) (s₁.setTop (entryFrame m #[(.ref r)] 1))
  refine OEnds.via (fun _ k_ => castTop (show entryFrame m #[(.ref r)] 1 = (mkF m 0 #[.val (.ref r)] []) by first | (simp [entryFrame, mkF, argsToLocals, Value.category, maxLocals]; done) | rfl) k_) ?_
  refine OEnds.via (fun _ k_ => XS.aloadN X0.here hx rfl (hb hby d12_0) rfl rfl k_) ?_
  show OEnds p e below s _ _ _ (s₁.setTop (mkF m 1 #[.val (.ref r)] [(.ref r)]))
  obtain ⟨T1, X1, e1, st1⟩ := getF X0 hx hZ hown (host := "") (Or.inl (hw _ (List.mem_of_getElem? (i := 62) rfl))) Via.refl e0 F (g := (mkF m 1 #[.val (.ref r)] [(.ref r)])) rfl rfl (hb hby d12_1)
  refine OEnds.via (fun _ k_ => st1 _ k_) ?_
  show OEnds p e below s _ _ _ (T1.setTop (mkF m 4 #[.val (.ref r)] [(.int k)]))
  refine OEnds.retI X1 hx hlk Bd.returns (hb hby d12_4) ?_ (by decide) (by decide)
  exact ⟨rfl, N0, e1⟩
theorem d15_0 : decode jdk_41_method_11_code 0 = .ok (.iload_n 0, 1) := by decide +kernel
theorem d15_1 : decode jdk_41_method_11_code 1 = .ok (.ifCond .lt 8, 3) := by decide +kernel
theorem d15_4 : decode jdk_41_method_11_code 4 = .ok (.iload_n 0, 1) := by decide +kernel
theorem d15_5 : decode jdk_41_method_11_code 5 = .ok (.iload_n 1, 1) := by decide +kernel
theorem d15_6 : decode jdk_41_method_11_code 6 = .ok (.if_icmp .lt 10, 3) := by decide +kernel
theorem d15_9 : decode jdk_41_method_11_code 9 = .ok (.aload_n 2, 1) := by decide +kernel
theorem d15_10 : decode jdk_41_method_11_code 10 = .ok (.iload_n 0, 1) := by decide +kernel
theorem d15_11 : decode jdk_41_method_11_code 11 = .ok (.iload_n 1, 1) := by decide +kernel
theorem d15_12 : decode jdk_41_method_11_code 12 = .ok (.invokestatic 95, 3) := by decide +kernel
theorem d15_15 : decode jdk_41_method_11_code 15 = .ok (.athrow, 1) := by decide +kernel
theorem d15_16 : decode jdk_41_method_11_code 16 = .ok (.iload_n 0, 1) := by decide +kernel
theorem d15_17 : decode jdk_41_method_11_code 17 = .ok (.ireturn, 1) := by decide +kernel
theorem pn_jdk_internal_util_Preconditions : plainName "jdk/internal/util/Preconditions" = true := by first | (simp [plainName, overriddenIn]; done) | decide +kernel
set_option maxRecDepth 65536 in
set_option maxHeartbeats 40000000 in
theorem rmCI (l : Launch) (Z : State) (a0 : Array Value) (hw : ∀ d ∈ tables_1, d.before a0 Z = true) (ws : List Jvm.Cond) (i : Int32) (k : Int32) (h0 : Heap) (n0 : Nat) (O0 : Old Z n0 h0) (h1 : ¬ i < (0 : Int32)) (h2 : i < k) :
    MetFree l (⟨"jdk/internal/util/Preconditions", "checkIndex", "(IILjava/util/function/BiFunction;)I"⟩ : MethodName) (head1 (Jvm.Cond.code (⟨"jdk/internal/util/Preconditions", "checkIndex", "(IILjava/util/function/BiFunction;)I"⟩ : MethodName) jdk_41_method_11_code 3 (some .int) :: ws) ({ frames := 0, cells := 0, slots := 0, locals := 0 } : Room)) (fun ar' U => ar' = #[(.int i), (.int k), .null] ∧ Z.Warmed39 U.vm ∧ U.heap = h0) (fun _ _ _ _ _ => True) (fun _ U o U' => ∃ v L, o = .returned v ∧ (QA (some (.int i)) h0 n0) v U'.heap L ∧ FrameEnd U o U' L ({ frames := 0, cells := 0, slots := 0, locals := 0 } : Room).cells ({ frames := 0, cells := 0, slots := 0, locals := 0 } : Room).slots) := by
  refine MetFree.of_bodySF (plainFor_of_name pn_jdk_internal_util_Preconditions) hisR ?_
  intro p e s m args below meth c s₁ Bd hml0 hP hK
  obtain ⟨rfl, hZ, hh⟩ := hP
  have hx := Bd.exec
  have hby := Bd.bytes
  have hlk := BodyLoose.notSynchronized Bd
  have hml : c.maxLocals = 3 := hml0
  have hown : s.vm.findClass "jdk/internal/util/Preconditions" = some m.cls := findClass_of_methodNamed Bd.named
  have hnm := (name_of_methodNamed Bd.named Bd.method).1
  have X0 : Stand p l e ({ frames := 0, cells := 0, slots := 0, locals := 0 } : Room) s m #[(.int i), (.int k), .null] below meth c s₁ [] 0 0 := Stand.of_body Bd
  have e0 : s₁.heap = h0 := by rw [← hh, Bd.state]; rfl
  have N0 := Fr.nil n0
  have Z0 : n0 ≤ h0.size := O0.1 ▸ O0.2.1
  show OEnds p e below s ({ frames := 0, cells := 0, slots := 0, locals := 0 } : Room).cells ({ frames := 0, cells := 0, slots := 0, locals := 0 } : Room).slots (QA (some (.int i)) h0 n0) (s₁.setTop (entryFrame m #[(.int i), (.int k), .null] 3))
  refine OEnds.via (fun _ k_ => castTop (show entryFrame m #[(.int i), (.int k), .null] 3 = (mkF m 0 #[.val (.int i), .val (.int k), .val .null] []) by first | (simp [entryFrame, mkF, argsToLocals, Value.category, maxLocals]; done) | rfl) k_) ?_
  refine OEnds.via (fun _ k_ => XS.iloadN X0.here hx rfl (hb hby d15_0) rfl k_) ?_
  show OEnds p e below s _ _ _ (s₁.setTop (mkF m 1 #[.val (.int i), .val (.int k), .val .null] [(.int i)]))
  refine OEnds.via (fun _ k_ => XS.ifNo X0.here hx rfl (hb hby d15_1) rfl ((if0 _ _).trans (flt h1).1) k_) ?_
  show OEnds p e below s _ _ _ (s₁.setTop (mkF m 4 #[.val (.int i), .val (.int k), .val .null] []))
  refine OEnds.via (fun _ k_ => XS.iloadN X0.here hx rfl (hb hby d15_4) rfl k_) ?_
  show OEnds p e below s _ _ _ (s₁.setTop (mkF m 5 #[.val (.int i), .val (.int k), .val .null] [(.int i)]))
  refine OEnds.via (fun _ k_ => XS.iloadN X0.here hx rfl (hb hby d15_5) rfl k_) ?_
  show OEnds p e below s _ _ _ (s₁.setTop (mkF m 6 #[.val (.int i), .val (.int k), .val .null] [(.int k), (.int i)]))
  refine OEnds.via (fun _ k_ => XS.icmpYes X0.here hx rfl (pc0 := 6) (pc' := 16) rfl (hb hby d15_6) rfl (tlt h2).1 (by decide) (by decide) k_) ?_
  show OEnds p e below s _ _ _ (s₁.setTop (mkF m 16 #[.val (.int i), .val (.int k), .val .null] []))
  refine OEnds.via (fun _ k_ => XS.iloadN X0.here hx rfl (hb hby d15_16) rfl k_) ?_
  show OEnds p e below s _ _ _ (s₁.setTop (mkF m 17 #[.val (.int i), .val (.int k), .val .null] [(.int i)]))
  refine OEnds.retI X0 hx hlk Bd.returns (hb hby d15_17) ?_ (by decide) (by decide)
  exact ⟨rfl, N0, e0⟩
theorem d14_0 : decode jdk_31_method_17_code 0 = .ok (.iload_n 0, 1) := by decide +kernel
theorem d14_1 : decode jdk_31_method_17_code 1 = .ok (.iload_n 1, 1) := by decide +kernel
theorem d14_2 : decode jdk_31_method_17_code 2 = .ok (.aconst_null, 1) := by decide +kernel
theorem d14_3 : decode jdk_31_method_17_code 3 = .ok (.invokestatic 105, 3) := by decide +kernel
theorem d14_6 : decode jdk_31_method_17_code 6 = .ok (.ireturn, 1) := by decide +kernel
theorem pn_java_util_Objects : plainName "java/util/Objects" = true := by first | (simp [plainName, overriddenIn]; done) | decide +kernel
theorem pd_28IILjava2futil2ffunction2fBiFunction3b29I : parseMethodDescriptor "(IILjava/util/function/BiFunction;)I" = some ⟨[.int, .int, (.object "java/util/function/BiFunction")], some .int⟩ := by decide +kernel
set_option maxRecDepth 65536 in
set_option maxHeartbeats 40000000 in
theorem rmOI (l : Launch) (Z : State) (a0 : Array Value) (hw : ∀ d ∈ tables_1, d.before a0 Z = true) (ws : List Jvm.Cond) (i : Int32) (k : Int32) (h0 : Heap) (n0 : Nat) (O0 : Old Z n0 h0) (h1 : ¬ i < (0 : Int32)) (h2 : i < k) :
    MetFree l (⟨"java/util/Objects", "checkIndex", "(II)I"⟩ : MethodName) (head1 (Jvm.Cond.code (⟨"java/util/Objects", "checkIndex", "(II)I"⟩ : MethodName) jdk_31_method_17_code 2 (some .int) :: ws) ({ frames := 1, cells := 0, slots := 0, locals := 20 } : Room)) (fun ar' U => ar' = #[(.int i), (.int k)] ∧ Z.Warmed39 U.vm ∧ U.heap = h0) (fun _ _ _ _ _ => True) (fun _ U o U' => ∃ v L, o = .returned v ∧ (QA (some (.int i)) h0 n0) v U'.heap L ∧ FrameEnd U o U' L ({ frames := 1, cells := 0, slots := 0, locals := 20 } : Room).cells ({ frames := 1, cells := 0, slots := 0, locals := 20 } : Room).slots) := by
  refine MetFree.of_bodySF (plainFor_of_name pn_java_util_Objects) hisR ?_
  intro p e s m args below meth c s₁ Bd hml0 hP hK
  obtain ⟨rfl, hZ, hh⟩ := hP
  have hx := Bd.exec
  have hby := Bd.bytes
  have hlk := BodyLoose.notSynchronized Bd
  have hml : c.maxLocals = 2 := hml0
  have hown : s.vm.findClass "java/util/Objects" = some m.cls := findClass_of_methodNamed Bd.named
  have hnm := (name_of_methodNamed Bd.named Bd.method).1
  have X0 : Stand p l e ({ frames := 1, cells := 0, slots := 0, locals := 20 } : Room) s m #[(.int i), (.int k)] below meth c s₁ [] 0 0 := Stand.of_body Bd
  have e0 : s₁.heap = h0 := by rw [← hh, Bd.state]; rfl
  have N0 := Fr.nil n0
  have Z0 : n0 ≤ h0.size := O0.1 ▸ O0.2.1
  show OEnds p e below s ({ frames := 1, cells := 0, slots := 0, locals := 20 } : Room).cells ({ frames := 1, cells := 0, slots := 0, locals := 20 } : Room).slots (QA (some (.int i)) h0 n0) (s₁.setTop (entryFrame m #[(.int i), (.int k)] 2))
  refine OEnds.via (fun _ k_ => castTop (show entryFrame m #[(.int i), (.int k)] 2 = (mkF m 0 #[.val (.int i), .val (.int k)] []) by first | (simp [entryFrame, mkF, argsToLocals, Value.category, maxLocals]; done) | rfl) k_) ?_
  refine OEnds.via (fun _ k_ => XS.iloadN X0.here hx rfl (hb hby d14_0) rfl k_) ?_
  show OEnds p e below s _ _ _ (s₁.setTop (mkF m 1 #[.val (.int i), .val (.int k)] [(.int i)]))
  refine OEnds.via (fun _ k_ => XS.iloadN X0.here hx rfl (hb hby d14_1) rfl k_) ?_
  show OEnds p e below s _ _ _ (s₁.setTop (mkF m 2 #[.val (.int i), .val (.int k)] [(.int k), (.int i)]))
  refine OEnds.via (fun _ k_ => XS.aconstNull X0.here hx rfl (hb hby d14_2) k_) ?_
  show OEnds p e below s _ _ _ (s₁.setTop (mkF m 3 #[.val (.int i), .val (.int k)] [.null, (.int k), (.int i)]))
  obtain ⟨_, _, ⟨T1, L1, k1, n1⟩, -, X1, ⟨Lc1, hQ1, l1, y1, z1⟩, st1⟩ := Jvm.LawKit.callS X0 hx (y := (⟨"jdk/internal/util/Preconditions", "checkIndex", "(IILjava/util/function/BiFunction;)I"⟩ : MethodName)) hown (mvT hZ (hw _ (List.mem_of_getElem? (i := 115) rfl))) (mvT hZ (hw _ (List.mem_of_getElem? (i := 116) rfl))) (mvT hZ (hw _ (List.mem_of_getElem? (i := 117) rfl))) (mvT hZ (hw _ (List.mem_of_getElem? (i := 118) rfl))) (by decide) (backOf (W := 0) (rmCI l Z a0 hw [] i k h0 n0 O0 h1 h2) hZ (hw _ (List.mem_of_getElem? (i := 118) rfl)) (hw _ (List.mem_of_getElem? (i := 117) rfl)) (by decide) (by decide)) (g := (mkF m 3 #[.val (.int i), .val (.int k)] [.null, (.int k), (.int i)])) rfl (by rw [hml]; rfl) (argsL := [(.int i), (.int k), .null]) (rest := []) (lenOf pd_28IILjava2futil2ffunction2fBiFunction3b29I rfl) rfl (by show 2 * 0 + _ ≤ _; exact Nat.le_of_eq rfl) (hb hby d14_3) (fun _ _ => ⟨rfl, e0, Nat.le_of_ble_eq_true rfl, Nat.le_of_ble_eq_true rfl⟩)
  dsimp only [Pt.U, Pt.locs, Pt.cells, Pt.slots] at X1 l1 y1 z1 st1 hQ1
  subst l1 y1 z1
  obtain ⟨rfl, N1q, e1⟩ := hQ1
  have N1 := Fr.app N0 N1q
  refine OEnds.via (fun _ k_ => st1 _ k_) ?_
  show OEnds p e below s _ _ _ (T1.setTop (mkF m 6 #[.val (.int i), .val (.int k)] [(.int i)]))
  refine OEnds.retI X1 hx hlk Bd.returns (hb hby d14_6) ?_ (by decide) (by decide)
  exact ⟨rfl, N1, e1⟩
theorem d16_0 : decode jdk_38_method_18_code 0 = .ok (.aload_n 0, 1) := by decide +kernel
theorem d16_1 : decode jdk_38_method_18_code 1 = .ok (.getfield 9, 3) := by decide +kernel
theorem d16_4 : decode jdk_38_method_18_code 4 = .ok (.iload_n 1, 1) := by decide +kernel
theorem d16_5 : decode jdk_38_method_18_code 5 = .ok (.aaload, 1) := by decide +kernel
theorem d16_6 : decode jdk_38_method_18_code 6 = .ok (.areturn, 1) := by decide +kernel
set_option maxRecDepth 65536 in
set_option maxHeartbeats 40000000 in
theorem rmED (l : Launch) (Z : State) (a0 : Array Value) (hw : ∀ d ∈ tables_1, d.before a0 Z = true) (ws : List Jvm.Cond) (r : Addr) (d : Addr) (i : Int32) (y : Addr) (cl : Cell) (h0 : Heap) (n0 : Nat) (O0 : Old Z n0 h0) (F : Fld Z h0 r "java/util/ArrayList" "elementData" "[Ljava/lang/Object;" (.ref d)) (Ar : Arr Z h0 d cl (.object "java/lang/Object")) (hin : ¬ (i < 0 ∨ cl.slots.size ≤ (i).toNatClampNeg)) (hat : cl.slots[(i).toNatClampNeg]? = some (.ref y)) :
    MetFree l (⟨"java/util/ArrayList", "elementData", "(I)Ljava/lang/Object;"⟩ : MethodName) (head1 (Jvm.Cond.code (⟨"java/util/ArrayList", "elementData", "(I)Ljava/lang/Object;"⟩ : MethodName) jdk_38_method_18_code 2 (some (.object "java/lang/Object")) :: ws) ({ frames := 0, cells := 0, slots := 0, locals := 0 } : Room)) (fun ar' U => ar' = #[(.ref r), (.int i)] ∧ Z.Warmed39 U.vm ∧ U.heap = h0) (fun _ _ _ _ _ => True) (fun _ U o U' => ∃ v L, o = .returned v ∧ (QA (some (.ref y)) h0 n0) v U'.heap L ∧ FrameEnd U o U' L ({ frames := 0, cells := 0, slots := 0, locals := 0 } : Room).cells ({ frames := 0, cells := 0, slots := 0, locals := 0 } : Room).slots) := by
  refine MetFree.of_bodySF (plainFor_of_name pn_java_util_ArrayList) hisR ?_
  intro p e s m args below meth c s₁ Bd hml0 hP hK
  obtain ⟨rfl, hZ, hh⟩ := hP
  have hx := Bd.exec
  have hby := Bd.bytes
  have hlk := BodyLoose.notSynchronized Bd
  have hml : c.maxLocals = 2 := hml0
  have hown : s.vm.findClass "java/util/ArrayList" = some m.cls := findClass_of_methodNamed Bd.named
  have hnm := (name_of_methodNamed Bd.named Bd.method).1
  have X0 : Stand p l e ({ frames := 0, cells := 0, slots := 0, locals := 0 } : Room) s m #[(.ref r), (.int i)] below meth c s₁ [] 0 0 := Stand.of_body Bd
  have e0 : s₁.heap = h0 := by rw [← hh, Bd.state]; rfl
  have N0 := Fr.nil n0
  have Z0 : n0 ≤ h0.size := O0.1 ▸ O0.2.1
  show OEnds p e below s ({ frames := 0, cells := 0, slots := 0, locals := 0 } : Room).cells ({ frames := 0, cells := 0, slots := 0, locals := 0 } : Room).slots (QA (some (.ref y)) h0 n0) (s₁.setTop (entryFrame m #[(.ref r), (.int i)] 2))
  refine OEnds.via (fun _ k_ => castTop (show entryFrame m #[(.ref r), (.int i)] 2 = (mkF m 0 #[.val (.ref r), .val (.int i)] []) by first | (simp [entryFrame, mkF, argsToLocals, Value.category, maxLocals]; done) | rfl) k_) ?_
  refine OEnds.via (fun _ k_ => XS.aloadN X0.here hx rfl (hb hby d16_0) rfl rfl k_) ?_
  show OEnds p e below s _ _ _ (s₁.setTop (mkF m 1 #[.val (.ref r), .val (.int i)] [(.ref r)]))
  obtain ⟨T1, X1, e1, st1⟩ := getF X0 hx hZ hown (host := "") (Or.inl (hw _ (List.mem_of_getElem? (i := 29) rfl))) Via.refl e0 F (g := (mkF m 1 #[.val (.ref r), .val (.int i)] [(.ref r)])) rfl rfl (hb hby d16_1)
  refine OEnds.via (fun _ k_ => st1 _ k_) ?_
  show OEnds p e below s _ _ _ (T1.setTop (mkF m 4 #[.val (.ref r), .val (.int i)] [(.ref d)]))
  refine OEnds.via (fun _ k_ => XS.iloadN X1.here hx rfl (hb hby d16_4) rfl k_) ?_
  show OEnds p e below s _ _ _ (T1.setTop (mkF m 5 #[.val (.ref r), .val (.int i)] [(.int i), (.ref d)]))
  refine OEnds.via (fun _ k_ => X1.aaload hx (j := i) (v := (.ref y)) (by rw [e1]; exact Ar.1) (State.isArrayOf_alike hZ.alike Ar.2.1) rfl Ar.2.2 hin hat (g := (mkF m 5 #[.val (.ref r), .val (.int i)] [(.int i), (.ref d)])) rfl rfl (hb hby d16_5) _ k_) ?_
  show OEnds p e below s _ _ _ (T1.setTop (mkF m 6 #[.val (.ref r), .val (.int i)] [(.ref y)]))
  refine OEnds.retR X1 hx hlk Bd.returns rfl rfl (hb hby d16_6) ?_ (by decide) (by decide)
  exact ⟨rfl, N0, e1⟩
theorem d13_0 : decode jdk_38_method_20_code 0 = .ok (.iload_n 1, 1) := by decide +kernel
theorem d13_1 : decode jdk_38_method_20_code 1 = .ok (.aload_n 0, 1) := by decide +kernel
theorem d13_2 : decode jdk_38_method_20_code 2 = .ok (.getfield 48, 3) := by decide +kernel
theorem d13_5 : decode jdk_38_method_20_code 5 = .ok (.invokestatic 118, 3) := by decide +kernel
theorem d13_8 : decode jdk_38_method_20_code 8 = .ok (.pop, 1) := by decide +kernel
theorem d13_9 : decode jdk_38_method_20_code 9 = .ok (.aload_n 0, 1) := by decide +kernel
theorem d13_10 : decode jdk_38_method_20_code 10 = .ok (.iload_n 1, 1) := by decide +kernel
theorem d13_11 : decode jdk_38_method_20_code 11 = .ok (.invokevirtual 123, 3) := by decide +kernel
theorem d13_14 : decode jdk_38_method_20_code 14 = .ok (.areturn, 1) := by decide +kernel
theorem pd_28I29Ljava2flang2fObject3b : parseMethodDescriptor "(I)Ljava/lang/Object;" = some ⟨[.int], some (.object "java/lang/Object")⟩ := by decide +kernel
set_option maxRecDepth 65536 in
set_option maxHeartbeats 40000000 in
theorem rmGet (l : Launch) (Z : State) (a0 : Array Value) (hw : ∀ d ∈ tables_1, d.before a0 Z = true) (ws : List Jvm.Cond) (r : Addr) (d : Addr) (i : Int32) (y : Addr) (cl : Cell) (k : Int32) (h0 : Heap) (n0 : Nat) (O0 : Old Z n0 h0) (F : Fld Z h0 r "java/util/ArrayList" "elementData" "[Ljava/lang/Object;" (.ref d)) (Ar : Arr Z h0 d cl (.object "java/lang/Object")) (hin : ¬ (i < 0 ∨ cl.slots.size ≤ (i).toNatClampNeg)) (hat : cl.slots[(i).toNatClampNeg]? = some (.ref y)) (Fs : Fld Z h0 r "java/util/ArrayList" "size" "I" (.int k)) (E_r : Exa Z h0 r "java/util/ArrayList") (h1 : ¬ i < (0 : Int32)) (h2 : i < k) :
    MetFree l (⟨"java/util/ArrayList", "get", "(I)Ljava/lang/Object;"⟩ : MethodName) (head1 (Jvm.Cond.code (⟨"java/util/ArrayList", "get", "(I)Ljava/lang/Object;"⟩ : MethodName) jdk_38_method_20_code 2 (some (.object "java/lang/Object")) :: ws) ({ frames := 2, cells := 0, slots := 0, locals := 40 } : Room)) (fun ar' U => ar' = #[(.ref r), (.int i)] ∧ Z.Warmed39 U.vm ∧ U.heap = h0) (fun _ _ _ _ _ => True) (fun _ U o U' => ∃ v L, o = .returned v ∧ (QA (some (.ref y)) h0 n0) v U'.heap L ∧ FrameEnd U o U' L ({ frames := 2, cells := 0, slots := 0, locals := 40 } : Room).cells ({ frames := 2, cells := 0, slots := 0, locals := 40 } : Room).slots) := by
  refine MetFree.of_bodySF (plainFor_of_name pn_java_util_ArrayList) hisR ?_
  intro p e s m args below meth c s₁ Bd hml0 hP hK
  obtain ⟨rfl, hZ, hh⟩ := hP
  have hx := Bd.exec
  have hby := Bd.bytes
  have hlk := BodyLoose.notSynchronized Bd
  have hml : c.maxLocals = 2 := hml0
  have hown : s.vm.findClass "java/util/ArrayList" = some m.cls := findClass_of_methodNamed Bd.named
  have hnm := (name_of_methodNamed Bd.named Bd.method).1
  have X0 : Stand p l e ({ frames := 2, cells := 0, slots := 0, locals := 40 } : Room) s m #[(.ref r), (.int i)] below meth c s₁ [] 0 0 := Stand.of_body Bd
  have e0 : s₁.heap = h0 := by rw [← hh, Bd.state]; rfl
  have N0 := Fr.nil n0
  have Z0 : n0 ≤ h0.size := O0.1 ▸ O0.2.1
  show OEnds p e below s ({ frames := 2, cells := 0, slots := 0, locals := 40 } : Room).cells ({ frames := 2, cells := 0, slots := 0, locals := 40 } : Room).slots (QA (some (.ref y)) h0 n0) (s₁.setTop (entryFrame m #[(.ref r), (.int i)] 2))
  refine OEnds.via (fun _ k_ => castTop (show entryFrame m #[(.ref r), (.int i)] 2 = (mkF m 0 #[.val (.ref r), .val (.int i)] []) by first | (simp [entryFrame, mkF, argsToLocals, Value.category, maxLocals]; done) | rfl) k_) ?_
  refine OEnds.via (fun _ k_ => XS.iloadN X0.here hx rfl (hb hby d13_0) rfl k_) ?_
  show OEnds p e below s _ _ _ (s₁.setTop (mkF m 1 #[.val (.ref r), .val (.int i)] [(.int i)]))
  refine OEnds.via (fun _ k_ => XS.aloadN X0.here hx rfl (hb hby d13_1) rfl rfl k_) ?_
  show OEnds p e below s _ _ _ (s₁.setTop (mkF m 2 #[.val (.ref r), .val (.int i)] [(.ref r), (.int i)]))
  obtain ⟨T1, X1, e1, st1⟩ := getF X0 hx hZ hown (host := "") (Or.inl (hw _ (List.mem_of_getElem? (i := 62) rfl))) Via.refl e0 Fs (g := (mkF m 2 #[.val (.ref r), .val (.int i)] [(.ref r), (.int i)])) rfl rfl (hb hby d13_2)
  refine OEnds.via (fun _ k_ => st1 _ k_) ?_
  show OEnds p e below s _ _ _ (T1.setTop (mkF m 5 #[.val (.ref r), .val (.int i)] [(.int k), (.int i)]))
  obtain ⟨_, _, ⟨T2, L2, k2, n2⟩, -, X2, ⟨Lc2, hQ2, l2, y2, z2⟩, st2⟩ := Jvm.LawKit.callS X1 hx (y := (⟨"java/util/Objects", "checkIndex", "(II)I"⟩ : MethodName)) hown (mvT hZ (hw _ (List.mem_of_getElem? (i := 111) rfl))) (mvT hZ (hw _ (List.mem_of_getElem? (i := 112) rfl))) (mvT hZ (hw _ (List.mem_of_getElem? (i := 113) rfl))) (mvT hZ (hw _ (List.mem_of_getElem? (i := 114) rfl))) (by decide) (backOf (W := 0) (rmOI l Z a0 hw [] i k h0 n0 O0 h1 h2) hZ (hw _ (List.mem_of_getElem? (i := 114) rfl)) (hw _ (List.mem_of_getElem? (i := 113) rfl)) (by decide) (by decide)) (g := (mkF m 5 #[.val (.ref r), .val (.int i)] [(.int k), (.int i)])) rfl (by rw [hml]; rfl) (argsL := [(.int i), (.int k)]) (rest := []) (lenOf pd_28II29I rfl) rfl (by show 2 * 0 + _ ≤ _; exact Nat.le_of_eq rfl) (hb hby d13_5) (fun _ _ => ⟨rfl, e1, Nat.le_of_ble_eq_true rfl, Nat.le_of_ble_eq_true rfl⟩)
  dsimp only [Pt.U, Pt.locs, Pt.cells, Pt.slots] at X2 l2 y2 z2 st2 hQ2
  subst l2 y2 z2
  obtain ⟨rfl, N2q, e2⟩ := hQ2
  have N2 := Fr.app N0 N2q
  refine OEnds.via (fun _ k_ => st2 _ k_) ?_
  show OEnds p e below s _ _ _ (T2.setTop (mkF m 8 #[.val (.ref r), .val (.int i)] [(.int i)]))
  refine OEnds.via (fun _ k_ => XS.pop X2.here hx rfl (hb hby d13_8) rfl rfl k_) ?_
  show OEnds p e below s _ _ _ (T2.setTop (mkF m 9 #[.val (.ref r), .val (.int i)] []))
  refine OEnds.via (fun _ k_ => XS.aloadN X2.here hx rfl (hb hby d13_9) rfl rfl k_) ?_
  show OEnds p e below s _ _ _ (T2.setTop (mkF m 10 #[.val (.ref r), .val (.int i)] [(.ref r)]))
  refine OEnds.via (fun _ k_ => XS.iloadN X2.here hx rfl (hb hby d13_10) rfl k_) ?_
  show OEnds p e below s _ _ _ (T2.setTop (mkF m 11 #[.val (.ref r), .val (.int i)] [(.int i), (.ref r)]))
  obtain ⟨cq3, kq3, q3a, q3b, q3c⟩ := isOf hZ e2 E_r
  obtain ⟨_, _, ⟨T3, L3, k3, n3⟩, -, X3, ⟨Lc3, hQ3, l3, y3, z3⟩, st3⟩ := X2.virtualBack hx (y := (⟨"java/util/ArrayList", "elementData", "(I)Ljava/lang/Object;"⟩ : MethodName)) (z := (⟨"java/util/ArrayList", "elementData", "(I)Ljava/lang/Object;"⟩ : MethodName)) hown (mvT hZ (hw _ (List.mem_of_getElem? (i := 119) rfl))) (mvT hZ (hw _ (List.mem_of_getElem? (i := 120) rfl))) (notFace_of_selects (args := #[]) (mvT hZ (hw _ (List.mem_of_getElem? (i := 122) rfl)))) (mvT hZ (hw _ (List.mem_of_getElem? (i := 122) rfl))) (mvT hZ (hw _ (List.mem_of_getElem? (i := 121) rfl))) (by decide) (backOf (W := 0) (rmED l Z a0 hw [] r d i y cl h0 n0 O0 F Ar hin hat) hZ (hw _ (List.mem_of_getElem? (i := 123) rfl)) (hw _ (List.mem_of_getElem? (i := 7) rfl)) (by decide) (by decide)) q3a q3c (g := (mkF m 11 #[.val (.ref r), .val (.int i)] [(.int i), (.ref r)])) rfl (by rw [hml]; rfl) (Steps.refl _) (argsL := [(.int i)]) (rest := []) (lenOf pd_28I29Ljava2flang2fObject3b rfl) rfl (by show 2 * 0 + _ ≤ _; exact Nat.le_of_eq rfl) (hb hby d13_11) (fun _ _ => ⟨rfl, e2, Nat.le_of_ble_eq_true rfl, Nat.le_of_ble_eq_true rfl⟩)
  dsimp only [Pt.U, Pt.locs, Pt.cells, Pt.slots] at X3 l3 y3 z3 st3 hQ3
  subst l3 y3 z3
  obtain ⟨rfl, N3q, e3⟩ := hQ3
  have N3 := Fr.app N2 N3q
  refine OEnds.via (fun _ k_ => st3.trans k_) ?_
  show OEnds p e below s _ _ _ (T3.setTop (mkF m 14 #[.val (.ref r), .val (.int i)] [(.ref y)]))
  refine OEnds.retR X3 hx hlk Bd.returns rfl rfl (hb hby d13_14) ?_ (by decide) (by decide)
  exact ⟨rfl, N3, e3⟩
theorem d1_0 : decode prog_1_method_7_code 0 = .ok (.new 69, 3) := by decide +kernel
theorem d1_3 : decode prog_1_method_7_code 3 = .ok (.dup, 1) := by decide +kernel
theorem d1_4 : decode prog_1_method_7_code 4 = .ok (.invokespecial 71, 3) := by decide +kernel
theorem d1_7 : decode prog_1_method_7_code 7 = .ok (.astore_n 0, 1) := by decide +kernel
theorem d1_8 : decode prog_1_method_7_code 8 = .ok (.invokestatic 40, 3) := by decide +kernel
theorem d1_11 : decode prog_1_method_7_code 11 = .ok (.astore_n 1, 1) := by decide +kernel
theorem d1_12 : decode prog_1_method_7_code 12 = .ok (.aload_n 1, 1) := by decide +kernel
theorem d1_13 : decode prog_1_method_7_code 13 = .ok (.arraylength, 1) := by decide +kernel
theorem d1_14 : decode prog_1_method_7_code 14 = .ok (.istore_n 2, 1) := by decide +kernel
theorem d1_15 : decode prog_1_method_7_code 15 = .ok (.iconst 0, 1) := by decide +kernel
theorem d1_16 : decode prog_1_method_7_code 16 = .ok (.istore_n 3, 1) := by decide +kernel
theorem d1_17 : decode prog_1_method_7_code 17 = .ok (.iload_n 3, 1) := by decide +kernel
theorem d1_18 : decode prog_1_method_7_code 18 = .ok (.iload_n 2, 1) := by decide +kernel
theorem d1_19 : decode prog_1_method_7_code 19 = .ok (.if_icmp .ge 26, 3) := by decide +kernel
theorem d1_22 : decode prog_1_method_7_code 22 = .ok (.aload_n 1, 1) := by decide +kernel
theorem d1_23 : decode prog_1_method_7_code 23 = .ok (.iload_n 3, 1) := by decide +kernel
theorem d1_24 : decode prog_1_method_7_code 24 = .ok (.aaload, 1) := by decide +kernel
theorem d1_25 : decode prog_1_method_7_code 25 = .ok (.astore 4, 2) := by decide +kernel
theorem d1_27 : decode prog_1_method_7_code 27 = .ok (.aload_n 0, 1) := by decide +kernel
theorem d1_28 : decode prog_1_method_7_code 28 = .ok (.aload 4, 2) := by decide +kernel
theorem d1_30 : decode prog_1_method_7_code 30 = .ok (.getfield 32, 3) := by decide +kernel
theorem d1_33 : decode prog_1_method_7_code 33 = .ok (.invokeinterface 74 2, 5) := by decide +kernel
theorem d1_38 : decode prog_1_method_7_code 38 = .ok (.pop, 1) := by decide +kernel
theorem d1_39 : decode prog_1_method_7_code 39 = .ok (.iinc 3 1, 3) := by decide +kernel
theorem d1_42 : decode prog_1_method_7_code 42 = .ok (.goto (-25), 3) := by decide +kernel
theorem d1_45 : decode prog_1_method_7_code 45 = .ok (.aload_n 0, 1) := by decide +kernel
theorem d1_46 : decode prog_1_method_7_code 46 = .ok (.areturn, 1) := by decide +kernel
def Q_rmNames (Z : State) (a_EXACT : Addr) (a_SLIDING : Addr) (a_FIXED : Addr) (t_EXACT : Addr) (t_SLIDING : Addr) (t_FIXED : Addr) (tv_EXACT : Addr) (tv_SLIDING : Addr) (tv_FIXED : Addr) (kt_EXACT : ClassId) (kt_SLIDING : ClassId) (kt_FIXED : ClassId) (va : Addr) (kA : ClassId) (G1 : Int32) (dc : Addr) (kdc : ClassId) (h0 : Heap) (n0 : Nat) (v : Option Value) (h : Heap) (L : List Loc) : Prop := ∃ r d kd, v = some (.ref r) ∧ Fr n0 L ∧ Keep h0 h [] ∧ n0 ≤ r ∧ Exa Z h r "java/util/ArrayList" ∧ Fld Z h r "java/util/ArrayList" "elementData" "[Ljava/lang/Object;" (.ref d) ∧ Fld Z h r "java/util/ArrayList" "size" "I" (.int (3 : Int32)) ∧ Arv Z h d kd (.object "java/lang/Object") (10 : Int32) [(.ref t_EXACT), (.ref t_SLIDING), (.ref t_FIXED), .null, .null, .null, .null, .null, .null, .null] .null
set_option maxRecDepth 65536 in
set_option maxHeartbeats 40000000 in
theorem rmNames (l : Launch) (Z : State) (a0 : Array Value) (hw : ∀ d ∈ tables_1, d.before a0 Z = true) (ws : List Jvm.Cond) (a_EXACT : Addr) (a_SLIDING : Addr) (a_FIXED : Addr) (t_EXACT : Addr) (t_SLIDING : Addr) (t_FIXED : Addr) (tv_EXACT : Addr) (tv_SLIDING : Addr) (tv_FIXED : Addr) (kt_EXACT : ClassId) (kt_SLIDING : ClassId) (kt_FIXED : ClassId) (va : Addr) (kA : ClassId) (G1 : Int32) (dc : Addr) (kdc : ClassId) (h0 : Heap) (n0 : Nat) (O0 : Old Z n0 h0) (S_CS : Sta Z Z.heap "java/lang/String" "COMPACT_STRINGS" "Z" (.int G1)) (nz_CS : ¬ (G1 = (0 : Int32))) (S_V : Sta Z Z.heap "com/example/amber_gate/ambergate/Algorithm" "$VALUES" "[Lcom/example/amber_gate/ambergate/Algorithm;" (.ref va)) (AV : Arv Z Z.heap va kA (.object "com/example/amber_gate/ambergate/Algorithm") (3 : Int32) [(.ref a_EXACT), (.ref a_SLIDING), (.ref a_FIXED)] .null) (EV : Exa Z Z.heap va "[Lcom/example/amber_gate/ambergate/Algorithm;") (Et_EXACT : Exa Z Z.heap t_EXACT "java/lang/String") (Vt_EXACT : Fld Z Z.heap t_EXACT "java/lang/String" "value" "[B" (.ref tv_EXACT)) (Ct_EXACT : Fld Z Z.heap t_EXACT "java/lang/String" "coder" "B" (.int (0 : Int32))) (Kt_EXACT : Arv Z Z.heap tv_EXACT kt_EXACT .byte (5 : Int32) [(.int (101 : Int32)), (.int (120 : Int32)), (.int (97 : Int32)), (.int (99 : Int32)), (.int (116 : Int32))] (.int (0 : Int32))) (Ft_EXACT : Fld Z Z.heap a_EXACT "com/example/amber_gate/ambergate/Algorithm" "text" "Ljava/lang/String;" (.ref t_EXACT)) (Et_SLIDING : Exa Z Z.heap t_SLIDING "java/lang/String") (Vt_SLIDING : Fld Z Z.heap t_SLIDING "java/lang/String" "value" "[B" (.ref tv_SLIDING)) (Ct_SLIDING : Fld Z Z.heap t_SLIDING "java/lang/String" "coder" "B" (.int (0 : Int32))) (Kt_SLIDING : Arv Z Z.heap tv_SLIDING kt_SLIDING .byte (7 : Int32) [(.int (115 : Int32)), (.int (108 : Int32)), (.int (105 : Int32)), (.int (100 : Int32)), (.int (105 : Int32)), (.int (110 : Int32)), (.int (103 : Int32))] (.int (0 : Int32))) (Ft_SLIDING : Fld Z Z.heap a_SLIDING "com/example/amber_gate/ambergate/Algorithm" "text" "Ljava/lang/String;" (.ref t_SLIDING)) (Et_FIXED : Exa Z Z.heap t_FIXED "java/lang/String") (Vt_FIXED : Fld Z Z.heap t_FIXED "java/lang/String" "value" "[B" (.ref tv_FIXED)) (Ct_FIXED : Fld Z Z.heap t_FIXED "java/lang/String" "coder" "B" (.int (0 : Int32))) (Kt_FIXED : Arv Z Z.heap tv_FIXED kt_FIXED .byte (5 : Int32) [(.int (102 : Int32)), (.int (105 : Int32)), (.int (120 : Int32)), (.int (101 : Int32)), (.int (100 : Int32))] (.int (0 : Int32))) (Ft_FIXED : Fld Z Z.heap a_FIXED "com/example/amber_gate/ambergate/Algorithm" "text" "Ljava/lang/String;" (.ref t_FIXED)) (S_dc : Sta Z Z.heap "java/util/ArrayList" "DEFAULTCAPACITY_EMPTY_ELEMENTDATA" "[Ljava/lang/Object;" (.ref dc)) (V_dc : Arv Z Z.heap dc kdc (.object "java/lang/Object") (0 : Int32) [] .null) :
    MetFree l (⟨"com/example/amber_gate/ambergate/Algorithm", "names", "()Ljava/util/List;"⟩ : MethodName) (head1 (Jvm.Cond.code (⟨"com/example/amber_gate/ambergate/Algorithm", "names", "()Ljava/util/List;"⟩ : MethodName) prog_1_method_7_code 5 (some (.object "java/util/List")) :: ws) ({ frames := 6, cells := 4, slots := 20, locals := 140 } : Room)) (fun ar' U => ar' = #[] ∧ Z.Warmed39 U.vm ∧ U.heap = h0) (fun _ _ _ _ _ => True) (fun _ U o U' => ∃ v L, o = .returned v ∧ (Q_rmNames Z a_EXACT a_SLIDING a_FIXED t_EXACT t_SLIDING t_FIXED tv_EXACT tv_SLIDING tv_FIXED kt_EXACT kt_SLIDING kt_FIXED va kA G1 dc kdc h0 n0) v U'.heap L ∧ FrameEnd U o U' L ({ frames := 6, cells := 4, slots := 20, locals := 140 } : Room).cells ({ frames := 6, cells := 4, slots := 20, locals := 140 } : Room).slots) := by
  refine MetFree.of_bodySF (plainFor_of_name pn_com_example_amber_gate_ambergate_Algorithm) hisR ?_
  intro p e s m args below meth c s₁ Bd hml0 hP hK
  obtain ⟨rfl, hZ, hh⟩ := hP
  have hx := Bd.exec
  have hby := Bd.bytes
  have hlk := BodyLoose.notSynchronized Bd
  have hml : c.maxLocals = 5 := hml0
  have hown : s.vm.findClass "com/example/amber_gate/ambergate/Algorithm" = some m.cls := findClass_of_methodNamed Bd.named
  have hnm := (name_of_methodNamed Bd.named Bd.method).1
  have X0 : Stand p l e ({ frames := 6, cells := 4, slots := 20, locals := 140 } : Room) s m #[] below meth c s₁ [] 0 0 := Stand.of_body Bd
  have e0 : s₁.heap = h0 := by rw [← hh, Bd.state]; rfl
  have N0 := Fr.nil n0
  have Z0 : n0 ≤ h0.size := O0.1 ▸ O0.2.1
  show OEnds p e below s ({ frames := 6, cells := 4, slots := 20, locals := 140 } : Room).cells ({ frames := 6, cells := 4, slots := 20, locals := 140 } : Room).slots (Q_rmNames Z a_EXACT a_SLIDING a_FIXED t_EXACT t_SLIDING t_FIXED tv_EXACT tv_SLIDING tv_FIXED kt_EXACT kt_SLIDING kt_FIXED va kA G1 dc kdc h0 n0) (s₁.setTop (entryFrame m #[] 5))
  refine OEnds.via (fun _ k_ => castTop (show entryFrame m #[] 5 = (mkF m 0 #[.unset, .unset, .unset, .unset, .unset] []) by first | (simp [entryFrame, mkF, argsToLocals, Value.category, maxLocals]; done) | rfl) k_) ?_
  have Od := O0
  have Kp := Keep.refl h0 []
  show OEnds p e below s _ _ _ (s₁.setTop (mkF m 0 #[.unset, .unset, .unset, .unset, .unset] []))
  obtain ⟨T1, h1, X1, e1, E1, A1, D1, -, st1⟩ := newO X0 hx hZ hown (hw _ (List.mem_of_getElem? (i := 5) rfl)) (hw _ (List.mem_of_getElem? (i := 6) rfl)) (hw _ (List.mem_of_getElem? (i := 7) rfl)) e0 (g := (mkF m 0 #[.unset, .unset, .unset, .unset, .unset] [])) rfl (hb hby d1_0) (by decide) (by decide)
  obtain ⟨b1, g1⟩ : ∃ z, z = h0.size := ⟨_, rfl⟩
  have ge_b1 : n0 ≤ b1 := Nat.le_trans (Od.1 ▸ Od.2.1) (Nat.le_of_eq g1.symm)
  have sz_b1 : h0.size ≤ b1 := Nat.le_trans Kp.1 (Nat.le_of_eq g1.symm)
  rw [← g1] at A1 D1 st1
  replace Od := Od.ext E1
  replace Kp := Kp.ext E1
  have E_b1 : Exa Z h1 b1 "java/util/ArrayList" := A1
  have F_modCount_b1 : Fld Z h1 b1 "java/util/AbstractList" "modCount" "I" (.int (0 : Int32)) := D1 (Or.inl (hw _ (List.mem_of_getElem? (i := 27) rfl))) (ty := .int) (by decide)
  have F_elementData_b1 : Fld Z h1 b1 "java/util/ArrayList" "elementData" "[Ljava/lang/Object;" .null := D1 (Or.inl (hw _ (List.mem_of_getElem? (i := 30) rfl))) (ty := (.array (.object "java/lang/Object"))) (by decide)
  have F_size_b1 : Fld Z h1 b1 "java/util/ArrayList" "size" "I" (.int (0 : Int32)) := D1 (Or.inl (hw _ (List.mem_of_getElem? (i := 63) rfl))) (ty := .int) (by decide)
  refine OEnds.via (fun _ k_ => st1 _ k_) ?_
  show OEnds p e below s _ _ _ (T1.setTop (mkF m 3 #[.unset, .unset, .unset, .unset, .unset] [(.ref b1)]))
  refine OEnds.via (fun _ k_ => XS.dup X1.here hx rfl (hb hby d1_3) rfl rfl k_) ?_
  show OEnds p e below s _ _ _ (T1.setTop (mkF m 4 #[.unset, .unset, .unset, .unset, .unset] [(.ref b1), (.ref b1)]))
  obtain ⟨_, _, ⟨T2, L2, k2, n2⟩, -, X2, ⟨Lc2, hQ2, l2, y2, z2⟩, st2⟩ := X1.specialBack hx (y := (⟨"java/util/ArrayList", "<init>", "()V"⟩ : MethodName)) rfl hown (mvT hZ (hw _ (List.mem_of_getElem? (i := 8) rfl))) (mvT hZ (hw _ (List.mem_of_getElem? (i := 9) rfl))) (mvT hZ (hw _ (List.mem_of_getElem? (i := 10) rfl))) (by decide) (backOf (W := 1) (rmNew l Z a0 hw [] b1 dc h1 n0 Od F_modCount_b1 F_elementData_b1 F_size_b1 E_b1 ge_b1 S_dc) hZ (hw _ (List.mem_of_getElem? (i := 10) rfl)) (hw _ (List.mem_of_getElem? (i := 7) rfl)) (by decide) (by decide)) (g := (mkF m 4 #[.unset, .unset, .unset, .unset, .unset] [(.ref b1), (.ref b1)])) rfl (by rw [hml]; rfl) (Steps.refl _) (a := b1) (argsL := []) (rest := [(.ref b1)]) (lenOf pd_2829V rfl) rfl (by show 2 * 0 + _ ≤ _; exact Nat.le_of_eq rfl) (hb hby d1_4) (fun _ _ => ⟨rfl, e1, Nat.le_of_ble_eq_true rfl, Nat.le_of_ble_eq_true rfl⟩)
  dsimp only [Pt.U, Pt.locs, Pt.cells, Pt.slots] at X2 l2 y2 z2 st2 hQ2
  subst l2 y2 z2
  obtain ⟨rfl, N2q, K2, -, G_modCount, G_elementData, G_size⟩ := hQ2
  have N2 := Fr.app N0 N2q
  replace Od := Od.keep K2 (allS ge_b1 all0)
  replace Kp := Kp.trans K2 (allS (Or.inr sz_b1) all0)
  replace E_b1 := E_b1.keep K2
  refine OEnds.via (fun _ k_ => st2.trans k_) ?_
  show OEnds p e below s _ _ _ (T2.setTop (mkF m 7 #[.unset, .unset, .unset, .unset, .unset] [(.ref b1)]))
  refine OEnds.via (fun _ k_ => XS.astoreN X2.here hx rfl (hb hby d1_7) rfl rfl (l' := #[.val (.ref b1), .unset, .unset, .unset, .unset]) rfl k_) ?_
  show OEnds p e below s _ _ _ (T2.setTop (mkF m 8 #[.val (.ref b1), .unset, .unset, .unset, .unset] []))
  obtain ⟨_, _, ⟨T3, L3, k3, n3⟩, -, X3, ⟨Lc3, hQ3, l3, y3, z3⟩, st3⟩ := Jvm.LawKit.callS X2 hx (y := (⟨"com/example/amber_gate/ambergate/Algorithm", "values", "()[Lcom/example/amber_gate/ambergate/Algorithm;"⟩ : MethodName)) hown (mvT hZ (hw _ (List.mem_of_getElem? (i := 31) rfl))) (mvT hZ (hw _ (List.mem_of_getElem? (i := 32) rfl))) (mvT hZ (hw _ (List.mem_of_getElem? (i := 3) rfl))) (mvT hZ (hw _ (List.mem_of_getElem? (i := 33) rfl))) (by decide) (backOf (W := 0) (rmV l Z a0 hw [] a_EXACT a_SLIDING a_FIXED va kA T2.heap n0 Od S_V AV EV) hZ (hw _ (List.mem_of_getElem? (i := 33) rfl)) (hw _ (List.mem_of_getElem? (i := 3) rfl)) (by decide) (by decide)) (g := (mkF m 8 #[.val (.ref b1), .unset, .unset, .unset, .unset] [])) rfl (by rw [hml]; rfl) (argsL := []) (rest := []) (lenOf pd_28295bLcom2fexample2famber_gate2fambergate2fAlgorithm3b rfl) rfl (by show 2 * 0 + _ ≤ _; exact Nat.le_of_eq rfl) (hb hby d1_8) (fun _ _ => ⟨rfl, rfl, Nat.le_of_ble_eq_true rfl, Nat.le_of_ble_eq_true rfl⟩)
  dsimp only [Pt.U, Pt.locs, Pt.cells, Pt.slots] at X3 l3 y3 z3 st3 hQ3
  subst l3 y3 z3
  obtain ⟨ar, rfl, N3q, K3, szA3, A3⟩ := hQ3
  have ne_b1_ar : b1 ≠ ar := Nat.ne_of_lt (Nat.lt_of_lt_of_le E_b1.lt szA3)
  have N3 := Fr.app N2 N3q
  replace Od := Od.keep K3 all0
  replace Kp := Kp.trans K3 all0
  replace E_b1 := E_b1.keep K3
  replace G_modCount := G_modCount.keep K3 nin0
  replace G_elementData := G_elementData.keep K3 nin0
  replace G_size := G_size.keep K3 nin0
  obtain ⟨cl, Ar, qA, Sa, MA, HA, GA⟩ := A3
  refine OEnds.via (fun _ k_ => st3 _ k_) ?_
  show OEnds p e below s _ _ _ (T3.setTop (mkF m 11 #[.val (.ref b1), .unset, .unset, .unset, .unset] [(.ref ar)]))
  refine OEnds.via (fun _ k_ => XS.astoreN X3.here hx rfl (hb hby d1_11) rfl rfl (l' := #[.val (.ref b1), .val (.ref ar), .unset, .unset, .unset]) rfl k_) ?_
  show OEnds p e below s _ _ _ (T3.setTop (mkF m 12 #[.val (.ref b1), .val (.ref ar), .unset, .unset, .unset] []))
  refine OEnds.via (fun _ k_ => XS.aloadN X3.here hx rfl (hb hby d1_12) rfl rfl k_) ?_
  show OEnds p e below s _ _ _ (T3.setTop (mkF m 13 #[.val (.ref b1), .val (.ref ar), .unset, .unset, .unset] [(.ref ar)]))
  refine OEnds.via (fun _ k_ => X3.arraylength hx Ar.1 (State.isArrayOf_alike hZ.alike Ar.2.1) (g := (mkF m 13 #[.val (.ref b1), .val (.ref ar), .unset, .unset, .unset] [(.ref ar)])) rfl rfl (hb hby d1_13) _ k_) ?_
  rw [len_of Sa MA]
  show OEnds p e below s _ _ _ (T3.setTop (mkF m 14 #[.val (.ref b1), .val (.ref ar), .unset, .unset, .unset] [(.int (3 : Int32))]))
  refine OEnds.via (fun _ k_ => XS.istoreN X3.here hx rfl (hb hby d1_14) rfl (l' := #[.val (.ref b1), .val (.ref ar), .val (.int (3 : Int32)), .unset, .unset]) rfl k_) ?_
  show OEnds p e below s _ _ _ (T3.setTop (mkF m 15 #[.val (.ref b1), .val (.ref ar), .val (.int (3 : Int32)), .unset, .unset] []))
  refine OEnds.via (fun _ k_ => XS.iconst X3.here hx rfl (hb hby d1_15) k_) ?_
  show OEnds p e below s _ _ _ (T3.setTop (mkF m 16 #[.val (.ref b1), .val (.ref ar), .val (.int (3 : Int32)), .unset, .unset] [(.int (0 : Int32))]))
  refine OEnds.via (fun _ k_ => XS.istoreN X3.here hx rfl (hb hby d1_16) rfl (l' := #[.val (.ref b1), .val (.ref ar), .val (.int (3 : Int32)), .val (.int (0 : Int32)), .unset]) rfl k_) ?_
  show OEnds p e below s _ _ _ (T3.setTop (mkF m 17 #[.val (.ref b1), .val (.ref ar), .val (.int (3 : Int32)), .val (.int (0 : Int32)), .unset] []))
  refine OEnds.via (fun _ k_ => XS.iloadN X3.here hx rfl (hb hby d1_17) rfl k_) ?_
  show OEnds p e below s _ _ _ (T3.setTop (mkF m 18 #[.val (.ref b1), .val (.ref ar), .val (.int (3 : Int32)), .val (.int (0 : Int32)), .unset] [(.int (0 : Int32))]))
  refine OEnds.via (fun _ k_ => XS.iloadN X3.here hx rfl (hb hby d1_18) rfl k_) ?_
  show OEnds p e below s _ _ _ (T3.setTop (mkF m 19 #[.val (.ref b1), .val (.ref ar), .val (.int (3 : Int32)), .val (.int (0 : Int32)), .unset] [(.int (3 : Int32)), (.int (0 : Int32))]))
  refine OEnds.via (fun _ k_ => XS.icmpNo X3.here hx rfl (hb hby d1_19) rfl (tlt (by decide : (0 : Int32) < (3 : Int32))).2.1 k_) ?_
  show OEnds p e below s _ _ _ (T3.setTop (mkF m 22 #[.val (.ref b1), .val (.ref ar), .val (.int (3 : Int32)), .val (.int (0 : Int32)), .unset] []))
  refine OEnds.via (fun _ k_ => XS.aloadN X3.here hx rfl (hb hby d1_22) rfl rfl k_) ?_
  show OEnds p e below s _ _ _ (T3.setTop (mkF m 23 #[.val (.ref b1), .val (.ref ar), .val (.int (3 : Int32)), .val (.int (0 : Int32)), .unset] [(.ref ar)]))
  refine OEnds.via (fun _ k_ => XS.iloadN X3.here hx rfl (hb hby d1_23) rfl k_) ?_
  show OEnds p e below s _ _ _ (T3.setTop (mkF m 24 #[.val (.ref b1), .val (.ref ar), .val (.int (3 : Int32)), .val (.int (0 : Int32)), .unset] [(.int (0 : Int32)), (.ref ar)]))
  refine OEnds.via (fun _ k_ => X3.aaload hx (j := (0 : Int32)) (v := (.ref a_EXACT)) Ar.1 (State.isArrayOf_alike hZ.alike Ar.2.1) rfl Ar.2.2 (inb_of Sa ⟨by decide, by decide⟩) (HA 0 (by rw [Sa]; decide)) (g := (mkF m 24 #[.val (.ref b1), .val (.ref ar), .val (.int (3 : Int32)), .val (.int (0 : Int32)), .unset] [(.int (0 : Int32)), (.ref ar)])) rfl rfl (hb hby d1_24) _ k_) ?_
  show OEnds p e below s _ _ _ (T3.setTop (mkF m 25 #[.val (.ref b1), .val (.ref ar), .val (.int (3 : Int32)), .val (.int (0 : Int32)), .unset] [(.ref a_EXACT)]))
  refine OEnds.via (fun _ k_ => XS.astore X3.here hx rfl (hb hby d1_25) rfl rfl (l' := #[.val (.ref b1), .val (.ref ar), .val (.int (3 : Int32)), .val (.int (0 : Int32)), .val (.ref a_EXACT)]) rfl k_) ?_
  show OEnds p e below s _ _ _ (T3.setTop (mkF m 27 #[.val (.ref b1), .val (.ref ar), .val (.int (3 : Int32)), .val (.int (0 : Int32)), .val (.ref a_EXACT)] []))
  refine OEnds.via (fun _ k_ => XS.aloadN X3.here hx rfl (hb hby d1_27) rfl rfl k_) ?_
  show OEnds p e below s _ _ _ (T3.setTop (mkF m 28 #[.val (.ref b1), .val (.ref ar), .val (.int (3 : Int32)), .val (.int (0 : Int32)), .val (.ref a_EXACT)] [(.ref b1)]))
  refine OEnds.via (fun _ k_ => XS.aload X3.here hx rfl (hb hby d1_28) rfl rfl k_) ?_
  show OEnds p e below s _ _ _ (T3.setTop (mkF m 30 #[.val (.ref b1), .val (.ref ar), .val (.int (3 : Int32)), .val (.int (0 : Int32)), .val (.ref a_EXACT)] [(.ref a_EXACT), (.ref b1)]))
  obtain ⟨T4, X4, e4, st4⟩ := getF X3 hx hZ hown (host := "") (Or.inl (hw _ (List.mem_of_getElem? (i := 49) rfl))) Via.refl rfl (Fld.ext Od.2 Ft_EXACT) (g := (mkF m 30 #[.val (.ref b1), .val (.ref ar), .val (.int (3 : Int32)), .val (.int (0 : Int32)), .val (.ref a_EXACT)] [(.ref a_EXACT), (.ref b1)])) rfl rfl (hb hby d1_30)
  refine OEnds.via (fun _ k_ => st4 _ k_) ?_
  show OEnds p e below s _ _ _ (T4.setTop (mkF m 33 #[.val (.ref b1), .val (.ref ar), .val (.int (3 : Int32)), .val (.int (0 : Int32)), .val (.ref a_EXACT)] [(.ref t_EXACT), (.ref b1)]))
  obtain ⟨cq5, kq5, q5a, q5b, q5c⟩ := isOf hZ e4 E_b1
  obtain ⟨_, _, ⟨T5, L5, k5, n5⟩, -, X5, ⟨Lc5, hQ5, l5, y5, z5⟩, st5⟩ := X4.interfaceBack hx (xi := (⟨"java/util/List", "add", "(Ljava/lang/Object;)Z"⟩ : MethodName)) (y := (⟨"java/util/ArrayList", "add", "(Ljava/lang/Object;)Z"⟩ : MethodName)) hown (mvT hZ (hw _ (List.mem_of_getElem? (i := 51) rfl))) (mvT hZ (hw _ (List.mem_of_getElem? (i := 52) rfl))) (mvT hZ (hw _ (List.mem_of_getElem? (i := 53) rfl))) (mvT hZ (hw _ (List.mem_of_getElem? (i := 54) rfl))) (mvT hZ (hw _ (List.mem_of_getElem? (i := 55) rfl))) (mvT hZ (hw _ (List.mem_of_getElem? (i := 56) rfl))) (mvT hZ (hw _ (List.mem_of_getElem? (i := 57) rfl))) (mvT hZ (hw _ (List.mem_of_getElem? (i := 58) rfl))) (by decide) (backOf (W := 0) (rmA0 l Z a0 hw [] b1 t_EXACT (0 : Int32) dc kdc T3.heap n0 Od G_modCount G_elementData G_size E_b1 ge_b1 S_dc V_dc (Exa.ext Od.2 Et_EXACT) (Od.ne Et_EXACT.lt ge_b1)) hZ (hw _ (List.mem_of_getElem? (i := 59) rfl)) (hw _ (List.mem_of_getElem? (i := 7) rfl)) (by decide) (by decide)) q5a q5b q5c (g := (mkF m 33 #[.val (.ref b1), .val (.ref ar), .val (.int (3 : Int32)), .val (.int (0 : Int32)), .val (.ref a_EXACT)] [(.ref t_EXACT), (.ref b1)])) rfl (by rw [hml]; rfl) (Steps.refl _) (argsL := [(.ref t_EXACT)]) (rest := []) (lenOf pd_28Ljava2flang2fObject3b29Z rfl) rfl (by show 2 * 0 + _ ≤ _; exact Nat.le_of_eq rfl) (hb hby d1_33) (fun _ _ => ⟨rfl, e4, Nat.le_of_ble_eq_true rfl, Nat.le_of_ble_eq_true rfl⟩)
  dsimp only [Pt.U, Pt.locs, Pt.cells, Pt.slots] at X5 l5 y5 z5 st5 hQ5
  subst l5 y5 z5
  obtain ⟨d, kd, rfl, N5q, K5, -, G_modCount, G_elementData, G_size, ge_d, sz_d, O_d, V_d⟩ := hQ5
  have ne_b1_d : b1 ≠ d := Nat.ne_of_lt (Nat.lt_of_lt_of_le E_b1.lt sz_d)
  have ne_ar_d : ar ≠ d := Nat.ne_of_lt (Nat.lt_of_lt_of_le Ar.lt sz_d)
  have szd : h0.size ≤ d := Nat.le_trans Kp.1 sz_d
  have N5 := Fr.app N3 N5q
  replace Od := Od.keep K5 (allS ge_b1 all0)
  replace Kp := Kp.trans K5 (allS (Or.inr sz_b1) all0)
  replace E_b1 := E_b1.keep K5
  replace Ar := own_arrkeep Ar K5 (ninS (Ne.symm ne_b1_ar) nin0)
  refine OEnds.via (fun _ k_ => st5.trans k_) ?_
  show OEnds p e below s _ _ _ (T5.setTop (mkF m 38 #[.val (.ref b1), .val (.ref ar), .val (.int (3 : Int32)), .val (.int (0 : Int32)), .val (.ref a_EXACT)] [(.int (1 : Int32))]))
  refine OEnds.via (fun _ k_ => XS.pop X5.here hx rfl (hb hby d1_38) rfl rfl k_) ?_
  show OEnds p e below s _ _ _ (T5.setTop (mkF m 39 #[.val (.ref b1), .val (.ref ar), .val (.int (3 : Int32)), .val (.int (0 : Int32)), .val (.ref a_EXACT)] []))
  refine OEnds.via (fun _ k_ => XS.iinc X5.here hx rfl (hb hby d1_39) rfl (l' := #[.val (.ref b1), .val (.ref ar), .val (.int (3 : Int32)), .val (.int (1 : Int32)), .val (.ref a_EXACT)]) rfl k_) ?_
  show OEnds p e below s _ _ _ (T5.setTop (mkF m 42 #[.val (.ref b1), .val (.ref ar), .val (.int (3 : Int32)), .val (.int (1 : Int32)), .val (.ref a_EXACT)] []))
  refine OEnds.via (fun _ k_ => XS.goto X5.here hx rfl (pc0 := 42) (pc' := 17) rfl (hb hby d1_42) (by decide) (by decide) k_) ?_
  show OEnds p e below s _ _ _ (T5.setTop (mkF m 17 #[.val (.ref b1), .val (.ref ar), .val (.int (3 : Int32)), .val (.int (1 : Int32)), .val (.ref a_EXACT)] []))
  refine OEnds.via (fun _ k_ => XS.iloadN X5.here hx rfl (hb hby d1_17) rfl k_) ?_
  show OEnds p e below s _ _ _ (T5.setTop (mkF m 18 #[.val (.ref b1), .val (.ref ar), .val (.int (3 : Int32)), .val (.int (1 : Int32)), .val (.ref a_EXACT)] [(.int (1 : Int32))]))
  refine OEnds.via (fun _ k_ => XS.iloadN X5.here hx rfl (hb hby d1_18) rfl k_) ?_
  show OEnds p e below s _ _ _ (T5.setTop (mkF m 19 #[.val (.ref b1), .val (.ref ar), .val (.int (3 : Int32)), .val (.int (1 : Int32)), .val (.ref a_EXACT)] [(.int (3 : Int32)), (.int (1 : Int32))]))
  refine OEnds.via (fun _ k_ => XS.icmpNo X5.here hx rfl (hb hby d1_19) rfl (tlt (by decide : (1 : Int32) < (3 : Int32))).2.1 k_) ?_
  show OEnds p e below s _ _ _ (T5.setTop (mkF m 22 #[.val (.ref b1), .val (.ref ar), .val (.int (3 : Int32)), .val (.int (1 : Int32)), .val (.ref a_EXACT)] []))
  refine OEnds.via (fun _ k_ => XS.aloadN X5.here hx rfl (hb hby d1_22) rfl rfl k_) ?_
  show OEnds p e below s _ _ _ (T5.setTop (mkF m 23 #[.val (.ref b1), .val (.ref ar), .val (.int (3 : Int32)), .val (.int (1 : Int32)), .val (.ref a_EXACT)] [(.ref ar)]))
  refine OEnds.via (fun _ k_ => XS.iloadN X5.here hx rfl (hb hby d1_23) rfl k_) ?_
  show OEnds p e below s _ _ _ (T5.setTop (mkF m 24 #[.val (.ref b1), .val (.ref ar), .val (.int (3 : Int32)), .val (.int (1 : Int32)), .val (.ref a_EXACT)] [(.int (1 : Int32)), (.ref ar)]))
  refine OEnds.via (fun _ k_ => X5.aaload hx (j := (1 : Int32)) (v := (.ref a_SLIDING)) Ar.1 (State.isArrayOf_alike hZ.alike Ar.2.1) rfl Ar.2.2 (inb_of Sa ⟨by decide, by decide⟩) (HA 1 (by rw [Sa]; decide)) (g := (mkF m 24 #[.val (.ref b1), .val (.ref ar), .val (.int (3 : Int32)), .val (.int (1 : Int32)), .val (.ref a_EXACT)] [(.int (1 : Int32)), (.ref ar)])) rfl rfl (hb hby d1_24) _ k_) ?_
  show OEnds p e below s _ _ _ (T5.setTop (mkF m 25 #[.val (.ref b1), .val (.ref ar), .val (.int (3 : Int32)), .val (.int (1 : Int32)), .val (.ref a_EXACT)] [(.ref a_SLIDING)]))
  refine OEnds.via (fun _ k_ => XS.astore X5.here hx rfl (hb hby d1_25) rfl rfl (l' := #[.val (.ref b1), .val (.ref ar), .val (.int (3 : Int32)), .val (.int (1 : Int32)), .val (.ref a_SLIDING)]) rfl k_) ?_
  show OEnds p e below s _ _ _ (T5.setTop (mkF m 27 #[.val (.ref b1), .val (.ref ar), .val (.int (3 : Int32)), .val (.int (1 : Int32)), .val (.ref a_SLIDING)] []))
  refine OEnds.via (fun _ k_ => XS.aloadN X5.here hx rfl (hb hby d1_27) rfl rfl k_) ?_
  show OEnds p e below s _ _ _ (T5.setTop (mkF m 28 #[.val (.ref b1), .val (.ref ar), .val (.int (3 : Int32)), .val (.int (1 : Int32)), .val (.ref a_SLIDING)] [(.ref b1)]))
  refine OEnds.via (fun _ k_ => XS.aload X5.here hx rfl (hb hby d1_28) rfl rfl k_) ?_
  show OEnds p e below s _ _ _ (T5.setTop (mkF m 30 #[.val (.ref b1), .val (.ref ar), .val (.int (3 : Int32)), .val (.int (1 : Int32)), .val (.ref a_SLIDING)] [(.ref a_SLIDING), (.ref b1)]))
  obtain ⟨T6, X6, e6, st6⟩ := getF X5 hx hZ hown (host := "") (Or.inl (hw _ (List.mem_of_getElem? (i := 49) rfl))) Via.refl rfl (Fld.ext Od.2 Ft_SLIDING) (g := (mkF m 30 #[.val (.ref b1), .val (.ref ar), .val (.int (3 : Int32)), .val (.int (1 : Int32)), .val (.ref a_SLIDING)] [(.ref a_SLIDING), (.ref b1)])) rfl rfl (hb hby d1_30)
  refine OEnds.via (fun _ k_ => st6 _ k_) ?_
  show OEnds p e below s _ _ _ (T6.setTop (mkF m 33 #[.val (.ref b1), .val (.ref ar), .val (.int (3 : Int32)), .val (.int (1 : Int32)), .val (.ref a_SLIDING)] [(.ref t_SLIDING), (.ref b1)]))
  obtain ⟨cq7, kq7, q7a, q7b, q7c⟩ := isOf hZ e6 E_b1
  obtain ⟨_, _, ⟨T7, L7, k7, n7⟩, -, X7, ⟨Lc7, hQ7, l7, y7, z7⟩, st7⟩ := X6.interfaceBack hx (xi := (⟨"java/util/List", "add", "(Ljava/lang/Object;)Z"⟩ : MethodName)) (y := (⟨"java/util/ArrayList", "add", "(Ljava/lang/Object;)Z"⟩ : MethodName)) hown (mvT hZ (hw _ (List.mem_of_getElem? (i := 51) rfl))) (mvT hZ (hw _ (List.mem_of_getElem? (i := 52) rfl))) (mvT hZ (hw _ (List.mem_of_getElem? (i := 53) rfl))) (mvT hZ (hw _ (List.mem_of_getElem? (i := 54) rfl))) (mvT hZ (hw _ (List.mem_of_getElem? (i := 55) rfl))) (mvT hZ (hw _ (List.mem_of_getElem? (i := 56) rfl))) (mvT hZ (hw _ (List.mem_of_getElem? (i := 57) rfl))) (mvT hZ (hw _ (List.mem_of_getElem? (i := 58) rfl))) (by decide) (backOf (W := 0) (rmA1 l Z a0 hw [] b1 t_SLIDING ((0 : Int32) + (1 : Int32)) d kd t_EXACT T5.heap n0 Od G_modCount G_elementData G_size E_b1 ge_b1 V_d ge_d O_d (Exa.ext Od.2 Et_SLIDING) (Od.ne Et_SLIDING.lt ge_b1) ne_b1_d) hZ (hw _ (List.mem_of_getElem? (i := 59) rfl)) (hw _ (List.mem_of_getElem? (i := 7) rfl)) (by decide) (by decide)) q7a q7b q7c (g := (mkF m 33 #[.val (.ref b1), .val (.ref ar), .val (.int (3 : Int32)), .val (.int (1 : Int32)), .val (.ref a_SLIDING)] [(.ref t_SLIDING), (.ref b1)])) rfl (by rw [hml]; rfl) (Steps.refl _) (argsL := [(.ref t_SLIDING)]) (rest := []) (lenOf pd_28Ljava2flang2fObject3b29Z rfl) rfl (by show 2 * 0 + _ ≤ _; exact Nat.le_of_eq rfl) (hb hby d1_33) (fun _ _ => ⟨rfl, e6, Nat.le_of_ble_eq_true rfl, Nat.le_of_ble_eq_true rfl⟩)
  dsimp only [Pt.U, Pt.locs, Pt.cells, Pt.slots] at X7 l7 y7 z7 st7 hQ7
  subst l7 y7 z7
  obtain ⟨rfl, N7q, K7, -, G_modCount, G_elementData, G_size, V_d⟩ := hQ7
  have N7 := Fr.app N5 N7q
  replace Od := Od.keep K7 (allS ge_b1 (allS ge_d all0))
  replace Kp := Kp.trans K7 (allS (Or.inr sz_b1) (allS (Or.inr szd) all0))
  replace E_b1 := E_b1.keep K7
  replace Ar := own_arrkeep Ar K7 (ninS (Ne.symm ne_b1_ar) (ninS ne_ar_d nin0))
  refine OEnds.via (fun _ k_ => st7.trans k_) ?_
  show OEnds p e below s _ _ _ (T7.setTop (mkF m 38 #[.val (.ref b1), .val (.ref ar), .val (.int (3 : Int32)), .val (.int (1 : Int32)), .val (.ref a_SLIDING)] [(.int (1 : Int32))]))
  refine OEnds.via (fun _ k_ => XS.pop X7.here hx rfl (hb hby d1_38) rfl rfl k_) ?_
  show OEnds p e below s _ _ _ (T7.setTop (mkF m 39 #[.val (.ref b1), .val (.ref ar), .val (.int (3 : Int32)), .val (.int (1 : Int32)), .val (.ref a_SLIDING)] []))
  refine OEnds.via (fun _ k_ => XS.iinc X7.here hx rfl (hb hby d1_39) rfl (l' := #[.val (.ref b1), .val (.ref ar), .val (.int (3 : Int32)), .val (.int (2 : Int32)), .val (.ref a_SLIDING)]) rfl k_) ?_
  show OEnds p e below s _ _ _ (T7.setTop (mkF m 42 #[.val (.ref b1), .val (.ref ar), .val (.int (3 : Int32)), .val (.int (2 : Int32)), .val (.ref a_SLIDING)] []))
  refine OEnds.via (fun _ k_ => XS.goto X7.here hx rfl (pc0 := 42) (pc' := 17) rfl (hb hby d1_42) (by decide) (by decide) k_) ?_
  show OEnds p e below s _ _ _ (T7.setTop (mkF m 17 #[.val (.ref b1), .val (.ref ar), .val (.int (3 : Int32)), .val (.int (2 : Int32)), .val (.ref a_SLIDING)] []))
  refine OEnds.via (fun _ k_ => XS.iloadN X7.here hx rfl (hb hby d1_17) rfl k_) ?_
  show OEnds p e below s _ _ _ (T7.setTop (mkF m 18 #[.val (.ref b1), .val (.ref ar), .val (.int (3 : Int32)), .val (.int (2 : Int32)), .val (.ref a_SLIDING)] [(.int (2 : Int32))]))
  refine OEnds.via (fun _ k_ => XS.iloadN X7.here hx rfl (hb hby d1_18) rfl k_) ?_
  show OEnds p e below s _ _ _ (T7.setTop (mkF m 19 #[.val (.ref b1), .val (.ref ar), .val (.int (3 : Int32)), .val (.int (2 : Int32)), .val (.ref a_SLIDING)] [(.int (3 : Int32)), (.int (2 : Int32))]))
  refine OEnds.via (fun _ k_ => XS.icmpNo X7.here hx rfl (hb hby d1_19) rfl (tlt (by decide : (2 : Int32) < (3 : Int32))).2.1 k_) ?_
  show OEnds p e below s _ _ _ (T7.setTop (mkF m 22 #[.val (.ref b1), .val (.ref ar), .val (.int (3 : Int32)), .val (.int (2 : Int32)), .val (.ref a_SLIDING)] []))
  refine OEnds.via (fun _ k_ => XS.aloadN X7.here hx rfl (hb hby d1_22) rfl rfl k_) ?_
  show OEnds p e below s _ _ _ (T7.setTop (mkF m 23 #[.val (.ref b1), .val (.ref ar), .val (.int (3 : Int32)), .val (.int (2 : Int32)), .val (.ref a_SLIDING)] [(.ref ar)]))
  refine OEnds.via (fun _ k_ => XS.iloadN X7.here hx rfl (hb hby d1_23) rfl k_) ?_
  show OEnds p e below s _ _ _ (T7.setTop (mkF m 24 #[.val (.ref b1), .val (.ref ar), .val (.int (3 : Int32)), .val (.int (2 : Int32)), .val (.ref a_SLIDING)] [(.int (2 : Int32)), (.ref ar)]))
  refine OEnds.via (fun _ k_ => X7.aaload hx (j := (2 : Int32)) (v := (.ref a_FIXED)) Ar.1 (State.isArrayOf_alike hZ.alike Ar.2.1) rfl Ar.2.2 (inb_of Sa ⟨by decide, by decide⟩) (HA 2 (by rw [Sa]; decide)) (g := (mkF m 24 #[.val (.ref b1), .val (.ref ar), .val (.int (3 : Int32)), .val (.int (2 : Int32)), .val (.ref a_SLIDING)] [(.int (2 : Int32)), (.ref ar)])) rfl rfl (hb hby d1_24) _ k_) ?_
  show OEnds p e below s _ _ _ (T7.setTop (mkF m 25 #[.val (.ref b1), .val (.ref ar), .val (.int (3 : Int32)), .val (.int (2 : Int32)), .val (.ref a_SLIDING)] [(.ref a_FIXED)]))
  refine OEnds.via (fun _ k_ => XS.astore X7.here hx rfl (hb hby d1_25) rfl rfl (l' := #[.val (.ref b1), .val (.ref ar), .val (.int (3 : Int32)), .val (.int (2 : Int32)), .val (.ref a_FIXED)]) rfl k_) ?_
  show OEnds p e below s _ _ _ (T7.setTop (mkF m 27 #[.val (.ref b1), .val (.ref ar), .val (.int (3 : Int32)), .val (.int (2 : Int32)), .val (.ref a_FIXED)] []))
  refine OEnds.via (fun _ k_ => XS.aloadN X7.here hx rfl (hb hby d1_27) rfl rfl k_) ?_
  show OEnds p e below s _ _ _ (T7.setTop (mkF m 28 #[.val (.ref b1), .val (.ref ar), .val (.int (3 : Int32)), .val (.int (2 : Int32)), .val (.ref a_FIXED)] [(.ref b1)]))
  refine OEnds.via (fun _ k_ => XS.aload X7.here hx rfl (hb hby d1_28) rfl rfl k_) ?_
  show OEnds p e below s _ _ _ (T7.setTop (mkF m 30 #[.val (.ref b1), .val (.ref ar), .val (.int (3 : Int32)), .val (.int (2 : Int32)), .val (.ref a_FIXED)] [(.ref a_FIXED), (.ref b1)]))
  obtain ⟨T8, X8, e8, st8⟩ := getF X7 hx hZ hown (host := "") (Or.inl (hw _ (List.mem_of_getElem? (i := 49) rfl))) Via.refl rfl (Fld.ext Od.2 Ft_FIXED) (g := (mkF m 30 #[.val (.ref b1), .val (.ref ar), .val (.int (3 : Int32)), .val (.int (2 : Int32)), .val (.ref a_FIXED)] [(.ref a_FIXED), (.ref b1)])) rfl rfl (hb hby d1_30)
  refine OEnds.via (fun _ k_ => st8 _ k_) ?_
  show OEnds p e below s _ _ _ (T8.setTop (mkF m 33 #[.val (.ref b1), .val (.ref ar), .val (.int (3 : Int32)), .val (.int (2 : Int32)), .val (.ref a_FIXED)] [(.ref t_FIXED), (.ref b1)]))
  obtain ⟨cq9, kq9, q9a, q9b, q9c⟩ := isOf hZ e8 E_b1
  obtain ⟨_, _, ⟨T9, L9, k9, n9⟩, -, X9, ⟨Lc9, hQ9, l9, y9, z9⟩, st9⟩ := X8.interfaceBack hx (xi := (⟨"java/util/List", "add", "(Ljava/lang/Object;)Z"⟩ : MethodName)) (y := (⟨"java/util/ArrayList", "add", "(Ljava/lang/Object;)Z"⟩ : MethodName)) hown (mvT hZ (hw _ (List.mem_of_getElem? (i := 51) rfl))) (mvT hZ (hw _ (List.mem_of_getElem? (i := 52) rfl))) (mvT hZ (hw _ (List.mem_of_getElem? (i := 53) rfl))) (mvT hZ (hw _ (List.mem_of_getElem? (i := 54) rfl))) (mvT hZ (hw _ (List.mem_of_getElem? (i := 55) rfl))) (mvT hZ (hw _ (List.mem_of_getElem? (i := 56) rfl))) (mvT hZ (hw _ (List.mem_of_getElem? (i := 57) rfl))) (mvT hZ (hw _ (List.mem_of_getElem? (i := 58) rfl))) (by decide) (backOf (W := 0) (rmA2 l Z a0 hw [] b1 t_FIXED (((0 : Int32) + (1 : Int32)) + (1 : Int32)) d kd t_EXACT t_SLIDING T7.heap n0 Od G_modCount G_elementData G_size E_b1 ge_b1 V_d ge_d O_d (Exa.ext Od.2 Et_FIXED) (Od.ne Et_FIXED.lt ge_b1) ne_b1_d) hZ (hw _ (List.mem_of_getElem? (i := 59) rfl)) (hw _ (List.mem_of_getElem? (i := 7) rfl)) (by decide) (by decide)) q9a q9b q9c (g := (mkF m 33 #[.val (.ref b1), .val (.ref ar), .val (.int (3 : Int32)), .val (.int (2 : Int32)), .val (.ref a_FIXED)] [(.ref t_FIXED), (.ref b1)])) rfl (by rw [hml]; rfl) (Steps.refl _) (argsL := [(.ref t_FIXED)]) (rest := []) (lenOf pd_28Ljava2flang2fObject3b29Z rfl) rfl (by show 2 * 0 + _ ≤ _; exact Nat.le_of_eq rfl) (hb hby d1_33) (fun _ _ => ⟨rfl, e8, Nat.le_of_ble_eq_true rfl, Nat.le_of_ble_eq_true rfl⟩)
  dsimp only [Pt.U, Pt.locs, Pt.cells, Pt.slots] at X9 l9 y9 z9 st9 hQ9
  subst l9 y9 z9
  obtain ⟨rfl, N9q, K9, -, G_modCount, G_elementData, G_size, V_d⟩ := hQ9
  have N9 := Fr.app N7 N9q
  replace Od := Od.keep K9 (allS ge_b1 (allS ge_d all0))
  replace Kp := Kp.trans K9 (allS (Or.inr sz_b1) (allS (Or.inr szd) all0))
  replace E_b1 := E_b1.keep K9
  replace Ar := own_arrkeep Ar K9 (ninS (Ne.symm ne_b1_ar) (ninS ne_ar_d nin0))
  refine OEnds.via (fun _ k_ => st9.trans k_) ?_
  show OEnds p e below s _ _ _ (T9.setTop (mkF m 38 #[.val (.ref b1), .val (.ref ar), .val (.int (3 : Int32)), .val (.int (2 : Int32)), .val (.ref a_FIXED)] [(.int (1 : Int32))]))
  refine OEnds.via (fun _ k_ => XS.pop X9.here hx rfl (hb hby d1_38) rfl rfl k_) ?_
  show OEnds p e below s _ _ _ (T9.setTop (mkF m 39 #[.val (.ref b1), .val (.ref ar), .val (.int (3 : Int32)), .val (.int (2 : Int32)), .val (.ref a_FIXED)] []))
  refine OEnds.via (fun _ k_ => XS.iinc X9.here hx rfl (hb hby d1_39) rfl (l' := #[.val (.ref b1), .val (.ref ar), .val (.int (3 : Int32)), .val (.int (3 : Int32)), .val (.ref a_FIXED)]) rfl k_) ?_
  show OEnds p e below s _ _ _ (T9.setTop (mkF m 42 #[.val (.ref b1), .val (.ref ar), .val (.int (3 : Int32)), .val (.int (3 : Int32)), .val (.ref a_FIXED)] []))
  refine OEnds.via (fun _ k_ => XS.goto X9.here hx rfl (pc0 := 42) (pc' := 17) rfl (hb hby d1_42) (by decide) (by decide) k_) ?_
  show OEnds p e below s _ _ _ (T9.setTop (mkF m 17 #[.val (.ref b1), .val (.ref ar), .val (.int (3 : Int32)), .val (.int (3 : Int32)), .val (.ref a_FIXED)] []))
  refine OEnds.via (fun _ k_ => XS.iloadN X9.here hx rfl (hb hby d1_17) rfl k_) ?_
  show OEnds p e below s _ _ _ (T9.setTop (mkF m 18 #[.val (.ref b1), .val (.ref ar), .val (.int (3 : Int32)), .val (.int (3 : Int32)), .val (.ref a_FIXED)] [(.int (3 : Int32))]))
  refine OEnds.via (fun _ k_ => XS.iloadN X9.here hx rfl (hb hby d1_18) rfl k_) ?_
  show OEnds p e below s _ _ _ (T9.setTop (mkF m 19 #[.val (.ref b1), .val (.ref ar), .val (.int (3 : Int32)), .val (.int (3 : Int32)), .val (.ref a_FIXED)] [(.int (3 : Int32)), (.int (3 : Int32))]))
  refine OEnds.via (fun _ k_ => XS.icmpYes X9.here hx rfl (pc0 := 19) (pc' := 45) rfl (hb hby d1_19) rfl (flt (by decide : ¬ ((3 : Int32) < (3 : Int32)))).2.1 (by decide) (by decide) k_) ?_
  show OEnds p e below s _ _ _ (T9.setTop (mkF m 45 #[.val (.ref b1), .val (.ref ar), .val (.int (3 : Int32)), .val (.int (3 : Int32)), .val (.ref a_FIXED)] []))
  refine OEnds.via (fun _ k_ => XS.aloadN X9.here hx rfl (hb hby d1_45) rfl rfl k_) ?_
  show OEnds p e below s _ _ _ (T9.setTop (mkF m 46 #[.val (.ref b1), .val (.ref ar), .val (.int (3 : Int32)), .val (.int (3 : Int32)), .val (.ref a_FIXED)] [(.ref b1)]))
  refine OEnds.retR X9 hx hlk Bd.returns rfl rfl (hb hby d1_46) ?_ (by decide) (by decide)
  exact ⟨_, _, _, rfl, N9, Kp, ge_b1, E_b1, G_elementData, G_size, V_d⟩
theorem pn_com_example_amber_gate_ambergate_AlgorithmNamesPinLaw : plainName "com/example/amber_gate/ambergate/AlgorithmNamesPinLaw" = true := by first | (simp [plainName, overriddenIn]; done) | decide +kernel
theorem pd_2829I : parseMethodDescriptor "()I" = some ⟨[], some .int⟩ := by decide +kernel
theorem pd_2829Ljava2flang2fString3b : parseMethodDescriptor "()Ljava/lang/String;" = some ⟨[], some (.object "java/lang/String")⟩ := by decide +kernel
theorem pd_2829Ljava2futil2fList3b : parseMethodDescriptor "()Ljava/util/List;" = some ⟨[], some (.object "java/util/List")⟩ := by decide +kernel
theorem pd_28Ljava2flang2fString3b29Lcom2fexample2famber_gate2fambergate2fAlgorithm3b : parseMethodDescriptor "(Ljava/lang/String;)Lcom/example/amber_gate/ambergate/Algorithm;" = some ⟨[(.object "java/lang/String")], some (.object "com/example/amber_gate/ambergate/Algorithm")⟩ := by decide +kernel
set_option maxRecDepth 65536 in
set_option maxHeartbeats 40000000 in
theorem rm0 (l : Launch) (Z : State) (a0 : Array Value) (hw : ∀ d ∈ tables_1, d.before a0 Z = true) (ws : List Jvm.Cond) (p0 : Int32) (a_EXACT : Addr) (a_SLIDING : Addr) (a_FIXED : Addr) (t_EXACT : Addr) (t_SLIDING : Addr) (t_FIXED : Addr) (tv_EXACT : Addr) (tv_SLIDING : Addr) (tv_FIXED : Addr) (kt_EXACT : ClassId) (kt_SLIDING : ClassId) (kt_FIXED : ClassId) (va : Addr) (kA : ClassId) (G1 : Int32) (dc : Addr) (kdc : ClassId) (h0 : Heap) (n0 : Nat) (O0 : Old Z n0 h0) (S_CS : Sta Z Z.heap "java/lang/String" "COMPACT_STRINGS" "Z" (.int G1)) (nz_CS : ¬ (G1 = (0 : Int32))) (S_V : Sta Z Z.heap "com/example/amber_gate/ambergate/Algorithm" "$VALUES" "[Lcom/example/amber_gate/ambergate/Algorithm;" (.ref va)) (AV : Arv Z Z.heap va kA (.object "com/example/amber_gate/ambergate/Algorithm") (3 : Int32) [(.ref a_EXACT), (.ref a_SLIDING), (.ref a_FIXED)] .null) (EV : Exa Z Z.heap va "[Lcom/example/amber_gate/ambergate/Algorithm;") (Et_EXACT : Exa Z Z.heap t_EXACT "java/lang/String") (Vt_EXACT : Fld Z Z.heap t_EXACT "java/lang/String" "value" "[B" (.ref tv_EXACT)) (Ct_EXACT : Fld Z Z.heap t_EXACT "java/lang/String" "coder" "B" (.int (0 : Int32))) (Kt_EXACT : Arv Z Z.heap tv_EXACT kt_EXACT .byte (5 : Int32) [(.int (101 : Int32)), (.int (120 : Int32)), (.int (97 : Int32)), (.int (99 : Int32)), (.int (116 : Int32))] (.int (0 : Int32))) (Ft_EXACT : Fld Z Z.heap a_EXACT "com/example/amber_gate/ambergate/Algorithm" "text" "Ljava/lang/String;" (.ref t_EXACT)) (Et_SLIDING : Exa Z Z.heap t_SLIDING "java/lang/String") (Vt_SLIDING : Fld Z Z.heap t_SLIDING "java/lang/String" "value" "[B" (.ref tv_SLIDING)) (Ct_SLIDING : Fld Z Z.heap t_SLIDING "java/lang/String" "coder" "B" (.int (0 : Int32))) (Kt_SLIDING : Arv Z Z.heap tv_SLIDING kt_SLIDING .byte (7 : Int32) [(.int (115 : Int32)), (.int (108 : Int32)), (.int (105 : Int32)), (.int (100 : Int32)), (.int (105 : Int32)), (.int (110 : Int32)), (.int (103 : Int32))] (.int (0 : Int32))) (Ft_SLIDING : Fld Z Z.heap a_SLIDING "com/example/amber_gate/ambergate/Algorithm" "text" "Ljava/lang/String;" (.ref t_SLIDING)) (Et_FIXED : Exa Z Z.heap t_FIXED "java/lang/String") (Vt_FIXED : Fld Z Z.heap t_FIXED "java/lang/String" "value" "[B" (.ref tv_FIXED)) (Ct_FIXED : Fld Z Z.heap t_FIXED "java/lang/String" "coder" "B" (.int (0 : Int32))) (Kt_FIXED : Arv Z Z.heap tv_FIXED kt_FIXED .byte (5 : Int32) [(.int (102 : Int32)), (.int (105 : Int32)), (.int (120 : Int32)), (.int (101 : Int32)), (.int (100 : Int32))] (.int (0 : Int32))) (Ft_FIXED : Fld Z Z.heap a_FIXED "com/example/amber_gate/ambergate/Algorithm" "text" "Ljava/lang/String;" (.ref t_FIXED)) (S_dc : Sta Z Z.heap "java/util/ArrayList" "DEFAULTCAPACITY_EMPTY_ELEMENTDATA" "[Ljava/lang/Object;" (.ref dc)) (V_dc : Arv Z Z.heap dc kdc (.object "java/lang/Object") (0 : Int32) [] .null) (S_EXACT : Sta Z Z.heap "com/example/amber_gate/ambergate/Algorithm" "EXACT" "Lcom/example/amber_gate/ambergate/Algorithm;" (.ref a_EXACT)) (S_SLIDING : Sta Z Z.heap "com/example/amber_gate/ambergate/Algorithm" "SLIDING" "Lcom/example/amber_gate/ambergate/Algorithm;" (.ref a_SLIDING)) (S_FIXED : Sta Z Z.heap "com/example/amber_gate/ambergate/Algorithm" "FIXED" "Lcom/example/amber_gate/ambergate/Algorithm;" (.ref a_FIXED)) (E_EXACT : Exa Z Z.heap a_EXACT "com/example/amber_gate/ambergate/Algorithm") (E_SLIDING : Exa Z Z.heap a_SLIDING "com/example/amber_gate/ambergate/Algorithm") (E_FIXED : Exa Z Z.heap a_FIXED "com/example/amber_gate/ambergate/Algorithm") :
    MetFree l x (head1 (Jvm.Cond.code x code maxLocals ret :: ws) room_1) (fun ar' U => ar' = #[(.int p0)] ∧ Z.Warmed39 U.vm ∧ U.heap = h0 ∧ CHv Z consts_1 U.vm h0) (fun _ _ _ _ _ => True) (fun _ U o U' => ∃ v L, o = .returned v ∧ (QL n0) v U'.heap L ∧ CHr Z consts_1 U.vm U.heap U'.vm U'.heap ∧ ReturnedEndW U o U' L 24 3200) := by
  refine MetFree.of_bodySF (plainFor_of_name pn_com_example_amber_gate_ambergate_AlgorithmNamesPinLaw) hisR ?_
  intro p e s m args below meth c s₁ Bd hml0 hP hK
  obtain ⟨rfl, hZ, hh, hCH0⟩ := hP
  have hx := Bd.exec
  have hby := Bd.bytes
  have hlk := BodyLoose.notSynchronized Bd
  have hml : c.maxLocals = 6 := hml0
  have hown : s.vm.findClass "com/example/amber_gate/ambergate/AlgorithmNamesPinLaw" = some m.cls := findClass_of_methodNamed Bd.named
  have hnm := (name_of_methodNamed Bd.named Bd.method).1
  have X0 : Stand p l e room_1 (s.setVm s.vm) m #[(.int p0)] below meth c s₁ [] 0 0 := Stand.of_body Bd
  have e0 : s₁.heap = h0 := by rw [← hh, Bd.state]; rfl
  have N0 := Fr.nil n0
  have Z0 : n0 ≤ h0.size := O0.1 ▸ O0.2.1
  have hEL : EW Z a0 consts_1 := own_EW hw
  have wS := own_wS hw
  have es : s.heap = h0 := hh
  have hS : s.Since s.vm h0.size := (State.WarmedH.refl s).since _
  have hk : h0.size ≤ h0.size := Nat.le_refl _
  have CR : CHr Z consts_1 s.vm h0 s.vm h0 := CHr.refl hCH0
  show OEndsW p e below s Z consts_1 24 3200 (QL n0) (s₁.setTop (entryFrame m #[(.int p0)] maxLocals))
  refine OEndsW.via (fun _ k_ => castTop (show entryFrame m #[(.int p0)] maxLocals = (mkF m 0 #[.val (.int p0), .unset, .unset, .unset, .unset, .unset] []) by first | (simp [entryFrame, mkF, argsToLocals, Value.category, maxLocals]; done) | rfl) k_) ?_
  have heq : ∀ d ∈ StrChars.Road.wordsEq, d.before a0 Z = true := fun d hd => hw d ((by decide +kernel : ∀ d ∈ StrChars.Road.wordsEq, d ∈ tables_1) d hd)
  have Od := O0
  have hp_t_EXACT : ∀ c ∈ ([(101 : Int32), (120 : Int32), (97 : Int32), (99 : Int32), (116 : Int32)] : List Int32), ¬ c < 0 ∧ ¬ (255 : Int32) < c := by decide
  have hcd_t_EXACT : StrChars.Road.CodA ([(101 : Int32), (120 : Int32), (97 : Int32), (99 : Int32), (116 : Int32)] : List Int32) 0 (5 : Int32) [(.int (101 : Int32)), (.int (120 : Int32)), (.int (97 : Int32)), (.int (99 : Int32)), (.int (116 : Int32))] := Or.inl ⟨rfl, rfl, rfl, fun c hc => (hp_t_EXACT c hc).2⟩
  have hbd_t_EXACT := own_up _ hp_t_EXACT
  have hp_t_SLIDING : ∀ c ∈ ([(115 : Int32), (108 : Int32), (105 : Int32), (100 : Int32), (105 : Int32), (110 : Int32), (103 : Int32)] : List Int32), ¬ c < 0 ∧ ¬ (255 : Int32) < c := by decide
  have hcd_t_SLIDING : StrChars.Road.CodA ([(115 : Int32), (108 : Int32), (105 : Int32), (100 : Int32), (105 : Int32), (110 : Int32), (103 : Int32)] : List Int32) 0 (7 : Int32) [(.int (115 : Int32)), (.int (108 : Int32)), (.int (105 : Int32)), (.int (100 : Int32)), (.int (105 : Int32)), (.int (110 : Int32)), (.int (103 : Int32))] := Or.inl ⟨rfl, rfl, rfl, fun c hc => (hp_t_SLIDING c hc).2⟩
  have hbd_t_SLIDING := own_up _ hp_t_SLIDING
  have hp_t_FIXED : ∀ c ∈ ([(102 : Int32), (105 : Int32), (120 : Int32), (101 : Int32), (100 : Int32)] : List Int32), ¬ c < 0 ∧ ¬ (255 : Int32) < c := by decide
  have hcd_t_FIXED : StrChars.Road.CodA ([(102 : Int32), (105 : Int32), (120 : Int32), (101 : Int32), (100 : Int32)] : List Int32) 0 (5 : Int32) [(.int (102 : Int32)), (.int (105 : Int32)), (.int (120 : Int32)), (.int (101 : Int32)), (.int (100 : Int32))] := Or.inl ⟨rfl, rfl, rfl, fun c hc => (hp_t_FIXED c hc).2⟩
  have hbd_t_FIXED := own_up _ hp_t_FIXED
  show OEndsW p e below s _ _ _ _ _ (s₁.setTop (mkF m 0 #[.val (.int p0), .unset, .unset, .unset, .unset, .unset] []))
  refine OEndsW.via (fun _ k_ => XS.iloadN X0.here hx rfl (hb hby at_0) rfl k_) ?_
  show OEndsW p e below s _ _ _ _ _ (s₁.setTop (mkF m 1 #[.val (.int p0), .unset, .unset, .unset, .unset, .unset] [(.int p0)]))
  refine OEndsW.via (fun _ k_ => X0.ldcInt hx hown (mvT hZ (hw _ (List.mem_of_getElem? (i := 0) rfl))) (g := (mkF m 1 #[.val (.int p0), .unset, .unset, .unset, .unset, .unset] [(.int p0)])) rfl (hb hby at_1) _ k_) ?_
  show OEndsW p e below s _ _ _ _ _ (s₁.setTop (mkF m 3 #[.val (.int p0), .unset, .unset, .unset, .unset, .unset] [(.int (2147483647 : Int32)), (.int p0)]))
  refine OEndsW.via (fun _ k_ => XS.iand X0.here hx rfl (hb hby at_3) rfl k_) ?_
  show OEndsW p e below s _ _ _ _ _ (s₁.setTop (mkF m 4 #[.val (.int p0), .unset, .unset, .unset, .unset, .unset] [(.int (p0 &&& (2147483647 : Int32)))]))
  refine OEndsW.via (fun _ k_ => XS.iconst X0.here hx rfl (hb hby at_4) k_) ?_
  show OEndsW p e below s _ _ _ _ _ (s₁.setTop (mkF m 5 #[.val (.int p0), .unset, .unset, .unset, .unset, .unset] [(.int (3 : Int32)), (.int (p0 &&& (2147483647 : Int32)))]))
  refine OEndsW.via (fun _ k_ => iremM X0 hx rfl (hb hby at_5) rfl (by decide) k_) ?_
  show OEndsW p e below s _ _ _ _ _ (s₁.setTop (mkF m 6 #[.val (.int p0), .unset, .unset, .unset, .unset, .unset] [(.int ((p0 &&& (2147483647 : Int32)) % (3 : Int32)))]))
  refine OEndsW.via (fun _ k_ => XS.istoreN X0.here hx rfl (hb hby at_6) rfl (l' := #[.val (.int p0), .val (.int ((p0 &&& (2147483647 : Int32)) % (3 : Int32))), .unset, .unset, .unset, .unset]) rfl k_) ?_
  show OEndsW p e below s _ _ _ _ _ (s₁.setTop (mkF m 7 #[.val (.int p0), .val (.int ((p0 &&& (2147483647 : Int32)) % (3 : Int32))), .unset, .unset, .unset, .unset] []))
  obtain ⟨_, _, ⟨T1, L1, k1, n1⟩, -, X1, ⟨Lc1, hQ1, l1, y1, z1⟩, st1⟩ := Jvm.LawKit.callS X0 hx (y := (⟨"com/example/amber_gate/ambergate/Algorithm", "names", "()Ljava/util/List;"⟩ : MethodName)) hown (mvT hZ (hw _ (List.mem_of_getElem? (i := 1) rfl))) (mvT hZ (hw _ (List.mem_of_getElem? (i := 2) rfl))) (mvT hZ (hw _ (List.mem_of_getElem? (i := 3) rfl))) (mvT hZ (hw _ (List.mem_of_getElem? (i := 4) rfl))) (by decide) (backOf (W := 0) (rmNames l Z a0 hw [] a_EXACT a_SLIDING a_FIXED t_EXACT t_SLIDING t_FIXED tv_EXACT tv_SLIDING tv_FIXED kt_EXACT kt_SLIDING kt_FIXED va kA G1 dc kdc h0 n0 Od S_CS nz_CS S_V AV EV Et_EXACT Vt_EXACT Ct_EXACT Kt_EXACT Ft_EXACT Et_SLIDING Vt_SLIDING Ct_SLIDING Kt_SLIDING Ft_SLIDING Et_FIXED Vt_FIXED Ct_FIXED Kt_FIXED Ft_FIXED S_dc V_dc) hZ (hw _ (List.mem_of_getElem? (i := 4) rfl)) (hw _ (List.mem_of_getElem? (i := 3) rfl)) (by decide) (by decide)) (g := (mkF m 7 #[.val (.int p0), .val (.int ((p0 &&& (2147483647 : Int32)) % (3 : Int32))), .unset, .unset, .unset, .unset] [])) rfl (by rw [hml]; rfl) (argsL := []) (rest := []) (lenOf pd_2829Ljava2futil2fList3b rfl) rfl (by show 2 * 0 + _ ≤ _; exact Nat.le_of_eq rfl) (hb hby at_7) (fun _ _ => ⟨rfl, e0, Nat.le_of_ble_eq_true rfl, Nat.le_of_ble_eq_true rfl⟩)
  dsimp only [Pt.U, Pt.locs, Pt.cells, Pt.slots] at X1 l1 y1 z1 st1 hQ1
  subst l1 y1 z1
  obtain ⟨r, d, kd, rfl, N1q, K1, ge_r, E_r, G_ed, G_sz, V_d⟩ := hQ1
  have N1 := Fr.app N0 N1q
  have sfk1 : ∀ x ∈ ([] : List Addr), Safe Z consts_1 s.vm h0 x := all0
  replace hk := Nat.le_trans hk K1.1
  replace Od := Od.keep K1 all0
  replace CR := CR.trans (CHr.keep K1 sfk1 CR.1)
  refine OEndsW.via (fun _ k_ => st1 _ k_) ?_
  show OEndsW p e below s _ _ _ _ _ (T1.setTop (mkF m 10 #[.val (.int p0), .val (.int ((p0 &&& (2147483647 : Int32)) % (3 : Int32))), .unset, .unset, .unset, .unset] [(.ref r)]))
  refine OEndsW.via (fun _ k_ => XS.astoreN X1.here hx rfl (hb hby at_10) rfl rfl (l' := #[.val (.int p0), .val (.int ((p0 &&& (2147483647 : Int32)) % (3 : Int32))), .val (.ref r), .unset, .unset, .unset]) rfl k_) ?_
  show OEndsW p e below s _ _ _ _ _ (T1.setTop (mkF m 11 #[.val (.int p0), .val (.int ((p0 &&& (2147483647 : Int32)) % (3 : Int32))), .val (.ref r), .unset, .unset, .unset] []))
  refine OEndsW.via (fun _ k_ => XS.aloadN X1.here hx rfl (hb hby at_11) rfl rfl k_) ?_
  show OEndsW p e below s _ _ _ _ _ (T1.setTop (mkF m 12 #[.val (.int p0), .val (.int ((p0 &&& (2147483647 : Int32)) % (3 : Int32))), .val (.ref r), .unset, .unset, .unset] [(.ref r)]))
  obtain ⟨cq2, kq2, q2a, q2b, q2c⟩ := isOf hZ rfl E_r
  obtain ⟨_, _, ⟨T2, L2, k2, n2⟩, -, X2, ⟨Lc2, hQ2, l2, y2, z2⟩, st2⟩ := X1.interfaceBack hx (xi := (⟨"java/util/List", "size", "()I"⟩ : MethodName)) (y := (⟨"java/util/ArrayList", "size", "()I"⟩ : MethodName)) hown (mvT hZ (hw _ (List.mem_of_getElem? (i := 86) rfl))) (mvT hZ (hw _ (List.mem_of_getElem? (i := 87) rfl))) (mvT hZ (hw _ (List.mem_of_getElem? (i := 88) rfl))) (mvT hZ (hw _ (List.mem_of_getElem? (i := 89) rfl))) (mvT hZ (hw _ (List.mem_of_getElem? (i := 90) rfl))) (mvT hZ (hw _ (List.mem_of_getElem? (i := 91) rfl))) (mvT hZ (hw _ (List.mem_of_getElem? (i := 92) rfl))) (mvT hZ (hw _ (List.mem_of_getElem? (i := 58) rfl))) (by decide) (backOf (W := 0) (rmSize l Z a0 hw [] r (3 : Int32) T1.heap n0 Od G_sz) hZ (hw _ (List.mem_of_getElem? (i := 93) rfl)) (hw _ (List.mem_of_getElem? (i := 7) rfl)) (by decide) (by decide)) q2a q2b q2c (g := (mkF m 12 #[.val (.int p0), .val (.int ((p0 &&& (2147483647 : Int32)) % (3 : Int32))), .val (.ref r), .unset, .unset, .unset] [(.ref r)])) rfl (by rw [hml]; rfl) (Steps.refl _) (argsL := []) (rest := []) (lenOf pd_2829I rfl) rfl (by show 2 * 0 + _ ≤ _; exact Nat.le_of_eq rfl) (hb hby at_12) (fun _ _ => ⟨rfl, rfl, Nat.le_of_ble_eq_true rfl, Nat.le_of_ble_eq_true rfl⟩)
  dsimp only [Pt.U, Pt.locs, Pt.cells, Pt.slots] at X2 l2 y2 z2 st2 hQ2
  subst l2 y2 z2
  obtain ⟨rfl, N2q, e2⟩ := hQ2
  have N2 := Fr.app N1 N2q
  refine OEndsW.via (fun _ k_ => st2.trans k_) ?_
  show OEndsW p e below s _ _ _ _ _ (T2.setTop (mkF m 17 #[.val (.int p0), .val (.int ((p0 &&& (2147483647 : Int32)) % (3 : Int32))), .val (.ref r), .unset, .unset, .unset] [(.int (3 : Int32))]))
  refine OEndsW.via (fun _ k_ => XS.iconst X2.here hx rfl (hb hby at_17) k_) ?_
  show OEndsW p e below s _ _ _ _ _ (T2.setTop (mkF m 18 #[.val (.int p0), .val (.int ((p0 &&& (2147483647 : Int32)) % (3 : Int32))), .val (.ref r), .unset, .unset, .unset] [(.int (3 : Int32)), (.int (3 : Int32))]))
  refine OEndsW.via (fun _ k_ => XS.icmpYes X2.here hx rfl (pc0 := 18) (pc' := 23) rfl (hb hby at_18) rfl (teq (by decide : (3 : Int32) = (3 : Int32))).1 (by decide) (by decide) k_) ?_
  show OEndsW p e below s _ _ _ _ _ (T2.setTop (mkF m 23 #[.val (.int p0), .val (.int ((p0 &&& (2147483647 : Int32)) % (3 : Int32))), .val (.ref r), .unset, .unset, .unset] []))
  refine OEndsW.via (fun _ k_ => XS.iloadN X2.here hx rfl (hb hby at_23) rfl k_) ?_
  show OEndsW p e below s _ _ _ _ _ (T2.setTop (mkF m 24 #[.val (.int p0), .val (.int ((p0 &&& (2147483647 : Int32)) % (3 : Int32))), .val (.ref r), .unset, .unset, .unset] [(.int ((p0 &&& (2147483647 : Int32)) % (3 : Int32)))]))
  by_cases hc24_2 : ((p0 &&& (2147483647 : Int32)) % (3 : Int32)) = (0 : Int32)
  · skip
    refine OEndsW.via (fun _ k_ => XS.ifNo X2.here hx rfl (hb hby at_24) rfl ((if0 _ _).trans (teq hc24_2).2) k_) ?_
    show OEndsW p e below s _ _ _ _ _ (T2.setTop (mkF m 27 #[.val (.int p0), .val (.int ((p0 &&& (2147483647 : Int32)) % (3 : Int32))), .val (.ref r), .unset, .unset, .unset] []))
    obtain ⟨T4, X4, e4, st4⟩ := getS2 X2 hx hZ hown (host := "") (Or.inl (hw _ (List.mem_of_getElem? (i := 94) rfl))) Via.refl e2 (Sta.ext Od.2 S_EXACT) (g := (mkF m 27 #[.val (.int p0), .val (.int ((p0 &&& (2147483647 : Int32)) % (3 : Int32))), .val (.ref r), .unset, .unset, .unset] [])) rfl (hb hby at_27)
    refine OEndsW.via (fun _ k_ => st4 _ k_) ?_
    show OEndsW p e below s _ _ _ _ _ (T4.setTop (mkF m 30 #[.val (.int p0), .val (.int ((p0 &&& (2147483647 : Int32)) % (3 : Int32))), .val (.ref r), .unset, .unset, .unset] [(.ref a_EXACT)]))
    refine OEndsW.via (fun _ k_ => XS.astoreN X4.here hx rfl (hb hby at_30) rfl rfl (l' := #[.val (.int p0), .val (.int ((p0 &&& (2147483647 : Int32)) % (3 : Int32))), .val (.ref r), .val (.ref a_EXACT), .unset, .unset]) rfl k_) ?_
    show OEndsW p e below s _ _ _ _ _ (T4.setTop (mkF m 31 #[.val (.int p0), .val (.int ((p0 &&& (2147483647 : Int32)) % (3 : Int32))), .val (.ref r), .val (.ref a_EXACT), .unset, .unset] []))
    obtain ⟨q5, T5, h5, k15, qv5, kq5, X5, e5, E5, hS5, hk5, hZ5, hown5, E_q5, C_q5, V_q5, K_q5, la5, lb5, CH5, Lt5, hsafe5, st5⟩ := ldcCH X4 hx hZ hown (hw _ (List.mem_of_getElem? (i := 95) rfl)) wS e4 hS hk hEL (by decide : ("com/example/amber_gate/ambergate/AlgorithmNamesPinLaw", 24) ∈ consts_1) CR.1 (vs := [(.int (101 : Int32)), (.int (120 : Int32)), (.int (97 : Int32)), (.int (99 : Int32)), (.int (116 : Int32))]) (z := (5 : Int32)) (by decide) (by decide) (by decide) (g := (mkF m 31 #[.val (.int p0), .val (.int ((p0 &&& (2147483647 : Int32)) % (3 : Int32))), .val (.ref r), .val (.ref a_EXACT), .unset, .unset] [])) rfl (hb hby at_31) (n := 20) (by decide) (by decide) (by decide) (by decide)
    replace Od := Od.ext E5
    replace E_r := Exa.ext E5 E_r
    replace G_ed := Fld.ext E5 G_ed
    replace G_sz := Fld.ext E5 G_sz
    replace V_d := V_d.ext E5
    replace CR := CR.trans CH5
    replace hS := hS5
    replace hk := hk5
    replace hZ := hZ5
    replace hown := hown5
    have hp_q5 : ∀ c ∈ ([(101 : Int32), (120 : Int32), (97 : Int32), (99 : Int32), (116 : Int32)] : List Int32), ¬ c < 0 ∧ ¬ (255 : Int32) < c := by decide
    have hcd_q5 : StrChars.Road.CodA ([(101 : Int32), (120 : Int32), (97 : Int32), (99 : Int32), (116 : Int32)] : List Int32) 0 (5 : Int32) [(.int (101 : Int32)), (.int (120 : Int32)), (.int (97 : Int32)), (.int (99 : Int32)), (.int (116 : Int32))] := Or.inl ⟨rfl, rfl, rfl, fun c hc => (hp_q5 c hc).2⟩
    have hbd_q5 := own_up _ hp_q5
    refine OEndsW.via (fun _ k_ => st5 _ k_) ?_
    show OEndsW p e below s _ _ _ _ _ (T5.setTop (mkF m 33 #[.val (.int p0), .val (.int ((p0 &&& (2147483647 : Int32)) % (3 : Int32))), .val (.ref r), .val (.ref a_EXACT), .unset, .unset] [(.ref q5)]))
    refine OEndsW.via (fun _ k_ => XS.astore X5.here hx rfl (hb hby at_33) rfl rfl (l' := #[.val (.int p0), .val (.int ((p0 &&& (2147483647 : Int32)) % (3 : Int32))), .val (.ref r), .val (.ref a_EXACT), .val (.ref q5), .unset]) rfl k_) ?_
    show OEndsW p e below s _ _ _ _ _ (T5.setTop (mkF m 35 #[.val (.int p0), .val (.int ((p0 &&& (2147483647 : Int32)) % (3 : Int32))), .val (.ref r), .val (.ref a_EXACT), .val (.ref q5), .unset] []))
    refine OEndsW.via (fun _ k_ => XS.goto X5.here hx rfl (pc0 := 35) (pc' := 62) rfl (hb hby at_35) (by decide) (by decide) k_) ?_
    show OEndsW p e below s _ _ _ _ _ (T5.setTop (mkF m 62 #[.val (.int p0), .val (.int ((p0 &&& (2147483647 : Int32)) % (3 : Int32))), .val (.ref r), .val (.ref a_EXACT), .val (.ref q5), .unset] []))
    rw [hc24_2]
    show OEndsW p e below s _ _ _ _ _ (T5.setTop (mkF m 62 #[.val (.int p0), .val (.int (0 : Int32)), .val (.ref r), .val (.ref a_EXACT), .val (.ref q5), .unset] []))
    refine OEndsW.via (fun _ k_ => XS.aloadN X5.here hx rfl (hb hby at_62) rfl rfl k_) ?_
    show OEndsW p e below s _ _ _ _ _ (T5.setTop (mkF m 63 #[.val (.int p0), .val (.int (0 : Int32)), .val (.ref r), .val (.ref a_EXACT), .val (.ref q5), .unset] [(.ref r)]))
    refine OEndsW.via (fun _ k_ => XS.iloadN X5.here hx rfl (hb hby at_63) rfl k_) ?_
    show OEndsW p e below s _ _ _ _ _ (T5.setTop (mkF m 64 #[.val (.int p0), .val (.int (0 : Int32)), .val (.ref r), .val (.ref a_EXACT), .val (.ref q5), .unset] [(.int (0 : Int32)), (.ref r)]))
    have V_d' := V_d
    obtain ⟨cl, Ar, qA, Sa, MA, HA, GA⟩ := V_d'
    obtain ⟨cq6, kq6, q6a, q6b, q6c⟩ := isOf hZ e5 E_r
    obtain ⟨_, _, ⟨T6, L6, k6, n6⟩, -, X6, ⟨Lc6, hQ6, l6, y6, z6⟩, st6⟩ := X5.interfaceBack hx (xi := (⟨"java/util/List", "get", "(I)Ljava/lang/Object;"⟩ : MethodName)) (y := (⟨"java/util/ArrayList", "get", "(I)Ljava/lang/Object;"⟩ : MethodName)) hown (mvT hZ (hw _ (List.mem_of_getElem? (i := 103) rfl))) (mvT hZ (hw _ (List.mem_of_getElem? (i := 104) rfl))) (mvT hZ (hw _ (List.mem_of_getElem? (i := 105) rfl))) (mvT hZ (hw _ (List.mem_of_getElem? (i := 106) rfl))) (mvT hZ (hw _ (List.mem_of_getElem? (i := 107) rfl))) (mvT hZ (hw _ (List.mem_of_getElem? (i := 108) rfl))) (mvT hZ (hw _ (List.mem_of_getElem? (i := 109) rfl))) (mvT hZ (hw _ (List.mem_of_getElem? (i := 58) rfl))) (by decide) (backOf (W := 0) (rmGet l Z a0 hw [] r d (0 : Int32) t_EXACT cl (3 : Int32) h5 n0 Od G_ed Ar (inb_of Sa ⟨by decide, by decide⟩) (HA 0 (by rw [Sa]; decide)) G_sz E_r (by decide) (by decide)) hZ (hw _ (List.mem_of_getElem? (i := 110) rfl)) (hw _ (List.mem_of_getElem? (i := 7) rfl)) (by decide) (by decide)) q6a q6b q6c (g := (mkF m 64 #[.val (.int p0), .val (.int (0 : Int32)), .val (.ref r), .val (.ref a_EXACT), .val (.ref q5), .unset] [(.int (0 : Int32)), (.ref r)])) rfl (by rw [hml]; rfl) (Steps.refl _) (argsL := [(.int (0 : Int32))]) (rest := []) (lenOf pd_28I29Ljava2flang2fObject3b rfl) rfl (by show 2 * 0 + _ ≤ _; exact Nat.le_of_eq rfl) (hb hby at_64) (fun _ _ => ⟨rfl, e5, Nat.le_of_ble_eq_true rfl, Nat.le_of_ble_eq_true rfl⟩)
    dsimp only [Pt.U, Pt.locs, Pt.cells, Pt.slots] at X6 l6 y6 z6 st6 hQ6
    subst l6 y6 z6
    obtain ⟨rfl, N6q, e6⟩ := hQ6
    have N6 := Fr.app N2 N6q
    refine OEndsW.via (fun _ k_ => st6.trans k_) ?_
    show OEndsW p e below s _ _ _ _ _ (T6.setTop (mkF m 69 #[.val (.int p0), .val (.int (0 : Int32)), .val (.ref r), .val (.ref a_EXACT), .val (.ref q5), .unset] [(.ref t_EXACT)]))
    obtain ⟨T7, X7, e7, st7⟩ := castY X6 hx hZ hown (hw _ (List.mem_of_getElem? (i := 124) rfl)) e6 (Ins.self (Exa.ext Od.2 Et_EXACT)) (g := (mkF m 69 #[.val (.int p0), .val (.int (0 : Int32)), .val (.ref r), .val (.ref a_EXACT), .val (.ref q5), .unset] [(.ref t_EXACT)])) rfl rfl (hb hby at_69)
    refine OEndsW.via (fun _ k_ => st7 _ k_) ?_
    show OEndsW p e below s _ _ _ _ _ (T7.setTop (mkF m 72 #[.val (.int p0), .val (.int (0 : Int32)), .val (.ref r), .val (.ref a_EXACT), .val (.ref q5), .unset] [(.ref t_EXACT)]))
    refine OEndsW.via (fun _ k_ => XS.astore X7.here hx rfl (hb hby at_72) rfl rfl (l' := #[.val (.int p0), .val (.int (0 : Int32)), .val (.ref r), .val (.ref a_EXACT), .val (.ref q5), .val (.ref t_EXACT)]) rfl k_) ?_
    show OEndsW p e below s _ _ _ _ _ (T7.setTop (mkF m 74 #[.val (.int p0), .val (.int (0 : Int32)), .val (.ref r), .val (.ref a_EXACT), .val (.ref q5), .val (.ref t_EXACT)] []))
    refine OEndsW.via (fun _ k_ => XS.aload X7.here hx rfl (hb hby at_74) rfl rfl k_) ?_
    show OEndsW p e below s _ _ _ _ _ (T7.setTop (mkF m 76 #[.val (.int p0), .val (.int (0 : Int32)), .val (.ref r), .val (.ref a_EXACT), .val (.ref q5), .val (.ref t_EXACT)] [(.ref t_EXACT)]))
    refine OEndsW.via (fun _ k_ => XS.ifnonnullYes X7.here hx rfl (pc0 := 76) (pc' := 81) rfl (hb hby at_76) rfl (by decide) (by decide) k_) ?_
    show OEndsW p e below s _ _ _ _ _ (T7.setTop (mkF m 81 #[.val (.int p0), .val (.int (0 : Int32)), .val (.ref r), .val (.ref a_EXACT), .val (.ref q5), .val (.ref t_EXACT)] []))
    refine OEndsW.via (fun _ k_ => XS.aload X7.here hx rfl (hb hby at_81) rfl rfl k_) ?_
    show OEndsW p e below s _ _ _ _ _ (T7.setTop (mkF m 83 #[.val (.int p0), .val (.int (0 : Int32)), .val (.ref r), .val (.ref a_EXACT), .val (.ref q5), .val (.ref t_EXACT)] [(.ref t_EXACT)]))
    refine OEndsW.via (fun _ k_ => XS.aload X7.here hx rfl (hb hby at_83) rfl rfl k_) ?_
    show OEndsW p e below s _ _ _ _ _ (T7.setTop (mkF m 85 #[.val (.int p0), .val (.int (0 : Int32)), .val (.ref r), .val (.ref a_EXACT), .val (.ref q5), .val (.ref t_EXACT)] [(.ref q5), (.ref t_EXACT)]))
    obtain ⟨cq8, kq8, q8a, q8b, q8c⟩ := isOf hZ e7 (Exa.ext Od.2 Et_EXACT)
    obtain ⟨_, _, ⟨T8, L8, k8, n8⟩, -, X8, ⟨Lc8, hQ8, l8, y8, z8⟩, st8⟩ := X7.virtualBack hx (y := (⟨"java/lang/String", "equals", "(Ljava/lang/Object;)Z"⟩ : MethodName)) (z := (⟨"java/lang/String", "equals", "(Ljava/lang/Object;)Z"⟩ : MethodName)) hown (mvT hZ (hw _ (List.mem_of_getElem? (i := 126) rfl))) (mvT hZ (hw _ (List.mem_of_getElem? (i := 127) rfl))) (notFace_of_selects (args := #[]) (mvT hZ (hw _ (List.mem_of_getElem? (i := 129) rfl)))) (mvT hZ (hw _ (List.mem_of_getElem? (i := 129) rfl))) (mvT hZ (hw _ (List.mem_of_getElem? (i := 128) rfl))) (by decide) (StrChars.Road.eqW (W := 0) hZ heq (kI := 4) (hw _ (List.mem_of_getElem? (i := 97) rfl)) (Exa.ext Od.2 Et_EXACT) (Fld.ext Od.2 Vt_EXACT) (Fld.ext Od.2 Ct_EXACT) (Kt_EXACT.ext Od.2) hcd_t_EXACT hbd_t_EXACT (by decide) E_q5 V_q5 C_q5 K_q5 hcd_q5 hbd_q5 (by decide) (Sta.ext Od.2 S_CS) nz_CS (by decide) (by decide)) q8a q8c (g := (mkF m 85 #[.val (.int p0), .val (.int (0 : Int32)), .val (.ref r), .val (.ref a_EXACT), .val (.ref q5), .val (.ref t_EXACT)] [(.ref q5), (.ref t_EXACT)])) rfl (by rw [hml]; rfl) (Steps.refl _) (argsL := [(.ref q5)]) (rest := []) (lenOf pd_28Ljava2flang2fObject3b29Z rfl) rfl (by show 2 * 0 + _ ≤ _; exact Nat.le_of_eq rfl) (hb hby at_85) (fun _ _ => ⟨rfl, e7, Nat.le_of_ble_eq_true rfl, Nat.le_of_ble_eq_true rfl⟩)
    dsimp only [Pt.U, Pt.locs, Pt.cells, Pt.slots] at X8 l8 y8 z8 st8 hQ8
    subst l8 y8 z8
    obtain ⟨hcase8, rfl, e8⟩ := hQ8
    have N8 := Fr.app N6 (Fr.nil n0)
    have hv8 : _ = some (Value.int 1) := hcase8.elim (fun q => q.1) (fun q => absurd rfl q.2)
    subst hv8
    refine OEndsW.via (fun _ k_ => st8.trans k_) ?_
    show OEndsW p e below s _ _ _ _ _ (T8.setTop (mkF m 88 #[.val (.int p0), .val (.int (0 : Int32)), .val (.ref r), .val (.ref a_EXACT), .val (.ref q5), .val (.ref t_EXACT)] [(.int (1 : Int32))]))
    refine OEndsW.via (fun _ k_ => XS.ifNo X8.here hx rfl (hb hby at_88) rfl ((if0 _ _).trans (feq (by decide : ¬ ((1 : Int32) = (0 : Int32)))).1) k_) ?_
    show OEndsW p e below s _ _ _ _ _ (T8.setTop (mkF m 91 #[.val (.int p0), .val (.int (0 : Int32)), .val (.ref r), .val (.ref a_EXACT), .val (.ref q5), .val (.ref t_EXACT)] []))
    refine OEndsW.via (fun _ k_ => XS.aload X8.here hx rfl (hb hby at_91) rfl rfl k_) ?_
    show OEndsW p e below s _ _ _ _ _ (T8.setTop (mkF m 93 #[.val (.int p0), .val (.int (0 : Int32)), .val (.ref r), .val (.ref a_EXACT), .val (.ref q5), .val (.ref t_EXACT)] [(.ref t_EXACT)]))
    refine OEndsW.via (fun _ k_ => XS.aloadN X8.here hx rfl (hb hby at_93) rfl rfl k_) ?_
    show OEndsW p e below s _ _ _ _ _ (T8.setTop (mkF m 94 #[.val (.int p0), .val (.int (0 : Int32)), .val (.ref r), .val (.ref a_EXACT), .val (.ref q5), .val (.ref t_EXACT)] [(.ref a_EXACT), (.ref t_EXACT)]))
    obtain ⟨cq9, kq9, q9a, q9b, q9c⟩ := isOf hZ e8 (Exa.ext Od.2 E_EXACT)
    obtain ⟨_, _, ⟨T9, L9, k9, n9⟩, -, X9, ⟨Lc9, hQ9, l9, y9, z9⟩, st9⟩ := X8.virtualBack hx (y := (⟨"com/example/amber_gate/ambergate/Algorithm", "toString", "()Ljava/lang/String;"⟩ : MethodName)) (z := (⟨"com/example/amber_gate/ambergate/Algorithm", "toString", "()Ljava/lang/String;"⟩ : MethodName)) hown (mvT hZ (hw _ (List.mem_of_getElem? (i := 139) rfl))) (mvT hZ (hw _ (List.mem_of_getElem? (i := 140) rfl))) (notFace_of_selects (args := #[]) (mvT hZ (hw _ (List.mem_of_getElem? (i := 142) rfl)))) (mvT hZ (hw _ (List.mem_of_getElem? (i := 142) rfl))) (mvT hZ (hw _ (List.mem_of_getElem? (i := 141) rfl))) (by decide) (backOf (W := 1) (rmT l Z a0 hw [] a_EXACT t_EXACT h5 n0 Od Ft_EXACT) hZ (hw _ (List.mem_of_getElem? (i := 143) rfl)) (hw _ (List.mem_of_getElem? (i := 3) rfl)) (by decide) (by decide)) q9a q9c (g := (mkF m 94 #[.val (.int p0), .val (.int (0 : Int32)), .val (.ref r), .val (.ref a_EXACT), .val (.ref q5), .val (.ref t_EXACT)] [(.ref a_EXACT), (.ref t_EXACT)])) rfl (by rw [hml]; rfl) (Steps.refl _) (argsL := []) (rest := [(.ref t_EXACT)]) (lenOf pd_2829Ljava2flang2fString3b rfl) rfl (by show 2 * 0 + _ ≤ _; exact Nat.le_of_eq rfl) (hb hby at_94) (fun _ _ => ⟨rfl, e8, Nat.le_of_ble_eq_true rfl, Nat.le_of_ble_eq_true rfl⟩)
    dsimp only [Pt.U, Pt.locs, Pt.cells, Pt.slots] at X9 l9 y9 z9 st9 hQ9
    subst l9 y9 z9
    obtain ⟨rfl, N9q, e9⟩ := hQ9
    have N9 := Fr.app N8 N9q
    refine OEndsW.via (fun _ k_ => st9.trans k_) ?_
    show OEndsW p e below s _ _ _ _ _ (T9.setTop (mkF m 97 #[.val (.int p0), .val (.int (0 : Int32)), .val (.ref r), .val (.ref a_EXACT), .val (.ref q5), .val (.ref t_EXACT)] [(.ref t_EXACT), (.ref t_EXACT)]))
    obtain ⟨cq10, kq10, q10a, q10b, q10c⟩ := isOf hZ e9 (Exa.ext Od.2 Et_EXACT)
    obtain ⟨_, _, ⟨T10, L10, k10, n10⟩, -, X10, ⟨Lc10, hQ10, l10, y10, z10⟩, st10⟩ := X9.virtualBack hx (y := (⟨"java/lang/String", "equals", "(Ljava/lang/Object;)Z"⟩ : MethodName)) (z := (⟨"java/lang/String", "equals", "(Ljava/lang/Object;)Z"⟩ : MethodName)) hown (mvT hZ (hw _ (List.mem_of_getElem? (i := 126) rfl))) (mvT hZ (hw _ (List.mem_of_getElem? (i := 127) rfl))) (notFace_of_selects (args := #[]) (mvT hZ (hw _ (List.mem_of_getElem? (i := 129) rfl)))) (mvT hZ (hw _ (List.mem_of_getElem? (i := 129) rfl))) (mvT hZ (hw _ (List.mem_of_getElem? (i := 128) rfl))) (by decide) (StrChars.Road.eqW (W := 0) hZ heq (kI := 4) (hw _ (List.mem_of_getElem? (i := 97) rfl)) (Exa.ext Od.2 Et_EXACT) (Fld.ext Od.2 Vt_EXACT) (Fld.ext Od.2 Ct_EXACT) (Kt_EXACT.ext Od.2) hcd_t_EXACT hbd_t_EXACT (by decide) (Exa.ext Od.2 Et_EXACT) (Fld.ext Od.2 Vt_EXACT) (Fld.ext Od.2 Ct_EXACT) (Kt_EXACT.ext Od.2) hcd_t_EXACT hbd_t_EXACT (by decide) (Sta.ext Od.2 S_CS) nz_CS (by decide) (by decide)) q10a q10c (g := (mkF m 97 #[.val (.int p0), .val (.int (0 : Int32)), .val (.ref r), .val (.ref a_EXACT), .val (.ref q5), .val (.ref t_EXACT)] [(.ref t_EXACT), (.ref t_EXACT)])) rfl (by rw [hml]; rfl) (Steps.refl _) (argsL := [(.ref t_EXACT)]) (rest := []) (lenOf pd_28Ljava2flang2fObject3b29Z rfl) rfl (by show 2 * 0 + _ ≤ _; exact Nat.le_of_eq rfl) (hb hby at_97) (fun _ _ => ⟨rfl, e9, Nat.le_of_ble_eq_true rfl, Nat.le_of_ble_eq_true rfl⟩)
    dsimp only [Pt.U, Pt.locs, Pt.cells, Pt.slots] at X10 l10 y10 z10 st10 hQ10
    subst l10 y10 z10
    obtain ⟨hcase10, rfl, e10⟩ := hQ10
    have N10 := Fr.app N9 (Fr.nil n0)
    have hv10 : _ = some (Value.int 1) := hcase10.elim (fun q => q.1) (fun q => absurd rfl q.2)
    subst hv10
    refine OEndsW.via (fun _ k_ => st10.trans k_) ?_
    show OEndsW p e below s _ _ _ _ _ (T10.setTop (mkF m 100 #[.val (.int p0), .val (.int (0 : Int32)), .val (.ref r), .val (.ref a_EXACT), .val (.ref q5), .val (.ref t_EXACT)] [(.int (1 : Int32))]))
    refine OEndsW.via (fun _ k_ => XS.ifNo X10.here hx rfl (hb hby at_100) rfl ((if0 _ _).trans (feq (by decide : ¬ ((1 : Int32) = (0 : Int32)))).1) k_) ?_
    show OEndsW p e below s _ _ _ _ _ (T10.setTop (mkF m 103 #[.val (.int p0), .val (.int (0 : Int32)), .val (.ref r), .val (.ref a_EXACT), .val (.ref q5), .val (.ref t_EXACT)] []))
    refine OEndsW.via (fun _ k_ => XS.aload X10.here hx rfl (hb hby at_103) rfl rfl k_) ?_
    show OEndsW p e below s _ _ _ _ _ (T10.setTop (mkF m 105 #[.val (.int p0), .val (.int (0 : Int32)), .val (.ref r), .val (.ref a_EXACT), .val (.ref q5), .val (.ref t_EXACT)] [(.ref t_EXACT)]))
    obtain ⟨_, _, ⟨T11, L11, k11, n11⟩, -, X11, ⟨Lc11, hQ11, l11, y11, z11⟩, st11⟩ := Jvm.LawKit.callS X10 hx (y := (⟨"com/example/amber_gate/ambergate/Algorithm", "named", "(Ljava/lang/String;)Lcom/example/amber_gate/ambergate/Algorithm;"⟩ : MethodName)) hown (mvT hZ (hw _ (List.mem_of_getElem? (i := 144) rfl))) (mvT hZ (hw _ (List.mem_of_getElem? (i := 145) rfl))) (mvT hZ (hw _ (List.mem_of_getElem? (i := 3) rfl))) (mvT hZ (hw _ (List.mem_of_getElem? (i := 146) rfl))) (by decide) (backOf (W := 0) (rmN0 l Z a0 hw [] t_EXACT tv_EXACT kt_EXACT a_EXACT a_SLIDING a_FIXED t_EXACT t_SLIDING t_FIXED tv_EXACT tv_SLIDING tv_FIXED kt_EXACT kt_SLIDING kt_FIXED va kA G1 h5 n0 Od (Exa.ext Od.2 Et_EXACT) (Fld.ext Od.2 Vt_EXACT) (Fld.ext Od.2 Ct_EXACT) (Kt_EXACT.ext Od.2) S_CS nz_CS S_V AV EV Et_EXACT Vt_EXACT Ct_EXACT Kt_EXACT Ft_EXACT Et_SLIDING Vt_SLIDING Ct_SLIDING Kt_SLIDING Ft_SLIDING Et_FIXED Vt_FIXED Ct_FIXED Kt_FIXED Ft_FIXED) hZ (hw _ (List.mem_of_getElem? (i := 146) rfl)) (hw _ (List.mem_of_getElem? (i := 3) rfl)) (by decide) (by decide)) (g := (mkF m 105 #[.val (.int p0), .val (.int (0 : Int32)), .val (.ref r), .val (.ref a_EXACT), .val (.ref q5), .val (.ref t_EXACT)] [(.ref t_EXACT)])) rfl (by rw [hml]; rfl) (argsL := [(.ref t_EXACT)]) (rest := []) (lenOf pd_28Ljava2flang2fString3b29Lcom2fexample2famber_gate2fambergate2fAlgorithm3b rfl) rfl (by show 2 * 0 + _ ≤ _; exact Nat.le_of_eq rfl) (hb hby at_105) (fun _ _ => ⟨rfl, e10, Nat.le_of_ble_eq_true rfl, Nat.le_of_ble_eq_true rfl⟩)
    dsimp only [Pt.U, Pt.locs, Pt.cells, Pt.slots] at X11 l11 y11 z11 st11 hQ11
    subst l11 y11 z11
    obtain ⟨rfl, N11q, K11⟩ := hQ11
    have N11 := Fr.app N10 N11q
    have sfk11 : ∀ x ∈ ([] : List Addr), Safe Z consts_1 T5.vm h5 x := all0
    replace hk := Nat.le_trans hk K11.1
    replace Od := Od.keep K11 all0
    replace E_r := E_r.keep K11
    replace G_ed := G_ed.keep K11 nin0
    replace G_sz := G_sz.keep K11 nin0
    replace V_d := V_d.keep K11 nin0
    replace E_q5 := E_q5.keep K11
    replace C_q5 := C_q5.keep K11 nin0
    replace V_q5 := V_q5.keep K11 nin0
    replace K_q5 := K_q5.keep K11 nin0
    replace CR := CR.trans (CHr.keep K11 sfk11 CR.1)
    refine OEndsW.via (fun _ k_ => st11 _ k_) ?_
    show OEndsW p e below s _ _ _ _ _ (T11.setTop (mkF m 108 #[.val (.int p0), .val (.int (0 : Int32)), .val (.ref r), .val (.ref a_EXACT), .val (.ref q5), .val (.ref t_EXACT)] [(.ref a_EXACT)]))
    refine OEndsW.via (fun _ k_ => XS.aloadN X11.here hx rfl (hb hby at_108) rfl rfl k_) ?_
    show OEndsW p e below s _ _ _ _ _ (T11.setTop (mkF m 109 #[.val (.int p0), .val (.int (0 : Int32)), .val (.ref r), .val (.ref a_EXACT), .val (.ref q5), .val (.ref t_EXACT)] [(.ref a_EXACT), (.ref a_EXACT)]))
    refine OEndsW.via (fun _ k_ => Jvm.RoadKit.acmp (g := (mkF m 109 #[.val (.int p0), .val (.int (0 : Int32)), .val (.ref r), .val (.ref a_EXACT), .val (.ref q5), .val (.ref t_EXACT)] [(.ref a_EXACT), (.ref a_EXACT)])) X11 hx rfl rfl rfl (pc0 := 109) (pc' := 112) (same := true) rfl (hb hby at_109) rfl (decide_eq_true rfl) (by decide) (by decide) k_) ?_
    show OEndsW p e below s _ _ _ _ _ (T11.setTop (mkF m 112 #[.val (.int p0), .val (.int (0 : Int32)), .val (.ref r), .val (.ref a_EXACT), .val (.ref q5), .val (.ref t_EXACT)] []))
    refine OEndsW.via (fun _ k_ => XS.iconst X11.here hx rfl (hb hby at_112) k_) ?_
    show OEndsW p e below s _ _ _ _ _ (T11.setTop (mkF m 113 #[.val (.int p0), .val (.int (0 : Int32)), .val (.ref r), .val (.ref a_EXACT), .val (.ref q5), .val (.ref t_EXACT)] [(.int (1 : Int32))]))
    refine OEndsW.via (fun _ k_ => XS.goto X11.here hx rfl (pc0 := 113) (pc' := 117) rfl (hb hby at_113) (by decide) (by decide) k_) ?_
    show OEndsW p e below s _ _ _ _ _ (T11.setTop (mkF m 117 #[.val (.int p0), .val (.int (0 : Int32)), .val (.ref r), .val (.ref a_EXACT), .val (.ref q5), .val (.ref t_EXACT)] [(.int (1 : Int32))]))
    refine OEndsW.retN X11 hx hlk hS hk hZ hEL rfl es CR (t := .boolean) Bd.returns (by simp) (hb hby at_117) ?_ (by decide) (by decide)
    exact ⟨rfl, N11⟩
  · skip
    refine OEndsW.via (fun _ k_ => XS.ifYes X2.here hx rfl (pc0 := 24) (pc' := 38) rfl (hb hby at_24) rfl ((if0 _ _).trans (feq hc24_2).2) (by decide) (by decide) k_) ?_
    show OEndsW p e below s _ _ _ _ _ (T2.setTop (mkF m 38 #[.val (.int p0), .val (.int ((p0 &&& (2147483647 : Int32)) % (3 : Int32))), .val (.ref r), .unset, .unset, .unset] []))
    refine OEndsW.via (fun _ k_ => XS.iloadN X2.here hx rfl (hb hby at_38) rfl k_) ?_
    show OEndsW p e below s _ _ _ _ _ (T2.setTop (mkF m 39 #[.val (.int p0), .val (.int ((p0 &&& (2147483647 : Int32)) % (3 : Int32))), .val (.ref r), .unset, .unset, .unset] [(.int ((p0 &&& (2147483647 : Int32)) % (3 : Int32)))]))
    refine OEndsW.via (fun _ k_ => XS.iconst X2.here hx rfl (hb hby at_39) k_) ?_
    show OEndsW p e below s _ _ _ _ _ (T2.setTop (mkF m 40 #[.val (.int p0), .val (.int ((p0 &&& (2147483647 : Int32)) % (3 : Int32))), .val (.ref r), .unset, .unset, .unset] [(.int (1 : Int32)), (.int ((p0 &&& (2147483647 : Int32)) % (3 : Int32)))]))
    by_cases hc40_11 : ((p0 &&& (2147483647 : Int32)) % (3 : Int32)) = (1 : Int32)
    · skip
      refine OEndsW.via (fun _ k_ => XS.icmpNo X2.here hx rfl (hb hby at_40) rfl (teq hc40_11).2 k_) ?_
      show OEndsW p e below s _ _ _ _ _ (T2.setTop (mkF m 43 #[.val (.int p0), .val (.int ((p0 &&& (2147483647 : Int32)) % (3 : Int32))), .val (.ref r), .unset, .unset, .unset] []))
      obtain ⟨T13, X13, e13, st13⟩ := getS2 X2 hx hZ hown (host := "") (Or.inl (hw _ (List.mem_of_getElem? (i := 150) rfl))) Via.refl e2 (Sta.ext Od.2 S_SLIDING) (g := (mkF m 43 #[.val (.int p0), .val (.int ((p0 &&& (2147483647 : Int32)) % (3 : Int32))), .val (.ref r), .unset, .unset, .unset] [])) rfl (hb hby at_43)
      refine OEndsW.via (fun _ k_ => st13 _ k_) ?_
      show OEndsW p e below s _ _ _ _ _ (T13.setTop (mkF m 46 #[.val (.int p0), .val (.int ((p0 &&& (2147483647 : Int32)) % (3 : Int32))), .val (.ref r), .unset, .unset, .unset] [(.ref a_SLIDING)]))
      refine OEndsW.via (fun _ k_ => XS.astoreN X13.here hx rfl (hb hby at_46) rfl rfl (l' := #[.val (.int p0), .val (.int ((p0 &&& (2147483647 : Int32)) % (3 : Int32))), .val (.ref r), .val (.ref a_SLIDING), .unset, .unset]) rfl k_) ?_
      show OEndsW p e below s _ _ _ _ _ (T13.setTop (mkF m 47 #[.val (.int p0), .val (.int ((p0 &&& (2147483647 : Int32)) % (3 : Int32))), .val (.ref r), .val (.ref a_SLIDING), .unset, .unset] []))
      obtain ⟨q14, T14, h14, k114, qv14, kq14, X14, e14, E14, hS14, hk14, hZ14, hown14, E_q14, C_q14, V_q14, K_q14, la14, lb14, CH14, Lt14, hsafe14, st14⟩ := ldcCH X13 hx hZ hown (hw _ (List.mem_of_getElem? (i := 151) rfl)) wS e13 hS hk hEL (by decide : ("com/example/amber_gate/ambergate/AlgorithmNamesPinLaw", 29) ∈ consts_1) CR.1 (vs := [(.int (115 : Int32)), (.int (108 : Int32)), (.int (105 : Int32)), (.int (100 : Int32)), (.int (105 : Int32)), (.int (110 : Int32)), (.int (103 : Int32))]) (z := (7 : Int32)) (by decide) (by decide) (by decide) (g := (mkF m 47 #[.val (.int p0), .val (.int ((p0 &&& (2147483647 : Int32)) % (3 : Int32))), .val (.ref r), .val (.ref a_SLIDING), .unset, .unset] [])) rfl (hb hby at_47) (n := 28) (by decide) (by decide) (by decide) (by decide)
      replace Od := Od.ext E14
      replace E_r := Exa.ext E14 E_r
      replace G_ed := Fld.ext E14 G_ed
      replace G_sz := Fld.ext E14 G_sz
      replace V_d := V_d.ext E14
      replace CR := CR.trans CH14
      replace hS := hS14
      replace hk := hk14
      replace hZ := hZ14
      replace hown := hown14
      have hp_q14 : ∀ c ∈ ([(115 : Int32), (108 : Int32), (105 : Int32), (100 : Int32), (105 : Int32), (110 : Int32), (103 : Int32)] : List Int32), ¬ c < 0 ∧ ¬ (255 : Int32) < c := by decide
      have hcd_q14 : StrChars.Road.CodA ([(115 : Int32), (108 : Int32), (105 : Int32), (100 : Int32), (105 : Int32), (110 : Int32), (103 : Int32)] : List Int32) 0 (7 : Int32) [(.int (115 : Int32)), (.int (108 : Int32)), (.int (105 : Int32)), (.int (100 : Int32)), (.int (105 : Int32)), (.int (110 : Int32)), (.int (103 : Int32))] := Or.inl ⟨rfl, rfl, rfl, fun c hc => (hp_q14 c hc).2⟩
      have hbd_q14 := own_up _ hp_q14
      refine OEndsW.via (fun _ k_ => st14 _ k_) ?_
      show OEndsW p e below s _ _ _ _ _ (T14.setTop (mkF m 49 #[.val (.int p0), .val (.int ((p0 &&& (2147483647 : Int32)) % (3 : Int32))), .val (.ref r), .val (.ref a_SLIDING), .unset, .unset] [(.ref q14)]))
      refine OEndsW.via (fun _ k_ => XS.astore X14.here hx rfl (hb hby at_49) rfl rfl (l' := #[.val (.int p0), .val (.int ((p0 &&& (2147483647 : Int32)) % (3 : Int32))), .val (.ref r), .val (.ref a_SLIDING), .val (.ref q14), .unset]) rfl k_) ?_
      show OEndsW p e below s _ _ _ _ _ (T14.setTop (mkF m 51 #[.val (.int p0), .val (.int ((p0 &&& (2147483647 : Int32)) % (3 : Int32))), .val (.ref r), .val (.ref a_SLIDING), .val (.ref q14), .unset] []))
      refine OEndsW.via (fun _ k_ => XS.goto X14.here hx rfl (pc0 := 51) (pc' := 62) rfl (hb hby at_51) (by decide) (by decide) k_) ?_
      show OEndsW p e below s _ _ _ _ _ (T14.setTop (mkF m 62 #[.val (.int p0), .val (.int ((p0 &&& (2147483647 : Int32)) % (3 : Int32))), .val (.ref r), .val (.ref a_SLIDING), .val (.ref q14), .unset] []))
      rw [hc40_11]
      show OEndsW p e below s _ _ _ _ _ (T14.setTop (mkF m 62 #[.val (.int p0), .val (.int (1 : Int32)), .val (.ref r), .val (.ref a_SLIDING), .val (.ref q14), .unset] []))
      refine OEndsW.via (fun _ k_ => XS.aloadN X14.here hx rfl (hb hby at_62) rfl rfl k_) ?_
      show OEndsW p e below s _ _ _ _ _ (T14.setTop (mkF m 63 #[.val (.int p0), .val (.int (1 : Int32)), .val (.ref r), .val (.ref a_SLIDING), .val (.ref q14), .unset] [(.ref r)]))
      refine OEndsW.via (fun _ k_ => XS.iloadN X14.here hx rfl (hb hby at_63) rfl k_) ?_
      show OEndsW p e below s _ _ _ _ _ (T14.setTop (mkF m 64 #[.val (.int p0), .val (.int (1 : Int32)), .val (.ref r), .val (.ref a_SLIDING), .val (.ref q14), .unset] [(.int (1 : Int32)), (.ref r)]))
      have V_d' := V_d
      obtain ⟨cl, Ar, qA, Sa, MA, HA, GA⟩ := V_d'
      obtain ⟨cq15, kq15, q15a, q15b, q15c⟩ := isOf hZ e14 E_r
      obtain ⟨_, _, ⟨T15, L15, k15, n15⟩, -, X15, ⟨Lc15, hQ15, l15, y15, z15⟩, st15⟩ := X14.interfaceBack hx (xi := (⟨"java/util/List", "get", "(I)Ljava/lang/Object;"⟩ : MethodName)) (y := (⟨"java/util/ArrayList", "get", "(I)Ljava/lang/Object;"⟩ : MethodName)) hown (mvT hZ (hw _ (List.mem_of_getElem? (i := 103) rfl))) (mvT hZ (hw _ (List.mem_of_getElem? (i := 104) rfl))) (mvT hZ (hw _ (List.mem_of_getElem? (i := 105) rfl))) (mvT hZ (hw _ (List.mem_of_getElem? (i := 106) rfl))) (mvT hZ (hw _ (List.mem_of_getElem? (i := 107) rfl))) (mvT hZ (hw _ (List.mem_of_getElem? (i := 108) rfl))) (mvT hZ (hw _ (List.mem_of_getElem? (i := 109) rfl))) (mvT hZ (hw _ (List.mem_of_getElem? (i := 58) rfl))) (by decide) (backOf (W := 0) (rmGet l Z a0 hw [] r d (1 : Int32) t_SLIDING cl (3 : Int32) h14 n0 Od G_ed Ar (inb_of Sa ⟨by decide, by decide⟩) (HA 1 (by rw [Sa]; decide)) G_sz E_r (by decide) (by decide)) hZ (hw _ (List.mem_of_getElem? (i := 110) rfl)) (hw _ (List.mem_of_getElem? (i := 7) rfl)) (by decide) (by decide)) q15a q15b q15c (g := (mkF m 64 #[.val (.int p0), .val (.int (1 : Int32)), .val (.ref r), .val (.ref a_SLIDING), .val (.ref q14), .unset] [(.int (1 : Int32)), (.ref r)])) rfl (by rw [hml]; rfl) (Steps.refl _) (argsL := [(.int (1 : Int32))]) (rest := []) (lenOf pd_28I29Ljava2flang2fObject3b rfl) rfl (by show 2 * 0 + _ ≤ _; exact Nat.le_of_eq rfl) (hb hby at_64) (fun _ _ => ⟨rfl, e14, Nat.le_of_ble_eq_true rfl, Nat.le_of_ble_eq_true rfl⟩)
      dsimp only [Pt.U, Pt.locs, Pt.cells, Pt.slots] at X15 l15 y15 z15 st15 hQ15
      subst l15 y15 z15
      obtain ⟨rfl, N15q, e15⟩ := hQ15
      have N15 := Fr.app N2 N15q
      refine OEndsW.via (fun _ k_ => st15.trans k_) ?_
      show OEndsW p e below s _ _ _ _ _ (T15.setTop (mkF m 69 #[.val (.int p0), .val (.int (1 : Int32)), .val (.ref r), .val (.ref a_SLIDING), .val (.ref q14), .unset] [(.ref t_SLIDING)]))
      obtain ⟨T16, X16, e16, st16⟩ := castY X15 hx hZ hown (hw _ (List.mem_of_getElem? (i := 124) rfl)) e15 (Ins.self (Exa.ext Od.2 Et_SLIDING)) (g := (mkF m 69 #[.val (.int p0), .val (.int (1 : Int32)), .val (.ref r), .val (.ref a_SLIDING), .val (.ref q14), .unset] [(.ref t_SLIDING)])) rfl rfl (hb hby at_69)
      refine OEndsW.via (fun _ k_ => st16 _ k_) ?_
      show OEndsW p e below s _ _ _ _ _ (T16.setTop (mkF m 72 #[.val (.int p0), .val (.int (1 : Int32)), .val (.ref r), .val (.ref a_SLIDING), .val (.ref q14), .unset] [(.ref t_SLIDING)]))
      refine OEndsW.via (fun _ k_ => XS.astore X16.here hx rfl (hb hby at_72) rfl rfl (l' := #[.val (.int p0), .val (.int (1 : Int32)), .val (.ref r), .val (.ref a_SLIDING), .val (.ref q14), .val (.ref t_SLIDING)]) rfl k_) ?_
      show OEndsW p e below s _ _ _ _ _ (T16.setTop (mkF m 74 #[.val (.int p0), .val (.int (1 : Int32)), .val (.ref r), .val (.ref a_SLIDING), .val (.ref q14), .val (.ref t_SLIDING)] []))
      refine OEndsW.via (fun _ k_ => XS.aload X16.here hx rfl (hb hby at_74) rfl rfl k_) ?_
      show OEndsW p e below s _ _ _ _ _ (T16.setTop (mkF m 76 #[.val (.int p0), .val (.int (1 : Int32)), .val (.ref r), .val (.ref a_SLIDING), .val (.ref q14), .val (.ref t_SLIDING)] [(.ref t_SLIDING)]))
      refine OEndsW.via (fun _ k_ => XS.ifnonnullYes X16.here hx rfl (pc0 := 76) (pc' := 81) rfl (hb hby at_76) rfl (by decide) (by decide) k_) ?_
      show OEndsW p e below s _ _ _ _ _ (T16.setTop (mkF m 81 #[.val (.int p0), .val (.int (1 : Int32)), .val (.ref r), .val (.ref a_SLIDING), .val (.ref q14), .val (.ref t_SLIDING)] []))
      refine OEndsW.via (fun _ k_ => XS.aload X16.here hx rfl (hb hby at_81) rfl rfl k_) ?_
      show OEndsW p e below s _ _ _ _ _ (T16.setTop (mkF m 83 #[.val (.int p0), .val (.int (1 : Int32)), .val (.ref r), .val (.ref a_SLIDING), .val (.ref q14), .val (.ref t_SLIDING)] [(.ref t_SLIDING)]))
      refine OEndsW.via (fun _ k_ => XS.aload X16.here hx rfl (hb hby at_83) rfl rfl k_) ?_
      show OEndsW p e below s _ _ _ _ _ (T16.setTop (mkF m 85 #[.val (.int p0), .val (.int (1 : Int32)), .val (.ref r), .val (.ref a_SLIDING), .val (.ref q14), .val (.ref t_SLIDING)] [(.ref q14), (.ref t_SLIDING)]))
      obtain ⟨cq17, kq17, q17a, q17b, q17c⟩ := isOf hZ e16 (Exa.ext Od.2 Et_SLIDING)
      obtain ⟨_, _, ⟨T17, L17, k17, n17⟩, -, X17, ⟨Lc17, hQ17, l17, y17, z17⟩, st17⟩ := X16.virtualBack hx (y := (⟨"java/lang/String", "equals", "(Ljava/lang/Object;)Z"⟩ : MethodName)) (z := (⟨"java/lang/String", "equals", "(Ljava/lang/Object;)Z"⟩ : MethodName)) hown (mvT hZ (hw _ (List.mem_of_getElem? (i := 126) rfl))) (mvT hZ (hw _ (List.mem_of_getElem? (i := 127) rfl))) (notFace_of_selects (args := #[]) (mvT hZ (hw _ (List.mem_of_getElem? (i := 129) rfl)))) (mvT hZ (hw _ (List.mem_of_getElem? (i := 129) rfl))) (mvT hZ (hw _ (List.mem_of_getElem? (i := 128) rfl))) (by decide) (StrChars.Road.eqW (W := 0) hZ heq (kI := 4) (hw _ (List.mem_of_getElem? (i := 97) rfl)) (Exa.ext Od.2 Et_SLIDING) (Fld.ext Od.2 Vt_SLIDING) (Fld.ext Od.2 Ct_SLIDING) (Kt_SLIDING.ext Od.2) hcd_t_SLIDING hbd_t_SLIDING (by decide) E_q14 V_q14 C_q14 K_q14 hcd_q14 hbd_q14 (by decide) (Sta.ext Od.2 S_CS) nz_CS (by decide) (by decide)) q17a q17c (g := (mkF m 85 #[.val (.int p0), .val (.int (1 : Int32)), .val (.ref r), .val (.ref a_SLIDING), .val (.ref q14), .val (.ref t_SLIDING)] [(.ref q14), (.ref t_SLIDING)])) rfl (by rw [hml]; rfl) (Steps.refl _) (argsL := [(.ref q14)]) (rest := []) (lenOf pd_28Ljava2flang2fObject3b29Z rfl) rfl (by show 2 * 0 + _ ≤ _; exact Nat.le_of_eq rfl) (hb hby at_85) (fun _ _ => ⟨rfl, e16, Nat.le_of_ble_eq_true rfl, Nat.le_of_ble_eq_true rfl⟩)
      dsimp only [Pt.U, Pt.locs, Pt.cells, Pt.slots] at X17 l17 y17 z17 st17 hQ17
      subst l17 y17 z17
      obtain ⟨hcase17, rfl, e17⟩ := hQ17
      have N17 := Fr.app N15 (Fr.nil n0)
      have hv17 : _ = some (Value.int 1) := hcase17.elim (fun q => q.1) (fun q => absurd rfl q.2)
      subst hv17
      refine OEndsW.via (fun _ k_ => st17.trans k_) ?_
      show OEndsW p e below s _ _ _ _ _ (T17.setTop (mkF m 88 #[.val (.int p0), .val (.int (1 : Int32)), .val (.ref r), .val (.ref a_SLIDING), .val (.ref q14), .val (.ref t_SLIDING)] [(.int (1 : Int32))]))
      refine OEndsW.via (fun _ k_ => XS.ifNo X17.here hx rfl (hb hby at_88) rfl ((if0 _ _).trans (feq (by decide : ¬ ((1 : Int32) = (0 : Int32)))).1) k_) ?_
      show OEndsW p e below s _ _ _ _ _ (T17.setTop (mkF m 91 #[.val (.int p0), .val (.int (1 : Int32)), .val (.ref r), .val (.ref a_SLIDING), .val (.ref q14), .val (.ref t_SLIDING)] []))
      refine OEndsW.via (fun _ k_ => XS.aload X17.here hx rfl (hb hby at_91) rfl rfl k_) ?_
      show OEndsW p e below s _ _ _ _ _ (T17.setTop (mkF m 93 #[.val (.int p0), .val (.int (1 : Int32)), .val (.ref r), .val (.ref a_SLIDING), .val (.ref q14), .val (.ref t_SLIDING)] [(.ref t_SLIDING)]))
      refine OEndsW.via (fun _ k_ => XS.aloadN X17.here hx rfl (hb hby at_93) rfl rfl k_) ?_
      show OEndsW p e below s _ _ _ _ _ (T17.setTop (mkF m 94 #[.val (.int p0), .val (.int (1 : Int32)), .val (.ref r), .val (.ref a_SLIDING), .val (.ref q14), .val (.ref t_SLIDING)] [(.ref a_SLIDING), (.ref t_SLIDING)]))
      obtain ⟨cq18, kq18, q18a, q18b, q18c⟩ := isOf hZ e17 (Exa.ext Od.2 E_SLIDING)
      obtain ⟨_, _, ⟨T18, L18, k18, n18⟩, -, X18, ⟨Lc18, hQ18, l18, y18, z18⟩, st18⟩ := X17.virtualBack hx (y := (⟨"com/example/amber_gate/ambergate/Algorithm", "toString", "()Ljava/lang/String;"⟩ : MethodName)) (z := (⟨"com/example/amber_gate/ambergate/Algorithm", "toString", "()Ljava/lang/String;"⟩ : MethodName)) hown (mvT hZ (hw _ (List.mem_of_getElem? (i := 139) rfl))) (mvT hZ (hw _ (List.mem_of_getElem? (i := 140) rfl))) (notFace_of_selects (args := #[]) (mvT hZ (hw _ (List.mem_of_getElem? (i := 142) rfl)))) (mvT hZ (hw _ (List.mem_of_getElem? (i := 142) rfl))) (mvT hZ (hw _ (List.mem_of_getElem? (i := 141) rfl))) (by decide) (backOf (W := 1) (rmT l Z a0 hw [] a_SLIDING t_SLIDING h14 n0 Od Ft_SLIDING) hZ (hw _ (List.mem_of_getElem? (i := 143) rfl)) (hw _ (List.mem_of_getElem? (i := 3) rfl)) (by decide) (by decide)) q18a q18c (g := (mkF m 94 #[.val (.int p0), .val (.int (1 : Int32)), .val (.ref r), .val (.ref a_SLIDING), .val (.ref q14), .val (.ref t_SLIDING)] [(.ref a_SLIDING), (.ref t_SLIDING)])) rfl (by rw [hml]; rfl) (Steps.refl _) (argsL := []) (rest := [(.ref t_SLIDING)]) (lenOf pd_2829Ljava2flang2fString3b rfl) rfl (by show 2 * 0 + _ ≤ _; exact Nat.le_of_eq rfl) (hb hby at_94) (fun _ _ => ⟨rfl, e17, Nat.le_of_ble_eq_true rfl, Nat.le_of_ble_eq_true rfl⟩)
      dsimp only [Pt.U, Pt.locs, Pt.cells, Pt.slots] at X18 l18 y18 z18 st18 hQ18
      subst l18 y18 z18
      obtain ⟨rfl, N18q, e18⟩ := hQ18
      have N18 := Fr.app N17 N18q
      refine OEndsW.via (fun _ k_ => st18.trans k_) ?_
      show OEndsW p e below s _ _ _ _ _ (T18.setTop (mkF m 97 #[.val (.int p0), .val (.int (1 : Int32)), .val (.ref r), .val (.ref a_SLIDING), .val (.ref q14), .val (.ref t_SLIDING)] [(.ref t_SLIDING), (.ref t_SLIDING)]))
      obtain ⟨cq19, kq19, q19a, q19b, q19c⟩ := isOf hZ e18 (Exa.ext Od.2 Et_SLIDING)
      obtain ⟨_, _, ⟨T19, L19, k19, n19⟩, -, X19, ⟨Lc19, hQ19, l19, y19, z19⟩, st19⟩ := X18.virtualBack hx (y := (⟨"java/lang/String", "equals", "(Ljava/lang/Object;)Z"⟩ : MethodName)) (z := (⟨"java/lang/String", "equals", "(Ljava/lang/Object;)Z"⟩ : MethodName)) hown (mvT hZ (hw _ (List.mem_of_getElem? (i := 126) rfl))) (mvT hZ (hw _ (List.mem_of_getElem? (i := 127) rfl))) (notFace_of_selects (args := #[]) (mvT hZ (hw _ (List.mem_of_getElem? (i := 129) rfl)))) (mvT hZ (hw _ (List.mem_of_getElem? (i := 129) rfl))) (mvT hZ (hw _ (List.mem_of_getElem? (i := 128) rfl))) (by decide) (StrChars.Road.eqW (W := 0) hZ heq (kI := 4) (hw _ (List.mem_of_getElem? (i := 97) rfl)) (Exa.ext Od.2 Et_SLIDING) (Fld.ext Od.2 Vt_SLIDING) (Fld.ext Od.2 Ct_SLIDING) (Kt_SLIDING.ext Od.2) hcd_t_SLIDING hbd_t_SLIDING (by decide) (Exa.ext Od.2 Et_SLIDING) (Fld.ext Od.2 Vt_SLIDING) (Fld.ext Od.2 Ct_SLIDING) (Kt_SLIDING.ext Od.2) hcd_t_SLIDING hbd_t_SLIDING (by decide) (Sta.ext Od.2 S_CS) nz_CS (by decide) (by decide)) q19a q19c (g := (mkF m 97 #[.val (.int p0), .val (.int (1 : Int32)), .val (.ref r), .val (.ref a_SLIDING), .val (.ref q14), .val (.ref t_SLIDING)] [(.ref t_SLIDING), (.ref t_SLIDING)])) rfl (by rw [hml]; rfl) (Steps.refl _) (argsL := [(.ref t_SLIDING)]) (rest := []) (lenOf pd_28Ljava2flang2fObject3b29Z rfl) rfl (by show 2 * 0 + _ ≤ _; exact Nat.le_of_eq rfl) (hb hby at_97) (fun _ _ => ⟨rfl, e18, Nat.le_of_ble_eq_true rfl, Nat.le_of_ble_eq_true rfl⟩)
      dsimp only [Pt.U, Pt.locs, Pt.cells, Pt.slots] at X19 l19 y19 z19 st19 hQ19
      subst l19 y19 z19
      obtain ⟨hcase19, rfl, e19⟩ := hQ19
      have N19 := Fr.app N18 (Fr.nil n0)
      have hv19 : _ = some (Value.int 1) := hcase19.elim (fun q => q.1) (fun q => absurd rfl q.2)
      subst hv19
      refine OEndsW.via (fun _ k_ => st19.trans k_) ?_
      show OEndsW p e below s _ _ _ _ _ (T19.setTop (mkF m 100 #[.val (.int p0), .val (.int (1 : Int32)), .val (.ref r), .val (.ref a_SLIDING), .val (.ref q14), .val (.ref t_SLIDING)] [(.int (1 : Int32))]))
      refine OEndsW.via (fun _ k_ => XS.ifNo X19.here hx rfl (hb hby at_100) rfl ((if0 _ _).trans (feq (by decide : ¬ ((1 : Int32) = (0 : Int32)))).1) k_) ?_
      show OEndsW p e below s _ _ _ _ _ (T19.setTop (mkF m 103 #[.val (.int p0), .val (.int (1 : Int32)), .val (.ref r), .val (.ref a_SLIDING), .val (.ref q14), .val (.ref t_SLIDING)] []))
      refine OEndsW.via (fun _ k_ => XS.aload X19.here hx rfl (hb hby at_103) rfl rfl k_) ?_
      show OEndsW p e below s _ _ _ _ _ (T19.setTop (mkF m 105 #[.val (.int p0), .val (.int (1 : Int32)), .val (.ref r), .val (.ref a_SLIDING), .val (.ref q14), .val (.ref t_SLIDING)] [(.ref t_SLIDING)]))
      obtain ⟨_, _, ⟨T20, L20, k20, n20⟩, -, X20, ⟨Lc20, hQ20, l20, y20, z20⟩, st20⟩ := Jvm.LawKit.callS X19 hx (y := (⟨"com/example/amber_gate/ambergate/Algorithm", "named", "(Ljava/lang/String;)Lcom/example/amber_gate/ambergate/Algorithm;"⟩ : MethodName)) hown (mvT hZ (hw _ (List.mem_of_getElem? (i := 144) rfl))) (mvT hZ (hw _ (List.mem_of_getElem? (i := 145) rfl))) (mvT hZ (hw _ (List.mem_of_getElem? (i := 3) rfl))) (mvT hZ (hw _ (List.mem_of_getElem? (i := 146) rfl))) (by decide) (backOf (W := 0) (rmN1 l Z a0 hw [] t_SLIDING tv_SLIDING kt_SLIDING a_EXACT a_SLIDING a_FIXED t_EXACT t_SLIDING t_FIXED tv_EXACT tv_SLIDING tv_FIXED kt_EXACT kt_SLIDING kt_FIXED va kA G1 h14 n0 Od (Exa.ext Od.2 Et_SLIDING) (Fld.ext Od.2 Vt_SLIDING) (Fld.ext Od.2 Ct_SLIDING) (Kt_SLIDING.ext Od.2) S_CS nz_CS S_V AV EV Et_EXACT Vt_EXACT Ct_EXACT Kt_EXACT Ft_EXACT Et_SLIDING Vt_SLIDING Ct_SLIDING Kt_SLIDING Ft_SLIDING Et_FIXED Vt_FIXED Ct_FIXED Kt_FIXED Ft_FIXED) hZ (hw _ (List.mem_of_getElem? (i := 146) rfl)) (hw _ (List.mem_of_getElem? (i := 3) rfl)) (by decide) (by decide)) (g := (mkF m 105 #[.val (.int p0), .val (.int (1 : Int32)), .val (.ref r), .val (.ref a_SLIDING), .val (.ref q14), .val (.ref t_SLIDING)] [(.ref t_SLIDING)])) rfl (by rw [hml]; rfl) (argsL := [(.ref t_SLIDING)]) (rest := []) (lenOf pd_28Ljava2flang2fString3b29Lcom2fexample2famber_gate2fambergate2fAlgorithm3b rfl) rfl (by show 2 * 0 + _ ≤ _; exact Nat.le_of_eq rfl) (hb hby at_105) (fun _ _ => ⟨rfl, e19, Nat.le_of_ble_eq_true rfl, Nat.le_of_ble_eq_true rfl⟩)
      dsimp only [Pt.U, Pt.locs, Pt.cells, Pt.slots] at X20 l20 y20 z20 st20 hQ20
      subst l20 y20 z20
      obtain ⟨rfl, N20q, K20⟩ := hQ20
      have N20 := Fr.app N19 N20q
      have sfk20 : ∀ x ∈ ([] : List Addr), Safe Z consts_1 T14.vm h14 x := all0
      replace hk := Nat.le_trans hk K20.1
      replace Od := Od.keep K20 all0
      replace E_r := E_r.keep K20
      replace G_ed := G_ed.keep K20 nin0
      replace G_sz := G_sz.keep K20 nin0
      replace V_d := V_d.keep K20 nin0
      replace E_q14 := E_q14.keep K20
      replace C_q14 := C_q14.keep K20 nin0
      replace V_q14 := V_q14.keep K20 nin0
      replace K_q14 := K_q14.keep K20 nin0
      replace CR := CR.trans (CHr.keep K20 sfk20 CR.1)
      refine OEndsW.via (fun _ k_ => st20 _ k_) ?_
      show OEndsW p e below s _ _ _ _ _ (T20.setTop (mkF m 108 #[.val (.int p0), .val (.int (1 : Int32)), .val (.ref r), .val (.ref a_SLIDING), .val (.ref q14), .val (.ref t_SLIDING)] [(.ref a_SLIDING)]))
      refine OEndsW.via (fun _ k_ => XS.aloadN X20.here hx rfl (hb hby at_108) rfl rfl k_) ?_
      show OEndsW p e below s _ _ _ _ _ (T20.setTop (mkF m 109 #[.val (.int p0), .val (.int (1 : Int32)), .val (.ref r), .val (.ref a_SLIDING), .val (.ref q14), .val (.ref t_SLIDING)] [(.ref a_SLIDING), (.ref a_SLIDING)]))
      refine OEndsW.via (fun _ k_ => Jvm.RoadKit.acmp (g := (mkF m 109 #[.val (.int p0), .val (.int (1 : Int32)), .val (.ref r), .val (.ref a_SLIDING), .val (.ref q14), .val (.ref t_SLIDING)] [(.ref a_SLIDING), (.ref a_SLIDING)])) X20 hx rfl rfl rfl (pc0 := 109) (pc' := 112) (same := true) rfl (hb hby at_109) rfl (decide_eq_true rfl) (by decide) (by decide) k_) ?_
      show OEndsW p e below s _ _ _ _ _ (T20.setTop (mkF m 112 #[.val (.int p0), .val (.int (1 : Int32)), .val (.ref r), .val (.ref a_SLIDING), .val (.ref q14), .val (.ref t_SLIDING)] []))
      refine OEndsW.via (fun _ k_ => XS.iconst X20.here hx rfl (hb hby at_112) k_) ?_
      show OEndsW p e below s _ _ _ _ _ (T20.setTop (mkF m 113 #[.val (.int p0), .val (.int (1 : Int32)), .val (.ref r), .val (.ref a_SLIDING), .val (.ref q14), .val (.ref t_SLIDING)] [(.int (1 : Int32))]))
      refine OEndsW.via (fun _ k_ => XS.goto X20.here hx rfl (pc0 := 113) (pc' := 117) rfl (hb hby at_113) (by decide) (by decide) k_) ?_
      show OEndsW p e below s _ _ _ _ _ (T20.setTop (mkF m 117 #[.val (.int p0), .val (.int (1 : Int32)), .val (.ref r), .val (.ref a_SLIDING), .val (.ref q14), .val (.ref t_SLIDING)] [(.int (1 : Int32))]))
      refine OEndsW.retN X20 hx hlk hS hk hZ hEL rfl es CR (t := .boolean) Bd.returns (by simp) (hb hby at_117) ?_ (by decide) (by decide)
      exact ⟨rfl, N20⟩
    · skip
      refine OEndsW.via (fun _ k_ => XS.icmpYes X2.here hx rfl (pc0 := 40) (pc' := 54) rfl (hb hby at_40) rfl (feq hc40_11).2 (by decide) (by decide) k_) ?_
      show OEndsW p e below s _ _ _ _ _ (T2.setTop (mkF m 54 #[.val (.int p0), .val (.int ((p0 &&& (2147483647 : Int32)) % (3 : Int32))), .val (.ref r), .unset, .unset, .unset] []))
      obtain ⟨T21, X21, e21, st21⟩ := getS2 X2 hx hZ hown (host := "") (Or.inl (hw _ (List.mem_of_getElem? (i := 148) rfl))) Via.refl e2 (Sta.ext Od.2 S_FIXED) (g := (mkF m 54 #[.val (.int p0), .val (.int ((p0 &&& (2147483647 : Int32)) % (3 : Int32))), .val (.ref r), .unset, .unset, .unset] [])) rfl (hb hby at_54)
      refine OEndsW.via (fun _ k_ => st21 _ k_) ?_
      show OEndsW p e below s _ _ _ _ _ (T21.setTop (mkF m 57 #[.val (.int p0), .val (.int ((p0 &&& (2147483647 : Int32)) % (3 : Int32))), .val (.ref r), .unset, .unset, .unset] [(.ref a_FIXED)]))
      refine OEndsW.via (fun _ k_ => XS.astoreN X21.here hx rfl (hb hby at_57) rfl rfl (l' := #[.val (.int p0), .val (.int ((p0 &&& (2147483647 : Int32)) % (3 : Int32))), .val (.ref r), .val (.ref a_FIXED), .unset, .unset]) rfl k_) ?_
      show OEndsW p e below s _ _ _ _ _ (T21.setTop (mkF m 58 #[.val (.int p0), .val (.int ((p0 &&& (2147483647 : Int32)) % (3 : Int32))), .val (.ref r), .val (.ref a_FIXED), .unset, .unset] []))
      obtain ⟨q22, T22, h22, k122, qv22, kq22, X22, e22, E22, hS22, hk22, hZ22, hown22, E_q22, C_q22, V_q22, K_q22, la22, lb22, CH22, Lt22, hsafe22, st22⟩ := ldcCH X21 hx hZ hown (hw _ (List.mem_of_getElem? (i := 149) rfl)) wS e21 hS hk hEL (by decide : ("com/example/amber_gate/ambergate/AlgorithmNamesPinLaw", 34) ∈ consts_1) CR.1 (vs := [(.int (102 : Int32)), (.int (105 : Int32)), (.int (120 : Int32)), (.int (101 : Int32)), (.int (100 : Int32))]) (z := (5 : Int32)) (by decide) (by decide) (by decide) (g := (mkF m 58 #[.val (.int p0), .val (.int ((p0 &&& (2147483647 : Int32)) % (3 : Int32))), .val (.ref r), .val (.ref a_FIXED), .unset, .unset] [])) rfl (hb hby at_58) (n := 20) (by decide) (by decide) (by decide) (by decide)
      replace Od := Od.ext E22
      replace E_r := Exa.ext E22 E_r
      replace G_ed := Fld.ext E22 G_ed
      replace G_sz := Fld.ext E22 G_sz
      replace V_d := V_d.ext E22
      replace CR := CR.trans CH22
      replace hS := hS22
      replace hk := hk22
      replace hZ := hZ22
      replace hown := hown22
      have hp_q22 : ∀ c ∈ ([(102 : Int32), (105 : Int32), (120 : Int32), (101 : Int32), (100 : Int32)] : List Int32), ¬ c < 0 ∧ ¬ (255 : Int32) < c := by decide
      have hcd_q22 : StrChars.Road.CodA ([(102 : Int32), (105 : Int32), (120 : Int32), (101 : Int32), (100 : Int32)] : List Int32) 0 (5 : Int32) [(.int (102 : Int32)), (.int (105 : Int32)), (.int (120 : Int32)), (.int (101 : Int32)), (.int (100 : Int32))] := Or.inl ⟨rfl, rfl, rfl, fun c hc => (hp_q22 c hc).2⟩
      have hbd_q22 := own_up _ hp_q22
      refine OEndsW.via (fun _ k_ => st22 _ k_) ?_
      show OEndsW p e below s _ _ _ _ _ (T22.setTop (mkF m 60 #[.val (.int p0), .val (.int ((p0 &&& (2147483647 : Int32)) % (3 : Int32))), .val (.ref r), .val (.ref a_FIXED), .unset, .unset] [(.ref q22)]))
      refine OEndsW.via (fun _ k_ => XS.astore X22.here hx rfl (hb hby at_60) rfl rfl (l' := #[.val (.int p0), .val (.int ((p0 &&& (2147483647 : Int32)) % (3 : Int32))), .val (.ref r), .val (.ref a_FIXED), .val (.ref q22), .unset]) rfl k_) ?_
      show OEndsW p e below s _ _ _ _ _ (T22.setTop (mkF m 62 #[.val (.int p0), .val (.int ((p0 &&& (2147483647 : Int32)) % (3 : Int32))), .val (.ref r), .val (.ref a_FIXED), .val (.ref q22), .unset] []))
      rw [(own_mod3 p0).elim (fun q => absurd q hc24_2) (fun q => q.elim (fun q => absurd q hc40_11) id)]
      show OEndsW p e below s _ _ _ _ _ (T22.setTop (mkF m 62 #[.val (.int p0), .val (.int (2 : Int32)), .val (.ref r), .val (.ref a_FIXED), .val (.ref q22), .unset] []))
      refine OEndsW.via (fun _ k_ => XS.aloadN X22.here hx rfl (hb hby at_62) rfl rfl k_) ?_
      show OEndsW p e below s _ _ _ _ _ (T22.setTop (mkF m 63 #[.val (.int p0), .val (.int (2 : Int32)), .val (.ref r), .val (.ref a_FIXED), .val (.ref q22), .unset] [(.ref r)]))
      refine OEndsW.via (fun _ k_ => XS.iloadN X22.here hx rfl (hb hby at_63) rfl k_) ?_
      show OEndsW p e below s _ _ _ _ _ (T22.setTop (mkF m 64 #[.val (.int p0), .val (.int (2 : Int32)), .val (.ref r), .val (.ref a_FIXED), .val (.ref q22), .unset] [(.int (2 : Int32)), (.ref r)]))
      have V_d' := V_d
      obtain ⟨cl, Ar, qA, Sa, MA, HA, GA⟩ := V_d'
      obtain ⟨cq23, kq23, q23a, q23b, q23c⟩ := isOf hZ e22 E_r
      obtain ⟨_, _, ⟨T23, L23, k23, n23⟩, -, X23, ⟨Lc23, hQ23, l23, y23, z23⟩, st23⟩ := X22.interfaceBack hx (xi := (⟨"java/util/List", "get", "(I)Ljava/lang/Object;"⟩ : MethodName)) (y := (⟨"java/util/ArrayList", "get", "(I)Ljava/lang/Object;"⟩ : MethodName)) hown (mvT hZ (hw _ (List.mem_of_getElem? (i := 103) rfl))) (mvT hZ (hw _ (List.mem_of_getElem? (i := 104) rfl))) (mvT hZ (hw _ (List.mem_of_getElem? (i := 105) rfl))) (mvT hZ (hw _ (List.mem_of_getElem? (i := 106) rfl))) (mvT hZ (hw _ (List.mem_of_getElem? (i := 107) rfl))) (mvT hZ (hw _ (List.mem_of_getElem? (i := 108) rfl))) (mvT hZ (hw _ (List.mem_of_getElem? (i := 109) rfl))) (mvT hZ (hw _ (List.mem_of_getElem? (i := 58) rfl))) (by decide) (backOf (W := 0) (rmGet l Z a0 hw [] r d (2 : Int32) t_FIXED cl (3 : Int32) h22 n0 Od G_ed Ar (inb_of Sa ⟨by decide, by decide⟩) (HA 2 (by rw [Sa]; decide)) G_sz E_r (by decide) (by decide)) hZ (hw _ (List.mem_of_getElem? (i := 110) rfl)) (hw _ (List.mem_of_getElem? (i := 7) rfl)) (by decide) (by decide)) q23a q23b q23c (g := (mkF m 64 #[.val (.int p0), .val (.int (2 : Int32)), .val (.ref r), .val (.ref a_FIXED), .val (.ref q22), .unset] [(.int (2 : Int32)), (.ref r)])) rfl (by rw [hml]; rfl) (Steps.refl _) (argsL := [(.int (2 : Int32))]) (rest := []) (lenOf pd_28I29Ljava2flang2fObject3b rfl) rfl (by show 2 * 0 + _ ≤ _; exact Nat.le_of_eq rfl) (hb hby at_64) (fun _ _ => ⟨rfl, e22, Nat.le_of_ble_eq_true rfl, Nat.le_of_ble_eq_true rfl⟩)
      dsimp only [Pt.U, Pt.locs, Pt.cells, Pt.slots] at X23 l23 y23 z23 st23 hQ23
      subst l23 y23 z23
      obtain ⟨rfl, N23q, e23⟩ := hQ23
      have N23 := Fr.app N2 N23q
      refine OEndsW.via (fun _ k_ => st23.trans k_) ?_
      show OEndsW p e below s _ _ _ _ _ (T23.setTop (mkF m 69 #[.val (.int p0), .val (.int (2 : Int32)), .val (.ref r), .val (.ref a_FIXED), .val (.ref q22), .unset] [(.ref t_FIXED)]))
      obtain ⟨T24, X24, e24, st24⟩ := castY X23 hx hZ hown (hw _ (List.mem_of_getElem? (i := 124) rfl)) e23 (Ins.self (Exa.ext Od.2 Et_FIXED)) (g := (mkF m 69 #[.val (.int p0), .val (.int (2 : Int32)), .val (.ref r), .val (.ref a_FIXED), .val (.ref q22), .unset] [(.ref t_FIXED)])) rfl rfl (hb hby at_69)
      refine OEndsW.via (fun _ k_ => st24 _ k_) ?_
      show OEndsW p e below s _ _ _ _ _ (T24.setTop (mkF m 72 #[.val (.int p0), .val (.int (2 : Int32)), .val (.ref r), .val (.ref a_FIXED), .val (.ref q22), .unset] [(.ref t_FIXED)]))
      refine OEndsW.via (fun _ k_ => XS.astore X24.here hx rfl (hb hby at_72) rfl rfl (l' := #[.val (.int p0), .val (.int (2 : Int32)), .val (.ref r), .val (.ref a_FIXED), .val (.ref q22), .val (.ref t_FIXED)]) rfl k_) ?_
      show OEndsW p e below s _ _ _ _ _ (T24.setTop (mkF m 74 #[.val (.int p0), .val (.int (2 : Int32)), .val (.ref r), .val (.ref a_FIXED), .val (.ref q22), .val (.ref t_FIXED)] []))
      refine OEndsW.via (fun _ k_ => XS.aload X24.here hx rfl (hb hby at_74) rfl rfl k_) ?_
      show OEndsW p e below s _ _ _ _ _ (T24.setTop (mkF m 76 #[.val (.int p0), .val (.int (2 : Int32)), .val (.ref r), .val (.ref a_FIXED), .val (.ref q22), .val (.ref t_FIXED)] [(.ref t_FIXED)]))
      refine OEndsW.via (fun _ k_ => XS.ifnonnullYes X24.here hx rfl (pc0 := 76) (pc' := 81) rfl (hb hby at_76) rfl (by decide) (by decide) k_) ?_
      show OEndsW p e below s _ _ _ _ _ (T24.setTop (mkF m 81 #[.val (.int p0), .val (.int (2 : Int32)), .val (.ref r), .val (.ref a_FIXED), .val (.ref q22), .val (.ref t_FIXED)] []))
      refine OEndsW.via (fun _ k_ => XS.aload X24.here hx rfl (hb hby at_81) rfl rfl k_) ?_
      show OEndsW p e below s _ _ _ _ _ (T24.setTop (mkF m 83 #[.val (.int p0), .val (.int (2 : Int32)), .val (.ref r), .val (.ref a_FIXED), .val (.ref q22), .val (.ref t_FIXED)] [(.ref t_FIXED)]))
      refine OEndsW.via (fun _ k_ => XS.aload X24.here hx rfl (hb hby at_83) rfl rfl k_) ?_
      show OEndsW p e below s _ _ _ _ _ (T24.setTop (mkF m 85 #[.val (.int p0), .val (.int (2 : Int32)), .val (.ref r), .val (.ref a_FIXED), .val (.ref q22), .val (.ref t_FIXED)] [(.ref q22), (.ref t_FIXED)]))
      obtain ⟨cq25, kq25, q25a, q25b, q25c⟩ := isOf hZ e24 (Exa.ext Od.2 Et_FIXED)
      obtain ⟨_, _, ⟨T25, L25, k25, n25⟩, -, X25, ⟨Lc25, hQ25, l25, y25, z25⟩, st25⟩ := X24.virtualBack hx (y := (⟨"java/lang/String", "equals", "(Ljava/lang/Object;)Z"⟩ : MethodName)) (z := (⟨"java/lang/String", "equals", "(Ljava/lang/Object;)Z"⟩ : MethodName)) hown (mvT hZ (hw _ (List.mem_of_getElem? (i := 126) rfl))) (mvT hZ (hw _ (List.mem_of_getElem? (i := 127) rfl))) (notFace_of_selects (args := #[]) (mvT hZ (hw _ (List.mem_of_getElem? (i := 129) rfl)))) (mvT hZ (hw _ (List.mem_of_getElem? (i := 129) rfl))) (mvT hZ (hw _ (List.mem_of_getElem? (i := 128) rfl))) (by decide) (StrChars.Road.eqW (W := 0) hZ heq (kI := 4) (hw _ (List.mem_of_getElem? (i := 97) rfl)) (Exa.ext Od.2 Et_FIXED) (Fld.ext Od.2 Vt_FIXED) (Fld.ext Od.2 Ct_FIXED) (Kt_FIXED.ext Od.2) hcd_t_FIXED hbd_t_FIXED (by decide) E_q22 V_q22 C_q22 K_q22 hcd_q22 hbd_q22 (by decide) (Sta.ext Od.2 S_CS) nz_CS (by decide) (by decide)) q25a q25c (g := (mkF m 85 #[.val (.int p0), .val (.int (2 : Int32)), .val (.ref r), .val (.ref a_FIXED), .val (.ref q22), .val (.ref t_FIXED)] [(.ref q22), (.ref t_FIXED)])) rfl (by rw [hml]; rfl) (Steps.refl _) (argsL := [(.ref q22)]) (rest := []) (lenOf pd_28Ljava2flang2fObject3b29Z rfl) rfl (by show 2 * 0 + _ ≤ _; exact Nat.le_of_eq rfl) (hb hby at_85) (fun _ _ => ⟨rfl, e24, Nat.le_of_ble_eq_true rfl, Nat.le_of_ble_eq_true rfl⟩)
      dsimp only [Pt.U, Pt.locs, Pt.cells, Pt.slots] at X25 l25 y25 z25 st25 hQ25
      subst l25 y25 z25
      obtain ⟨hcase25, rfl, e25⟩ := hQ25
      have N25 := Fr.app N23 (Fr.nil n0)
      have hv25 : _ = some (Value.int 1) := hcase25.elim (fun q => q.1) (fun q => absurd rfl q.2)
      subst hv25
      refine OEndsW.via (fun _ k_ => st25.trans k_) ?_
      show OEndsW p e below s _ _ _ _ _ (T25.setTop (mkF m 88 #[.val (.int p0), .val (.int (2 : Int32)), .val (.ref r), .val (.ref a_FIXED), .val (.ref q22), .val (.ref t_FIXED)] [(.int (1 : Int32))]))
      refine OEndsW.via (fun _ k_ => XS.ifNo X25.here hx rfl (hb hby at_88) rfl ((if0 _ _).trans (feq (by decide : ¬ ((1 : Int32) = (0 : Int32)))).1) k_) ?_
      show OEndsW p e below s _ _ _ _ _ (T25.setTop (mkF m 91 #[.val (.int p0), .val (.int (2 : Int32)), .val (.ref r), .val (.ref a_FIXED), .val (.ref q22), .val (.ref t_FIXED)] []))
      refine OEndsW.via (fun _ k_ => XS.aload X25.here hx rfl (hb hby at_91) rfl rfl k_) ?_
      show OEndsW p e below s _ _ _ _ _ (T25.setTop (mkF m 93 #[.val (.int p0), .val (.int (2 : Int32)), .val (.ref r), .val (.ref a_FIXED), .val (.ref q22), .val (.ref t_FIXED)] [(.ref t_FIXED)]))
      refine OEndsW.via (fun _ k_ => XS.aloadN X25.here hx rfl (hb hby at_93) rfl rfl k_) ?_
      show OEndsW p e below s _ _ _ _ _ (T25.setTop (mkF m 94 #[.val (.int p0), .val (.int (2 : Int32)), .val (.ref r), .val (.ref a_FIXED), .val (.ref q22), .val (.ref t_FIXED)] [(.ref a_FIXED), (.ref t_FIXED)]))
      obtain ⟨cq26, kq26, q26a, q26b, q26c⟩ := isOf hZ e25 (Exa.ext Od.2 E_FIXED)
      obtain ⟨_, _, ⟨T26, L26, k26, n26⟩, -, X26, ⟨Lc26, hQ26, l26, y26, z26⟩, st26⟩ := X25.virtualBack hx (y := (⟨"com/example/amber_gate/ambergate/Algorithm", "toString", "()Ljava/lang/String;"⟩ : MethodName)) (z := (⟨"com/example/amber_gate/ambergate/Algorithm", "toString", "()Ljava/lang/String;"⟩ : MethodName)) hown (mvT hZ (hw _ (List.mem_of_getElem? (i := 139) rfl))) (mvT hZ (hw _ (List.mem_of_getElem? (i := 140) rfl))) (notFace_of_selects (args := #[]) (mvT hZ (hw _ (List.mem_of_getElem? (i := 142) rfl)))) (mvT hZ (hw _ (List.mem_of_getElem? (i := 142) rfl))) (mvT hZ (hw _ (List.mem_of_getElem? (i := 141) rfl))) (by decide) (backOf (W := 1) (rmT l Z a0 hw [] a_FIXED t_FIXED h22 n0 Od Ft_FIXED) hZ (hw _ (List.mem_of_getElem? (i := 143) rfl)) (hw _ (List.mem_of_getElem? (i := 3) rfl)) (by decide) (by decide)) q26a q26c (g := (mkF m 94 #[.val (.int p0), .val (.int (2 : Int32)), .val (.ref r), .val (.ref a_FIXED), .val (.ref q22), .val (.ref t_FIXED)] [(.ref a_FIXED), (.ref t_FIXED)])) rfl (by rw [hml]; rfl) (Steps.refl _) (argsL := []) (rest := [(.ref t_FIXED)]) (lenOf pd_2829Ljava2flang2fString3b rfl) rfl (by show 2 * 0 + _ ≤ _; exact Nat.le_of_eq rfl) (hb hby at_94) (fun _ _ => ⟨rfl, e25, Nat.le_of_ble_eq_true rfl, Nat.le_of_ble_eq_true rfl⟩)
      dsimp only [Pt.U, Pt.locs, Pt.cells, Pt.slots] at X26 l26 y26 z26 st26 hQ26
      subst l26 y26 z26
      obtain ⟨rfl, N26q, e26⟩ := hQ26
      have N26 := Fr.app N25 N26q
      refine OEndsW.via (fun _ k_ => st26.trans k_) ?_
      show OEndsW p e below s _ _ _ _ _ (T26.setTop (mkF m 97 #[.val (.int p0), .val (.int (2 : Int32)), .val (.ref r), .val (.ref a_FIXED), .val (.ref q22), .val (.ref t_FIXED)] [(.ref t_FIXED), (.ref t_FIXED)]))
      obtain ⟨cq27, kq27, q27a, q27b, q27c⟩ := isOf hZ e26 (Exa.ext Od.2 Et_FIXED)
      obtain ⟨_, _, ⟨T27, L27, k27, n27⟩, -, X27, ⟨Lc27, hQ27, l27, y27, z27⟩, st27⟩ := X26.virtualBack hx (y := (⟨"java/lang/String", "equals", "(Ljava/lang/Object;)Z"⟩ : MethodName)) (z := (⟨"java/lang/String", "equals", "(Ljava/lang/Object;)Z"⟩ : MethodName)) hown (mvT hZ (hw _ (List.mem_of_getElem? (i := 126) rfl))) (mvT hZ (hw _ (List.mem_of_getElem? (i := 127) rfl))) (notFace_of_selects (args := #[]) (mvT hZ (hw _ (List.mem_of_getElem? (i := 129) rfl)))) (mvT hZ (hw _ (List.mem_of_getElem? (i := 129) rfl))) (mvT hZ (hw _ (List.mem_of_getElem? (i := 128) rfl))) (by decide) (StrChars.Road.eqW (W := 0) hZ heq (kI := 4) (hw _ (List.mem_of_getElem? (i := 97) rfl)) (Exa.ext Od.2 Et_FIXED) (Fld.ext Od.2 Vt_FIXED) (Fld.ext Od.2 Ct_FIXED) (Kt_FIXED.ext Od.2) hcd_t_FIXED hbd_t_FIXED (by decide) (Exa.ext Od.2 Et_FIXED) (Fld.ext Od.2 Vt_FIXED) (Fld.ext Od.2 Ct_FIXED) (Kt_FIXED.ext Od.2) hcd_t_FIXED hbd_t_FIXED (by decide) (Sta.ext Od.2 S_CS) nz_CS (by decide) (by decide)) q27a q27c (g := (mkF m 97 #[.val (.int p0), .val (.int (2 : Int32)), .val (.ref r), .val (.ref a_FIXED), .val (.ref q22), .val (.ref t_FIXED)] [(.ref t_FIXED), (.ref t_FIXED)])) rfl (by rw [hml]; rfl) (Steps.refl _) (argsL := [(.ref t_FIXED)]) (rest := []) (lenOf pd_28Ljava2flang2fObject3b29Z rfl) rfl (by show 2 * 0 + _ ≤ _; exact Nat.le_of_eq rfl) (hb hby at_97) (fun _ _ => ⟨rfl, e26, Nat.le_of_ble_eq_true rfl, Nat.le_of_ble_eq_true rfl⟩)
      dsimp only [Pt.U, Pt.locs, Pt.cells, Pt.slots] at X27 l27 y27 z27 st27 hQ27
      subst l27 y27 z27
      obtain ⟨hcase27, rfl, e27⟩ := hQ27
      have N27 := Fr.app N26 (Fr.nil n0)
      have hv27 : _ = some (Value.int 1) := hcase27.elim (fun q => q.1) (fun q => absurd rfl q.2)
      subst hv27
      refine OEndsW.via (fun _ k_ => st27.trans k_) ?_
      show OEndsW p e below s _ _ _ _ _ (T27.setTop (mkF m 100 #[.val (.int p0), .val (.int (2 : Int32)), .val (.ref r), .val (.ref a_FIXED), .val (.ref q22), .val (.ref t_FIXED)] [(.int (1 : Int32))]))
      refine OEndsW.via (fun _ k_ => XS.ifNo X27.here hx rfl (hb hby at_100) rfl ((if0 _ _).trans (feq (by decide : ¬ ((1 : Int32) = (0 : Int32)))).1) k_) ?_
      show OEndsW p e below s _ _ _ _ _ (T27.setTop (mkF m 103 #[.val (.int p0), .val (.int (2 : Int32)), .val (.ref r), .val (.ref a_FIXED), .val (.ref q22), .val (.ref t_FIXED)] []))
      refine OEndsW.via (fun _ k_ => XS.aload X27.here hx rfl (hb hby at_103) rfl rfl k_) ?_
      show OEndsW p e below s _ _ _ _ _ (T27.setTop (mkF m 105 #[.val (.int p0), .val (.int (2 : Int32)), .val (.ref r), .val (.ref a_FIXED), .val (.ref q22), .val (.ref t_FIXED)] [(.ref t_FIXED)]))
      obtain ⟨_, _, ⟨T28, L28, k28, n28⟩, -, X28, ⟨Lc28, hQ28, l28, y28, z28⟩, st28⟩ := Jvm.LawKit.callS X27 hx (y := (⟨"com/example/amber_gate/ambergate/Algorithm", "named", "(Ljava/lang/String;)Lcom/example/amber_gate/ambergate/Algorithm;"⟩ : MethodName)) hown (mvT hZ (hw _ (List.mem_of_getElem? (i := 144) rfl))) (mvT hZ (hw _ (List.mem_of_getElem? (i := 145) rfl))) (mvT hZ (hw _ (List.mem_of_getElem? (i := 3) rfl))) (mvT hZ (hw _ (List.mem_of_getElem? (i := 146) rfl))) (by decide) (backOf (W := 0) (rmN2 l Z a0 hw [] t_FIXED tv_FIXED kt_FIXED a_EXACT a_SLIDING a_FIXED t_EXACT t_SLIDING t_FIXED tv_EXACT tv_SLIDING tv_FIXED kt_EXACT kt_SLIDING kt_FIXED va kA G1 h22 n0 Od (Exa.ext Od.2 Et_FIXED) (Fld.ext Od.2 Vt_FIXED) (Fld.ext Od.2 Ct_FIXED) (Kt_FIXED.ext Od.2) S_CS nz_CS S_V AV EV Et_EXACT Vt_EXACT Ct_EXACT Kt_EXACT Ft_EXACT Et_SLIDING Vt_SLIDING Ct_SLIDING Kt_SLIDING Ft_SLIDING Et_FIXED Vt_FIXED Ct_FIXED Kt_FIXED Ft_FIXED) hZ (hw _ (List.mem_of_getElem? (i := 146) rfl)) (hw _ (List.mem_of_getElem? (i := 3) rfl)) (by decide) (by decide)) (g := (mkF m 105 #[.val (.int p0), .val (.int (2 : Int32)), .val (.ref r), .val (.ref a_FIXED), .val (.ref q22), .val (.ref t_FIXED)] [(.ref t_FIXED)])) rfl (by rw [hml]; rfl) (argsL := [(.ref t_FIXED)]) (rest := []) (lenOf pd_28Ljava2flang2fString3b29Lcom2fexample2famber_gate2fambergate2fAlgorithm3b rfl) rfl (by show 2 * 0 + _ ≤ _; exact Nat.le_of_eq rfl) (hb hby at_105) (fun _ _ => ⟨rfl, e27, Nat.le_of_ble_eq_true rfl, Nat.le_of_ble_eq_true rfl⟩)
      dsimp only [Pt.U, Pt.locs, Pt.cells, Pt.slots] at X28 l28 y28 z28 st28 hQ28
      subst l28 y28 z28
      obtain ⟨rfl, N28q, K28⟩ := hQ28
      have N28 := Fr.app N27 N28q
      have sfk28 : ∀ x ∈ ([] : List Addr), Safe Z consts_1 T22.vm h22 x := all0
      replace hk := Nat.le_trans hk K28.1
      replace Od := Od.keep K28 all0
      replace E_r := E_r.keep K28
      replace G_ed := G_ed.keep K28 nin0
      replace G_sz := G_sz.keep K28 nin0
      replace V_d := V_d.keep K28 nin0
      replace E_q22 := E_q22.keep K28
      replace C_q22 := C_q22.keep K28 nin0
      replace V_q22 := V_q22.keep K28 nin0
      replace K_q22 := K_q22.keep K28 nin0
      replace CR := CR.trans (CHr.keep K28 sfk28 CR.1)
      refine OEndsW.via (fun _ k_ => st28 _ k_) ?_
      show OEndsW p e below s _ _ _ _ _ (T28.setTop (mkF m 108 #[.val (.int p0), .val (.int (2 : Int32)), .val (.ref r), .val (.ref a_FIXED), .val (.ref q22), .val (.ref t_FIXED)] [(.ref a_FIXED)]))
      refine OEndsW.via (fun _ k_ => XS.aloadN X28.here hx rfl (hb hby at_108) rfl rfl k_) ?_
      show OEndsW p e below s _ _ _ _ _ (T28.setTop (mkF m 109 #[.val (.int p0), .val (.int (2 : Int32)), .val (.ref r), .val (.ref a_FIXED), .val (.ref q22), .val (.ref t_FIXED)] [(.ref a_FIXED), (.ref a_FIXED)]))
      refine OEndsW.via (fun _ k_ => Jvm.RoadKit.acmp (g := (mkF m 109 #[.val (.int p0), .val (.int (2 : Int32)), .val (.ref r), .val (.ref a_FIXED), .val (.ref q22), .val (.ref t_FIXED)] [(.ref a_FIXED), (.ref a_FIXED)])) X28 hx rfl rfl rfl (pc0 := 109) (pc' := 112) (same := true) rfl (hb hby at_109) rfl (decide_eq_true rfl) (by decide) (by decide) k_) ?_
      show OEndsW p e below s _ _ _ _ _ (T28.setTop (mkF m 112 #[.val (.int p0), .val (.int (2 : Int32)), .val (.ref r), .val (.ref a_FIXED), .val (.ref q22), .val (.ref t_FIXED)] []))
      refine OEndsW.via (fun _ k_ => XS.iconst X28.here hx rfl (hb hby at_112) k_) ?_
      show OEndsW p e below s _ _ _ _ _ (T28.setTop (mkF m 113 #[.val (.int p0), .val (.int (2 : Int32)), .val (.ref r), .val (.ref a_FIXED), .val (.ref q22), .val (.ref t_FIXED)] [(.int (1 : Int32))]))
      refine OEndsW.via (fun _ k_ => XS.goto X28.here hx rfl (pc0 := 113) (pc' := 117) rfl (hb hby at_113) (by decide) (by decide) k_) ?_
      show OEndsW p e below s _ _ _ _ _ (T28.setTop (mkF m 117 #[.val (.int p0), .val (.int (2 : Int32)), .val (.ref r), .val (.ref a_FIXED), .val (.ref q22), .val (.ref t_FIXED)] [(.int (1 : Int32))]))
      refine OEndsW.retN X28 hx hlk hS hk hZ hEL rfl es CR (t := .boolean) Bd.returns (by simp) (hb hby at_117) ?_ (by decide) (by decide)
      exact ⟨rfl, N28⟩
set_option maxRecDepth 65536 in
set_option maxHeartbeats 40000000 in
theorem comes_1 {Post : Tables → Env → Array Value → State → Outcome → State → Prop} (hpost : ∀ tb e args s v u, (limb_1_1.after args s (.returned v) u = true ∧ limb_1_2.after args s (.returned v) u = true ∧ True) → ReturnedEndW s (.returned v) u (Jvm.fieldLocs frame_1_writes args s ++ Jvm.arrayLocs frame_1_arrays args s ++ Jvm.staticLocs frame_1_statics s) 24 3200 → Post tb e args s (.returned v) u) :
    ArmFor flags0 classFile x code maxLocals ret World_1 tables_1 room_1 Calls_1 rest_1 Pre_1 Post := by
  intro l hfl _ _ p e ha hc hk s m args below hf hA hF happ hP
  obtain ⟨hcalls, hrest, hpre⟩ := hP
  obtain ⟨-, -, -, hnamed, -, -, -, hat⟩ := (Spec.applies_iff hf).mp happ
  obtain ⟨hg, hn⟩ := and_e (Cond.before_iff.mp (show (Jvm.Cond.and given_1 narrow_1).before args s = true from hpre))
  obtain ⟨g1, g2⟩ := and_e hg
  obtain ⟨w0, rfl⟩ : ∃ w0 : Value, args = #[w0] := by
    have hs : args.size = 1 := by simpa [Cond.value, given_1] using g1
    obtain ⟨L⟩ := args
    match L, hs with
    | [w0], _ => exact ⟨w0, rfl⟩
  have hw := fun d (hd : d ∈ tables_1) => atoms_spec (ws := Jvm.Cond.code x code maxLocals ret :: tables_1) hat d (List.mem_cons_of_mem _ hd)
  have hfit : Fit s := fun {y c} hc i hi => by
    obtain ⟨ha, rfl⟩ := Array.getElem?_eq_some_iff.mp hc
    have q := List.all_eq_true.mp ((Array.all_eq_true_iff_forall_mem.mp hF) _ (Array.getElem_mem ha)) i (List.mem_range.mpr hi)
    simpa [Array.getElem?_eq_getElem hi] using q
  obtain ⟨hsets, hown0⟩ := atoms_of _ (rest_1_c_eq ▸ (show rest_1_c.before _ s = true from hrest))
  have hr0 := Cond.before_iff.mp hown0
  obtain ⟨i0, ei0⟩ := is_v g2
  obtain rfl : w0 = (.int i0) := Option.some.inj ei0
  obtain ⟨g3, g4⟩ := and_e hn
  obtain ⟨g5, g6⟩ := and_e g4
  obtain ⟨g7, g8⟩ := and_e g6
  obtain ⟨g9, g10⟩ := and_e g8
  obtain ⟨g11, g12⟩ := and_e g10
  obtain ⟨g13, g14⟩ := and_e g12
  obtain ⟨g15, g16⟩ := and_e g14
  obtain ⟨g17, g18⟩ := and_e g16
  obtain ⟨g19, g20⟩ := and_e g18
  obtain ⟨g21, g22⟩ := and_e g20
  obtain ⟨g23, g24⟩ := and_e g22
  obtain ⟨g25, g26⟩ := and_e g24
  obtain ⟨g27, g28⟩ := and_e g26
  obtain ⟨g29, g30⟩ := and_e g28
  obtain ⟨g31, g32⟩ := and_e g30
  obtain ⟨g33, g34⟩ := and_e g32
  obtain ⟨g35, g36⟩ := and_e g34
  obtain ⟨g37, g38⟩ := and_e g36
  obtain ⟨g39, g40⟩ := and_e g38
  obtain ⟨g41, g42⟩ := and_e g40
  obtain ⟨g43, g44⟩ := and_e g42
  obtain ⟨g45, g46⟩ := and_e g44
  obtain ⟨g47, g48⟩ := and_e g46
  obtain ⟨g49, g50⟩ := and_e g48
  obtain ⟨g51, g52⟩ := and_e g50
  obtain ⟨g53, g54⟩ := and_e g52
  obtain ⟨g55, g56⟩ := and_e g54
  obtain ⟨g57, g58⟩ := and_e g56
  obtain ⟨g59, g60⟩ := and_e g58
  obtain ⟨g61, g62⟩ := and_e g60
  obtain ⟨g63, g64⟩ := and_e g62
  obtain ⟨g65, g66⟩ := and_e g64
  obtain ⟨g67, g68⟩ := and_e g66
  obtain ⟨g69, g70⟩ := and_e g68
  obtain ⟨g71, g72⟩ := and_e g70
  obtain ⟨g73, g74⟩ := and_e g72
  obtain ⟨g75, g76⟩ := and_e g74
  obtain ⟨g77, g78⟩ := and_e g76
  obtain ⟨g79, g80⟩ := and_e g78
  obtain ⟨g81, g82⟩ := and_e g80
  obtain ⟨a_EMPTY_ELEMENTDATA, ev_a_EMPTY_ELEMENTDATA⟩ := arr_v (Cond.before_iff.mp (hsets _ (List.mem_of_getElem? (i := 3) rfl)))
  have S_a_EMPTY_ELEMENTDATA : Sta s s.heap "java/util/ArrayList" "EMPTY_ELEMENTDATA" "[Ljava/lang/Object;" (.ref a_EMPTY_ELEMENTDATA) := Sta.start ev_a_EMPTY_ELEMENTDATA (Or.inl (hsets _ (List.mem_of_getElem? (i := 1) rfl)))
  obtain ⟨cl_a_EMPTY_ELEMENTDATA, Ar_a_EMPTY_ELEMENTDATA⟩ := Arr.start ev_a_EMPTY_ELEMENTDATA (Cond.before_iff.mp (hsets _ (List.mem_of_getElem? (i := 3) rfl)))
  have E_a_EMPTY_ELEMENTDATA : Exa s s.heap a_EMPTY_ELEMENTDATA "[Ljava/lang/Object;" := Exa.start ev_a_EMPTY_ELEMENTDATA (Cond.before_iff.mp (hsets _ (List.mem_of_getElem? (i := 4) rfl)))
  obtain ⟨a_DEFAULTCAPACITY_EMPTY_ELEMENTDATA, ev_a_DEFAULTCAPACITY_EMPTY_ELEMENTDATA⟩ := arr_v (Cond.before_iff.mp (hsets _ (List.mem_of_getElem? (i := 6) rfl)))
  have S_a_DEFAULTCAPACITY_EMPTY_ELEMENTDATA : Sta s s.heap "java/util/ArrayList" "DEFAULTCAPACITY_EMPTY_ELEMENTDATA" "[Ljava/lang/Object;" (.ref a_DEFAULTCAPACITY_EMPTY_ELEMENTDATA) := Sta.start ev_a_DEFAULTCAPACITY_EMPTY_ELEMENTDATA (Or.inr ⟨(hw _ (List.mem_of_getElem? (i := 7) rfl)), (hsets _ (List.mem_of_getElem? (i := 2) rfl))⟩)
  obtain ⟨cl_a_DEFAULTCAPACITY_EMPTY_ELEMENTDATA, Ar_a_DEFAULTCAPACITY_EMPTY_ELEMENTDATA⟩ := Arr.start ev_a_DEFAULTCAPACITY_EMPTY_ELEMENTDATA (Cond.before_iff.mp (hsets _ (List.mem_of_getElem? (i := 6) rfl)))
  have E_a_DEFAULTCAPACITY_EMPTY_ELEMENTDATA : Exa s s.heap a_DEFAULTCAPACITY_EMPTY_ELEMENTDATA "[Ljava/lang/Object;" := Exa.start ev_a_DEFAULTCAPACITY_EMPTY_ELEMENTDATA (Cond.before_iff.mp (hsets _ (List.mem_of_getElem? (i := 7) rfl)))
  obtain ⟨L31_a_EMPTY_ELEMENTDATA, L_a_EMPTY_ELEMENTDATA⟩ := own_len (Cond.before_iff.mp (hsets _ (List.mem_of_getElem? (i := 5) rfl))) ev_a_EMPTY_ELEMENTDATA Ar_a_EMPTY_ELEMENTDATA
  obtain ⟨L31_a_DEFAULTCAPACITY_EMPTY_ELEMENTDATA, L_a_DEFAULTCAPACITY_EMPTY_ELEMENTDATA⟩ := own_len (Cond.before_iff.mp (hsets _ (List.mem_of_getElem? (i := 8) rfl))) ev_a_DEFAULTCAPACITY_EMPTY_ELEMENTDATA Ar_a_DEFAULTCAPACITY_EMPTY_ELEMENTDATA
  obtain ⟨a_COMPACT_STRINGS, ev_a_COMPACT_STRINGS⟩ := is_v (Cond.before_iff.mp (hsets _ (List.mem_of_getElem? (i := 10) rfl)))
  have S_a_COMPACT_STRINGS : Sta s s.heap "java/lang/String" "COMPACT_STRINGS" "Z" (.int a_COMPACT_STRINGS) := Sta.start ev_a_COMPACT_STRINGS (Or.inl (hsets _ (List.mem_of_getElem? (i := 9) rfl)))
  obtain ⟨a_SIOOBE_FORMATTER, ev_a_SIOOBE_FORMATTER, rf_a_SIOOBE_FORMATTER⟩ := isR_v (Cond.before_iff.mp (hsets _ (List.mem_of_getElem? (i := 17) rfl)))
  have S_a_SIOOBE_FORMATTER : Sta s s.heap "jdk/internal/util/Preconditions" "SIOOBE_FORMATTER" "Ljava/util/function/BiFunction;" a_SIOOBE_FORMATTER := Sta.start ev_a_SIOOBE_FORMATTER (Or.inl (hsets _ (List.mem_of_getElem? (i := 16) rfl)))
  have nz_a_COMPACT_STRINGS : ¬ (a_COMPACT_STRINGS = (0 : Int32)) := gotF (Cond.eq_ints ev_a_COMPACT_STRINGS (Term.int_eval (0))) (not_v (Cond.before_iff.mp (hsets _ (List.mem_of_getElem? (i := 11) rfl))))
  obtain ⟨a__VALUES, ev_a__VALUES⟩ := arr_v g3
  have S_a__VALUES : Sta s s.heap "com/example/amber_gate/ambergate/Algorithm" "$VALUES" "[Lcom/example/amber_gate/ambergate/Algorithm;" (.ref a__VALUES) := Sta.start ev_a__VALUES (Or.inl (hw _ (List.mem_of_getElem? (i := 46) rfl)))
  obtain ⟨cl_a__VALUES, Ar_a__VALUES⟩ := Arr.start ev_a__VALUES g3
  have E_a__VALUES : Exa s s.heap a__VALUES "[Lcom/example/amber_gate/ambergate/Algorithm;" := Exa.start ev_a__VALUES g5
  obtain ⟨a_EXACT, ev_a_EXACT⟩ := exa_v g9
  have S_a_EXACT : Sta s s.heap "com/example/amber_gate/ambergate/Algorithm" "EXACT" "Lcom/example/amber_gate/ambergate/Algorithm;" (.ref a_EXACT) := Sta.start ev_a_EXACT (Or.inr ⟨(hw _ (List.mem_of_getElem? (i := 3) rfl)), (hw _ (List.mem_of_getElem? (i := 43) rfl))⟩)
  have E_a_EXACT : Exa s s.heap a_EXACT "com/example/amber_gate/ambergate/Algorithm" := Exa.start ev_a_EXACT g9
  obtain ⟨a_SLIDING, ev_a_SLIDING⟩ := exa_v g13
  have S_a_SLIDING : Sta s s.heap "com/example/amber_gate/ambergate/Algorithm" "SLIDING" "Lcom/example/amber_gate/ambergate/Algorithm;" (.ref a_SLIDING) := Sta.start ev_a_SLIDING (Or.inr ⟨(hw _ (List.mem_of_getElem? (i := 3) rfl)), (hw _ (List.mem_of_getElem? (i := 44) rfl))⟩)
  have E_a_SLIDING : Exa s s.heap a_SLIDING "com/example/amber_gate/ambergate/Algorithm" := Exa.start ev_a_SLIDING g13
  obtain ⟨a_FIXED, ev_a_FIXED⟩ := exa_v g17
  have S_a_FIXED : Sta s s.heap "com/example/amber_gate/ambergate/Algorithm" "FIXED" "Lcom/example/amber_gate/ambergate/Algorithm;" (.ref a_FIXED) := Sta.start ev_a_FIXED (Or.inr ⟨(hw _ (List.mem_of_getElem? (i := 3) rfl)), (hw _ (List.mem_of_getElem? (i := 45) rfl))⟩)
  have E_a_FIXED : Exa s s.heap a_FIXED "com/example/amber_gate/ambergate/Algorithm" := Exa.start ev_a_FIXED g17
  obtain ⟨a_EXACT_text, ev_a_EXACT_text⟩ := exa_v g21
  have F_text_a_EXACT : Fld s s.heap a_EXACT "com/example/amber_gate/ambergate/Algorithm" "text" "Ljava/lang/String;" (.ref a_EXACT_text) := Fld.start ((fld_at ev_a_EXACT).symm.trans ev_a_EXACT_text)
  have E_a_EXACT_text : Exa s s.heap a_EXACT_text "java/lang/String" := Exa.start ev_a_EXACT_text g21
  obtain ⟨a_SLIDING_text, ev_a_SLIDING_text⟩ := exa_v g23
  have F_text_a_SLIDING : Fld s s.heap a_SLIDING "com/example/amber_gate/ambergate/Algorithm" "text" "Ljava/lang/String;" (.ref a_SLIDING_text) := Fld.start ((fld_at ev_a_SLIDING).symm.trans ev_a_SLIDING_text)
  have E_a_SLIDING_text : Exa s s.heap a_SLIDING_text "java/lang/String" := Exa.start ev_a_SLIDING_text g23
  obtain ⟨a_FIXED_text, ev_a_FIXED_text⟩ := exa_v g25
  have F_text_a_FIXED : Fld s s.heap a_FIXED "com/example/amber_gate/ambergate/Algorithm" "text" "Ljava/lang/String;" (.ref a_FIXED_text) := Fld.start ((fld_at ev_a_FIXED).symm.trans ev_a_FIXED_text)
  have E_a_FIXED_text : Exa s s.heap a_FIXED_text "java/lang/String" := Exa.start ev_a_FIXED_text g25
  obtain ⟨a_EXACT_text_value, ev_a_EXACT_text_value⟩ := arr_v g29
  have F_value_a_EXACT_text : Fld s s.heap a_EXACT_text "java/lang/String" "value" "[B" (.ref a_EXACT_text_value) := Fld.start ((fld_at ev_a_EXACT_text).symm.trans ev_a_EXACT_text_value)
  obtain ⟨cl_a_EXACT_text_value, Ar_a_EXACT_text_value⟩ := Arr.start ev_a_EXACT_text_value g29
  obtain ⟨a_FIXED_text_value, ev_a_FIXED_text_value⟩ := arr_v g35
  have F_value_a_FIXED_text : Fld s s.heap a_FIXED_text "java/lang/String" "value" "[B" (.ref a_FIXED_text_value) := Fld.start ((fld_at ev_a_FIXED_text).symm.trans ev_a_FIXED_text_value)
  obtain ⟨cl_a_FIXED_text_value, Ar_a_FIXED_text_value⟩ := Arr.start ev_a_FIXED_text_value g35
  obtain ⟨a_SLIDING_text_value, ev_a_SLIDING_text_value⟩ := arr_v g45
  have F_value_a_SLIDING_text : Fld s s.heap a_SLIDING_text "java/lang/String" "value" "[B" (.ref a_SLIDING_text_value) := Fld.start ((fld_at ev_a_SLIDING_text).symm.trans ev_a_SLIDING_text_value)
  obtain ⟨cl_a_SLIDING_text_value, Ar_a_SLIDING_text_value⟩ := Arr.start ev_a_SLIDING_text_value g45
  obtain ⟨L31_a__VALUES, L_a__VALUES⟩ := own_len g7 ev_a__VALUES Ar_a__VALUES
  have el_a__VALUES_0 := own_elemR g11 ev_a_EXACT ev_a__VALUES Ar_a__VALUES
  have el_a__VALUES_1 := own_elemR g15 ev_a_SLIDING ev_a__VALUES Ar_a__VALUES
  have el_a__VALUES_2 := own_elemR g19 ev_a_FIXED ev_a__VALUES Ar_a__VALUES
  have F_coder_a_EXACT_text : Fld s s.heap a_EXACT_text "java/lang/String" "coder" "B" (.int (0 : Int32)) := Fld.start ((fld_at ev_a_EXACT_text).symm.trans (own_eqint g27))
  obtain ⟨L31_a_EXACT_text_value, L_a_EXACT_text_value⟩ := own_len g31 ev_a_EXACT_text_value Ar_a_EXACT_text_value
  have F_coder_a_FIXED_text : Fld s s.heap a_FIXED_text "java/lang/String" "coder" "B" (.int (0 : Int32)) := Fld.start ((fld_at ev_a_FIXED_text).symm.trans (own_eqint g33))
  obtain ⟨L31_a_FIXED_text_value, L_a_FIXED_text_value⟩ := own_len g37 ev_a_FIXED_text_value Ar_a_FIXED_text_value
  have F_coder_a_SLIDING_text : Fld s s.heap a_SLIDING_text "java/lang/String" "coder" "B" (.int (0 : Int32)) := Fld.start ((fld_at ev_a_SLIDING_text).symm.trans (own_eqint g43))
  obtain ⟨L31_a_SLIDING_text_value, L_a_SLIDING_text_value⟩ := own_len g47 ev_a_SLIDING_text_value Ar_a_SLIDING_text_value
  have el_a_EXACT_text_value_0 := own_elem g51 ev_a_EXACT_text_value Ar_a_EXACT_text_value
  have el_a_EXACT_text_value_1 := own_elem g53 ev_a_EXACT_text_value Ar_a_EXACT_text_value
  have el_a_EXACT_text_value_2 := own_elem g55 ev_a_EXACT_text_value Ar_a_EXACT_text_value
  have el_a_EXACT_text_value_3 := own_elem g57 ev_a_EXACT_text_value Ar_a_EXACT_text_value
  have el_a_EXACT_text_value_4 := own_elem g59 ev_a_EXACT_text_value Ar_a_EXACT_text_value
  have el_a_FIXED_text_value_0 := own_elem g61 ev_a_FIXED_text_value Ar_a_FIXED_text_value
  have el_a_FIXED_text_value_1 := own_elem g63 ev_a_FIXED_text_value Ar_a_FIXED_text_value
  have el_a_FIXED_text_value_2 := own_elem g65 ev_a_FIXED_text_value Ar_a_FIXED_text_value
  have el_a_FIXED_text_value_3 := own_elem g67 ev_a_FIXED_text_value Ar_a_FIXED_text_value
  have el_a_FIXED_text_value_4 := own_elem g69 ev_a_FIXED_text_value Ar_a_FIXED_text_value
  have el_a_SLIDING_text_value_0 := own_elem g71 ev_a_SLIDING_text_value Ar_a_SLIDING_text_value
  have el_a_SLIDING_text_value_1 := own_elem g73 ev_a_SLIDING_text_value Ar_a_SLIDING_text_value
  have el_a_SLIDING_text_value_2 := own_elem g75 ev_a_SLIDING_text_value Ar_a_SLIDING_text_value
  have el_a_SLIDING_text_value_3 := own_elem g77 ev_a_SLIDING_text_value Ar_a_SLIDING_text_value
  have el_a_SLIDING_text_value_4 := own_elem g79 ev_a_SLIDING_text_value Ar_a_SLIDING_text_value
  have el_a_SLIDING_text_value_5 := own_elem g81 ev_a_SLIDING_text_value Ar_a_SLIDING_text_value
  have el_a_SLIDING_text_value_6 := own_elem g82 ev_a_SLIDING_text_value Ar_a_SLIDING_text_value
  have V_a__VALUES : Arv s s.heap a__VALUES cl_a__VALUES.cls (.object "com/example/amber_gate/ambergate/Algorithm") (3 : Int32) [(.ref a_EXACT), (.ref a_SLIDING), (.ref a_FIXED)] .null := Arv.start hfit Ar_a__VALUES L31_a__VALUES L_a__VALUES (by decide) rfl ⟨el_a__VALUES_0, el_a__VALUES_1, el_a__VALUES_2, trivial⟩
  have V_a_EXACT_text_value : Arv s s.heap a_EXACT_text_value cl_a_EXACT_text_value.cls .byte (5 : Int32) [(.int (101 : Int32)), (.int (120 : Int32)), (.int (97 : Int32)), (.int (99 : Int32)), (.int (116 : Int32))] (.int (0 : Int32)) := Arv.start hfit Ar_a_EXACT_text_value L31_a_EXACT_text_value L_a_EXACT_text_value (by decide) rfl ⟨el_a_EXACT_text_value_0, el_a_EXACT_text_value_1, el_a_EXACT_text_value_2, el_a_EXACT_text_value_3, el_a_EXACT_text_value_4, trivial⟩
  have V_a_SLIDING_text_value : Arv s s.heap a_SLIDING_text_value cl_a_SLIDING_text_value.cls .byte (7 : Int32) [(.int (115 : Int32)), (.int (108 : Int32)), (.int (105 : Int32)), (.int (100 : Int32)), (.int (105 : Int32)), (.int (110 : Int32)), (.int (103 : Int32))] (.int (0 : Int32)) := Arv.start hfit Ar_a_SLIDING_text_value L31_a_SLIDING_text_value L_a_SLIDING_text_value (by decide) rfl ⟨el_a_SLIDING_text_value_0, el_a_SLIDING_text_value_1, el_a_SLIDING_text_value_2, el_a_SLIDING_text_value_3, el_a_SLIDING_text_value_4, el_a_SLIDING_text_value_5, el_a_SLIDING_text_value_6, trivial⟩
  have V_a_FIXED_text_value : Arv s s.heap a_FIXED_text_value cl_a_FIXED_text_value.cls .byte (5 : Int32) [(.int (102 : Int32)), (.int (105 : Int32)), (.int (120 : Int32)), (.int (101 : Int32)), (.int (100 : Int32))] (.int (0 : Int32)) := Arv.start hfit Ar_a_FIXED_text_value L31_a_FIXED_text_value L_a_FIXED_text_value (by decide) rfl ⟨el_a_FIXED_text_value_0, el_a_FIXED_text_value_1, el_a_FIXED_text_value_2, el_a_FIXED_text_value_3, el_a_FIXED_text_value_4, trivial⟩
  have V_dc : Arv s s.heap a_DEFAULTCAPACITY_EMPTY_ELEMENTDATA cl_a_DEFAULTCAPACITY_EMPTY_ELEMENTDATA.cls (.object "java/lang/Object") (0 : Int32) [] .null := Arv.start hfit Ar_a_DEFAULTCAPACITY_EMPTY_ELEMENTDATA L31_a_DEFAULTCAPACITY_EMPTY_ELEMENTDATA L_a_DEFAULTCAPACITY_EMPTY_ELEMENTDATA (by decide) rfl trivial
  have hCH0 : CHv s consts_1 s.vm s.heap := CHv.start (own_EW hw) (fun p hp => hcalls.1 p hp) (hsets _ (List.mem_of_getElem? (i := 11) rfl)) (hw _ (List.mem_of_getElem? (i := 98) rfl)) (hw _ (List.mem_of_getElem? (i := 97) rfl))
  obtain ⟨n, o, h1, h2, h3, _, L, rfl, ⟨rfl, N⟩, -, hq⟩ := rm0 l s _ hw tables_1 i0 a_EXACT a_SLIDING a_FIXED a_EXACT_text a_SLIDING_text a_FIXED_text a_EXACT_text_value a_SLIDING_text_value a_FIXED_text_value cl_a_EXACT_text_value.cls cl_a_SLIDING_text_value.cls cl_a_FIXED_text_value.cls a__VALUES cl_a__VALUES.cls a_COMPACT_STRINGS a_DEFAULTCAPACITY_EMPTY_ELEMENTDATA cl_a_DEFAULTCAPACITY_EMPTY_ELEMENTDATA.cls s.heap s.heap.size (Old.start s) S_a_COMPACT_STRINGS nz_a_COMPACT_STRINGS S_a__VALUES V_a__VALUES E_a__VALUES E_a_EXACT_text F_value_a_EXACT_text F_coder_a_EXACT_text V_a_EXACT_text_value F_text_a_EXACT E_a_SLIDING_text F_value_a_SLIDING_text F_coder_a_SLIDING_text V_a_SLIDING_text_value F_text_a_SLIDING E_a_FIXED_text F_value_a_FIXED_text F_coder_a_FIXED_text V_a_FIXED_text_value F_text_a_FIXED S_a_DEFAULTCAPACITY_EMPTY_ELEMENTDATA V_dc S_a_EXACT S_a_SLIDING S_a_FIXED E_a_EXACT E_a_SLIDING E_a_FIXED p e ha hc hk s m _ below hf ((Spec.applies_iff_loose hf).mp happ).1 ⟨rfl, State.Warmed39.refl s, rfl, hCH0⟩ trivial
  refine ⟨n, _, h1, h2, h3, hpost _ _ _ _ _ _ ⟨Cond.after_iff.mpr rfl, Cond.after_iff.mpr (eq_i res_at (Term.int_eval (1)) rfl), trivial⟩ ⟨hq.1, hq.2.1, hq.2.2.1, (hq.2.2.2.sift fun y hy => Or.inr (N y hy)).mono (by decide) (by decide)⟩⟩
theorem main_1_1 : Claimed_1_1 := comes_1 fun _ _ _ _ _ _ h hF => ⟨h.1, hF⟩
theorem main_1_2 : Claimed_1_2 := comes_1 fun _ _ _ _ _ _ h hF => ⟨h.2.1, hF⟩
end Jvm.Pilot.@@N@@
namespace Jvm.Pilot.@@N@@
open Jvm Jvm.ClassFile Sem Op Lib Jvm.Free Jvm.Stand Jvm.Pilot.@@N@@.Jvm.D
/-! MADE BY PROGRAM (witnessworld.py) out of the Statement's table words and the real class files: 30 classes; the members and pool entries that the words name. The judged class is class 1, her method 1. -/
namespace start1
open Jvm.ClassFile
def u (s : String) : CpInfo := .utf8 (stringToUtf16 s)
/-- a pool by its gaps: so many unusable entries, then the entry; so many at the end -/
def gap : Nat → List CpInfo → List CpInfo
  | 0, r => r
  | n + 1, r => .unusable :: gap n r
def poolList (es : List (Nat × CpInfo)) (last : Nat) : List CpInfo := es.foldr (fun e r => gap e.1 (e.2 :: r)) (gap last [])
def pool (es : List (Nat × CpInfo)) (last : Nat) : Array CpInfo := ⟨poolList es last⟩
def fileOf (pool : Array CpInfo) (this : Nat) (attrs : Array Attribute := #[]) (ms : Array MethodInfo := #[]) (fl : Nat := 33) (sup : Nat := 0) (ifs : Array Nat := #[]) (fds : Array FieldInfo := #[]) : ClassFile where
  minorVersion := 0
  majorVersion := 65
  constantPool := pool
  accessFlags := fl
  thisClass := this
  superClass := sup
  interfaces := ifs
  fields := fds
  methods := ms
  attributes := attrs
def plain (name : String) (sup : Option ClassId) : Class where
  name := name
  kind := .ordinary
  loader := none
  accessFlags := 33
  super := sup
  interfaces := #[]
  cf := none
  fields := #[]
  methods := #[]
  instanceTypes := #[]
  staticTypes := #[]
  resolved := #[]
  callSites := []
  init := .initialized
  statics := none
  mirror := none

def pool0 : Array CpInfo := pool [(5, u "<init>"), (0, u "()V"), (1, .class_ 10), (1, u "java/lang/Object"), (85, u "clone"), (0, u "()Ljava/lang/Object;")] 26

def k0c0 : Code := { maxStack := 0, maxLocals := 1, code := object_method_1_code, exceptionTable := #[], attributes := #[] }
def k0m0 : Method := { name := "<init>", desc := "()V", sig := { parameters := [], returnType := none }, accessFlags := 1, code := some k0c0 }
def k0m1 : Method := { name := "clone", desc := "()Ljava/lang/Object;", sig := { parameters := [], returnType := some (.object "java/lang/Object") }, accessFlags := 260, code := none }
/-- java/lang/Object -/
def k0 : Class := { plain "java/lang/Object" none with
  accessFlags := 33
  interfaces := #[]
  cf := some (fileOf pool0 8 #[] #[{ accessFlags := 1, nameIndex := 5, descriptorIndex := 6, attributes := #[] }, { accessFlags := 260, nameIndex := 96, descriptorIndex := 97, attributes := #[] }] 33 0 #[] #[])
  fields := #[]
  methods := #[k0m0, k0m1]
  instanceTypes := #[]
  staticTypes := #[]
  resolved := Array.replicate 124 none
  statics := none }

def pool1 : Array CpInfo := pool [(2, .class_ 4), (1, u "java/lang/Object"), (0, u "<init>"), (0, u "()V"), (0, .integer 2147483647), (0, .methodref 9 10), (0, .class_ 11), (0, .nameAndType 12 13), (0, u "com/example/amber_gate/ambergate/Algorithm"), (0, u "names"), (0, u "()Ljava/util/List;"), (0, .interfaceMethodref 15 16), (0, .class_ 17), (0, .nameAndType 18 19), (0, u "java/util/List"), (0, u "size"), (0, u "()I"), (0, .fieldref 9 21), (0, .nameAndType 22 23), (0, u "EXACT"), (0, u "Lcom/example/amber_gate/ambergate/Algorithm;"), (0, .string 25), (0, u "exact"), (0, .fieldref 9 27), (0, .nameAndType 28 23), (0, u "SLIDING"), (0, .string 30), (0, u "sliding"), (0, .fieldref 9 32), (0, .nameAndType 33 23), (0, u "FIXED"), (0, .string 35), (0, u "fixed"), (0, .interfaceMethodref 15 37), (0, .nameAndType 38 39), (0, u "get"), (0, u "(I)Ljava/lang/Object;"), (0, .class_ 41), (0, u "java/lang/String"), (0, .methodref 40 43), (0, .nameAndType 44 45), (0, u "equals"), (0, u "(Ljava/lang/Object;)Z"), (0, .methodref 9 47), (0, .nameAndType 48 49), (0, u "toString"), (0, u "()Ljava/lang/String;"), (0, .methodref 9 51), (0, .nameAndType 52 53), (0, u "named"), (0, u "(Ljava/lang/String;)Lcom/example/amber_gate/ambergate/Algorithm;"), (0, .class_ 55), (0, u "com/example/amber_gate/ambergate/AlgorithmNamesPinLaw"), (2, u "law"), (0, u "(I)Z")] 3

def k1m0 : Method := { name := "<init>", desc := "()V", sig := { parameters := [], returnType := none }, accessFlags := 2, code := none }
def k1c1 : Code := { maxStack := 2, maxLocals := 6, code := code, exceptionTable := #[], attributes := #[] }
def k1m1 : Method := { name := "law", desc := "(I)Z", sig := { parameters := [.int], returnType := some .boolean }, accessFlags := 9, code := some k1c1 }
/-- com/example/amber_gate/ambergate/AlgorithmNamesPinLaw -/
def k1 : Class := { plain "com/example/amber_gate/ambergate/AlgorithmNamesPinLaw" (some 0) with
  accessFlags := 49
  interfaces := #[]
  cf := some (fileOf pool1 54 #[] #[{ accessFlags := 2, nameIndex := 5, descriptorIndex := 6, attributes := #[] }, { accessFlags := 9, nameIndex := 58, descriptorIndex := 59, attributes := #[] }] 49 2 #[] #[])
  fields := #[]
  methods := #[k1m0, k1m1]
  instanceTypes := #[]
  staticTypes := #[]
  resolved := Array.replicate 63 none
  statics := none }

def pool2 : Array CpInfo := pool [(1, .class_ 2), (0, u "java/lang/constant/Constable"), (0, .class_ 4), (0, u "java/lang/Object")] 6

/-- java/lang/constant/Constable -/
def k2 : Class := { plain "java/lang/constant/Constable" (some 0) with
  accessFlags := 1537
  interfaces := #[]
  cf := some (fileOf pool2 1 #[] #[] 1537 3 #[] #[])
  fields := #[]
  methods := #[]
  instanceTypes := #[]
  staticTypes := #[]
  resolved := Array.replicate 11 none
  statics := none }

def pool3 : Array CpInfo := pool [(1, .class_ 2), (0, u "java/lang/Comparable"), (0, .class_ 4), (0, u "java/lang/Object")] 7

/-- java/lang/Comparable -/
def k3 : Class := { plain "java/lang/Comparable" (some 0) with
  accessFlags := 1537
  interfaces := #[]
  cf := some (fileOf pool3 1 #[] #[] 1537 3 #[] #[])
  fields := #[]
  methods := #[]
  instanceTypes := #[]
  staticTypes := #[]
  resolved := Array.replicate 12 none
  statics := none }

def pool4 : Array CpInfo := pool [(1, .class_ 2), (0, u "java/io/Serializable"), (0, .class_ 4), (0, u "java/lang/Object")] 2

/-- java/io/Serializable -/
def k4 : Class := { plain "java/io/Serializable" (some 0) with
  accessFlags := 1537
  interfaces := #[]
  cf := some (fileOf pool4 1 #[] #[] 1537 3 #[] #[])
  fields := #[]
  methods := #[]
  instanceTypes := #[]
  staticTypes := #[]
  resolved := Array.replicate 7 none
  statics := none }

def pool5 : Array CpInfo := pool [(2, .class_ 4), (1, u "java/lang/Enum"), (0, u "name"), (0, u "Ljava/lang/String;"), (2, u "ordinal"), (0, u "I"), (1, .class_ 14), (1, u "java/lang/Object"), (4, u "hash"), (86, .class_ 108), (1, u "java/lang/Enum$EnumDesc"), (2, .class_ 112), (0, u "java/lang/constant/Constable"), (0, .class_ 114), (0, u "java/lang/Comparable"), (0, .class_ 116), (0, u "java/io/Serializable")] 87

/-- java/lang/Enum -/
def k5 : Class := { plain "java/lang/Enum" (some 0) with
  accessFlags := 1057
  interfaces := #[2, 3, 4]
  cf := some (fileOf pool5 2 #[.nestMembers #[106]] #[] 1057 12 #[111, 113, 115] #[{ accessFlags := 18, nameIndex := 5, descriptorIndex := 6, attributes := #[] }, { accessFlags := 18, nameIndex := 9, descriptorIndex := 10, attributes := #[] }, { accessFlags := 2, nameIndex := 19, descriptorIndex := 10, attributes := #[] }])
  fields := #[{ name := "name", type := (.object "java/lang/String"), accessFlags := 18, slot := 0, constantValue := 0 }, { name := "ordinal", type := .int, accessFlags := 18, slot := 1, constantValue := 0 }, { name := "hash", type := .int, accessFlags := 2, slot := 2, constantValue := 0 }]
  methods := #[]
  instanceTypes := #[(.object "java/lang/String"), .int, .int]
  staticTypes := #[]
  resolved := Array.replicate 204 none
  statics := none }

def pool6 : Array CpInfo := pool [(1, .class_ 2), (0, u "com/example/amber_gate/ambergate/Algorithm"), (2, u "EXACT"), (0, u "Lcom/example/amber_gate/ambergate/Algorithm;"), (2, u "SLIDING"), (2, u "FIXED"), (0, .fieldref 1 14), (0, .nameAndType 15 16), (0, u "$VALUES"), (0, u "[Lcom/example/amber_gate/ambergate/Algorithm;"), (0, .methodref 18 19), (0, .class_ 16), (0, .nameAndType 20 21), (0, u "clone"), (0, u "()Ljava/lang/Object;"), (1, .class_ 25), (1, u "java/lang/Enum"), (4, u "<init>"), (1, .fieldref 1 33), (0, .nameAndType 34 35), (0, u "text"), (0, u "Ljava/lang/String;"), (2, u "splitsWindow"), (0, u "Z"), (0, .methodref 1 41), (0, .nameAndType 42 43), (0, u "values"), (0, u "()[Lcom/example/amber_gate/ambergate/Algorithm;"), (0, .methodref 45 46), (0, .class_ 47), (0, .nameAndType 48 49), (0, u "java/lang/String"), (0, u "equals"), (0, u "(Ljava/lang/Object;)Z"), (6, u "names"), (0, u "()Ljava/util/List;"), (11, .class_ 70), (0, u "java/util/ArrayList"), (0, .methodref 69 72), (0, .nameAndType 30 73), (0, u "()V"), (0, .interfaceMethodref 75 76), (0, .class_ 77), (0, .nameAndType 78 49), (0, u "java/util/List"), (0, u "add"), (17, u "(Ljava/lang/String;)Lcom/example/amber_gate/ambergate/Algorithm;"), (4, u "toString"), (0, u "()Ljava/lang/String;"), (0, u "named")] 21

def k6c0 : Code := { maxStack := 1, maxLocals := 0, code := prog_1_method_1_code, exceptionTable := #[], attributes := #[] }
def k6m0 : Method := { name := "values", desc := "()[Lcom/example/amber_gate/ambergate/Algorithm;", sig := { parameters := [], returnType := some (.array (.object "com/example/amber_gate/ambergate/Algorithm")) }, accessFlags := 9, code := some k6c0 }
def k6c1 : Code := { maxStack := 1, maxLocals := 1, code := prog_1_method_5_code, exceptionTable := #[], attributes := #[] }
def k6m1 : Method := { name := "toString", desc := "()Ljava/lang/String;", sig := { parameters := [], returnType := some (.object "java/lang/String") }, accessFlags := 1, code := some k6c1 }
def k6c2 : Code := { maxStack := 5, maxLocals := 5, code := prog_1_method_6_code, exceptionTable := #[], attributes := #[] }
def k6m2 : Method := { name := "named", desc := "(Ljava/lang/String;)Lcom/example/amber_gate/ambergate/Algorithm;", sig := { parameters := [(.object "java/lang/String")], returnType := some (.object "com/example/amber_gate/ambergate/Algorithm") }, accessFlags := 9, code := some k6c2 }
def k6c3 : Code := { maxStack := 2, maxLocals := 5, code := prog_1_method_7_code, exceptionTable := #[], attributes := #[] }
def k6m3 : Method := { name := "names", desc := "()Ljava/util/List;", sig := { parameters := [], returnType := some (.object "java/util/List") }, accessFlags := 9, code := some k6c3 }
/-- com/example/amber_gate/ambergate/Algorithm -/
def k6 : Class := { plain "com/example/amber_gate/ambergate/Algorithm" (some 5) with
  accessFlags := 16433
  interfaces := #[]
  cf := some (fileOf pool6 1 #[] #[{ accessFlags := 9, nameIndex := 42, descriptorIndex := 43, attributes := #[] }, { accessFlags := 1, nameIndex := 101, descriptorIndex := 102, attributes := #[] }, { accessFlags := 9, nameIndex := 103, descriptorIndex := 96, attributes := #[] }, { accessFlags := 9, nameIndex := 56, descriptorIndex := 57, attributes := #[] }] 16433 23 #[] #[{ accessFlags := 16409, nameIndex := 5, descriptorIndex := 6, attributes := #[] }, { accessFlags := 16409, nameIndex := 9, descriptorIndex := 6, attributes := #[] }, { accessFlags := 16409, nameIndex := 12, descriptorIndex := 6, attributes := #[] }, { accessFlags := 18, nameIndex := 34, descriptorIndex := 35, attributes := #[] }, { accessFlags := 18, nameIndex := 38, descriptorIndex := 39, attributes := #[] }, { accessFlags := 4122, nameIndex := 15, descriptorIndex := 16, attributes := #[] }])
  fields := #[{ name := "EXACT", type := (.object "com/example/amber_gate/ambergate/Algorithm"), accessFlags := 16409, slot := 0, constantValue := 0 }, { name := "SLIDING", type := (.object "com/example/amber_gate/ambergate/Algorithm"), accessFlags := 16409, slot := 1, constantValue := 0 }, { name := "FIXED", type := (.object "com/example/amber_gate/ambergate/Algorithm"), accessFlags := 16409, slot := 2, constantValue := 0 }, { name := "text", type := (.object "java/lang/String"), accessFlags := 18, slot := 3, constantValue := 0 }, { name := "splitsWindow", type := .boolean, accessFlags := 18, slot := 4, constantValue := 0 }, { name := "$VALUES", type := (.array (.object "com/example/amber_gate/ambergate/Algorithm")), accessFlags := 4122, slot := 3, constantValue := 0 }]
  methods := #[k6m0, k6m1, k6m2, k6m3]
  instanceTypes := #[(.object "java/lang/String"), .int, .int, (.object "java/lang/String"), .boolean]
  staticTypes := #[(.object "com/example/amber_gate/ambergate/Algorithm"), (.object "com/example/amber_gate/ambergate/Algorithm"), (.object "com/example/amber_gate/ambergate/Algorithm"), (.array (.object "com/example/amber_gate/ambergate/Algorithm"))]
  resolved := Array.replicate 125 none
  statics := some 0 }

def pool7 : Array CpInfo := pool [(8, .class_ 10), (1, u "java/lang/Iterable"), (24, .class_ 36), (0, u "java/lang/Object")] 25

/-- java/lang/Iterable -/
def k7 : Class := { plain "java/lang/Iterable" (some 0) with
  accessFlags := 1537
  interfaces := #[]
  cf := some (fileOf pool7 8 #[] #[] 1537 35 #[] #[])
  fields := #[]
  methods := #[]
  instanceTypes := #[]
  staticTypes := #[]
  resolved := Array.replicate 62 none
  statics := none }

def pool8 : Array CpInfo := pool [(10, .class_ 12), (1, u "java/util/Collection"), (47, .class_ 61), (0, u "java/lang/Object"), (0, .class_ 63), (0, u "java/lang/Iterable")] 51

/-- java/util/Collection -/
def k8 : Class := { plain "java/util/Collection" (some 0) with
  accessFlags := 1537
  interfaces := #[7]
  cf := some (fileOf pool8 10 #[] #[] 1537 60 #[62] #[])
  fields := #[]
  methods := #[]
  instanceTypes := #[]
  staticTypes := #[]
  resolved := Array.replicate 115 none
  statics := none }

def pool9 : Array CpInfo := pool [(1, .methodref 2 3), (0, .class_ 4), (0, .nameAndType 5 6), (0, u "java/lang/Object"), (0, u "<init>"), (0, u "()V"), (1, .class_ 10), (1, u "java/util/AbstractCollection"), (66, .class_ 78), (0, u "java/util/Collection")] 81

def k9c0 : Code := { maxStack := 1, maxLocals := 1, code := jdk_22_method_1_code, exceptionTable := #[], attributes := #[] }
def k9m0 : Method := { name := "<init>", desc := "()V", sig := { parameters := [], returnType := none }, accessFlags := 4, code := some k9c0 }
/-- java/util/AbstractCollection -/
def k9 : Class := { plain "java/util/AbstractCollection" (some 0) with
  accessFlags := 1057
  interfaces := #[8]
  cf := some (fileOf pool9 8 #[] #[{ accessFlags := 4, nameIndex := 5, descriptorIndex := 6, attributes := #[] }] 1057 2 #[77] #[])
  fields := #[]
  methods := #[k9m0]
  instanceTypes := #[]
  staticTypes := #[]
  resolved := Array.replicate 160 none
  statics := none }

def pool10 : Array CpInfo := pool [(8, .class_ 10), (1, u "java/util/SequencedCollection"), (15, .class_ 27), (0, u "java/lang/Object"), (0, .class_ 29), (0, u "java/util/Collection")] 27

/-- java/util/SequencedCollection -/
def k10 : Class := { plain "java/util/SequencedCollection" (some 0) with
  accessFlags := 1537
  interfaces := #[8]
  cf := some (fileOf pool10 8 #[] #[] 1537 26 #[28] #[])
  fields := #[]
  methods := #[]
  instanceTypes := #[]
  staticTypes := #[]
  resolved := Array.replicate 57 none
  statics := none }

def pool11 : Array CpInfo := pool [(8, .class_ 10), (1, u "java/util/List"), (49, u "add"), (3, u "(Ljava/lang/Object;)Z"), (10, u "get"), (0, u "(I)Ljava/lang/Object;"), (2, u "size"), (0, u "()I"), (22, .class_ 104), (0, u "java/lang/Object"), (15, .class_ 121), (0, u "java/util/SequencedCollection")] 129

def k11m0 : Method := { name := "size", desc := "()I", sig := { parameters := [], returnType := some .int }, accessFlags := 1025, code := none }
def k11m1 : Method := { name := "add", desc := "(Ljava/lang/Object;)Z", sig := { parameters := [(.object "java/lang/Object")], returnType := some .boolean }, accessFlags := 1025, code := none }
def k11m2 : Method := { name := "get", desc := "(I)Ljava/lang/Object;", sig := { parameters := [.int], returnType := some (.object "java/lang/Object") }, accessFlags := 1025, code := none }
/-- java/util/List -/
def k11 : Class := { plain "java/util/List" (some 0) with
  accessFlags := 1537
  interfaces := #[10]
  cf := some (fileOf pool11 8 #[] #[{ accessFlags := 1025, nameIndex := 79, descriptorIndex := 80, attributes := #[] }, { accessFlags := 1025, nameIndex := 60, descriptorIndex := 64, attributes := #[] }, { accessFlags := 1025, nameIndex := 75, descriptorIndex := 76, attributes := #[] }] 1537 103 #[120] #[])
  fields := #[]
  methods := #[k11m0, k11m1, k11m2]
  instanceTypes := #[]
  staticTypes := #[]
  resolved := Array.replicate 251 none
  statics := none }

def pool12 : Array CpInfo := pool [(1, .methodref 2 3), (0, .class_ 4), (0, .nameAndType 5 6), (0, u "java/util/AbstractCollection"), (0, u "<init>"), (0, u "()V"), (0, .fieldref 8 9), (0, .class_ 10), (0, .nameAndType 11 12), (0, u "java/util/AbstractList"), (0, u "modCount"), (0, u "I"), (64, .class_ 78), (0, u "java/util/AbstractList$Itr"), (3, .class_ 83), (0, u "java/util/AbstractList$ListItr"), (9, .class_ 94), (0, u "java/util/AbstractList$RandomAccessSubList"), (3, .class_ 99), (0, u "java/util/AbstractList$SubList"), (33, .class_ 134), (0, u "java/util/List"), (73, .class_ 209), (0, u "java/util/AbstractList$SubList$1"), (0, .class_ 211), (0, u "java/util/AbstractList$RandomAccessSpliterator")] 6

def k12c0 : Code := { maxStack := 2, maxLocals := 1, code := jdk_39_method_1_code, exceptionTable := #[], attributes := #[] }
def k12m0 : Method := { name := "<init>", desc := "()V", sig := { parameters := [], returnType := none }, accessFlags := 4, code := some k12c0 }
/-- java/util/AbstractList -/
def k12 : Class := { plain "java/util/AbstractList" (some 9) with
  accessFlags := 1057
  interfaces := #[11]
  cf := some (fileOf pool12 8 #[.nestMembers #[93, 98, 208, 210, 82, 77]] #[{ accessFlags := 4, nameIndex := 5, descriptorIndex := 6, attributes := #[] }] 1057 2 #[133] #[{ accessFlags := 132, nameIndex := 11, descriptorIndex := 12, attributes := #[] }])
  fields := #[{ name := "modCount", type := .int, accessFlags := 132, slot := 0, constantValue := 0 }]
  methods := #[k12m0]
  instanceTypes := #[.int]
  staticTypes := #[]
  resolved := Array.replicate 218 none
  statics := none }

def pool13 : Array CpInfo := pool [(1, .class_ 2), (0, u "java/util/RandomAccess"), (0, .class_ 4), (0, u "java/lang/Object")] 2

/-- java/util/RandomAccess -/
def k13 : Class := { plain "java/util/RandomAccess" (some 0) with
  accessFlags := 1537
  interfaces := #[]
  cf := some (fileOf pool13 1 #[] #[] 1537 3 #[] #[])
  fields := #[]
  methods := #[]
  instanceTypes := #[]
  staticTypes := #[]
  resolved := Array.replicate 7 none
  statics := none }

def pool14 : Array CpInfo := pool [(1, .class_ 2), (0, u "java/lang/Cloneable"), (0, .class_ 4), (0, u "java/lang/Object")] 2

/-- java/lang/Cloneable -/
def k14 : Class := { plain "java/lang/Cloneable" (some 0) with
  accessFlags := 1537
  interfaces := #[]
  cf := some (fileOf pool14 1 #[] #[] 1537 3 #[] #[])
  fields := #[]
  methods := #[]
  instanceTypes := #[]
  staticTypes := #[]
  resolved := Array.replicate 7 none
  statics := none }

def pool15 : Array CpInfo := pool [(1, .methodref 2 3), (0, .class_ 4), (0, .nameAndType 5 6), (0, u "java/util/AbstractList"), (0, u "<init>"), (0, u "()V"), (0, .class_ 8), (0, u "java/lang/Object"), (0, .fieldref 10 11), (0, .class_ 12), (0, .nameAndType 13 14), (0, u "java/util/ArrayList"), (0, u "elementData"), (0, u "[Ljava/lang/Object;"), (2, u "EMPTY_ELEMENTDATA"), (21, .fieldref 10 40), (0, .nameAndType 41 14), (0, u "DEFAULTCAPACITY_EMPTY_ELEMENTDATA"), (5, u "()[Ljava/lang/Object;"), (0, .fieldref 10 49), (0, .nameAndType 50 51), (0, u "size"), (0, u "I"), (11, .fieldref 10 64), (0, .nameAndType 65 51), (0, u "modCount"), (3, .methodref 10 70), (0, .nameAndType 71 72), (0, u "grow"), (0, u "(I)[Ljava/lang/Object;"), (6, .methodref 80 81), (0, .class_ 82), (0, .nameAndType 83 84), (0, u "java/lang/Math"), (0, u "max"), (0, u "(II)I"), (11, u "(Ljava/lang/Object;)Z"), (21, .methodref 119 120), (0, .class_ 121), (0, .nameAndType 122 84), (0, u "java/util/Objects"), (0, u "checkIndex"), (0, .methodref 10 124), (0, .nameAndType 13 125), (0, u "(I)Ljava/lang/Object;"), (3, .methodref 10 130), (0, .nameAndType 71 47), (0, .methodref 10 132), (0, .nameAndType 133 134), (0, u "add"), (0, u "(Ljava/lang/Object;[Ljava/lang/Object;I)V"), (13, .class_ 149), (0, u "java/util/List"), (36, u "()I"), (75, .class_ 263), (0, u "java/util/ArrayList$ListItr"), (3, .class_ 268), (0, u "java/util/ArrayList$Itr"), (7, .class_ 277), (0, u "java/util/ArrayList$SubList"), (12, .class_ 291), (0, u "java/util/ArrayList$ArrayListSpliterator"), (37, .class_ 330), (0, u "java/util/RandomAccess"), (0, .class_ 332), (0, u "java/lang/Cloneable"), (0, .class_ 334), (0, u "java/io/Serializable"), (0, u "serialVersionUID"), (0, u "J"), (3, u "DEFAULT_CAPACITY"), (40, u "get"), (118, .class_ 501), (0, u "java/util/ArrayList$SubList$2"), (0, .class_ 503), (0, u "java/util/ArrayList$SubList$1")] 5

def k15c0 : Code := { maxStack := 2, maxLocals := 1, code := jdk_38_method_2_code, exceptionTable := #[], attributes := #[] }
def k15m0 : Method := { name := "<init>", desc := "()V", sig := { parameters := [], returnType := none }, accessFlags := 1, code := some k15c0 }
def k15c1 : Code := { maxStack := 4, maxLocals := 4, code := jdk_38_method_6_code, exceptionTable := #[], attributes := #[] }
def k15m1 : Method := { name := "grow", desc := "(I)[Ljava/lang/Object;", sig := { parameters := [.int], returnType := some (.array (.object "java/lang/Object")) }, accessFlags := 2, code := some k15c1 }
def k15c2 : Code := { maxStack := 3, maxLocals := 1, code := jdk_38_method_7_code, exceptionTable := #[], attributes := #[] }
def k15m2 : Method := { name := "grow", desc := "()[Ljava/lang/Object;", sig := { parameters := [], returnType := some (.array (.object "java/lang/Object")) }, accessFlags := 2, code := some k15c2 }
def k15c3 : Code := { maxStack := 1, maxLocals := 1, code := jdk_38_method_8_code, exceptionTable := #[], attributes := #[] }
def k15m3 : Method := { name := "size", desc := "()I", sig := { parameters := [], returnType := some .int }, accessFlags := 1, code := some k15c3 }
def k15c4 : Code := { maxStack := 2, maxLocals := 2, code := jdk_38_method_18_code, exceptionTable := #[], attributes := #[] }
def k15m4 : Method := { name := "elementData", desc := "(I)Ljava/lang/Object;", sig := { parameters := [.int], returnType := some (.object "java/lang/Object") }, accessFlags := 0, code := some k15c4 }
def k15c5 : Code := { maxStack := 2, maxLocals := 2, code := jdk_38_method_20_code, exceptionTable := #[], attributes := #[] }
def k15m5 : Method := { name := "get", desc := "(I)Ljava/lang/Object;", sig := { parameters := [.int], returnType := some (.object "java/lang/Object") }, accessFlags := 1, code := some k15c5 }
def k15c6 : Code := { maxStack := 3, maxLocals := 4, code := jdk_38_method_24_code, exceptionTable := #[], attributes := #[] }
def k15m6 : Method := { name := "add", desc := "(Ljava/lang/Object;[Ljava/lang/Object;I)V", sig := { parameters := [(.object "java/lang/Object"), (.array (.object "java/lang/Object")), .int], returnType := none }, accessFlags := 2, code := some k15c6 }
def k15c7 : Code := { maxStack := 4, maxLocals := 2, code := jdk_38_method_25_code, exceptionTable := #[], attributes := #[] }
def k15m7 : Method := { name := "add", desc := "(Ljava/lang/Object;)Z", sig := { parameters := [(.object "java/lang/Object")], returnType := some .boolean }, accessFlags := 1, code := some k15c7 }
/-- java/util/ArrayList -/
def k15 : Class := { plain "java/util/ArrayList" (some 12) with
  accessFlags := 33
  interfaces := #[11, 13, 14, 4]
  cf := some (fileOf pool15 10 #[.nestMembers #[290, 276, 500, 502, 262, 267]] #[{ accessFlags := 1, nameIndex := 5, descriptorIndex := 6, attributes := #[] }, { accessFlags := 2, nameIndex := 71, descriptorIndex := 72, attributes := #[] }, { accessFlags := 2, nameIndex := 71, descriptorIndex := 47, attributes := #[] }, { accessFlags := 1, nameIndex := 50, descriptorIndex := 186, attributes := #[] }, { accessFlags := 0, nameIndex := 13, descriptorIndex := 125, attributes := #[] }, { accessFlags := 1, nameIndex := 381, descriptorIndex := 125, attributes := #[] }, { accessFlags := 2, nameIndex := 133, descriptorIndex := 134, attributes := #[] }, { accessFlags := 1, nameIndex := 133, descriptorIndex := 96, attributes := #[] }] 33 2 #[148, 329, 331, 333] #[{ accessFlags := 26, nameIndex := 335, descriptorIndex := 336, attributes := #[] }, { accessFlags := 26, nameIndex := 340, descriptorIndex := 51, attributes := #[] }, { accessFlags := 26, nameIndex := 17, descriptorIndex := 14, attributes := #[] }, { accessFlags := 26, nameIndex := 41, descriptorIndex := 14, attributes := #[] }, { accessFlags := 128, nameIndex := 13, descriptorIndex := 14, attributes := #[] }, { accessFlags := 2, nameIndex := 50, descriptorIndex := 51, attributes := #[] }])
  fields := #[{ name := "serialVersionUID", type := .long, accessFlags := 26, slot := 0, constantValue := 0 }, { name := "DEFAULT_CAPACITY", type := .int, accessFlags := 26, slot := 1, constantValue := 0 }, { name := "EMPTY_ELEMENTDATA", type := (.array (.object "java/lang/Object")), accessFlags := 26, slot := 2, constantValue := 0 }, { name := "DEFAULTCAPACITY_EMPTY_ELEMENTDATA", type := (.array (.object "java/lang/Object")), accessFlags := 26, slot := 3, constantValue := 0 }, { name := "elementData", type := (.array (.object "java/lang/Object")), accessFlags := 128, slot := 1, constantValue := 0 }, { name := "size", type := .int, accessFlags := 2, slot := 2, constantValue := 0 }]
  methods := #[k15m0, k15m1, k15m2, k15m3, k15m4, k15m5, k15m6, k15m7]
  instanceTypes := #[.int, (.array (.object "java/lang/Object")), .int]
  staticTypes := #[.long, .int, (.array (.object "java/lang/Object")), (.array (.object "java/lang/Object"))]
  resolved := Array.replicate 509 none
  statics := some 1 }

def pool16 : Array CpInfo := pool [(1, .class_ 2), (0, u "java/lang/Math"), (1, .class_ 6), (1, u "java/lang/Object"), (0, u "<init>"), (0, u "()V"), (89, .class_ 100), (1, u "java/lang/Math$RandomNumberGeneratorHolder"), (71, u "negativeZeroFloatBits"), (0, u "J"), (2, u "negativeZeroDoubleBits"), (21, u "max"), (46, u "$assertionsDisabled"), (0, u "Z"), (88, u "(II)I"), (2, u "twoToTheDoubleScaleDown"), (0, u "D"), (4, u "twoToTheDoubleScaleUp"), (9, u "E"), (3, u "PI"), (2, u "TAU"), (2, u "DEGREES_TO_RADIANS"), (0, u "RADIANS_TO_DEGREES")] 94

def k16m0 : Method := { name := "<init>", desc := "()V", sig := { parameters := [], returnType := none }, accessFlags := 2, code := none }
def k16c1 : Code := { maxStack := 2, maxLocals := 2, code := jdk_29_method_65_code, exceptionTable := #[], attributes := #[] }
def k16m1 : Method := { name := "max", desc := "(II)I", sig := { parameters := [.int, .int], returnType := some .int }, accessFlags := 9, code := some k16c1 }
/-- java/lang/Math -/
def k16 : Class := { plain "java/lang/Math" (some 0) with
  accessFlags := 49
  interfaces := #[]
  cf := some (fileOf pool16 1 #[.nestMembers #[98]] #[{ accessFlags := 2, nameIndex := 7, descriptorIndex := 8, attributes := #[] }, { accessFlags := 9, nameIndex := 198, descriptorIndex := 335, attributes := #[] }] 49 4 #[] #[{ accessFlags := 25, nameIndex := 354, descriptorIndex := 339, attributes := #[] }, { accessFlags := 25, nameIndex := 358, descriptorIndex := 339, attributes := #[] }, { accessFlags := 25, nameIndex := 361, descriptorIndex := 339, attributes := #[] }, { accessFlags := 26, nameIndex := 364, descriptorIndex := 339, attributes := #[] }, { accessFlags := 26, nameIndex := 365, descriptorIndex := 339, attributes := #[] }, { accessFlags := 26, nameIndex := 172, descriptorIndex := 173, attributes := #[] }, { accessFlags := 26, nameIndex := 176, descriptorIndex := 173, attributes := #[] }, { accessFlags := 8, nameIndex := 344, descriptorIndex := 339, attributes := #[] }, { accessFlags := 8, nameIndex := 338, descriptorIndex := 339, attributes := #[] }, { accessFlags := 4120, nameIndex := 245, descriptorIndex := 246, attributes := #[] }])
  fields := #[{ name := "E", type := .double, accessFlags := 25, slot := 0, constantValue := 0 }, { name := "PI", type := .double, accessFlags := 25, slot := 1, constantValue := 0 }, { name := "TAU", type := .double, accessFlags := 25, slot := 2, constantValue := 0 }, { name := "DEGREES_TO_RADIANS", type := .double, accessFlags := 26, slot := 3, constantValue := 0 }, { name := "RADIANS_TO_DEGREES", type := .double, accessFlags := 26, slot := 4, constantValue := 0 }, { name := "negativeZeroFloatBits", type := .long, accessFlags := 26, slot := 5, constantValue := 0 }, { name := "negativeZeroDoubleBits", type := .long, accessFlags := 26, slot := 6, constantValue := 0 }, { name := "twoToTheDoubleScaleUp", type := .double, accessFlags := 8, slot := 7, constantValue := 0 }, { name := "twoToTheDoubleScaleDown", type := .double, accessFlags := 8, slot := 8, constantValue := 0 }, { name := "$assertionsDisabled", type := .boolean, accessFlags := 4120, slot := 9, constantValue := 0 }]
  methods := #[k16m0, k16m1]
  instanceTypes := #[]
  staticTypes := #[.double, .double, .double, .double, .double, .long, .long, .double, .double, .boolean]
  resolved := Array.replicate 460 none
  statics := none }

def pool17 : Array CpInfo := pool [(2, .class_ 4), (1, u "java/lang/CharSequence"), (42, .class_ 48), (0, u "java/lang/CharSequence$1CodePointIterator"), (10, .class_ 60), (0, u "java/lang/CharSequence$1CharIterator"), (5, .class_ 67), (0, u "java/lang/Object")] 63

/-- java/lang/CharSequence -/
def k17 : Class := { plain "java/lang/CharSequence" (some 0) with
  accessFlags := 1537
  interfaces := #[]
  cf := some (fileOf pool17 2 #[.nestMembers #[47, 59]] #[] 1537 66 #[] #[])
  fields := #[]
  methods := #[]
  instanceTypes := #[]
  staticTypes := #[]
  resolved := Array.replicate 131 none
  statics := none }

def pool18 : Array CpInfo := pool [(1, .class_ 2), (0, u "java/lang/constant/ConstantDesc"), (0, .class_ 4), (0, u "java/lang/Object")] 32

/-- java/lang/constant/ConstantDesc -/
def k18 : Class := { plain "java/lang/constant/ConstantDesc" (some 0) with
  accessFlags := 1537
  interfaces := #[]
  cf := some (fileOf pool18 1 #[] #[] 1537 3 #[] #[])
  fields := #[]
  methods := #[]
  instanceTypes := #[]
  staticTypes := #[]
  resolved := Array.replicate 37 none
  statics := none }

def pool19 : Array CpInfo := pool [(2, .class_ 4), (1, u "java/lang/Object"), (0, u "<init>"), (0, u "()V"), (2, .fieldref 10 11), (0, .class_ 12), (0, .nameAndType 13 14), (0, u "java/lang/String"), (0, u "value"), (0, u "[B"), (0, .fieldref 10 16), (0, .nameAndType 17 18), (0, u "coder"), (0, u "B"), (2, u "hash"), (0, u "I"), (2, u "hashIsZero"), (0, u "Z"), (11, .fieldref 10 39), (0, .nameAndType 40 26), (0, u "COMPACT_STRINGS"), (66, .class_ 109), (1, u "java/lang/StringLatin1"), (431, .methodref 107 542), (0, .nameAndType 543 544), (0, u "equals"), (0, u "([B[B)Z"), (28, u "(Ljava/lang/Object;)Z"), (1, .class_ 576), (0, u "java/lang/CharSequence"), (22, u "CASE_INSENSITIVE_ORDER"), (0, u "Ljava/util/Comparator;"), (500, u "serialPersistentFields"), (0, u "[Ljava/io/ObjectStreamField;"), (0, .class_ 1104), (0, u "java/lang/String$CaseInsensitiveComparator"), (1, .class_ 1107), (0, u "java/io/Serializable"), (0, .class_ 1109), (0, u "java/lang/Comparable"), (0, .class_ 1111), (0, u "java/lang/constant/Constable"), (0, .class_ 1113), (0, u "java/lang/constant/ConstantDesc"), (2, u "serialVersionUID"), (0, u "J"), (3, u "REPL"), (0, u "C"), (2, u "LATIN1"), (1, u "UTF16")] 323

def k19m0 : Method := { name := "<init>", desc := "()V", sig := { parameters := [], returnType := none }, accessFlags := 1, code := none }
def k19c1 : Code := { maxStack := 2, maxLocals := 3, code := jdk_42_method_66_code, exceptionTable := #[], attributes := #[] }
def k19m1 : Method := { name := "equals", desc := "(Ljava/lang/Object;)Z", sig := { parameters := [(.object "java/lang/Object")], returnType := some .boolean }, accessFlags := 1, code := some k19c1 }
/-- java/lang/String -/
def k19 : Class := { plain "java/lang/String" (some 0) with
  accessFlags := 49
  interfaces := #[4, 3, 17, 2, 18]
  cf := some (fileOf pool19 10 #[.nestMembers #[1103]] #[{ accessFlags := 1, nameIndex := 5, descriptorIndex := 6, attributes := #[] }, { accessFlags := 1, nameIndex := 543, descriptorIndex := 573, attributes := #[] }] 49 2 #[1106, 1108, 575, 1110, 1112] #[{ accessFlags := 18, nameIndex := 13, descriptorIndex := 14, attributes := #[] }, { accessFlags := 18, nameIndex := 17, descriptorIndex := 18, attributes := #[] }, { accessFlags := 2, nameIndex := 21, descriptorIndex := 22, attributes := #[] }, { accessFlags := 2, nameIndex := 25, descriptorIndex := 26, attributes := #[] }, { accessFlags := 26, nameIndex := 1116, descriptorIndex := 1117, attributes := #[] }, { accessFlags := 24, nameIndex := 40, descriptorIndex := 26, attributes := #[] }, { accessFlags := 26, nameIndex := 1101, descriptorIndex := 1102, attributes := #[] }, { accessFlags := 26, nameIndex := 1121, descriptorIndex := 1122, attributes := #[] }, { accessFlags := 25, nameIndex := 599, descriptorIndex := 600, attributes := #[] }, { accessFlags := 24, nameIndex := 1125, descriptorIndex := 18, attributes := #[] }, { accessFlags := 24, nameIndex := 1127, descriptorIndex := 18, attributes := #[] }])
  fields := #[{ name := "value", type := (.array .byte), accessFlags := 18, slot := 0, constantValue := 0 }, { name := "coder", type := .byte, accessFlags := 18, slot := 1, constantValue := 0 }, { name := "hash", type := .int, accessFlags := 2, slot := 2, constantValue := 0 }, { name := "hashIsZero", type := .boolean, accessFlags := 2, slot := 3, constantValue := 0 }, { name := "serialVersionUID", type := .long, accessFlags := 26, slot := 0, constantValue := 0 }, { name := "COMPACT_STRINGS", type := .boolean, accessFlags := 24, slot := 1, constantValue := 0 }, { name := "serialPersistentFields", type := (.array (.object "java/io/ObjectStreamField")), accessFlags := 26, slot := 2, constantValue := 0 }, { name := "REPL", type := .char, accessFlags := 26, slot := 3, constantValue := 0 }, { name := "CASE_INSENSITIVE_ORDER", type := (.object "java/util/Comparator"), accessFlags := 25, slot := 4, constantValue := 0 }, { name := "LATIN1", type := .byte, accessFlags := 24, slot := 5, constantValue := 0 }, { name := "UTF16", type := .byte, accessFlags := 24, slot := 6, constantValue := 0 }]
  methods := #[k19m0, k19m1]
  instanceTypes := #[(.array .byte), .byte, .int, .boolean]
  staticTypes := #[.long, .boolean, (.array (.object "java/io/ObjectStreamField")), .char, (.object "java/util/Comparator"), .byte, .byte]
  resolved := Array.replicate 1451 none
  statics := some 2 }

def pool20 : Array CpInfo := pool [(2, .class_ 4), (1, u "java/lang/Object"), (0, u "<init>"), (0, u "()V"), (35, .class_ 44), (1, u "java/util/Objects"), (60, .methodref 106 107), (0, .class_ 108), (0, .nameAndType 109 110), (0, u "jdk/internal/util/Preconditions"), (0, u "checkIndex"), (0, u "(IILjava/util/function/BiFunction;)I"), (60, u "(II)I")] 12

def k20m0 : Method := { name := "<init>", desc := "()V", sig := { parameters := [], returnType := none }, accessFlags := 2, code := none }
def k20c1 : Code := { maxStack := 3, maxLocals := 2, code := jdk_31_method_17_code, exceptionTable := #[], attributes := #[] }
def k20m1 : Method := { name := "checkIndex", desc := "(II)I", sig := { parameters := [.int, .int], returnType := some .int }, accessFlags := 9, code := some k20c1 }
/-- java/util/Objects -/
def k20 : Class := { plain "java/util/Objects" (some 0) with
  accessFlags := 49
  interfaces := #[]
  cf := some (fileOf pool20 42 #[] #[{ accessFlags := 2, nameIndex := 5, descriptorIndex := 6, attributes := #[] }, { accessFlags := 9, nameIndex := 109, descriptorIndex := 171, attributes := #[] }] 49 2 #[] #[])
  fields := #[]
  methods := #[k20m0, k20m1]
  instanceTypes := #[]
  staticTypes := #[]
  resolved := Array.replicate 184 none
  statics := none }

def pool21 : Array CpInfo := pool [(2, .class_ 4), (1, u "java/lang/Object"), (0, u "<init>"), (0, u "()V"), (17, .class_ 26), (1, u "jdk/internal/util/Preconditions"), (6, u "checkIndex"), (21, .class_ 56), (0, u "jdk/internal/util/Preconditions$4"), (57, .class_ 115), (0, u "jdk/internal/util/Preconditions$1"), (7, u "SIOOBE_FORMATTER"), (0, u "Ljava/util/function/BiFunction;"), (0, .class_ 126), (0, u "jdk/internal/util/Preconditions$2"), (3, u "AIOOBE_FORMATTER"), (0, .class_ 132), (0, u "jdk/internal/util/Preconditions$3"), (3, u "IOOBE_FORMATTER"), (41, u "(IILjava/util/function/BiFunction;)I")] 15

def k21m0 : Method := { name := "<init>", desc := "()V", sig := { parameters := [], returnType := none }, accessFlags := 1, code := none }
def k21c1 : Code := { maxStack := 3, maxLocals := 3, code := jdk_41_method_11_code, exceptionTable := #[], attributes := #[] }
def k21m1 : Method := { name := "checkIndex", desc := "(IILjava/util/function/BiFunction;)I", sig := { parameters := [.int, .int, (.object "java/util/function/BiFunction")], returnType := some .int }, accessFlags := 9, code := some k21c1 }
/-- jdk/internal/util/Preconditions -/
def k21 : Class := { plain "jdk/internal/util/Preconditions" (some 0) with
  accessFlags := 33
  interfaces := #[]
  cf := some (fileOf pool21 24 #[.nestMembers #[55, 131, 125, 114]] #[{ accessFlags := 1, nameIndex := 5, descriptorIndex := 6, attributes := #[] }, { accessFlags := 9, nameIndex := 33, descriptorIndex := 178, attributes := #[] }] 33 2 #[] #[{ accessFlags := 25, nameIndex := 123, descriptorIndex := 124, attributes := #[] }, { accessFlags := 25, nameIndex := 130, descriptorIndex := 124, attributes := #[] }, { accessFlags := 25, nameIndex := 136, descriptorIndex := 124, attributes := #[] }])
  fields := #[{ name := "SIOOBE_FORMATTER", type := (.object "java/util/function/BiFunction"), accessFlags := 25, slot := 0, constantValue := 0 }, { name := "AIOOBE_FORMATTER", type := (.object "java/util/function/BiFunction"), accessFlags := 25, slot := 1, constantValue := 0 }, { name := "IOOBE_FORMATTER", type := (.object "java/util/function/BiFunction"), accessFlags := 25, slot := 2, constantValue := 0 }]
  methods := #[k21m0, k21m1]
  instanceTypes := #[]
  staticTypes := #[(.object "java/util/function/BiFunction"), (.object "java/util/function/BiFunction"), (.object "java/util/function/BiFunction")]
  resolved := Array.replicate 194 none
  statics := some 3 }

def pool22 : Array CpInfo := pool [(4, .class_ 6), (1, u "java/lang/Object"), (0, u "<init>"), (0, u "()V"), (5, .class_ 16), (1, u "java/lang/StringLatin1"), (104, u "$assertionsDisabled"), (0, u "Z"), (98, .class_ 223), (1, u "java/lang/StringLatin1$LinesSpliterator"), (57, u "equals"), (0, u "([B[B)Z"), (107, .class_ 391), (0, u "java/lang/StringLatin1$CharsSpliterator")] 3

def k22m0 : Method := { name := "<init>", desc := "()V", sig := { parameters := [], returnType := none }, accessFlags := 0, code := none }
def k22c1 : Code := { maxStack := 3, maxLocals := 3, code := jdk_43_method_13_code, exceptionTable := #[], attributes := #[] }
def k22m1 : Method := { name := "equals", desc := "([B[B)Z", sig := { parameters := [(.array .byte), (.array .byte)], returnType := some .boolean }, accessFlags := 9, code := some k22c1 }
/-- java/lang/StringLatin1 -/
def k22 : Class := { plain "java/lang/StringLatin1" (some 0) with
  accessFlags := 48
  interfaces := #[]
  cf := some (fileOf pool22 14 #[.nestMembers #[390, 221]] #[{ accessFlags := 0, nameIndex := 7, descriptorIndex := 8, attributes := #[] }, { accessFlags := 9, nameIndex := 281, descriptorIndex := 282, attributes := #[] }] 48 4 #[] #[{ accessFlags := 4120, nameIndex := 121, descriptorIndex := 122, attributes := #[] }])
  fields := #[{ name := "$assertionsDisabled", type := .boolean, accessFlags := 4120, slot := 0, constantValue := 0 }]
  methods := #[k22m0, k22m1]
  instanceTypes := #[]
  staticTypes := #[.boolean]
  resolved := Array.replicate 395 none
  statics := none }

def pool23 : Array CpInfo := pool [(9, u "<init>"), (6, .class_ 18), (1, u "java/lang/Object"), (0, u "()V"), (1, .class_ 23), (1, u "jdk/internal/util/ArraysSupport"), (0, u "LOG2_ARRAY_LONG_INDEX_SCALE"), (0, u "I"), (2, u "U"), (0, u "Ljdk/internal/misc/Unsafe;"), (8, u "BIG_ENDIAN"), (0, u "Z"), (8, u "LOG2_BYTE_BIT_SIZE"), (4, u "LOG2_ARRAY_INT_INDEX_SCALE"), (54, u "JLA"), (0, u "Ljdk/internal/access/JavaLangAccess;"), (11, u "LOG2_ARRAY_BOOLEAN_INDEX_SCALE"), (9, u "LOG2_ARRAY_BYTE_INDEX_SCALE"), (5, u "LOG2_ARRAY_CHAR_INDEX_SCALE"), (5, u "LOG2_ARRAY_SHORT_INDEX_SCALE"), (18, u "LOG2_ARRAY_FLOAT_INDEX_SCALE"), (24, u "LOG2_ARRAY_DOUBLE_INDEX_SCALE"), (89, u "T_BOOLEAN"), (2, u "T_CHAR"), (1, u "T_FLOAT"), (1, u "T_DOUBLE"), (1, u "T_BYTE"), (1, u "T_SHORT"), (1, u "T_INT"), (1, u "T_LONG"), (1, u "SOFT_MAX_ARRAY_LENGTH")] 83

def k23m0 : Method := { name := "<init>", desc := "()V", sig := { parameters := [], returnType := none }, accessFlags := 2, code := none }
/-- jdk/internal/util/ArraysSupport -/
def k23 : Class := { plain "jdk/internal/util/ArraysSupport" (some 0) with
  accessFlags := 33
  interfaces := #[]
  cf := some (fileOf pool23 21 #[] #[{ accessFlags := 2, nameIndex := 9, descriptorIndex := 19, attributes := #[] }] 33 16 #[] #[{ accessFlags := 24, nameIndex := 28, descriptorIndex := 29, attributes := #[] }, { accessFlags := 26, nameIndex := 38, descriptorIndex := 39, attributes := #[] }, { accessFlags := 25, nameIndex := 121, descriptorIndex := 25, attributes := #[] }, { accessFlags := 25, nameIndex := 131, descriptorIndex := 25, attributes := #[] }, { accessFlags := 25, nameIndex := 137, descriptorIndex := 25, attributes := #[] }, { accessFlags := 25, nameIndex := 143, descriptorIndex := 25, attributes := #[] }, { accessFlags := 25, nameIndex := 53, descriptorIndex := 25, attributes := #[] }, { accessFlags := 25, nameIndex := 24, descriptorIndex := 25, attributes := #[] }, { accessFlags := 25, nameIndex := 162, descriptorIndex := 25, attributes := #[] }, { accessFlags := 25, nameIndex := 187, descriptorIndex := 25, attributes := #[] }, { accessFlags := 26, nameIndex := 48, descriptorIndex := 25, attributes := #[] }, { accessFlags := 25, nameIndex := 277, descriptorIndex := 25, attributes := #[] }, { accessFlags := 25, nameIndex := 280, descriptorIndex := 25, attributes := #[] }, { accessFlags := 25, nameIndex := 282, descriptorIndex := 25, attributes := #[] }, { accessFlags := 25, nameIndex := 284, descriptorIndex := 25, attributes := #[] }, { accessFlags := 25, nameIndex := 286, descriptorIndex := 25, attributes := #[] }, { accessFlags := 25, nameIndex := 288, descriptorIndex := 25, attributes := #[] }, { accessFlags := 25, nameIndex := 290, descriptorIndex := 25, attributes := #[] }, { accessFlags := 25, nameIndex := 292, descriptorIndex := 25, attributes := #[] }, { accessFlags := 26, nameIndex := 108, descriptorIndex := 109, attributes := #[] }, { accessFlags := 25, nameIndex := 294, descriptorIndex := 25, attributes := #[] }])
  fields := #[{ name := "U", type := (.object "jdk/internal/misc/Unsafe"), accessFlags := 24, slot := 0, constantValue := 0 }, { name := "BIG_ENDIAN", type := .boolean, accessFlags := 26, slot := 1, constantValue := 0 }, { name := "LOG2_ARRAY_BOOLEAN_INDEX_SCALE", type := .int, accessFlags := 25, slot := 2, constantValue := 0 }, { name := "LOG2_ARRAY_BYTE_INDEX_SCALE", type := .int, accessFlags := 25, slot := 3, constantValue := 0 }, { name := "LOG2_ARRAY_CHAR_INDEX_SCALE", type := .int, accessFlags := 25, slot := 4, constantValue := 0 }, { name := "LOG2_ARRAY_SHORT_INDEX_SCALE", type := .int, accessFlags := 25, slot := 5, constantValue := 0 }, { name := "LOG2_ARRAY_INT_INDEX_SCALE", type := .int, accessFlags := 25, slot := 6, constantValue := 0 }, { name := "LOG2_ARRAY_LONG_INDEX_SCALE", type := .int, accessFlags := 25, slot := 7, constantValue := 0 }, { name := "LOG2_ARRAY_FLOAT_INDEX_SCALE", type := .int, accessFlags := 25, slot := 8, constantValue := 0 }, { name := "LOG2_ARRAY_DOUBLE_INDEX_SCALE", type := .int, accessFlags := 25, slot := 9, constantValue := 0 }, { name := "LOG2_BYTE_BIT_SIZE", type := .int, accessFlags := 26, slot := 10, constantValue := 0 }, { name := "T_BOOLEAN", type := .int, accessFlags := 25, slot := 11, constantValue := 0 }, { name := "T_CHAR", type := .int, accessFlags := 25, slot := 12, constantValue := 0 }, { name := "T_FLOAT", type := .int, accessFlags := 25, slot := 13, constantValue := 0 }, { name := "T_DOUBLE", type := .int, accessFlags := 25, slot := 14, constantValue := 0 }, { name := "T_BYTE", type := .int, accessFlags := 25, slot := 15, constantValue := 0 }, { name := "T_SHORT", type := .int, accessFlags := 25, slot := 16, constantValue := 0 }, { name := "T_INT", type := .int, accessFlags := 25, slot := 17, constantValue := 0 }, { name := "T_LONG", type := .int, accessFlags := 25, slot := 18, constantValue := 0 }, { name := "JLA", type := (.object "jdk/internal/access/JavaLangAccess"), accessFlags := 26, slot := 19, constantValue := 0 }, { name := "SOFT_MAX_ARRAY_LENGTH", type := .int, accessFlags := 25, slot := 20, constantValue := 0 }]
  methods := #[k23m0]
  instanceTypes := #[]
  staticTypes := #[(.object "jdk/internal/misc/Unsafe"), .boolean, .int, .int, .int, .int, .int, .int, .int, .int, .int, .int, .int, .int, .int, .int, .int, .int, .int, (.object "jdk/internal/access/JavaLangAccess"), .int]
  resolved := Array.replicate 378 none
  statics := none }

/-- the primitive byte -/
def k24 : Class := { plain "byte" none with kind := .primitive 'B', accessFlags := 0x411 }
/-- [B -/
def k25 : Class := { plain "[B" (some 0) with kind := .array 24 .byte, interfaces := #[14, 4], accessFlags := 1041 }

/-- the primitive int -/
def k26 : Class := { plain "int" none with kind := .primitive 'I', accessFlags := 0x411 }
/-- [I -/
def k27 : Class := { plain "[I" (some 0) with kind := .array 26 .int, interfaces := #[14, 4], accessFlags := 1041 }

/-- [Lcom/example/amber_gate/ambergate/Algorithm; -/
def k28 : Class := { plain "[Lcom/example/amber_gate/ambergate/Algorithm;" (some 0) with kind := .array 6 (.object "com/example/amber_gate/ambergate/Algorithm"), interfaces := #[14, 4], accessFlags := 1041 }

/-- [Ljava/lang/Object; -/
def k29 : Class := { plain "[Ljava/lang/Object;" (some 0) with kind := .array 0 (.object "java/lang/Object"), interfaces := #[14, 4], accessFlags := 1041 }

def heap : Heap := #[{ cls := 6, slots := #[.ref 5, .ref 6, .ref 7, .ref 4], vm := .statics 6 },
  { cls := 15, slots := #[.long 0, .int 0, .ref 14, .ref 15], vm := .statics 15 },
  { cls := 19, slots := #[.long 0, .int 1, .null, .int 0, .null, .int 0, .int 0], vm := .statics 19 },
  { cls := 21, slots := #[.null, .null, .null], vm := .statics 21 },
  { cls := 28, slots := #[.ref 5, .ref 6, .ref 7], vm := .none },
  { cls := 6, slots := #[.null, .int 0, .int 0, .ref 8, .int 0], vm := .none },
  { cls := 6, slots := #[.null, .int 1, .int 0, .ref 9, .int 1], vm := .none },
  { cls := 6, slots := #[.null, .int 2, .int 0, .ref 10, .int 0], vm := .none },
  { cls := 19, slots := #[.ref 11, .int 0, .int 0, .int 0], vm := .none },
  { cls := 19, slots := #[.ref 12, .int 0, .int 0, .int 0], vm := .none },
  { cls := 19, slots := #[.ref 13, .int 0, .int 0, .int 0], vm := .none },
  { cls := 25, slots := #[.int 101, .int 120, .int 97, .int 99, .int 116], vm := .none },
  { cls := 25, slots := #[.int 115, .int 108, .int 105, .int 100, .int 105, .int 110, .int 103], vm := .none },
  { cls := 25, slots := #[.int 102, .int 105, .int 120, .int 101, .int 100], vm := .none },
  { cls := 29, slots := #[], vm := .none },
  { cls := 29, slots := #[], vm := .none }]
def classes : Array Class := #[k0, k1, k2, k3, k4, k5, k6, k7, k8, k9, k10, k11, k12, k13, k14, k15, k16, k17, k18, k19, k20, k21, k22, k23, k24, k25, k26, k27, k28, k29]
def interned : List (Array UInt16 × Addr) := []
def slotsUsed : Nat := 65
def theMethod : MethodId := ⟨1, 1⟩
def args0 : Array Value := #[.int 1]
def aboutOver (below : List Frame) : State where
  vm := { classes := classes, interned := interned.toArray }
  heap := heap
  slotsUsed := slotsUsed
  threads := #[{ frames := .invoking theMethod args0 :: below }]
def below0 : List Frame := [.native { method := ⟨0, 0⟩, args := #[] }]
def about1 : State := aboutOver below0
def p0 : Program := .bare "" "" ""
def e0 : Env := launch0.env 0 0 0
theorem w_frames : about1.frames = Frame.invoking theMethod args0 :: below0 := rfl
set_option maxRecDepth 65536 in
theorem w_args : argsFit about1.vm theMethod args0 = true := by decide +kernel
set_option maxRecDepth 65536 in
theorem w_heap : heapFits about1 = true := by decide +kernel
set_option maxRecDepth 65536 in
theorem w_runnable : about1.curStatus? = some .runnable := by decide +kernel
set_option maxRecDepth 65536 in
theorem w_alone : about1.alone = true := by decide +kernel
set_option maxRecDepth 65536 in
theorem w_named : about1.methodNamed? x = some theMethod := by decide +kernel
set_option maxRecDepth 65536 in
theorem w_hears : about1.hears theMethod below0 = true := by decide +kernel
set_option maxRecDepth 65536 in
theorem w_ripe : about1.ripe theMethod args0 below0 = true := by decide +kernel
theorem w_running : about1.status = .running := rfl
set_option maxRecDepth 65536 in
theorem w_room : about1.hasRoom e0.platform room_1 = true :=
  launch0.hasRoom_least _ room_1 (by decide +kernel) (by decide +kernel) (by decide +kernel) (by decide +kernel) (by decide +kernel) (by decide +kernel)
theorem allAtoms_all (ts : List Jvm.Cond) (a : Array Jvm.Value) (st : Jvm.State) : (allAtoms ts).before a st = ts.all (fun c => c.before a st) := by
  induction ts with
  | nil => rfl
  | cons c t ih =>
    show (Jvm.Cond.and c (allAtoms t)).before a st = _
    rw [Jvm.Cond.before_and, ih, List.all_cons]
def words1 : List Jvm.Cond := Jvm.Cond.code x code maxLocals ret :: tables_1
/-- a 'code' word, met by the world's own term for the bytes: nothing is compared byte by byte -/
theorem code_word {y : MethodName} {bytes : ByteArray} {mx : Nat} {rt : Option FieldType} {a : Array Value} {s : State} {m : MethodId} {meth : Method} {c : Code} (h1 : s.methodNamed? y = some m) (h2 : s.vm.method? m = some meth) (h3 : meth.code = some c) (h4 : c.code = bytes)
    (h5 : (c.maxLocals == mx && c.exceptionTable.isEmpty && decide (c.maxStack ≤ mostOperands) && decide (meth.sig.returnType = rt) && !meth.locks && decide (parseMethodDescriptor y.desc = some meth.sig)) = true) : (Jvm.Cond.code y bytes mx rt).before a s = true := by
  simp only [Bool.and_eq_true, beq_iff_eq, Bool.not_eq_true', decide_eq_true_eq] at h5
  obtain ⟨⟨⟨⟨⟨g1, g2⟩, g3⟩, g4⟩, g5⟩, g6⟩ := h5
  simp [Cond.before, Cond.holds, Cond.value, h1, h2, h3, h4, g1, g2, g3, g4, g5, g6]
def isCode : Jvm.Cond → Bool
  | .code _ _ _ _ => true
  | _ => false
theorem all_split {L : List Jvm.Cond} {P : Jvm.Cond → Bool} (h1 : L.all (fun c => isCode c || P c) = true) (h2 : ∀ c ∈ L.filter isCode, P c = true) : L.all P = true := by
  refine List.all_eq_true.mpr fun c hc => ?_
  have h := List.all_eq_true.mp h1 c hc
  rcases Bool.eq_false_or_eq_true (isCode c) with hi | hi
  · exact h2 c (List.mem_filter.mpr ⟨hc, hi⟩)
  · simpa [hi] using h
set_option maxRecDepth 65536 in
theorem w_c0 : (Jvm.Cond.code x code maxLocals ret).before args0 about1 = true := code_word (m := ⟨1, 1⟩) (meth := k1m1) (c := k1c1) (by decide +kernel) rfl rfl rfl (by decide +kernel)
set_option maxRecDepth 65536 in
theorem w_c1 : (Jvm.Cond.code ({ cls := "com/example/amber_gate/ambergate/Algorithm", name := "names", desc := "()Ljava/util/List;" } : Jvm.MethodName) prog_1_method_7_code (5 : Nat) (Option.some (Jvm.ClassFile.FieldType.object "java/util/List"))).before args0 about1 = true := code_word (m := ⟨6, 3⟩) (meth := k6m3) (c := k6c3) (by decide +kernel) rfl rfl rfl (by decide +kernel)
set_option maxRecDepth 65536 in
theorem w_c2 : (Jvm.Cond.code ({ cls := "java/util/ArrayList", name := "<init>", desc := "()V" } : Jvm.MethodName) jdk_38_method_2_code (1 : Nat) (Option.none : Option Jvm.ClassFile.FieldType)).before args0 about1 = true := code_word (m := ⟨15, 0⟩) (meth := k15m0) (c := k15c0) (by decide +kernel) rfl rfl rfl (by decide +kernel)
set_option maxRecDepth 65536 in
theorem w_c3 : (Jvm.Cond.code ({ cls := "java/util/AbstractList", name := "<init>", desc := "()V" } : Jvm.MethodName) jdk_39_method_1_code (1 : Nat) (Option.none : Option Jvm.ClassFile.FieldType)).before args0 about1 = true := code_word (m := ⟨12, 0⟩) (meth := k12m0) (c := k12c0) (by decide +kernel) rfl rfl rfl (by decide +kernel)
set_option maxRecDepth 65536 in
theorem w_c4 : (Jvm.Cond.code ({ cls := "java/util/AbstractCollection", name := "<init>", desc := "()V" } : Jvm.MethodName) jdk_22_method_1_code (1 : Nat) (Option.none : Option Jvm.ClassFile.FieldType)).before args0 about1 = true := code_word (m := ⟨9, 0⟩) (meth := k9m0) (c := k9c0) (by decide +kernel) rfl rfl rfl (by decide +kernel)
set_option maxRecDepth 65536 in
theorem w_c5 : (Jvm.Cond.code ({ cls := "java/lang/Object", name := "<init>", desc := "()V" } : Jvm.MethodName) object_method_1_code (1 : Nat) (Option.none : Option Jvm.ClassFile.FieldType)).before args0 about1 = true := code_word (m := ⟨0, 0⟩) (meth := k0m0) (c := k0c0) (by decide +kernel) rfl rfl rfl (by decide +kernel)
set_option maxRecDepth 65536 in
theorem w_c6 : (Jvm.Cond.code ({ cls := "com/example/amber_gate/ambergate/Algorithm", name := "values", desc := "()[Lcom/example/amber_gate/ambergate/Algorithm;" } : Jvm.MethodName) prog_1_method_1_code (0 : Nat) (Option.some (Jvm.ClassFile.FieldType.array (Jvm.ClassFile.FieldType.object "com/example/amber_gate/ambergate/Algorithm")))).before args0 about1 = true := code_word (m := ⟨6, 0⟩) (meth := k6m0) (c := k6c0) (by decide +kernel) rfl rfl rfl (by decide +kernel)
set_option maxRecDepth 65536 in
theorem w_c7 : (Jvm.Cond.code ({ cls := "java/util/ArrayList", name := "add", desc := "(Ljava/lang/Object;)Z" } : Jvm.MethodName) jdk_38_method_25_code (2 : Nat) (Option.some Jvm.ClassFile.FieldType.boolean)).before args0 about1 = true := code_word (m := ⟨15, 7⟩) (meth := k15m7) (c := k15c7) (by decide +kernel) rfl rfl rfl (by decide +kernel)
set_option maxRecDepth 65536 in
theorem w_c8 : (Jvm.Cond.code ({ cls := "java/util/ArrayList", name := "add", desc := "(Ljava/lang/Object;[Ljava/lang/Object;I)V" } : Jvm.MethodName) jdk_38_method_24_code (4 : Nat) (Option.none : Option Jvm.ClassFile.FieldType)).before args0 about1 = true := code_word (m := ⟨15, 6⟩) (meth := k15m6) (c := k15c6) (by decide +kernel) rfl rfl rfl (by decide +kernel)
set_option maxRecDepth 65536 in
theorem w_c9 : (Jvm.Cond.code ({ cls := "java/util/ArrayList", name := "grow", desc := "()[Ljava/lang/Object;" } : Jvm.MethodName) jdk_38_method_7_code (1 : Nat) (Option.some (Jvm.ClassFile.FieldType.array (Jvm.ClassFile.FieldType.object "java/lang/Object")))).before args0 about1 = true := code_word (m := ⟨15, 2⟩) (meth := k15m2) (c := k15c2) (by decide +kernel) rfl rfl rfl (by decide +kernel)
set_option maxRecDepth 65536 in
theorem w_c10 : (Jvm.Cond.code ({ cls := "java/util/ArrayList", name := "grow", desc := "(I)[Ljava/lang/Object;" } : Jvm.MethodName) jdk_38_method_6_code (4 : Nat) (Option.some (Jvm.ClassFile.FieldType.array (Jvm.ClassFile.FieldType.object "java/lang/Object")))).before args0 about1 = true := code_word (m := ⟨15, 1⟩) (meth := k15m1) (c := k15c1) (by decide +kernel) rfl rfl rfl (by decide +kernel)
set_option maxRecDepth 65536 in
theorem w_c11 : (Jvm.Cond.code ({ cls := "java/lang/Math", name := "max", desc := "(II)I" } : Jvm.MethodName) jdk_29_method_65_code (2 : Nat) (Option.some Jvm.ClassFile.FieldType.int)).before args0 about1 = true := code_word (m := ⟨16, 1⟩) (meth := k16m1) (c := k16c1) (by decide +kernel) rfl rfl rfl (by decide +kernel)
set_option maxRecDepth 65536 in
theorem w_c12 : (Jvm.Cond.code ({ cls := "java/util/ArrayList", name := "size", desc := "()I" } : Jvm.MethodName) jdk_38_method_8_code (1 : Nat) (Option.some Jvm.ClassFile.FieldType.int)).before args0 about1 = true := code_word (m := ⟨15, 3⟩) (meth := k15m3) (c := k15c3) (by decide +kernel) rfl rfl rfl (by decide +kernel)
set_option maxRecDepth 65536 in
theorem w_c13 : (Jvm.Cond.code ({ cls := "java/util/ArrayList", name := "get", desc := "(I)Ljava/lang/Object;" } : Jvm.MethodName) jdk_38_method_20_code (2 : Nat) (Option.some (Jvm.ClassFile.FieldType.object "java/lang/Object"))).before args0 about1 = true := code_word (m := ⟨15, 5⟩) (meth := k15m5) (c := k15c5) (by decide +kernel) rfl rfl rfl (by decide +kernel)
set_option maxRecDepth 65536 in
theorem w_c14 : (Jvm.Cond.code ({ cls := "java/util/Objects", name := "checkIndex", desc := "(II)I" } : Jvm.MethodName) jdk_31_method_17_code (2 : Nat) (Option.some Jvm.ClassFile.FieldType.int)).before args0 about1 = true := code_word (m := ⟨20, 1⟩) (meth := k20m1) (c := k20c1) (by decide +kernel) rfl rfl rfl (by decide +kernel)
set_option maxRecDepth 65536 in
theorem w_c15 : (Jvm.Cond.code ({ cls := "jdk/internal/util/Preconditions", name := "checkIndex", desc := "(IILjava/util/function/BiFunction;)I" } : Jvm.MethodName) jdk_41_method_11_code (3 : Nat) (Option.some Jvm.ClassFile.FieldType.int)).before args0 about1 = true := code_word (m := ⟨21, 1⟩) (meth := k21m1) (c := k21c1) (by decide +kernel) rfl rfl rfl (by decide +kernel)
set_option maxRecDepth 65536 in
theorem w_c16 : (Jvm.Cond.code ({ cls := "java/util/ArrayList", name := "elementData", desc := "(I)Ljava/lang/Object;" } : Jvm.MethodName) jdk_38_method_18_code (2 : Nat) (Option.some (Jvm.ClassFile.FieldType.object "java/lang/Object"))).before args0 about1 = true := code_word (m := ⟨15, 4⟩) (meth := k15m4) (c := k15c4) (by decide +kernel) rfl rfl rfl (by decide +kernel)
set_option maxRecDepth 65536 in
theorem w_c17 : (Jvm.Cond.code ({ cls := "java/lang/String", name := "equals", desc := "(Ljava/lang/Object;)Z" } : Jvm.MethodName) jdk_42_method_66_code (3 : Nat) (Option.some Jvm.ClassFile.FieldType.boolean)).before args0 about1 = true := code_word (m := ⟨19, 1⟩) (meth := k19m1) (c := k19c1) (by decide +kernel) rfl rfl rfl (by decide +kernel)
set_option maxRecDepth 65536 in
theorem w_c18 : (Jvm.Cond.code ({ cls := "java/lang/StringLatin1", name := "equals", desc := "([B[B)Z" } : Jvm.MethodName) jdk_43_method_13_code (3 : Nat) (Option.some Jvm.ClassFile.FieldType.boolean)).before args0 about1 = true := code_word (m := ⟨22, 1⟩) (meth := k22m1) (c := k22c1) (by decide +kernel) rfl rfl rfl (by decide +kernel)
set_option maxRecDepth 65536 in
theorem w_c19 : (Jvm.Cond.code ({ cls := "com/example/amber_gate/ambergate/Algorithm", name := "toString", desc := "()Ljava/lang/String;" } : Jvm.MethodName) prog_1_method_5_code (1 : Nat) (Option.some (Jvm.ClassFile.FieldType.object "java/lang/String"))).before args0 about1 = true := code_word (m := ⟨6, 1⟩) (meth := k6m1) (c := k6c1) (by decide +kernel) rfl rfl rfl (by decide +kernel)
set_option maxRecDepth 65536 in
theorem w_c20 : (Jvm.Cond.code ({ cls := "com/example/amber_gate/ambergate/Algorithm", name := "named", desc := "(Ljava/lang/String;)Lcom/example/amber_gate/ambergate/Algorithm;" } : Jvm.MethodName) prog_1_method_6_code (5 : Nat) (Option.some (Jvm.ClassFile.FieldType.object "com/example/amber_gate/ambergate/Algorithm"))).before args0 about1 = true := code_word (m := ⟨6, 2⟩) (meth := k6m2) (c := k6c2) (by decide +kernel) rfl rfl rfl (by decide +kernel)
def codes1 : List Jvm.Cond := [Jvm.Cond.code x code maxLocals ret, Jvm.Cond.code ({ cls := "com/example/amber_gate/ambergate/Algorithm", name := "names", desc := "()Ljava/util/List;" } : Jvm.MethodName) prog_1_method_7_code (5 : Nat) (Option.some (Jvm.ClassFile.FieldType.object "java/util/List")), Jvm.Cond.code ({ cls := "java/util/ArrayList", name := "<init>", desc := "()V" } : Jvm.MethodName) jdk_38_method_2_code (1 : Nat) (Option.none : Option Jvm.ClassFile.FieldType), Jvm.Cond.code ({ cls := "java/util/AbstractList", name := "<init>", desc := "()V" } : Jvm.MethodName) jdk_39_method_1_code (1 : Nat) (Option.none : Option Jvm.ClassFile.FieldType), Jvm.Cond.code ({ cls := "java/util/AbstractCollection", name := "<init>", desc := "()V" } : Jvm.MethodName) jdk_22_method_1_code (1 : Nat) (Option.none : Option Jvm.ClassFile.FieldType), Jvm.Cond.code ({ cls := "java/lang/Object", name := "<init>", desc := "()V" } : Jvm.MethodName) object_method_1_code (1 : Nat) (Option.none : Option Jvm.ClassFile.FieldType), Jvm.Cond.code ({ cls := "com/example/amber_gate/ambergate/Algorithm", name := "values", desc := "()[Lcom/example/amber_gate/ambergate/Algorithm;" } : Jvm.MethodName) prog_1_method_1_code (0 : Nat) (Option.some (Jvm.ClassFile.FieldType.array (Jvm.ClassFile.FieldType.object "com/example/amber_gate/ambergate/Algorithm"))), Jvm.Cond.code ({ cls := "java/util/ArrayList", name := "add", desc := "(Ljava/lang/Object;)Z" } : Jvm.MethodName) jdk_38_method_25_code (2 : Nat) (Option.some Jvm.ClassFile.FieldType.boolean), Jvm.Cond.code ({ cls := "java/util/ArrayList", name := "add", desc := "(Ljava/lang/Object;[Ljava/lang/Object;I)V" } : Jvm.MethodName) jdk_38_method_24_code (4 : Nat) (Option.none : Option Jvm.ClassFile.FieldType), Jvm.Cond.code ({ cls := "java/util/ArrayList", name := "grow", desc := "()[Ljava/lang/Object;" } : Jvm.MethodName) jdk_38_method_7_code (1 : Nat) (Option.some (Jvm.ClassFile.FieldType.array (Jvm.ClassFile.FieldType.object "java/lang/Object"))), Jvm.Cond.code ({ cls := "java/util/ArrayList", name := "grow", desc := "(I)[Ljava/lang/Object;" } : Jvm.MethodName) jdk_38_method_6_code (4 : Nat) (Option.some (Jvm.ClassFile.FieldType.array (Jvm.ClassFile.FieldType.object "java/lang/Object"))), Jvm.Cond.code ({ cls := "java/lang/Math", name := "max", desc := "(II)I" } : Jvm.MethodName) jdk_29_method_65_code (2 : Nat) (Option.some Jvm.ClassFile.FieldType.int), Jvm.Cond.code ({ cls := "java/util/ArrayList", name := "size", desc := "()I" } : Jvm.MethodName) jdk_38_method_8_code (1 : Nat) (Option.some Jvm.ClassFile.FieldType.int), Jvm.Cond.code ({ cls := "java/util/ArrayList", name := "get", desc := "(I)Ljava/lang/Object;" } : Jvm.MethodName) jdk_38_method_20_code (2 : Nat) (Option.some (Jvm.ClassFile.FieldType.object "java/lang/Object")), Jvm.Cond.code ({ cls := "java/util/Objects", name := "checkIndex", desc := "(II)I" } : Jvm.MethodName) jdk_31_method_17_code (2 : Nat) (Option.some Jvm.ClassFile.FieldType.int), Jvm.Cond.code ({ cls := "jdk/internal/util/Preconditions", name := "checkIndex", desc := "(IILjava/util/function/BiFunction;)I" } : Jvm.MethodName) jdk_41_method_11_code (3 : Nat) (Option.some Jvm.ClassFile.FieldType.int), Jvm.Cond.code ({ cls := "java/util/ArrayList", name := "elementData", desc := "(I)Ljava/lang/Object;" } : Jvm.MethodName) jdk_38_method_18_code (2 : Nat) (Option.some (Jvm.ClassFile.FieldType.object "java/lang/Object")), Jvm.Cond.code ({ cls := "java/lang/String", name := "equals", desc := "(Ljava/lang/Object;)Z" } : Jvm.MethodName) jdk_42_method_66_code (3 : Nat) (Option.some Jvm.ClassFile.FieldType.boolean), Jvm.Cond.code ({ cls := "java/lang/StringLatin1", name := "equals", desc := "([B[B)Z" } : Jvm.MethodName) jdk_43_method_13_code (3 : Nat) (Option.some Jvm.ClassFile.FieldType.boolean), Jvm.Cond.code ({ cls := "com/example/amber_gate/ambergate/Algorithm", name := "toString", desc := "()Ljava/lang/String;" } : Jvm.MethodName) prog_1_method_5_code (1 : Nat) (Option.some (Jvm.ClassFile.FieldType.object "java/lang/String")), Jvm.Cond.code ({ cls := "com/example/amber_gate/ambergate/Algorithm", name := "named", desc := "(Ljava/lang/String;)Lcom/example/amber_gate/ambergate/Algorithm;" } : Jvm.MethodName) prog_1_method_6_code (5 : Nat) (Option.some (Jvm.ClassFile.FieldType.object "com/example/amber_gate/ambergate/Algorithm"))]
set_option maxRecDepth 65536 in
theorem codes_eq : words1.filter isCode = codes1 := rfl
theorem w_codes : ∀ c ∈ words1.filter isCode, c.before args0 about1 = true := by
  rw [codes_eq]
  intro c hc
  simp only [codes1, List.mem_cons, List.not_mem_nil, or_false] at hc
  rcases hc with rfl | rfl | rfl | rfl | rfl | rfl | rfl | rfl | rfl | rfl | rfl | rfl | rfl | rfl | rfl | rfl | rfl | rfl | rfl | rfl | rfl
  · exact w_c0
  · exact w_c1
  · exact w_c2
  · exact w_c3
  · exact w_c4
  · exact w_c5
  · exact w_c6
  · exact w_c7
  · exact w_c8
  · exact w_c9
  · exact w_c10
  · exact w_c11
  · exact w_c12
  · exact w_c13
  · exact w_c14
  · exact w_c15
  · exact w_c16
  · exact w_c17
  · exact w_c18
  · exact w_c19
  · exact w_c20
set_option maxRecDepth 65536 in
theorem w_t1 : (words1.take 24).all (fun c => isCode c || c.before args0 about1) = true := by decide +kernel
set_option maxRecDepth 65536 in
theorem w_t2 : ((words1.drop 24).take 24).all (fun c => isCode c || c.before args0 about1) = true := by decide +kernel
set_option maxRecDepth 65536 in
theorem w_t3 : (((words1.drop 24).drop 24).take 24).all (fun c => isCode c || c.before args0 about1) = true := by decide +kernel
set_option maxRecDepth 65536 in
theorem w_t4 : ((((words1.drop 24).drop 24).drop 24).take 24).all (fun c => isCode c || c.before args0 about1) = true := by decide +kernel
set_option maxRecDepth 65536 in
theorem w_t5 : (((((words1.drop 24).drop 24).drop 24).drop 24).take 24).all (fun c => isCode c || c.before args0 about1) = true := by decide +kernel
set_option maxRecDepth 65536 in
theorem w_t6 : ((((((words1.drop 24).drop 24).drop 24).drop 24).drop 24).take 24).all (fun c => isCode c || c.before args0 about1) = true := by decide +kernel
set_option maxRecDepth 65536 in
theorem w_t7 : ((((((words1.drop 24).drop 24).drop 24).drop 24).drop 24).drop 24).all (fun c => isCode c || c.before args0 about1) = true := by decide +kernel
theorem w_tables : (allAtoms (Jvm.Cond.code x code maxLocals ret :: tables_1)).before args0 about1 = true := by
  rw [allAtoms_all]
  show words1.all (fun c => c.before args0 about1) = true
  refine all_split ?_ w_codes
  rw [← List.take_append_drop 24 words1, List.all_append, w_t1, ← List.take_append_drop 24 (words1.drop 24), List.all_append, w_t2, ← List.take_append_drop 24 ((words1.drop 24).drop 24), List.all_append, w_t3, ← List.take_append_drop 24 (((words1.drop 24).drop 24).drop 24), List.all_append, w_t4, ← List.take_append_drop 24 ((((words1.drop 24).drop 24).drop 24).drop 24), List.all_append, w_t5, ← List.take_append_drop 24 (((((words1.drop 24).drop 24).drop 24).drop 24).drop 24), List.all_append, w_t6, w_t7]
  rfl
set_option maxRecDepth 65536 in
theorem w_rest : rest_1_c.before args0 about1 = true := by decide +kernel
set_option maxRecDepth 65536 in
theorem w_case : (Jvm.Cond.and given_1 narrow_1).before args0 about1 = true := by decide +kernel
set_option maxRecDepth 65536 in
theorem w_consts : constsHeld consts_1 about1 := Jvm.Lit.constsHeldB_iff.mp (by decide +kernel)
theorem w_applies : (headSpec (Jvm.Cond.code x code maxLocals ret :: tables_1) room_1).applies x e0.platform about1 = true :=
  (Spec.applies_iff w_frames).mpr ⟨w_running, w_runnable, w_alone, w_named, w_hears, w_ripe, w_room, w_tables⟩
theorem atStart : AtStart classFile x code maxLocals ret World_1 tables_1 room_1 Calls_1 rest_1 Pre_1 launch0 p0 e0 about1 theMethod args0 below0 :=
  ⟨lists_1, trivial, launch0.admits_env _ _ _, launch0.least_env, fairChoices_fair.cas, fairChoices_fair.clock, w_frames, w_args, w_heap, w_applies, ⟨w_consts, trivial⟩, w_rest, w_case⟩
end start1
theorem witness_1 : WitnessClaimed_1 := ⟨start1.p0, start1.e0, start1.about1, start1.theMethod, start1.args0, start1.below0, start1.atStart⟩
end Jvm.Pilot.@@N@@
