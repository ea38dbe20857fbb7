import JvmDerived
import JvmDerived.Pilot.@@N@@Statement
import JvmDerived.Pilot.@@N@@Code
set_option linter.unusedVariables false
set_option linter.unusedSimpArgs false
namespace Jvm.RoadKit
open Sem ClassFile Op Lib Jvm.Stand Jvm.Free Jvm.LawKit
section OwnKit
variable {p : Program} {l : Launch} {e : Env} {R : Room} {s : State} {m : MethodId} {args : Array Value} {below : List Frame} {meth : Method} {c : Code} {T : State} {locs : List Loc} {cells slots : Nat} {rc rs : Nat} {Q : Option Value → Heap → List Loc → Prop} {S S' : State}
/-- from S on the invocation ends, it returns, and Q holds of what it returns, of the heap and of the places written -/
def OEnds (p : Program) (e : Env) (below : List Frame) (s : State) (rc rs : Nat) (Q : Option Value → Heap → List Loc → Prop) (S : State) : Prop :=
  ∃ s₂ o, Steps p.tables e below S s₂ ∧ s₂.status = .running ∧ Ended s₂ below o ∧ ∃ v L, o = .returned v ∧ Q v s₂.heap L ∧ FrameEnd s o s₂ L rc rs
theorem OEnds.via (h : ∀ t, Steps p.tables e below S' t → Steps p.tables e below S t) (k : OEnds p e below s rc rs Q S') : OEnds p e below s rc rs Q S := by
  obtain ⟨t, o, h1, r⟩ := k
  exact ⟨t, o, h _ h1, r⟩
theorem OEnds.retN (X : Stand p l e R s m args below meth c T locs cells slots) (hx : p.tables.exec = Jvm.exec) (hlk : meth.locks = false) {pc : Nat} {Ls : Array Slot} {z : Int32} {t : FieldType} {rest : List Value} (hret : meth.sig.returnType = some t) (ht : t = .boolean ∨ t = .byte ∨ t = .char ∨ t = .short)
    (hd : decode c.code pc = .ok (.ireturn, 1)) (q : Q (some (.int (nar t z))) T.heap locs) (hc : cells ≤ rc) (hs : slots ≤ rs) : OEnds p e below s rc rs Q (T.setTop (mkF m pc Ls (.int z :: rest))) := by
  obtain ⟨fs, hr, hrun, hended, hW, hsame⟩ := X.leave (v := some (.int (nar t z))) (fun h => by rw [hret] at h; cases h) hlk
  exact ⟨_, _, Jvm.RoadKit.retN X hx hret ht hd hr, hrun, hended, _, _, rfl, q, ⟨_, rfl⟩, hW, hsame.mono hc hs⟩
theorem OEnds.retI (X : Stand p l e R s m args below meth c T locs cells slots) (hx : p.tables.exec = Jvm.exec) (hlk : meth.locks = false) {pc : Nat} {Ls : Array Slot} {z : Int32} {rest : List Value} (hret : meth.sig.returnType = some .int)
    (hd : decode c.code pc = .ok (.ireturn, 1)) (q : Q (some (.int z)) T.heap locs) (hc : cells ≤ rc) (hs : slots ≤ rs) : OEnds p e below s rc rs Q (T.setTop (mkF m pc Ls (.int z :: rest))) := by
  obtain ⟨fs, hr, hrun, hended, hW, hsame⟩ := X.leave (v := some (.int z)) (fun h => by rw [hret] at h; cases h) hlk
  exact ⟨_, _, retOut X hx hret rfl (Or.inl ⟨rfl, Or.inl rfl, z, rfl⟩) hd hr, hrun, hended, _, _, rfl, q, ⟨_, rfl⟩, hW, hsame.mono hc hs⟩
theorem OEnds.retJ (X : Stand p l e R s m args below meth c T locs cells slots) (hx : p.tables.exec = Jvm.exec) (hlk : meth.locks = false) {pc : Nat} {Ls : Array Slot} {z : Int64} {rest : List Value} (hret : meth.sig.returnType = some .long)
    (hd : decode c.code pc = .ok (.lreturn, 1)) (q : Q (some (.long z)) T.heap locs) (hc : cells ≤ rc) (hs : slots ≤ rs) : OEnds p e below s rc rs Q (T.setTop (mkF m pc Ls (.long z :: rest))) := by
  obtain ⟨fs, hr, hrun, hended, hW, hsame⟩ := X.leave (v := some (.long z)) (fun h => by rw [hret] at h; cases h) hlk
  exact ⟨_, _, retOut X hx hret rfl (Or.inr (Or.inl ⟨rfl, rfl, z, rfl⟩)) hd hr, hrun, hended, _, _, rfl, q, ⟨_, rfl⟩, hW, hsame.mono hc hs⟩
theorem OEnds.retR (X : Stand p l e R s m args below meth c T locs cells slots) (hx : p.tables.exec = Jvm.exec) (hlk : meth.locks = false) {pc : Nat} {Ls : Array Slot} {w : Value} {t : FieldType} {rest : List Value} (hret : meth.sig.returnType = some t) (ht : t.isReference = true) (hw : w.isRef = true)
    (hd : decode c.code pc = .ok (.areturn, 1)) (q : Q (some w) T.heap locs) (hc : cells ≤ rc) (hs : slots ≤ rs) : OEnds p e below s rc rs Q (T.setTop (mkF m pc Ls (w :: rest))) := by
  obtain ⟨fs, hr, hrun, hended, hW, hsame⟩ := X.leave (v := some w) (fun h => by rw [hret] at h; cases h) hlk
  have hn : narrow t w = w := by rcases ref_cases hw with rfl | ⟨a, rfl⟩ <;> cases t <;> rfl
  exact ⟨_, _, retOut X hx hret hn (Or.inr (Or.inr (Or.inr (Or.inr ⟨rfl, ht, hw⟩)))) hd hr, hrun, hended, _, _, rfl, q, ⟨_, rfl⟩, hW, hsame.mono hc hs⟩
theorem OEnds.retV (X : Stand p l e R s m args below meth c T locs cells slots) (hx : p.tables.exec = Jvm.exec) (hlk : meth.locks = false) {pc : Nat} {Ls : Array Slot} (hret : meth.sig.returnType = none)
    (hd : decode c.code pc = .ok (.return_, 1)) (q : Q none T.heap locs) (hc : cells ≤ rc) (hs : slots ≤ rs) : OEnds p e below s rc rs Q (T.setTop (mkF m pc Ls [])) := by
  obtain ⟨fs, hr, hrun, hended, hW, hsame⟩ := X.leave (v := none) (fun _ => rfl) hlk
  exact ⟨_, _, X.returnOut hx hret hd hr, hrun, hended, _, _, rfl, q, ⟨_, rfl⟩, hW, hsame.mono hc hs⟩
/-- the call answers r, writes nothing that was there, makes nothing -/
def QA (r : Option Value) (h0 : Heap) (n0 : Nat) : Option Value → Heap → List Loc → Prop := fun v h L => v = r ∧ Fr n0 L ∧ h = h0
/-- the law's own answer -/
def QL (n0 : Nat) : Option Value → Heap → List Loc → Prop := fun v _ L => v = some (.int 1) ∧ Fr n0 L
theorem own_lc0 (x : Int64) : lcmpW x x = 0 := by rw [lcW]; exact (lc_eq _ _).mpr rfl
theorem own_lcpos {x y : Int64} (h : y < x) : 0 < lcmpW x y := by rw [lcW]; exact (lc_gt _ _).mpr h
theorem own_lcnpos {x y : Int64} (h : ¬ y < x) : ¬ 0 < lcmpW x y := by rw [lcW]; exact fun q => h ((lc_gt _ _).mp q)
theorem own_narrow {t : String} {w : Value} (h : w.isRef = true) : narrow (.object t) w = w := by rcases ref_cases h with rfl | ⟨_, rfl⟩ <;> rfl
theorem own_fits {t : String} {w : Value} (h : w.isRef = true) : fits (.object t) w = true := by rcases ref_cases h with rfl | ⟨_, rfl⟩ <;> rfl
end OwnKit
section OwnWords
variable {args : Array Value} {s : State} {t u : Term} {a : Addr} {cl : Cell} {ty : FieldType} {j k : Int32}
theorem own_eqint (h : (Jvm.Cond.eq t (.int k)).value args s none s [] = some true) : t.eval args s none [] s = some (.int k) := by
  obtain ⟨x, y, e1, e2, -, k2⟩ := cmp_v (Or.inl h)
  obtain rfl : Value.int k = y := Option.some.inj ((Term.int_eval k).symm.trans e2)
  obtain ⟨z, rfl⟩ : ∃ z, x = .int z := k2
  have q := gotT (Cond.eq_ints e1 (Term.int_eval k)) h
  rw [e1, q]
theorem own_len (h : (Jvm.Cond.eq (.length t) (.int k)).value args s none s [] = some true) (ev : t.eval args s none [] s = some (.ref a)) (A : Arr s s.heap a cl ty) : cl.slots.size < 2 ^ 31 ∧ cl.slots.size.toInt32 = k := by
  have e1 := own_eqint h
  have e2 : s.arrayAt? a = some cl := A.fin (Vm.Alike.refl _)
  have e3 : cl.slots.size < 2 ^ 31 := by
    refine Classical.byContradiction fun q => ?_
    simp [Term.eval, ev, e2, q] at e1
  have e4 := len_f ev e2 e3
  rw [e1] at e4
  exact ⟨e3, (Value.int.inj (Option.some.inj e4)).symm⟩
theorem own_elem (h : (Jvm.Cond.eq (.elem t (.int j)) (.int k)).value args s none s [] = some true) (ev : t.eval args s none [] s = some (.ref a)) (A : Arr s s.heap a cl ty) : cl.slots[j.toNatClampNeg]? = some (.int k) :=
  (elem_in (own_eqint h) ev (Term.int_eval j) A.1).2
theorem own_eqref (h : (Jvm.Cond.eq t u).value args s none s [] = some true) (eu : u.eval args s none [] s = some (.ref a)) : t.eval args s none [] s = some (.ref a) := by
  obtain ⟨x, y, e1, e2, -, k2⟩ := cmp_v (Or.inl h)
  obtain rfl : Value.ref a = y := Option.some.inj (eu.symm.trans e2)
  have hx : x.isRef = true := k2.2
  have q := gotT (eq_R e1 eu hx rfl) h
  rw [e1, q]
theorem own_elemR (h : (Jvm.Cond.eq (.elem t (.int j)) u).value args s none s [] = some true) {b : Addr} (eu : u.eval args s none [] s = some (.ref b)) (ev : t.eval args s none [] s = some (.ref a)) (A : Arr s s.heap a cl ty) : cl.slots[j.toNatClampNeg]? = some (.ref b) :=
  (elem_in (own_eqref h eu) ev (Term.int_eval j) A.1).2
end OwnWords
end Jvm.RoadKit
@@BLOCK:NumsL.lean.txt@@
namespace Jvm.Pilot.@@N@@
open Jvm Jvm.ClassFile Sem Op Lib Jvm.Free Jvm.Stand Jvm.LawKit Jvm.RoadKit Bundle Jvm.Pilot.@@N@@.Jvm.D
theorem d2_0 : decode prog_1_method_1_code 0 = .ok (.aload_n 0, 1) := by decide +kernel
theorem d2_1 : decode prog_1_method_1_code 1 = .ok (.invokespecial 1, 3) := by decide +kernel
theorem d2_4 : decode prog_1_method_1_code 4 = .ok (.aload_n 0, 1) := by decide +kernel
theorem d2_5 : decode prog_1_method_1_code 5 = .ok (.lload_n 1, 1) := by decide +kernel
theorem d2_6 : decode prog_1_method_1_code 6 = .ok (.putfield 7, 3) := by decide +kernel
theorem d2_9 : decode prog_1_method_1_code 9 = .ok (.aload_n 0, 1) := by decide +kernel
theorem d2_10 : decode prog_1_method_1_code 10 = .ok (.lload_n 3, 1) := by decide +kernel
theorem d2_11 : decode prog_1_method_1_code 11 = .ok (.putfield 13, 3) := by decide +kernel
theorem d2_14 : decode prog_1_method_1_code 14 = .ok (.aload_n 0, 1) := by decide +kernel
theorem d2_15 : decode prog_1_method_1_code 15 = .ok (.aload 5, 2) := by decide +kernel
theorem d2_17 : decode prog_1_method_1_code 17 = .ok (.putfield 16, 3) := by decide +kernel
theorem d2_20 : decode prog_1_method_1_code 20 = .ok (.aload_n 0, 1) := by decide +kernel
theorem d2_21 : decode prog_1_method_1_code 21 = .ok (.aload 6, 2) := by decide +kernel
theorem d2_23 : decode prog_1_method_1_code 23 = .ok (.putfield 20, 3) := by decide +kernel
theorem d2_26 : decode prog_1_method_1_code 26 = .ok (.return_, 1) := by decide +kernel
theorem pn_com_example_holdfast_holdfast_Acquisition : plainName "com/example/holdfast/holdfast/Acquisition" = true := by first | (simp [plainName, overriddenIn]; done) | decide +kernel
def Q_rmI (Z : State) (r : Addr) (t : Int64) (a : Int64) (h0 : Heap) (n0 : Nat) (v : Option Value) (h : Heap) (L : List Loc) : Prop := v = none ∧ Fr n0 L ∧ Keep h0 h [r] ∧ Exa Z h r "com/example/holdfast/holdfast/Acquisition" ∧ Fld Z h r "com/example/holdfast/holdfast/Acquisition" "token" "J" (.long t) ∧ Fld Z h r "com/example/holdfast/holdfast/Acquisition" "askAgainMillis" "J" (.long a) ∧ Fld Z h r "com/example/holdfast/holdfast/Acquisition" "keptBy" "Ljava/lang/String;" .null ∧ Fld Z h r "com/example/holdfast/holdfast/Acquisition" "unreached" "Lcom/example/holdfast/holdfast/HoldfastException;" .null
theorem pd_2829V : parseMethodDescriptor "()V" = some ⟨[], none⟩ := by decide +kernel
set_option maxRecDepth 65536 in
set_option maxHeartbeats 40000000 in
theorem rmI (l : Launch) (Z : State) (a0 : Array Value) (hw : ∀ d ∈ tables_1, d.before a0 Z = true) (ws : List Jvm.Cond) (r : Addr) (t : Int64) (a : Int64) (h0 : Heap) (n0 : Nat) (O0 : Old Z n0 h0) (F_token_r : Fld Z h0 r "com/example/holdfast/holdfast/Acquisition" "token" "J" (.long (0 : Int64))) (F_askAgainMillis_r : Fld Z h0 r "com/example/holdfast/holdfast/Acquisition" "askAgainMillis" "J" (.long (0 : Int64))) (F_keptBy_r : Fld Z h0 r "com/example/holdfast/holdfast/Acquisition" "keptBy" "Ljava/lang/String;" .null) (F_unreached_r : Fld Z h0 r "com/example/holdfast/holdfast/Acquisition" "unreached" "Lcom/example/holdfast/holdfast/HoldfastException;" .null) (E_r : Exa Z h0 r "com/example/holdfast/holdfast/Acquisition") (ge_r : n0 ≤ r) :
    MetFree l (⟨"com/example/holdfast/holdfast/Acquisition", "<init>", "(JJLjava/lang/String;Lcom/example/holdfast/holdfast/HoldfastException;)V"⟩ : MethodName) (head1 (Jvm.Cond.code (⟨"com/example/holdfast/holdfast/Acquisition", "<init>", "(JJLjava/lang/String;Lcom/example/holdfast/holdfast/HoldfastException;)V"⟩ : MethodName) prog_1_method_1_code 7 none :: ws) ({ frames := 1, cells := 0, slots := 0, locals := 12 } : Room)) (fun ar' U => ar' = #[(.ref r), (.long t), (.long a), .null, .null] ∧ Z.Warmed39 U.vm ∧ U.heap = h0) (fun _ _ _ _ _ => True) (fun _ U o U' => ∃ v L, o = .returned v ∧ (Q_rmI Z r t a h0 n0) v U'.heap L ∧ FrameEnd U o U' L ({ frames := 1, cells := 0, slots := 0, locals := 12 } : Room).cells ({ frames := 1, cells := 0, slots := 0, locals := 12 } : Room).slots) := by
  refine MetFree.of_bodySF (plainFor_of_name pn_com_example_holdfast_holdfast_Acquisition) hisR ?_
  intro p e s m args below meth c s₁ Bd hml0 hP hK
  obtain ⟨rfl, hZ, hh⟩ := hP
  have hx := Bd.exec
  have hby := Bd.bytes
  have hlk := BodyLoose.notSynchronized Bd
  have hml : c.maxLocals = 7 := hml0
  have hown : s.vm.findClass "com/example/holdfast/holdfast/Acquisition" = some m.cls := findClass_of_methodNamed Bd.named
  have hnm := (name_of_methodNamed Bd.named Bd.method).1
  have X0 : Stand p l e ({ frames := 1, cells := 0, slots := 0, locals := 12 } : Room) s m #[(.ref r), (.long t), (.long a), .null, .null] below meth c s₁ [] 0 0 := Stand.of_body Bd
  have e0 : s₁.heap = h0 := by rw [← hh, Bd.state]; rfl
  have N0 := Fr.nil n0
  have Z0 : n0 ≤ h0.size := O0.1 ▸ O0.2.1
  show OEnds p e below s ({ frames := 1, cells := 0, slots := 0, locals := 12 } : Room).cells ({ frames := 1, cells := 0, slots := 0, locals := 12 } : Room).slots (Q_rmI Z r t a h0 n0) (s₁.setTop (entryFrame m #[(.ref r), (.long t), (.long a), .null, .null] 7))
  refine OEnds.via (fun _ k => castTop (show entryFrame m #[(.ref r), (.long t), (.long a), .null, .null] 7 = (mkF m 0 #[.val (.ref r), .val (.long t), .second, .val (.long a), .second, .val .null, .val .null] []) by first | (simp [entryFrame, mkF, argsToLocals, Value.category, maxLocals]; done) | rfl) k) ?_
  have Kp := Keep.refl h0 [r]
  show OEnds p e below s _ _ _ (s₁.setTop (mkF m 0 #[.val (.ref r), .val (.long t), .second, .val (.long a), .second, .val .null, .val .null] []))
  refine OEnds.via (fun _ k => XS.aloadN X0.here hx rfl (hb hby d2_0) rfl rfl k) ?_
  show OEnds p e below s _ _ _ (s₁.setTop (mkF m 1 #[.val (.ref r), .val (.long t), .second, .val (.long a), .second, .val .null, .val .null] [(.ref r)]))
  obtain ⟨T1, X1, e1, st1⟩ := initO X0 hx hZ hown (hw _ (List.mem_of_getElem? (i := 11) rfl)) (hw _ (List.mem_of_getElem? (i := 12) rfl)) (hw _ (List.mem_of_getElem? (i := 13) rfl)) e0 (g := (mkF m 1 #[.val (.ref r), .val (.long t), .second, .val (.long a), .second, .val .null, .val .null] [(.ref r)])) rfl (by rw [hml]; rfl) rfl (hb hby d2_1) (by decide) (W := 0) (by show 2 * 0 + _ ≤ _; exact Nat.le_of_eq rfl) (by decide)
  refine OEnds.via (fun _ k => st1 _ k) ?_
  show OEnds p e below s _ _ _ (T1.setTop (mkF m 4 #[.val (.ref r), .val (.long t), .second, .val (.long a), .second, .val .null, .val .null] []))
  refine OEnds.via (fun _ k => XS.aloadN X1.here hx rfl (hb hby d2_4) rfl rfl k) ?_
  show OEnds p e below s _ _ _ (T1.setTop (mkF m 5 #[.val (.ref r), .val (.long t), .second, .val (.long a), .second, .val .null, .val .null] [(.ref r)]))
  refine OEnds.via (fun _ k => XS.lloadN X1.here hx rfl (hb hby d2_5) rfl k) ?_
  show OEnds p e below s _ _ _ (T1.setTop (mkF m 6 #[.val (.ref r), .val (.long t), .second, .val (.long a), .second, .val .null, .val .null] [(.long t), (.ref r)]))
  obtain ⟨T2, h2, X2, e2, W2, st2⟩ := putF X1 hx hZ hown (host := "") (Or.inl (hw _ (List.mem_of_getElem? (i := 14) rfl))) Via.refl e1 F_token_r E_r (Or.inr ⟨(hw _ (List.mem_of_getElem? (i := 15) rfl)), rfl, hnm⟩) (hw _ (List.mem_of_getElem? (i := 6) rfl)) (ty := .long) (by decide) rfl rfl (g := (mkF m 6 #[.val (.ref r), .val (.long t), .second, .val (.long a), .second, .val .null, .val .null] [(.long t), (.ref r)])) rfl rfl (hb hby d2_6)
  have N2 := Fr.snoc X2 N0 ge_r
  replace F_token_r := Fld.same W2 F_token_r
  replace F_askAgainMillis_r := Fld.other W2 F_askAgainMillis_r (Or.inr (slot_ne (Or.inr (hw _ (List.mem_of_getElem? (i := 17) rfl))) (Or.inr (hw _ (List.mem_of_getElem? (i := 15) rfl))) (by decide) (t := .long) (t' := .long) (by decide) (by decide)))
  replace F_keptBy_r := Fld.other W2 F_keptBy_r (Or.inr (slot_ne (Or.inr (hw _ (List.mem_of_getElem? (i := 19) rfl))) (Or.inr (hw _ (List.mem_of_getElem? (i := 15) rfl))) (by decide) (t := (.object "java/lang/String")) (t' := .long) (by decide) (by decide)))
  replace F_unreached_r := Fld.other W2 F_unreached_r (Or.inr (slot_ne (Or.inr (hw _ (List.mem_of_getElem? (i := 21) rfl))) (Or.inr (hw _ (List.mem_of_getElem? (i := 15) rfl))) (by decide) (t := (.object "com/example/holdfast/holdfast/HoldfastException")) (t' := .long) (by decide) (by decide)))
  replace E_r := Exa.wr W2 E_r
  replace Kp := Kp.wr W2 (Or.inl (by simp))
  refine OEnds.via (fun _ k => st2 _ k) ?_
  show OEnds p e below s _ _ _ (T2.setTop (mkF m 9 #[.val (.ref r), .val (.long t), .second, .val (.long a), .second, .val .null, .val .null] []))
  refine OEnds.via (fun _ k => XS.aloadN X2.here hx rfl (hb hby d2_9) rfl rfl k) ?_
  show OEnds p e below s _ _ _ (T2.setTop (mkF m 10 #[.val (.ref r), .val (.long t), .second, .val (.long a), .second, .val .null, .val .null] [(.ref r)]))
  refine OEnds.via (fun _ k => XS.lloadN X2.here hx rfl (hb hby d2_10) rfl k) ?_
  show OEnds p e below s _ _ _ (T2.setTop (mkF m 11 #[.val (.ref r), .val (.long t), .second, .val (.long a), .second, .val .null, .val .null] [(.long a), (.ref r)]))
  obtain ⟨T3, h3, X3, e3, W3, st3⟩ := putF X2 hx hZ hown (host := "") (Or.inl (hw _ (List.mem_of_getElem? (i := 16) rfl))) Via.refl e2 F_askAgainMillis_r E_r (Or.inr ⟨(hw _ (List.mem_of_getElem? (i := 17) rfl)), rfl, hnm⟩) (hw _ (List.mem_of_getElem? (i := 6) rfl)) (ty := .long) (by decide) rfl rfl (g := (mkF m 11 #[.val (.ref r), .val (.long t), .second, .val (.long a), .second, .val .null, .val .null] [(.long a), (.ref r)])) rfl rfl (hb hby d2_11)
  have N3 := Fr.snoc X3 N2 ge_r
  replace F_token_r := Fld.other W3 F_token_r (Or.inr (slot_ne (Or.inr (hw _ (List.mem_of_getElem? (i := 15) rfl))) (Or.inr (hw _ (List.mem_of_getElem? (i := 17) rfl))) (by decide) (t := .long) (t' := .long) (by decide) (by decide)))
  replace F_askAgainMillis_r := Fld.same W3 F_askAgainMillis_r
  replace F_keptBy_r := Fld.other W3 F_keptBy_r (Or.inr (slot_ne (Or.inr (hw _ (List.mem_of_getElem? (i := 19) rfl))) (Or.inr (hw _ (List.mem_of_getElem? (i := 17) rfl))) (by decide) (t := (.object "java/lang/String")) (t' := .long) (by decide) (by decide)))
  replace F_unreached_r := Fld.other W3 F_unreached_r (Or.inr (slot_ne (Or.inr (hw _ (List.mem_of_getElem? (i := 21) rfl))) (Or.inr (hw _ (List.mem_of_getElem? (i := 17) rfl))) (by decide) (t := (.object "com/example/holdfast/holdfast/HoldfastException")) (t' := .long) (by decide) (by decide)))
  replace E_r := Exa.wr W3 E_r
  replace Kp := Kp.wr W3 (Or.inl (by simp))
  refine OEnds.via (fun _ k => st3 _ k) ?_
  show OEnds p e below s _ _ _ (T3.setTop (mkF m 14 #[.val (.ref r), .val (.long t), .second, .val (.long a), .second, .val .null, .val .null] []))
  refine OEnds.via (fun _ k => XS.aloadN X3.here hx rfl (hb hby d2_14) rfl rfl k) ?_
  show OEnds p e below s _ _ _ (T3.setTop (mkF m 15 #[.val (.ref r), .val (.long t), .second, .val (.long a), .second, .val .null, .val .null] [(.ref r)]))
  refine OEnds.via (fun _ k => XS.aload X3.here hx rfl (hb hby d2_15) rfl rfl k) ?_
  show OEnds p e below s _ _ _ (T3.setTop (mkF m 17 #[.val (.ref r), .val (.long t), .second, .val (.long a), .second, .val .null, .val .null] [.null, (.ref r)]))
  obtain ⟨T4, h4, X4, e4, W4, st4⟩ := putF X3 hx hZ hown (host := "") (Or.inl (hw _ (List.mem_of_getElem? (i := 18) rfl))) Via.refl e3 F_keptBy_r E_r (Or.inr ⟨(hw _ (List.mem_of_getElem? (i := 19) rfl)), rfl, hnm⟩) (hw _ (List.mem_of_getElem? (i := 6) rfl)) (ty := (.object "java/lang/String")) (by decide) rfl rfl (g := (mkF m 17 #[.val (.ref r), .val (.long t), .second, .val (.long a), .second, .val .null, .val .null] [.null, (.ref r)])) rfl rfl (hb hby d2_17)
  have N4 := Fr.snoc X4 N3 ge_r
  replace F_token_r := Fld.other W4 F_token_r (Or.inr (slot_ne (Or.inr (hw _ (List.mem_of_getElem? (i := 15) rfl))) (Or.inr (hw _ (List.mem_of_getElem? (i := 19) rfl))) (by decide) (t := .long) (t' := (.object "java/lang/String")) (by decide) (by decide)))
  replace F_askAgainMillis_r := Fld.other W4 F_askAgainMillis_r (Or.inr (slot_ne (Or.inr (hw _ (List.mem_of_getElem? (i := 17) rfl))) (Or.inr (hw _ (List.mem_of_getElem? (i := 19) rfl))) (by decide) (t := .long) (t' := (.object "java/lang/String")) (by decide) (by decide)))
  replace F_keptBy_r := Fld.same W4 F_keptBy_r
  replace F_unreached_r := Fld.other W4 F_unreached_r (Or.inr (slot_ne (Or.inr (hw _ (List.mem_of_getElem? (i := 21) rfl))) (Or.inr (hw _ (List.mem_of_getElem? (i := 19) rfl))) (by decide) (t := (.object "com/example/holdfast/holdfast/HoldfastException")) (t' := (.object "java/lang/String")) (by decide) (by decide)))
  replace E_r := Exa.wr W4 E_r
  replace Kp := Kp.wr W4 (Or.inl (by simp))
  refine OEnds.via (fun _ k => st4 _ k) ?_
  show OEnds p e below s _ _ _ (T4.setTop (mkF m 20 #[.val (.ref r), .val (.long t), .second, .val (.long a), .second, .val .null, .val .null] []))
  refine OEnds.via (fun _ k => XS.aloadN X4.here hx rfl (hb hby d2_20) rfl rfl k) ?_
  show OEnds p e below s _ _ _ (T4.setTop (mkF m 21 #[.val (.ref r), .val (.long t), .second, .val (.long a), .second, .val .null, .val .null] [(.ref r)]))
  refine OEnds.via (fun _ k => XS.aload X4.here hx rfl (hb hby d2_21) rfl rfl k) ?_
  show OEnds p e below s _ _ _ (T4.setTop (mkF m 23 #[.val (.ref r), .val (.long t), .second, .val (.long a), .second, .val .null, .val .null] [.null, (.ref r)]))
  obtain ⟨T5, h5, X5, e5, W5, st5⟩ := putF X4 hx hZ hown (host := "") (Or.inl (hw _ (List.mem_of_getElem? (i := 20) rfl))) Via.refl e4 F_unreached_r E_r (Or.inr ⟨(hw _ (List.mem_of_getElem? (i := 21) rfl)), rfl, hnm⟩) (hw _ (List.mem_of_getElem? (i := 6) rfl)) (ty := (.object "com/example/holdfast/holdfast/HoldfastException")) (by decide) rfl rfl (g := (mkF m 23 #[.val (.ref r), .val (.long t), .second, .val (.long a), .second, .val .null, .val .null] [.null, (.ref r)])) rfl rfl (hb hby d2_23)
  have N5 := Fr.snoc X5 N4 ge_r
  replace F_token_r := Fld.other W5 F_token_r (Or.inr (slot_ne (Or.inr (hw _ (List.mem_of_getElem? (i := 15) rfl))) (Or.inr (hw _ (List.mem_of_getElem? (i := 21) rfl))) (by decide) (t := .long) (t' := (.object "com/example/holdfast/holdfast/HoldfastException")) (by decide) (by decide)))
  replace F_askAgainMillis_r := Fld.other W5 F_askAgainMillis_r (Or.inr (slot_ne (Or.inr (hw _ (List.mem_of_getElem? (i := 17) rfl))) (Or.inr (hw _ (List.mem_of_getElem? (i := 21) rfl))) (by decide) (t := .long) (t' := (.object "com/example/holdfast/holdfast/HoldfastException")) (by decide) (by decide)))
  replace F_keptBy_r := Fld.other W5 F_keptBy_r (Or.inr (slot_ne (Or.inr (hw _ (List.mem_of_getElem? (i := 19) rfl))) (Or.inr (hw _ (List.mem_of_getElem? (i := 21) rfl))) (by decide) (t := (.object "java/lang/String")) (t' := (.object "com/example/holdfast/holdfast/HoldfastException")) (by decide) (by decide)))
  replace F_unreached_r := Fld.same W5 F_unreached_r
  replace E_r := Exa.wr W5 E_r
  replace Kp := Kp.wr W5 (Or.inl (by simp))
  refine OEnds.via (fun _ k => st5 _ k) ?_
  show OEnds p e below s _ _ _ (T5.setTop (mkF m 26 #[.val (.ref r), .val (.long t), .second, .val (.long a), .second, .val .null, .val .null] []))
  refine OEnds.retV X5 hx hlk Bd.returns (hb hby d2_26) ?_ (by decide) (by decide)
  rw [e5]
  exact ⟨rfl, N5, Kp, E_r, F_token_r, F_askAgainMillis_r, F_keptBy_r, F_unreached_r⟩
theorem d1_0 : decode prog_1_method_2_code 0 = .ok (.new 8, 3) := by decide +kernel
theorem d1_3 : decode prog_1_method_2_code 3 = .ok (.dup, 1) := by decide +kernel
theorem d1_4 : decode prog_1_method_2_code 4 = .ok (.lload_n 0, 1) := by decide +kernel
theorem d1_5 : decode prog_1_method_2_code 5 = .ok (.ldc2_w 24, 3) := by decide +kernel
theorem d1_8 : decode prog_1_method_2_code 8 = .ok (.aconst_null, 1) := by decide +kernel
theorem d1_9 : decode prog_1_method_2_code 9 = .ok (.aconst_null, 1) := by decide +kernel
theorem d1_10 : decode prog_1_method_2_code 10 = .ok (.invokespecial 26, 3) := by decide +kernel
theorem d1_13 : decode prog_1_method_2_code 13 = .ok (.areturn, 1) := by decide +kernel
def Q_rmT (Z : State) (t : Int64) (h0 : Heap) (n0 : Nat) (v : Option Value) (h : Heap) (L : List Loc) : Prop := ∃ b, v = some (.ref b) ∧ Fr n0 L ∧ Keep h0 h [] ∧ n0 ≤ b ∧ Exa Z h b "com/example/holdfast/holdfast/Acquisition" ∧ Fld Z h b "com/example/holdfast/holdfast/Acquisition" "token" "J" (.long t) ∧ Fld Z h b "com/example/holdfast/holdfast/Acquisition" "askAgainMillis" "J" (.long (-1 : Int64)) ∧ Fld Z h b "com/example/holdfast/holdfast/Acquisition" "keptBy" "Ljava/lang/String;" .null ∧ Fld Z h b "com/example/holdfast/holdfast/Acquisition" "unreached" "Lcom/example/holdfast/holdfast/HoldfastException;" .null
theorem pd_28JJLjava2flang2fString3bLcom2fexample2fholdfast2fholdfast2fHoldfastException3b29V : parseMethodDescriptor "(JJLjava/lang/String;Lcom/example/holdfast/holdfast/HoldfastException;)V" = some ⟨[.long, .long, (.object "java/lang/String"), (.object "com/example/holdfast/holdfast/HoldfastException")], none⟩ := by decide +kernel
set_option maxRecDepth 65536 in
set_option maxHeartbeats 40000000 in
theorem rmT (l : Launch) (Z : State) (a0 : Array Value) (hw : ∀ d ∈ tables_1, d.before a0 Z = true) (ws : List Jvm.Cond) (t : Int64) (h0 : Heap) (n0 : Nat) (O0 : Old Z n0 h0) :
    MetFree l (⟨"com/example/holdfast/holdfast/Acquisition", "taken", "(J)Lcom/example/holdfast/holdfast/Acquisition;"⟩ : MethodName) (head1 (Jvm.Cond.code (⟨"com/example/holdfast/holdfast/Acquisition", "taken", "(J)Lcom/example/holdfast/holdfast/Acquisition;"⟩ : MethodName) prog_1_method_2_code 2 (some (.object "com/example/holdfast/holdfast/Acquisition")) :: ws) ({ frames := 2, cells := 1, slots := 4, locals := 64 } : Room)) (fun ar' U => ar' = #[(.long t)] ∧ Z.Warmed39 U.vm ∧ U.heap = h0) (fun _ _ _ _ _ => True) (fun _ U o U' => ∃ v L, o = .returned v ∧ (Q_rmT Z t h0 n0) v U'.heap L ∧ FrameEnd U o U' L ({ frames := 2, cells := 1, slots := 4, locals := 64 } : Room).cells ({ frames := 2, cells := 1, slots := 4, locals := 64 } : Room).slots) := by
  refine MetFree.of_bodySF (plainFor_of_name pn_com_example_holdfast_holdfast_Acquisition) hisR ?_
  intro p e s m args below meth c s₁ Bd hml0 hP hK
  obtain ⟨rfl, hZ, hh⟩ := hP
  have hx := Bd.exec
  have hby := Bd.bytes
  have hlk := BodyLoose.notSynchronized Bd
  have hml : c.maxLocals = 2 := hml0
  have hown : s.vm.findClass "com/example/holdfast/holdfast/Acquisition" = some m.cls := findClass_of_methodNamed Bd.named
  have hnm := (name_of_methodNamed Bd.named Bd.method).1
  have X0 : Stand p l e ({ frames := 2, cells := 1, slots := 4, locals := 64 } : Room) s m #[(.long t)] below meth c s₁ [] 0 0 := Stand.of_body Bd
  have e0 : s₁.heap = h0 := by rw [← hh, Bd.state]; rfl
  have N0 := Fr.nil n0
  have Z0 : n0 ≤ h0.size := O0.1 ▸ O0.2.1
  show OEnds p e below s ({ frames := 2, cells := 1, slots := 4, locals := 64 } : Room).cells ({ frames := 2, cells := 1, slots := 4, locals := 64 } : Room).slots (Q_rmT Z t h0 n0) (s₁.setTop (entryFrame m #[(.long t)] 2))
  refine OEnds.via (fun _ k => castTop (show entryFrame m #[(.long t)] 2 = (mkF m 0 #[.val (.long t), .second] []) by first | (simp [entryFrame, mkF, argsToLocals, Value.category, maxLocals]; done) | rfl) k) ?_
  have Od := O0
  have Kp := Keep.refl h0 []
  show OEnds p e below s _ _ _ (s₁.setTop (mkF m 0 #[.val (.long t), .second] []))
  obtain ⟨T1, h1, X1, e1, E1, A1, D1, -, st1⟩ := newO X0 hx hZ hown (hw _ (List.mem_of_getElem? (i := 5) rfl)) (hw _ (List.mem_of_getElem? (i := 6) rfl)) (hw _ (List.mem_of_getElem? (i := 3) rfl)) e0 (g := (mkF m 0 #[.val (.long t), .second] [])) rfl (hb hby d1_0) (by decide) (by decide)
  obtain ⟨b1, g1⟩ : ∃ z, z = h0.size := ⟨_, rfl⟩
  have ge_b1 : n0 ≤ b1 := Nat.le_trans (Od.1 ▸ Od.2.1) (Nat.le_of_eq g1.symm)
  have sz_b1 : h0.size ≤ b1 := Nat.le_trans Kp.1 (Nat.le_of_eq g1.symm)
  rw [← g1] at A1 D1 st1
  replace Od := Od.ext E1
  replace Kp := Kp.ext E1
  have E_b1 : Exa Z h1 b1 "com/example/holdfast/holdfast/Acquisition" := A1
  have F_token_b1 : Fld Z h1 b1 "com/example/holdfast/holdfast/Acquisition" "token" "J" (.long (0 : Int64)) := D1 (Or.inr (hw _ (List.mem_of_getElem? (i := 15) rfl))) (ty := .long) (by decide)
  have F_askAgainMillis_b1 : Fld Z h1 b1 "com/example/holdfast/holdfast/Acquisition" "askAgainMillis" "J" (.long (0 : Int64)) := D1 (Or.inr (hw _ (List.mem_of_getElem? (i := 17) rfl))) (ty := .long) (by decide)
  have F_keptBy_b1 : Fld Z h1 b1 "com/example/holdfast/holdfast/Acquisition" "keptBy" "Ljava/lang/String;" .null := D1 (Or.inr (hw _ (List.mem_of_getElem? (i := 19) rfl))) (ty := (.object "java/lang/String")) (by decide)
  have F_unreached_b1 : Fld Z h1 b1 "com/example/holdfast/holdfast/Acquisition" "unreached" "Lcom/example/holdfast/holdfast/HoldfastException;" .null := D1 (Or.inr (hw _ (List.mem_of_getElem? (i := 21) rfl))) (ty := (.object "com/example/holdfast/holdfast/HoldfastException")) (by decide)
  refine OEnds.via (fun _ k => st1 _ k) ?_
  show OEnds p e below s _ _ _ (T1.setTop (mkF m 3 #[.val (.long t), .second] [(.ref b1)]))
  refine OEnds.via (fun _ k => XS.dup X1.here hx rfl (hb hby d1_3) rfl rfl k) ?_
  show OEnds p e below s _ _ _ (T1.setTop (mkF m 4 #[.val (.long t), .second] [(.ref b1), (.ref b1)]))
  refine OEnds.via (fun _ k => XS.lloadN X1.here hx rfl (hb hby d1_4) rfl k) ?_
  show OEnds p e below s _ _ _ (T1.setTop (mkF m 5 #[.val (.long t), .second] [(.long t), (.ref b1), (.ref b1)]))
  refine OEnds.via (fun _ k => X1.ldc2Long hx hown (mvT hZ (hw _ (List.mem_of_getElem? (i := 7) rfl))) (g := (mkF m 5 #[.val (.long t), .second] [(.long t), (.ref b1), (.ref b1)])) rfl (hb hby d1_5) _ k) ?_
  show OEnds p e below s _ _ _ (T1.setTop (mkF m 8 #[.val (.long t), .second] [(.long (-1 : Int64)), (.long t), (.ref b1), (.ref b1)]))
  refine OEnds.via (fun _ k => XS.aconstNull X1.here hx rfl (hb hby d1_8) k) ?_
  show OEnds p e below s _ _ _ (T1.setTop (mkF m 9 #[.val (.long t), .second] [.null, (.long (-1 : Int64)), (.long t), (.ref b1), (.ref b1)]))
  refine OEnds.via (fun _ k => XS.aconstNull X1.here hx rfl (hb hby d1_9) k) ?_
  show OEnds p e below s _ _ _ (T1.setTop (mkF m 10 #[.val (.long t), .second] [.null, .null, (.long (-1 : Int64)), (.long t), (.ref b1), (.ref b1)]))
  obtain ⟨_, _, ⟨T2, L2, k2, n2⟩, -, X2, ⟨Lc2, hQ2, l2, y2, z2⟩, st2⟩ := X1.specialBack hx (y := (⟨"com/example/holdfast/holdfast/Acquisition", "<init>", "(JJLjava/lang/String;Lcom/example/holdfast/holdfast/HoldfastException;)V"⟩ : MethodName)) rfl hown (mvT hZ (hw _ (List.mem_of_getElem? (i := 8) rfl))) (mvT hZ (hw _ (List.mem_of_getElem? (i := 9) rfl))) (mvT hZ (hw _ (List.mem_of_getElem? (i := 10) rfl))) (by decide) (backOf (W := 1) (rmI l Z a0 hw [] b1 t (-1 : Int64) h1 n0 Od F_token_b1 F_askAgainMillis_b1 F_keptBy_b1 F_unreached_b1 E_b1 ge_b1) hZ (hw _ (List.mem_of_getElem? (i := 10) rfl)) (hw _ (List.mem_of_getElem? (i := 3) rfl)) (by decide) (by decide)) (g := (mkF m 10 #[.val (.long t), .second] [.null, .null, (.long (-1 : Int64)), (.long t), (.ref b1), (.ref b1)])) rfl (by rw [hml]; rfl) (Steps.refl _) (a := b1) (argsL := [(.long t), (.long (-1 : Int64)), .null, .null]) (rest := [(.ref b1)]) (lenOf pd_28JJLjava2flang2fString3bLcom2fexample2fholdfast2fholdfast2fHoldfastException3b29V rfl) rfl (by show 2 * 0 + _ ≤ _; exact Nat.le_of_eq rfl) (hb hby d1_10) (fun _ _ => ⟨rfl, e1, Nat.le_of_ble_eq_true rfl, Nat.le_of_ble_eq_true rfl⟩)
  dsimp only [Pt.U, Pt.locs, Pt.cells, Pt.slots] at X2 l2 y2 z2 st2 hQ2
  subst l2 y2 z2
  obtain ⟨rfl, N2q, K2, G2, G_token, G_askAgainMillis, G_keptBy, G_unreached⟩ := hQ2
  have N2 := Fr.app N0 N2q
  replace Od := Od.keep K2 (allS ge_b1 all0)
  replace Kp := Kp.trans K2 (allS (Or.inr sz_b1) all0)
  replace E_b1 := E_b1.keep K2
  refine OEnds.via (fun _ k => st2.trans k) ?_
  show OEnds p e below s _ _ _ (T2.setTop (mkF m 13 #[.val (.long t), .second] [(.ref b1)]))
  refine OEnds.retR X2 hx hlk Bd.returns rfl rfl (hb hby d1_13) ?_ (by decide) (by decide)
  exact ⟨_, rfl, N2, Kp, ge_b1, E_b1, G_token, G_askAgainMillis, G_keptBy, G_unreached⟩
theorem d4_0 : decode prog_1_method_7_code 0 = .ok (.aload_n 0, 1) := by decide +kernel
theorem d4_1 : decode prog_1_method_7_code 1 = .ok (.getfield 7, 3) := by decide +kernel
theorem d4_4 : decode prog_1_method_7_code 4 = .ok (.lconst 0, 1) := by decide +kernel
theorem d4_5 : decode prog_1_method_7_code 5 = .ok (.lcmp, 1) := by decide +kernel
theorem d4_6 : decode prog_1_method_7_code 6 = .ok (.ifCond .le 7, 3) := by decide +kernel
theorem d4_9 : decode prog_1_method_7_code 9 = .ok (.iconst 1, 1) := by decide +kernel
theorem d4_10 : decode prog_1_method_7_code 10 = .ok (.goto 4, 3) := by decide +kernel
theorem d4_13 : decode prog_1_method_7_code 13 = .ok (.iconst 0, 1) := by decide +kernel
theorem d4_14 : decode prog_1_method_7_code 14 = .ok (.ireturn, 1) := by decide +kernel
set_option maxRecDepth 65536 in
set_option maxHeartbeats 40000000 in
theorem rm_isTaken (l : Launch) (Z : State) (a0 : Array Value) (hw : ∀ d ∈ tables_1, d.before a0 Z = true) (ws : List Jvm.Cond) (r : Addr) (t : Int64) (h0 : Heap) (n0 : Nat) (O0 : Old Z n0 h0) (F : Fld Z h0 r "com/example/holdfast/holdfast/Acquisition" "token" "J" (.long t)) (hpos : (0 : Int64) < t) :
    MetFree l (⟨"com/example/holdfast/holdfast/Acquisition", "isTaken", "()Z"⟩ : MethodName) (head1 (Jvm.Cond.code (⟨"com/example/holdfast/holdfast/Acquisition", "isTaken", "()Z"⟩ : MethodName) prog_1_method_7_code 1 (some .boolean) :: ws) ({ frames := 0, cells := 0, slots := 0, locals := 0 } : Room)) (fun ar' U => ar' = #[(.ref r)] ∧ Z.Warmed39 U.vm ∧ U.heap = h0) (fun _ _ _ _ _ => True) (fun _ U o U' => ∃ v L, o = .returned v ∧ (QA (some (.int (1 : Int32))) h0 n0) v U'.heap L ∧ FrameEnd U o U' L ({ frames := 0, cells := 0, slots := 0, locals := 0 } : Room).cells ({ frames := 0, cells := 0, slots := 0, locals := 0 } : Room).slots) := by
  refine MetFree.of_bodySF (plainFor_of_name pn_com_example_holdfast_holdfast_Acquisition) hisR ?_
  intro p e s m args below meth c s₁ Bd hml0 hP hK
  obtain ⟨rfl, hZ, hh⟩ := hP
  have hx := Bd.exec
  have hby := Bd.bytes
  have hlk := BodyLoose.notSynchronized Bd
  have hml : c.maxLocals = 1 := hml0
  have hown : s.vm.findClass "com/example/holdfast/holdfast/Acquisition" = some m.cls := findClass_of_methodNamed Bd.named
  have hnm := (name_of_methodNamed Bd.named Bd.method).1
  have X0 : Stand p l e ({ frames := 0, cells := 0, slots := 0, locals := 0 } : Room) s m #[(.ref r)] below meth c s₁ [] 0 0 := Stand.of_body Bd
  have e0 : s₁.heap = h0 := by rw [← hh, Bd.state]; rfl
  have N0 := Fr.nil n0
  have Z0 : n0 ≤ h0.size := O0.1 ▸ O0.2.1
  show OEnds p e below s ({ frames := 0, cells := 0, slots := 0, locals := 0 } : Room).cells ({ frames := 0, cells := 0, slots := 0, locals := 0 } : Room).slots (QA (some (.int (1 : Int32))) h0 n0) (s₁.setTop (entryFrame m #[(.ref r)] 1))
  refine OEnds.via (fun _ k => castTop (show entryFrame m #[(.ref r)] 1 = (mkF m 0 #[.val (.ref r)] []) by first | (simp [entryFrame, mkF, argsToLocals, Value.category, maxLocals]; done) | rfl) k) ?_
  show OEnds p e below s _ _ _ (s₁.setTop (mkF m 0 #[.val (.ref r)] []))
  refine OEnds.via (fun _ k => XS.aloadN X0.here hx rfl (hb hby d4_0) rfl rfl k) ?_
  show OEnds p e below s _ _ _ (s₁.setTop (mkF m 1 #[.val (.ref r)] [(.ref r)]))
  obtain ⟨T1, X1, e1, st1⟩ := getF X0 hx hZ hown (host := "") (Or.inl (hw _ (List.mem_of_getElem? (i := 14) rfl))) Via.refl e0 F (g := (mkF m 1 #[.val (.ref r)] [(.ref r)])) rfl rfl (hb hby d4_1)
  refine OEnds.via (fun _ k => st1 _ k) ?_
  show OEnds p e below s _ _ _ (T1.setTop (mkF m 4 #[.val (.ref r)] [(.long t)]))
  refine OEnds.via (fun _ k => XS.lconst X1.here hx rfl (hb hby d4_4) k) ?_
  show OEnds p e below s _ _ _ (T1.setTop (mkF m 5 #[.val (.ref r)] [(.long (0 : Int64)), (.long t)]))
  refine OEnds.via (fun _ k => XS.lcmp X1.here hx rfl (hb hby d4_5) rfl k) ?_
  show OEnds p e below s _ _ _ (T1.setTop (mkF m 6 #[.val (.ref r)] [(.int (lcmpW t (0 : Int64)))]))
  refine OEnds.via (fun _ k => XS.ifNo X1.here hx rfl (hb hby d4_6) rfl ((if0 _ _).trans (tlt (own_lcpos hpos)).2.2.2) k) ?_
  show OEnds p e below s _ _ _ (T1.setTop (mkF m 9 #[.val (.ref r)] []))
  refine OEnds.via (fun _ k => XS.iconst X1.here hx rfl (hb hby d4_9) k) ?_
  show OEnds p e below s _ _ _ (T1.setTop (mkF m 10 #[.val (.ref r)] [(.int (1 : Int32))]))
  refine OEnds.via (fun _ k => XS.goto X1.here hx rfl (pc0 := 10) (pc' := 14) rfl (hb hby d4_10) (by decide) (by decide) k) ?_
  show OEnds p e below s _ _ _ (T1.setTop (mkF m 14 #[.val (.ref r)] [(.int (1 : Int32))]))
  refine OEnds.retN X1 hx hlk (t := .boolean) Bd.returns (by simp) (hb hby d4_14) ?_ (by decide) (by decide)
  exact ⟨rfl, N0, e1⟩
theorem d5_0 : decode prog_1_method_12_code 0 = .ok (.aload_n 0, 1) := by decide +kernel
theorem d5_1 : decode prog_1_method_12_code 1 = .ok (.getfield 7, 3) := by decide +kernel
theorem d5_4 : decode prog_1_method_12_code 4 = .ok (.lreturn, 1) := by decide +kernel
set_option maxRecDepth 65536 in
set_option maxHeartbeats 40000000 in
theorem rm_token (l : Launch) (Z : State) (a0 : Array Value) (hw : ∀ d ∈ tables_1, d.before a0 Z = true) (ws : List Jvm.Cond) (r : Addr) (t : Int64) (h0 : Heap) (n0 : Nat) (O0 : Old Z n0 h0) (F : Fld Z h0 r "com/example/holdfast/holdfast/Acquisition" "token" "J" (.long t)) :
    MetFree l (⟨"com/example/holdfast/holdfast/Acquisition", "token", "()J"⟩ : MethodName) (head1 (Jvm.Cond.code (⟨"com/example/holdfast/holdfast/Acquisition", "token", "()J"⟩ : MethodName) prog_1_method_12_code 1 (some .long) :: ws) ({ frames := 0, cells := 0, slots := 0, locals := 0 } : Room)) (fun ar' U => ar' = #[(.ref r)] ∧ Z.Warmed39 U.vm ∧ U.heap = h0) (fun _ _ _ _ _ => True) (fun _ U o U' => ∃ v L, o = .returned v ∧ (QA (some (.long t)) h0 n0) v U'.heap L ∧ FrameEnd U o U' L ({ frames := 0, cells := 0, slots := 0, locals := 0 } : Room).cells ({ frames := 0, cells := 0, slots := 0, locals := 0 } : Room).slots) := by
  refine MetFree.of_bodySF (plainFor_of_name pn_com_example_holdfast_holdfast_Acquisition) hisR ?_
  intro p e s m args below meth c s₁ Bd hml0 hP hK
  obtain ⟨rfl, hZ, hh⟩ := hP
  have hx := Bd.exec
  have hby := Bd.bytes
  have hlk := BodyLoose.notSynchronized Bd
  have hml : c.maxLocals = 1 := hml0
  have hown : s.vm.findClass "com/example/holdfast/holdfast/Acquisition" = some m.cls := findClass_of_methodNamed Bd.named
  have hnm := (name_of_methodNamed Bd.named Bd.method).1
  have X0 : Stand p l e ({ frames := 0, cells := 0, slots := 0, locals := 0 } : Room) s m #[(.ref r)] below meth c s₁ [] 0 0 := Stand.of_body Bd
  have e0 : s₁.heap = h0 := by rw [← hh, Bd.state]; rfl
  have N0 := Fr.nil n0
  have Z0 : n0 ≤ h0.size := O0.1 ▸ O0.2.1
  show OEnds p e below s ({ frames := 0, cells := 0, slots := 0, locals := 0 } : Room).cells ({ frames := 0, cells := 0, slots := 0, locals := 0 } : Room).slots (QA (some (.long t)) h0 n0) (s₁.setTop (entryFrame m #[(.ref r)] 1))
  refine OEnds.via (fun _ k => castTop (show entryFrame m #[(.ref r)] 1 = (mkF m 0 #[.val (.ref r)] []) by first | (simp [entryFrame, mkF, argsToLocals, Value.category, maxLocals]; done) | rfl) k) ?_
  show OEnds p e below s _ _ _ (s₁.setTop (mkF m 0 #[.val (.ref r)] []))
  refine OEnds.via (fun _ k => XS.aloadN X0.here hx rfl (hb hby d5_0) rfl rfl k) ?_
  show OEnds p e below s _ _ _ (s₁.setTop (mkF m 1 #[.val (.ref r)] [(.ref r)]))
  obtain ⟨T1, X1, e1, st1⟩ := getF X0 hx hZ hown (host := "") (Or.inl (hw _ (List.mem_of_getElem? (i := 14) rfl))) Via.refl e0 F (g := (mkF m 1 #[.val (.ref r)] [(.ref r)])) rfl rfl (hb hby d5_1)
  refine OEnds.via (fun _ k => st1 _ k) ?_
  show OEnds p e below s _ _ _ (T1.setTop (mkF m 4 #[.val (.ref r)] [(.long t)]))
  refine OEnds.retJ X1 hx hlk Bd.returns (hb hby d5_4) ?_ (by decide) (by decide)
  exact ⟨rfl, N0, e1⟩
theorem d6_0 : decode prog_1_method_13_code 0 = .ok (.aload_n 0, 1) := by decide +kernel
theorem d6_1 : decode prog_1_method_13_code 1 = .ok (.getfield 13, 3) := by decide +kernel
theorem d6_4 : decode prog_1_method_13_code 4 = .ok (.lreturn, 1) := by decide +kernel
set_option maxRecDepth 65536 in
set_option maxHeartbeats 40000000 in
theorem rm_askAgainMillis (l : Launch) (Z : State) (a0 : Array Value) (hw : ∀ d ∈ tables_1, d.before a0 Z = true) (ws : List Jvm.Cond) (r : Addr) (t : Int64) (h0 : Heap) (n0 : Nat) (O0 : Old Z n0 h0) (F : Fld Z h0 r "com/example/holdfast/holdfast/Acquisition" "askAgainMillis" "J" (.long t)) :
    MetFree l (⟨"com/example/holdfast/holdfast/Acquisition", "askAgainMillis", "()J"⟩ : MethodName) (head1 (Jvm.Cond.code (⟨"com/example/holdfast/holdfast/Acquisition", "askAgainMillis", "()J"⟩ : MethodName) prog_1_method_13_code 1 (some .long) :: ws) ({ frames := 0, cells := 0, slots := 0, locals := 0 } : Room)) (fun ar' U => ar' = #[(.ref r)] ∧ Z.Warmed39 U.vm ∧ U.heap = h0) (fun _ _ _ _ _ => True) (fun _ U o U' => ∃ v L, o = .returned v ∧ (QA (some (.long t)) h0 n0) v U'.heap L ∧ FrameEnd U o U' L ({ frames := 0, cells := 0, slots := 0, locals := 0 } : Room).cells ({ frames := 0, cells := 0, slots := 0, locals := 0 } : Room).slots) := by
  refine MetFree.of_bodySF (plainFor_of_name pn_com_example_holdfast_holdfast_Acquisition) hisR ?_
  intro p e s m args below meth c s₁ Bd hml0 hP hK
  obtain ⟨rfl, hZ, hh⟩ := hP
  have hx := Bd.exec
  have hby := Bd.bytes
  have hlk := BodyLoose.notSynchronized Bd
  have hml : c.maxLocals = 1 := hml0
  have hown : s.vm.findClass "com/example/holdfast/holdfast/Acquisition" = some m.cls := findClass_of_methodNamed Bd.named
  have hnm := (name_of_methodNamed Bd.named Bd.method).1
  have X0 : Stand p l e ({ frames := 0, cells := 0, slots := 0, locals := 0 } : Room) s m #[(.ref r)] below meth c s₁ [] 0 0 := Stand.of_body Bd
  have e0 : s₁.heap = h0 := by rw [← hh, Bd.state]; rfl
  have N0 := Fr.nil n0
  have Z0 : n0 ≤ h0.size := O0.1 ▸ O0.2.1
  show OEnds p e below s ({ frames := 0, cells := 0, slots := 0, locals := 0 } : Room).cells ({ frames := 0, cells := 0, slots := 0, locals := 0 } : Room).slots (QA (some (.long t)) h0 n0) (s₁.setTop (entryFrame m #[(.ref r)] 1))
  refine OEnds.via (fun _ k => castTop (show entryFrame m #[(.ref r)] 1 = (mkF m 0 #[.val (.ref r)] []) by first | (simp [entryFrame, mkF, argsToLocals, Value.category, maxLocals]; done) | rfl) k) ?_
  show OEnds p e below s _ _ _ (s₁.setTop (mkF m 0 #[.val (.ref r)] []))
  refine OEnds.via (fun _ k => XS.aloadN X0.here hx rfl (hb hby d6_0) rfl rfl k) ?_
  show OEnds p e below s _ _ _ (s₁.setTop (mkF m 1 #[.val (.ref r)] [(.ref r)]))
  obtain ⟨T1, X1, e1, st1⟩ := getF X0 hx hZ hown (host := "") (Or.inl (hw _ (List.mem_of_getElem? (i := 16) rfl))) Via.refl e0 F (g := (mkF m 1 #[.val (.ref r)] [(.ref r)])) rfl rfl (hb hby d6_1)
  refine OEnds.via (fun _ k => st1 _ k) ?_
  show OEnds p e below s _ _ _ (T1.setTop (mkF m 4 #[.val (.ref r)] [(.long t)]))
  refine OEnds.retJ X1 hx hlk Bd.returns (hb hby d6_4) ?_ (by decide) (by decide)
  exact ⟨rfl, N0, e1⟩
theorem d7_0 : decode prog_1_method_14_code 0 = .ok (.aload_n 0, 1) := by decide +kernel
theorem d7_1 : decode prog_1_method_14_code 1 = .ok (.getfield 16, 3) := by decide +kernel
theorem d7_4 : decode prog_1_method_14_code 4 = .ok (.areturn, 1) := by decide +kernel
set_option maxRecDepth 65536 in
set_option maxHeartbeats 40000000 in
theorem rm_keptBy (l : Launch) (Z : State) (a0 : Array Value) (hw : ∀ d ∈ tables_1, d.before a0 Z = true) (ws : List Jvm.Cond) (r : Addr) (h0 : Heap) (n0 : Nat) (O0 : Old Z n0 h0) (F : Fld Z h0 r "com/example/holdfast/holdfast/Acquisition" "keptBy" "Ljava/lang/String;" .null) :
    MetFree l (⟨"com/example/holdfast/holdfast/Acquisition", "keptBy", "()Ljava/lang/String;"⟩ : MethodName) (head1 (Jvm.Cond.code (⟨"com/example/holdfast/holdfast/Acquisition", "keptBy", "()Ljava/lang/String;"⟩ : MethodName) prog_1_method_14_code 1 (some (.object "java/lang/String")) :: ws) ({ frames := 0, cells := 0, slots := 0, locals := 0 } : Room)) (fun ar' U => ar' = #[(.ref r)] ∧ Z.Warmed39 U.vm ∧ U.heap = h0) (fun _ _ _ _ _ => True) (fun _ U o U' => ∃ v L, o = .returned v ∧ (QA (some .null) h0 n0) v U'.heap L ∧ FrameEnd U o U' L ({ frames := 0, cells := 0, slots := 0, locals := 0 } : Room).cells ({ frames := 0, cells := 0, slots := 0, locals := 0 } : Room).slots) := by
  refine MetFree.of_bodySF (plainFor_of_name pn_com_example_holdfast_holdfast_Acquisition) hisR ?_
  intro p e s m args below meth c s₁ Bd hml0 hP hK
  obtain ⟨rfl, hZ, hh⟩ := hP
  have hx := Bd.exec
  have hby := Bd.bytes
  have hlk := BodyLoose.notSynchronized Bd
  have hml : c.maxLocals = 1 := hml0
  have hown : s.vm.findClass "com/example/holdfast/holdfast/Acquisition" = some m.cls := findClass_of_methodNamed Bd.named
  have hnm := (name_of_methodNamed Bd.named Bd.method).1
  have X0 : Stand p l e ({ frames := 0, cells := 0, slots := 0, locals := 0 } : Room) s m #[(.ref r)] below meth c s₁ [] 0 0 := Stand.of_body Bd
  have e0 : s₁.heap = h0 := by rw [← hh, Bd.state]; rfl
  have N0 := Fr.nil n0
  have Z0 : n0 ≤ h0.size := O0.1 ▸ O0.2.1
  show OEnds p e below s ({ frames := 0, cells := 0, slots := 0, locals := 0 } : Room).cells ({ frames := 0, cells := 0, slots := 0, locals := 0 } : Room).slots (QA (some .null) h0 n0) (s₁.setTop (entryFrame m #[(.ref r)] 1))
  refine OEnds.via (fun _ k => castTop (show entryFrame m #[(.ref r)] 1 = (mkF m 0 #[.val (.ref r)] []) by first | (simp [entryFrame, mkF, argsToLocals, Value.category, maxLocals]; done) | rfl) k) ?_
  show OEnds p e below s _ _ _ (s₁.setTop (mkF m 0 #[.val (.ref r)] []))
  refine OEnds.via (fun _ k => XS.aloadN X0.here hx rfl (hb hby d7_0) rfl rfl k) ?_
  show OEnds p e below s _ _ _ (s₁.setTop (mkF m 1 #[.val (.ref r)] [(.ref r)]))
  obtain ⟨T1, X1, e1, st1⟩ := getF X0 hx hZ hown (host := "") (Or.inl (hw _ (List.mem_of_getElem? (i := 18) rfl))) Via.refl e0 F (g := (mkF m 1 #[.val (.ref r)] [(.ref r)])) rfl rfl (hb hby d7_1)
  refine OEnds.via (fun _ k => st1 _ k) ?_
  show OEnds p e below s _ _ _ (T1.setTop (mkF m 4 #[.val (.ref r)] [.null]))
  refine OEnds.retR X1 hx hlk Bd.returns rfl rfl (hb hby d7_4) ?_ (by decide) (by decide)
  exact ⟨rfl, N0, e1⟩
theorem d10_0 : decode prog_1_method_10_code 0 = .ok (.aload_n 0, 1) := by decide +kernel
theorem d10_1 : decode prog_1_method_10_code 1 = .ok (.getfield 20, 3) := by decide +kernel
theorem d10_4 : decode prog_1_method_10_code 4 = .ok (.ifnull 7, 3) := by decide +kernel
theorem d10_7 : decode prog_1_method_10_code 7 = .ok (.iconst 1, 1) := by decide +kernel
theorem d10_8 : decode prog_1_method_10_code 8 = .ok (.goto 4, 3) := by decide +kernel
theorem d10_11 : decode prog_1_method_10_code 11 = .ok (.iconst 0, 1) := by decide +kernel
theorem d10_12 : decode prog_1_method_10_code 12 = .ok (.ireturn, 1) := by decide +kernel
set_option maxRecDepth 65536 in
set_option maxHeartbeats 40000000 in
theorem rm_isUnreached (l : Launch) (Z : State) (a0 : Array Value) (hw : ∀ d ∈ tables_1, d.before a0 Z = true) (ws : List Jvm.Cond) (r : Addr) (h0 : Heap) (n0 : Nat) (O0 : Old Z n0 h0) (F : Fld Z h0 r "com/example/holdfast/holdfast/Acquisition" "unreached" "Lcom/example/holdfast/holdfast/HoldfastException;" .null) :
    MetFree l (⟨"com/example/holdfast/holdfast/Acquisition", "isUnreached", "()Z"⟩ : MethodName) (head1 (Jvm.Cond.code (⟨"com/example/holdfast/holdfast/Acquisition", "isUnreached", "()Z"⟩ : MethodName) prog_1_method_10_code 1 (some .boolean) :: ws) ({ frames := 0, cells := 0, slots := 0, locals := 0 } : Room)) (fun ar' U => ar' = #[(.ref r)] ∧ Z.Warmed39 U.vm ∧ U.heap = h0) (fun _ _ _ _ _ => True) (fun _ U o U' => ∃ v L, o = .returned v ∧ (QA (some (.int (0 : Int32))) h0 n0) v U'.heap L ∧ FrameEnd U o U' L ({ frames := 0, cells := 0, slots := 0, locals := 0 } : Room).cells ({ frames := 0, cells := 0, slots := 0, locals := 0 } : Room).slots) := by
  refine MetFree.of_bodySF (plainFor_of_name pn_com_example_holdfast_holdfast_Acquisition) hisR ?_
  intro p e s m args below meth c s₁ Bd hml0 hP hK
  obtain ⟨rfl, hZ, hh⟩ := hP
  have hx := Bd.exec
  have hby := Bd.bytes
  have hlk := BodyLoose.notSynchronized Bd
  have hml : c.maxLocals = 1 := hml0
  have hown : s.vm.findClass "com/example/holdfast/holdfast/Acquisition" = some m.cls := findClass_of_methodNamed Bd.named
  have hnm := (name_of_methodNamed Bd.named Bd.method).1
  have X0 : Stand p l e ({ frames := 0, cells := 0, slots := 0, locals := 0 } : Room) s m #[(.ref r)] below meth c s₁ [] 0 0 := Stand.of_body Bd
  have e0 : s₁.heap = h0 := by rw [← hh, Bd.state]; rfl
  have N0 := Fr.nil n0
  have Z0 : n0 ≤ h0.size := O0.1 ▸ O0.2.1
  show OEnds p e below s ({ frames := 0, cells := 0, slots := 0, locals := 0 } : Room).cells ({ frames := 0, cells := 0, slots := 0, locals := 0 } : Room).slots (QA (some (.int (0 : Int32))) h0 n0) (s₁.setTop (entryFrame m #[(.ref r)] 1))
  refine OEnds.via (fun _ k => castTop (show entryFrame m #[(.ref r)] 1 = (mkF m 0 #[.val (.ref r)] []) by first | (simp [entryFrame, mkF, argsToLocals, Value.category, maxLocals]; done) | rfl) k) ?_
  show OEnds p e below s _ _ _ (s₁.setTop (mkF m 0 #[.val (.ref r)] []))
  refine OEnds.via (fun _ k => XS.aloadN X0.here hx rfl (hb hby d10_0) rfl rfl k) ?_
  show OEnds p e below s _ _ _ (s₁.setTop (mkF m 1 #[.val (.ref r)] [(.ref r)]))
  obtain ⟨T1, X1, e1, st1⟩ := getF X0 hx hZ hown (host := "") (Or.inl (hw _ (List.mem_of_getElem? (i := 20) rfl))) Via.refl e0 F (g := (mkF m 1 #[.val (.ref r)] [(.ref r)])) rfl rfl (hb hby d10_1)
  refine OEnds.via (fun _ k => st1 _ k) ?_
  show OEnds p e below s _ _ _ (T1.setTop (mkF m 4 #[.val (.ref r)] [.null]))
  refine OEnds.via (fun _ k => XS.ifnullYes X1.here hx rfl (pc0 := 4) (pc' := 11) rfl (hb hby d10_4) rfl (by decide) (by decide) k) ?_
  show OEnds p e below s _ _ _ (T1.setTop (mkF m 11 #[.val (.ref r)] []))
  refine OEnds.via (fun _ k => XS.iconst X1.here hx rfl (hb hby d10_11) k) ?_
  show OEnds p e below s _ _ _ (T1.setTop (mkF m 12 #[.val (.ref r)] [(.int (0 : Int32))]))
  refine OEnds.retN X1 hx hlk (t := .boolean) Bd.returns (by simp) (hb hby d10_12) ?_ (by decide) (by decide)
  exact ⟨rfl, N0, e1⟩
theorem d11_0 : decode prog_1_method_11_code 0 = .ok (.aload_n 0, 1) := by decide +kernel
theorem d11_1 : decode prog_1_method_11_code 1 = .ok (.getfield 20, 3) := by decide +kernel
theorem d11_4 : decode prog_1_method_11_code 4 = .ok (.areturn, 1) := by decide +kernel
set_option maxRecDepth 65536 in
set_option maxHeartbeats 40000000 in
theorem rm_unreachedBy (l : Launch) (Z : State) (a0 : Array Value) (hw : ∀ d ∈ tables_1, d.before a0 Z = true) (ws : List Jvm.Cond) (r : Addr) (h0 : Heap) (n0 : Nat) (O0 : Old Z n0 h0) (F : Fld Z h0 r "com/example/holdfast/holdfast/Acquisition" "unreached" "Lcom/example/holdfast/holdfast/HoldfastException;" .null) :
    MetFree l (⟨"com/example/holdfast/holdfast/Acquisition", "unreachedBy", "()Lcom/example/holdfast/holdfast/HoldfastException;"⟩ : MethodName) (head1 (Jvm.Cond.code (⟨"com/example/holdfast/holdfast/Acquisition", "unreachedBy", "()Lcom/example/holdfast/holdfast/HoldfastException;"⟩ : MethodName) prog_1_method_11_code 1 (some (.object "com/example/holdfast/holdfast/HoldfastException")) :: ws) ({ frames := 0, cells := 0, slots := 0, locals := 0 } : Room)) (fun ar' U => ar' = #[(.ref r)] ∧ Z.Warmed39 U.vm ∧ U.heap = h0) (fun _ _ _ _ _ => True) (fun _ U o U' => ∃ v L, o = .returned v ∧ (QA (some .null) h0 n0) v U'.heap L ∧ FrameEnd U o U' L ({ frames := 0, cells := 0, slots := 0, locals := 0 } : Room).cells ({ frames := 0, cells := 0, slots := 0, locals := 0 } : Room).slots) := by
  refine MetFree.of_bodySF (plainFor_of_name pn_com_example_holdfast_holdfast_Acquisition) hisR ?_
  intro p e s m args below meth c s₁ Bd hml0 hP hK
  obtain ⟨rfl, hZ, hh⟩ := hP
  have hx := Bd.exec
  have hby := Bd.bytes
  have hlk := BodyLoose.notSynchronized Bd
  have hml : c.maxLocals = 1 := hml0
  have hown : s.vm.findClass "com/example/holdfast/holdfast/Acquisition" = some m.cls := findClass_of_methodNamed Bd.named
  have hnm := (name_of_methodNamed Bd.named Bd.method).1
  have X0 : Stand p l e ({ frames := 0, cells := 0, slots := 0, locals := 0 } : Room) s m #[(.ref r)] below meth c s₁ [] 0 0 := Stand.of_body Bd
  have e0 : s₁.heap = h0 := by rw [← hh, Bd.state]; rfl
  have N0 := Fr.nil n0
  have Z0 : n0 ≤ h0.size := O0.1 ▸ O0.2.1
  show OEnds p e below s ({ frames := 0, cells := 0, slots := 0, locals := 0 } : Room).cells ({ frames := 0, cells := 0, slots := 0, locals := 0 } : Room).slots (QA (some .null) h0 n0) (s₁.setTop (entryFrame m #[(.ref r)] 1))
  refine OEnds.via (fun _ k => castTop (show entryFrame m #[(.ref r)] 1 = (mkF m 0 #[.val (.ref r)] []) by first | (simp [entryFrame, mkF, argsToLocals, Value.category, maxLocals]; done) | rfl) k) ?_
  show OEnds p e below s _ _ _ (s₁.setTop (mkF m 0 #[.val (.ref r)] []))
  refine OEnds.via (fun _ k => XS.aloadN X0.here hx rfl (hb hby d11_0) rfl rfl k) ?_
  show OEnds p e below s _ _ _ (s₁.setTop (mkF m 1 #[.val (.ref r)] [(.ref r)]))
  obtain ⟨T1, X1, e1, st1⟩ := getF X0 hx hZ hown (host := "") (Or.inl (hw _ (List.mem_of_getElem? (i := 20) rfl))) Via.refl e0 F (g := (mkF m 1 #[.val (.ref r)] [(.ref r)])) rfl rfl (hb hby d11_1)
  refine OEnds.via (fun _ k => st1 _ k) ?_
  show OEnds p e below s _ _ _ (T1.setTop (mkF m 4 #[.val (.ref r)] [.null]))
  refine OEnds.retR X1 hx hlk Bd.returns rfl rfl (hb hby d11_4) ?_ (by decide) (by decide)
  exact ⟨rfl, N0, e1⟩
theorem d8_0 : decode prog_1_method_8_code 0 = .ok (.aload_n 0, 1) := by decide +kernel
theorem d8_1 : decode prog_1_method_8_code 1 = .ok (.getstatic 29, 3) := by decide +kernel
theorem d8_4 : decode prog_1_method_8_code 4 = .ok (.if_acmp .ne 7, 3) := by decide +kernel
theorem d8_7 : decode prog_1_method_8_code 7 = .ok (.iconst 1, 1) := by decide +kernel
theorem d8_8 : decode prog_1_method_8_code 8 = .ok (.goto 4, 3) := by decide +kernel
theorem d8_11 : decode prog_1_method_8_code 11 = .ok (.iconst 0, 1) := by decide +kernel
theorem d8_12 : decode prog_1_method_8_code 12 = .ok (.ireturn, 1) := by decide +kernel
set_option maxRecDepth 65536 in
set_option maxHeartbeats 40000000 in
theorem rm_isUnasked (l : Launch) (Z : State) (a0 : Array Value) (hw : ∀ d ∈ tables_1, d.before a0 Z = true) (ws : List Jvm.Cond) (r : Addr) (u : Addr) (h0 : Heap) (n0 : Nat) (O0 : Old Z n0 h0) (S_u : Sta Z Z.heap "com/example/holdfast/holdfast/Acquisition" "UNASKED" "Lcom/example/holdfast/holdfast/Acquisition;" (.ref u)) (hne : r ≠ u) :
    MetFree l (⟨"com/example/holdfast/holdfast/Acquisition", "isUnasked", "()Z"⟩ : MethodName) (head1 (Jvm.Cond.code (⟨"com/example/holdfast/holdfast/Acquisition", "isUnasked", "()Z"⟩ : MethodName) prog_1_method_8_code 1 (some .boolean) :: ws) ({ frames := 0, cells := 0, slots := 0, locals := 0 } : Room)) (fun ar' U => ar' = #[(.ref r)] ∧ Z.Warmed39 U.vm ∧ U.heap = h0) (fun _ _ _ _ _ => True) (fun _ U o U' => ∃ v L, o = .returned v ∧ (QA (some (.int (0 : Int32))) h0 n0) v U'.heap L ∧ FrameEnd U o U' L ({ frames := 0, cells := 0, slots := 0, locals := 0 } : Room).cells ({ frames := 0, cells := 0, slots := 0, locals := 0 } : Room).slots) := by
  refine MetFree.of_bodySF (plainFor_of_name pn_com_example_holdfast_holdfast_Acquisition) hisR ?_
  intro p e s m args below meth c s₁ Bd hml0 hP hK
  obtain ⟨rfl, hZ, hh⟩ := hP
  have hx := Bd.exec
  have hby := Bd.bytes
  have hlk := BodyLoose.notSynchronized Bd
  have hml : c.maxLocals = 1 := hml0
  have hown : s.vm.findClass "com/example/holdfast/holdfast/Acquisition" = some m.cls := findClass_of_methodNamed Bd.named
  have hnm := (name_of_methodNamed Bd.named Bd.method).1
  have X0 : Stand p l e ({ frames := 0, cells := 0, slots := 0, locals := 0 } : Room) s m #[(.ref r)] below meth c s₁ [] 0 0 := Stand.of_body Bd
  have e0 : s₁.heap = h0 := by rw [← hh, Bd.state]; rfl
  have N0 := Fr.nil n0
  have Z0 : n0 ≤ h0.size := O0.1 ▸ O0.2.1
  show OEnds p e below s ({ frames := 0, cells := 0, slots := 0, locals := 0 } : Room).cells ({ frames := 0, cells := 0, slots := 0, locals := 0 } : Room).slots (QA (some (.int (0 : Int32))) h0 n0) (s₁.setTop (entryFrame m #[(.ref r)] 1))
  refine OEnds.via (fun _ k => castTop (show entryFrame m #[(.ref r)] 1 = (mkF m 0 #[.val (.ref r)] []) by first | (simp [entryFrame, mkF, argsToLocals, Value.category, maxLocals]; done) | rfl) k) ?_
  show OEnds p e below s _ _ _ (s₁.setTop (mkF m 0 #[.val (.ref r)] []))
  refine OEnds.via (fun _ k => XS.aloadN X0.here hx rfl (hb hby d8_0) rfl rfl k) ?_
  show OEnds p e below s _ _ _ (s₁.setTop (mkF m 1 #[.val (.ref r)] [(.ref r)]))
  obtain ⟨T1, X1, e1, st1⟩ := getS2 X0 hx hZ hown (host := "") (Or.inl (hw _ (List.mem_of_getElem? (i := 48) rfl))) Via.refl e0 (Sta.ext O0.2 S_u) (g := (mkF m 1 #[.val (.ref r)] [(.ref r)])) rfl (hb hby d8_1)
  refine OEnds.via (fun _ k => st1 _ k) ?_
  show OEnds p e below s _ _ _ (T1.setTop (mkF m 4 #[.val (.ref r)] [(.ref u), (.ref r)]))
  refine OEnds.via (fun _ k => Jvm.RoadKit.acmp (g := (mkF m 4 #[.val (.ref r)] [(.ref u), (.ref r)])) X1 hx rfl rfl rfl (pc0 := 4) (pc' := 11) (same := false) rfl (hb hby d8_4) rfl (decide_eq_false fun q => hne (Value.ref.inj q)) (by decide) (by decide) k) ?_
  show OEnds p e below s _ _ _ (T1.setTop (mkF m 11 #[.val (.ref r)] []))
  refine OEnds.via (fun _ k => XS.iconst X1.here hx rfl (hb hby d8_11) k) ?_
  show OEnds p e below s _ _ _ (T1.setTop (mkF m 12 #[.val (.ref r)] [(.int (0 : Int32))]))
  refine OEnds.retN X1 hx hlk (t := .boolean) Bd.returns (by simp) (hb hby d8_12) ?_ (by decide) (by decide)
  exact ⟨rfl, N0, e1⟩
theorem d9_0 : decode prog_1_method_9_code 0 = .ok (.aload_n 0, 1) := by decide +kernel
theorem d9_1 : decode prog_1_method_9_code 1 = .ok (.getstatic 33, 3) := by decide +kernel
theorem d9_4 : decode prog_1_method_9_code 4 = .ok (.if_acmp .ne 7, 3) := by decide +kernel
theorem d9_7 : decode prog_1_method_9_code 7 = .ok (.iconst 1, 1) := by decide +kernel
theorem d9_8 : decode prog_1_method_9_code 8 = .ok (.goto 4, 3) := by decide +kernel
theorem d9_11 : decode prog_1_method_9_code 11 = .ok (.iconst 0, 1) := by decide +kernel
theorem d9_12 : decode prog_1_method_9_code 12 = .ok (.ireturn, 1) := by decide +kernel
set_option maxRecDepth 65536 in
set_option maxHeartbeats 40000000 in
theorem rm_isUnconfirmed (l : Launch) (Z : State) (a0 : Array Value) (hw : ∀ d ∈ tables_1, d.before a0 Z = true) (ws : List Jvm.Cond) (r : Addr) (u : Addr) (h0 : Heap) (n0 : Nat) (O0 : Old Z n0 h0) (S_u : Sta Z Z.heap "com/example/holdfast/holdfast/Acquisition" "UNCONFIRMED" "Lcom/example/holdfast/holdfast/Acquisition;" (.ref u)) (hne : r ≠ u) :
    MetFree l (⟨"com/example/holdfast/holdfast/Acquisition", "isUnconfirmed", "()Z"⟩ : MethodName) (head1 (Jvm.Cond.code (⟨"com/example/holdfast/holdfast/Acquisition", "isUnconfirmed", "()Z"⟩ : MethodName) prog_1_method_9_code 1 (some .boolean) :: ws) ({ frames := 0, cells := 0, slots := 0, locals := 0 } : Room)) (fun ar' U => ar' = #[(.ref r)] ∧ Z.Warmed39 U.vm ∧ U.heap = h0) (fun _ _ _ _ _ => True) (fun _ U o U' => ∃ v L, o = .returned v ∧ (QA (some (.int (0 : Int32))) h0 n0) v U'.heap L ∧ FrameEnd U o U' L ({ frames := 0, cells := 0, slots := 0, locals := 0 } : Room).cells ({ frames := 0, cells := 0, slots := 0, locals := 0 } : Room).slots) := by
  refine MetFree.of_bodySF (plainFor_of_name pn_com_example_holdfast_holdfast_Acquisition) hisR ?_
  intro p e s m args below meth c s₁ Bd hml0 hP hK
  obtain ⟨rfl, hZ, hh⟩ := hP
  have hx := Bd.exec
  have hby := Bd.bytes
  have hlk := BodyLoose.notSynchronized Bd
  have hml : c.maxLocals = 1 := hml0
  have hown : s.vm.findClass "com/example/holdfast/holdfast/Acquisition" = some m.cls := findClass_of_methodNamed Bd.named
  have hnm := (name_of_methodNamed Bd.named Bd.method).1
  have X0 : Stand p l e ({ frames := 0, cells := 0, slots := 0, locals := 0 } : Room) s m #[(.ref r)] below meth c s₁ [] 0 0 := Stand.of_body Bd
  have e0 : s₁.heap = h0 := by rw [← hh, Bd.state]; rfl
  have N0 := Fr.nil n0
  have Z0 : n0 ≤ h0.size := O0.1 ▸ O0.2.1
  show OEnds p e below s ({ frames := 0, cells := 0, slots := 0, locals := 0 } : Room).cells ({ frames := 0, cells := 0, slots := 0, locals := 0 } : Room).slots (QA (some (.int (0 : Int32))) h0 n0) (s₁.setTop (entryFrame m #[(.ref r)] 1))
  refine OEnds.via (fun _ k => castTop (show entryFrame m #[(.ref r)] 1 = (mkF m 0 #[.val (.ref r)] []) by first | (simp [entryFrame, mkF, argsToLocals, Value.category, maxLocals]; done) | rfl) k) ?_
  show OEnds p e below s _ _ _ (s₁.setTop (mkF m 0 #[.val (.ref r)] []))
  refine OEnds.via (fun _ k => XS.aloadN X0.here hx rfl (hb hby d9_0) rfl rfl k) ?_
  show OEnds p e below s _ _ _ (s₁.setTop (mkF m 1 #[.val (.ref r)] [(.ref r)]))
  obtain ⟨T1, X1, e1, st1⟩ := getS2 X0 hx hZ hown (host := "") (Or.inl (hw _ (List.mem_of_getElem? (i := 55) rfl))) Via.refl e0 (Sta.ext O0.2 S_u) (g := (mkF m 1 #[.val (.ref r)] [(.ref r)])) rfl (hb hby d9_1)
  refine OEnds.via (fun _ k => st1 _ k) ?_
  show OEnds p e below s _ _ _ (T1.setTop (mkF m 4 #[.val (.ref r)] [(.ref u), (.ref r)]))
  refine OEnds.via (fun _ k => Jvm.RoadKit.acmp (g := (mkF m 4 #[.val (.ref r)] [(.ref u), (.ref r)])) X1 hx rfl rfl rfl (pc0 := 4) (pc' := 11) (same := false) rfl (hb hby d9_4) rfl (decide_eq_false fun q => hne (Value.ref.inj q)) (by decide) (by decide) k) ?_
  show OEnds p e below s _ _ _ (T1.setTop (mkF m 11 #[.val (.ref r)] []))
  refine OEnds.via (fun _ k => XS.iconst X1.here hx rfl (hb hby d9_11) k) ?_
  show OEnds p e below s _ _ _ (T1.setTop (mkF m 12 #[.val (.ref r)] [(.int (0 : Int32))]))
  refine OEnds.retN X1 hx hlk (t := .boolean) Bd.returns (by simp) (hb hby d9_12) ?_ (by decide) (by decide)
  exact ⟨rfl, N0, e1⟩
theorem own_pos (x : Int64) (h : ¬ lcmpW (x &&& (9223372036854775807 : Int64)) (0 : Int64) = (0 : Int32)) : (0 : Int64) < x &&& (9223372036854775807 : Int64) := by
  have e1 : (x &&& (9223372036854775807 : Int64)).toInt = x.toInt % 2 ^ 63 := Jvm.Kit.i64_mask x _ (k := 63) (by decide) (by decide)
  have h2 : (x &&& (9223372036854775807 : Int64)) ≠ 0 := fun q => h (by rw [q]; exact own_lc0 _)
  have h3 : (x &&& (9223372036854775807 : Int64)).toInt ≠ 0 := fun q => h2 (Int64.toInt_inj.mp (by rw [q]; rfl))
  rw [Int64.lt_iff_toInt_lt, show (0 : Int64).toInt = 0 from rfl]
  omega
theorem pn_com_example_holdfast_holdfast_AcquisitionTakenPinLaw : plainName "com/example/holdfast/holdfast/AcquisitionTakenPinLaw" = true := by first | (simp [plainName, overriddenIn]; done) | decide +kernel
theorem pd_2829J : parseMethodDescriptor "()J" = some ⟨[], some .long⟩ := by decide +kernel
theorem pd_2829Lcom2fexample2fholdfast2fholdfast2fHoldfastException3b : parseMethodDescriptor "()Lcom/example/holdfast/holdfast/HoldfastException;" = some ⟨[], some (.object "com/example/holdfast/holdfast/HoldfastException")⟩ := by decide +kernel
theorem pd_2829Ljava2flang2fString3b : parseMethodDescriptor "()Ljava/lang/String;" = some ⟨[], some (.object "java/lang/String")⟩ := by decide +kernel
theorem pd_2829Z : parseMethodDescriptor "()Z" = some ⟨[], some .boolean⟩ := by decide +kernel
theorem pd_28J29Lcom2fexample2fholdfast2fholdfast2fAcquisition3b : parseMethodDescriptor "(J)Lcom/example/holdfast/holdfast/Acquisition;" = some ⟨[.long], some (.object "com/example/holdfast/holdfast/Acquisition")⟩ := by decide +kernel
set_option maxRecDepth 65536 in
set_option maxHeartbeats 40000000 in
theorem rm0 (l : Launch) (Z : State) (a0 : Array Value) (hw : ∀ d ∈ tables_1, d.before a0 Z = true) (ws : List Jvm.Cond) (p0 : Int64) (a_UNASKED : Addr) (a_UNCONFIRMED : Addr) (h0 : Heap) (n0 : Nat) (O0 : Old Z n0 h0) (S_UNASKED : Sta Z Z.heap "com/example/holdfast/holdfast/Acquisition" "UNASKED" "Lcom/example/holdfast/holdfast/Acquisition;" (.ref a_UNASKED)) (S_UNCONFIRMED : Sta Z Z.heap "com/example/holdfast/holdfast/Acquisition" "UNCONFIRMED" "Lcom/example/holdfast/holdfast/Acquisition;" (.ref a_UNCONFIRMED)) (E_UNASKED : Exa Z Z.heap a_UNASKED "com/example/holdfast/holdfast/Acquisition") (E_UNCONFIRMED : Exa Z Z.heap a_UNCONFIRMED "com/example/holdfast/holdfast/Acquisition") :
    MetFree l x (head1 (Jvm.Cond.code x code maxLocals ret :: ws) room_1) (fun ar' U => ar' = #[(.long p0)] ∧ Z.Warmed39 U.vm ∧ U.heap = h0) (fun _ _ _ _ _ => True) (fun _ U o U' => ∃ v L, o = .returned v ∧ (QL n0) v U'.heap L ∧ FrameEnd U o U' L 16 128) := by
  refine MetFree.of_bodySF (plainFor_of_name pn_com_example_holdfast_holdfast_AcquisitionTakenPinLaw) hisR ?_
  intro p e s m args below meth c s₁ Bd hml0 hP hK
  obtain ⟨rfl, hZ, hh⟩ := hP
  have hx := Bd.exec
  have hby := Bd.bytes
  have hlk := BodyLoose.notSynchronized Bd
  have hml : c.maxLocals = 6 := hml0
  have hown : s.vm.findClass "com/example/holdfast/holdfast/AcquisitionTakenPinLaw" = some m.cls := findClass_of_methodNamed Bd.named
  have hnm := (name_of_methodNamed Bd.named Bd.method).1
  have X0 : Stand p l e room_1 s m #[(.long p0)] below meth c s₁ [] 0 0 := Stand.of_body Bd
  have e0 : s₁.heap = h0 := by rw [← hh, Bd.state]; rfl
  have N0 := Fr.nil n0
  have Z0 : n0 ≤ h0.size := O0.1 ▸ O0.2.1
  show OEnds p e below s 16 128 (QL n0) (s₁.setTop (entryFrame m #[(.long p0)] maxLocals))
  refine OEnds.via (fun _ k => castTop (show entryFrame m #[(.long p0)] maxLocals = (mkF m 0 #[.val (.long p0), .second, .unset, .unset, .unset, .unset] []) by first | (simp [entryFrame, mkF, argsToLocals, Value.category, maxLocals]; done) | rfl) k) ?_
  have Od := O0
  show OEnds p e below s _ _ _ (s₁.setTop (mkF m 0 #[.val (.long p0), .second, .unset, .unset, .unset, .unset] []))
  refine OEnds.via (fun _ k => XS.lloadN X0.here hx rfl (hb hby at_0) rfl k) ?_
  show OEnds p e below s _ _ _ (s₁.setTop (mkF m 1 #[.val (.long p0), .second, .unset, .unset, .unset, .unset] [(.long p0)]))
  refine OEnds.via (fun _ k => X0.ldc2Long hx hown (mvT hZ (hw _ (List.mem_of_getElem? (i := 0) rfl))) (g := (mkF m 1 #[.val (.long p0), .second, .unset, .unset, .unset, .unset] [(.long p0)])) rfl (hb hby at_1) _ k) ?_
  show OEnds p e below s _ _ _ (s₁.setTop (mkF m 4 #[.val (.long p0), .second, .unset, .unset, .unset, .unset] [(.long (9223372036854775807 : Int64)), (.long p0)]))
  refine OEnds.via (fun _ k => XS.land X0.here hx rfl (hb hby at_4) rfl k) ?_
  show OEnds p e below s _ _ _ (s₁.setTop (mkF m 5 #[.val (.long p0), .second, .unset, .unset, .unset, .unset] [(.long (p0 &&& (9223372036854775807 : Int64)))]))
  refine OEnds.via (fun _ k => XS.lstoreN X0.here hx rfl (hb hby at_5) rfl (l' := #[.val (.long p0), .second, .val (.long (p0 &&& (9223372036854775807 : Int64))), .second, .unset, .unset]) rfl k) ?_
  show OEnds p e below s _ _ _ (s₁.setTop (mkF m 6 #[.val (.long p0), .second, .val (.long (p0 &&& (9223372036854775807 : Int64))), .second, .unset, .unset] []))
  refine OEnds.via (fun _ k => XS.lloadN X0.here hx rfl (hb hby at_6) rfl k) ?_
  show OEnds p e below s _ _ _ (s₁.setTop (mkF m 7 #[.val (.long p0), .second, .val (.long (p0 &&& (9223372036854775807 : Int64))), .second, .unset, .unset] [(.long (p0 &&& (9223372036854775807 : Int64)))]))
  refine OEnds.via (fun _ k => XS.lconst X0.here hx rfl (hb hby at_7) k) ?_
  show OEnds p e below s _ _ _ (s₁.setTop (mkF m 8 #[.val (.long p0), .second, .val (.long (p0 &&& (9223372036854775807 : Int64))), .second, .unset, .unset] [(.long (0 : Int64)), (.long (p0 &&& (9223372036854775807 : Int64)))]))
  refine OEnds.via (fun _ k => XS.lcmp X0.here hx rfl (hb hby at_8) rfl k) ?_
  show OEnds p e below s _ _ _ (s₁.setTop (mkF m 9 #[.val (.long p0), .second, .val (.long (p0 &&& (9223372036854775807 : Int64))), .second, .unset, .unset] [(.int (lcmpW (p0 &&& (9223372036854775807 : Int64)) (0 : Int64)))]))
  by_cases hc9_0 : (lcmpW (p0 &&& (9223372036854775807 : Int64)) (0 : Int64)) = (0 : Int32)
  · skip
    refine OEnds.via (fun _ k => XS.ifNo X0.here hx rfl (hb hby at_9) rfl ((if0 _ _).trans (teq hc9_0).2) k) ?_
    show OEnds p e below s _ _ _ (s₁.setTop (mkF m 12 #[.val (.long p0), .second, .val (.long (p0 &&& (9223372036854775807 : Int64))), .second, .unset, .unset] []))
    refine OEnds.via (fun _ k => XS.lconst X0.here hx rfl (hb hby at_12) k) ?_
    show OEnds p e below s _ _ _ (s₁.setTop (mkF m 13 #[.val (.long p0), .second, .val (.long (p0 &&& (9223372036854775807 : Int64))), .second, .unset, .unset] [(.long (1 : Int64))]))
    refine OEnds.via (fun _ k => XS.lstoreN X0.here hx rfl (hb hby at_13) rfl (l' := #[.val (.long p0), .second, .val (.long (1 : Int64)), .second, .unset, .unset]) rfl k) ?_
    show OEnds p e below s _ _ _ (s₁.setTop (mkF m 14 #[.val (.long p0), .second, .val (.long (1 : Int64)), .second, .unset, .unset] []))
    refine OEnds.via (fun _ k => XS.lloadN X0.here hx rfl (hb hby at_14) rfl k) ?_
    show OEnds p e below s _ _ _ (s₁.setTop (mkF m 15 #[.val (.long p0), .second, .val (.long (1 : Int64)), .second, .unset, .unset] [(.long (1 : Int64))]))
    obtain ⟨_, _, ⟨T2, L2, k2, n2⟩, -, X2, ⟨Lc2, hQ2, l2, y2, z2⟩, st2⟩ := Jvm.LawKit.callS X0 hx (y := (⟨"com/example/holdfast/holdfast/Acquisition", "taken", "(J)Lcom/example/holdfast/holdfast/Acquisition;"⟩ : MethodName)) hown (mvT hZ (hw _ (List.mem_of_getElem? (i := 1) rfl))) (mvT hZ (hw _ (List.mem_of_getElem? (i := 2) rfl))) (mvT hZ (hw _ (List.mem_of_getElem? (i := 3) rfl))) (mvT hZ (hw _ (List.mem_of_getElem? (i := 4) rfl))) (by decide) (backOf (W := 0) (rmT l Z a0 hw [] (1 : Int64) h0 n0 Od ) hZ (hw _ (List.mem_of_getElem? (i := 4) rfl)) (hw _ (List.mem_of_getElem? (i := 3) rfl)) (by decide) (by decide)) (g := (mkF m 15 #[.val (.long p0), .second, .val (.long (1 : Int64)), .second, .unset, .unset] [(.long (1 : Int64))])) rfl (by rw [hml]; rfl) (argsL := [(.long (1 : Int64))]) (rest := []) (lenOf pd_28J29Lcom2fexample2fholdfast2fholdfast2fAcquisition3b rfl) rfl (by show 2 * 0 + _ ≤ _; exact Nat.le_of_eq rfl) (hb hby at_15) (fun _ _ => ⟨rfl, e0, Nat.le_of_ble_eq_true rfl, Nat.le_of_ble_eq_true rfl⟩)
    dsimp only [Pt.U, Pt.locs, Pt.cells, Pt.slots] at X2 l2 y2 z2 st2 hQ2
    subst l2 y2 z2
    obtain ⟨b2, rfl, N2q, K2, ge2, E_b, G_token, G_askAgainMillis, G_keptBy, G_unreached⟩ := hQ2
    have N2 := Fr.app N0 N2q
    replace Od := Od.keep K2 all0
    have ne_UNASKED : b2 ≠ a_UNASKED := Ne.symm (O0.ne E_UNASKED.lt ge2)
    have ne_UNCONFIRMED : b2 ≠ a_UNCONFIRMED := Ne.symm (O0.ne E_UNCONFIRMED.lt ge2)
    refine OEnds.via (fun _ k => st2 _ k) ?_
    show OEnds p e below s _ _ _ (T2.setTop (mkF m 18 #[.val (.long p0), .second, .val (.long (1 : Int64)), .second, .unset, .unset] [(.ref b2)]))
    refine OEnds.via (fun _ k => XS.astore X2.here hx rfl (hb hby at_18) rfl rfl (l' := #[.val (.long p0), .second, .val (.long (1 : Int64)), .second, .val (.ref b2), .unset]) rfl k) ?_
    show OEnds p e below s _ _ _ (T2.setTop (mkF m 20 #[.val (.long p0), .second, .val (.long (1 : Int64)), .second, .val (.ref b2), .unset] []))
    refine OEnds.via (fun _ k => XS.aload X2.here hx rfl (hb hby at_20) rfl rfl k) ?_
    show OEnds p e below s _ _ _ (T2.setTop (mkF m 22 #[.val (.long p0), .second, .val (.long (1 : Int64)), .second, .val (.ref b2), .unset] [(.ref b2)]))
    refine OEnds.via (fun _ k => XS.ifnonnullYes X2.here hx rfl (pc0 := 22) (pc' := 27) rfl (hb hby at_22) rfl (by decide) (by decide) k) ?_
    show OEnds p e below s _ _ _ (T2.setTop (mkF m 27 #[.val (.long p0), .second, .val (.long (1 : Int64)), .second, .val (.ref b2), .unset] []))
    refine OEnds.via (fun _ k => XS.aload X2.here hx rfl (hb hby at_27) rfl rfl k) ?_
    show OEnds p e below s _ _ _ (T2.setTop (mkF m 29 #[.val (.long p0), .second, .val (.long (1 : Int64)), .second, .val (.ref b2), .unset] [(.ref b2)]))
    obtain ⟨cq3, kq3, q3a, q3b, q3c⟩ := isOf hZ rfl E_b
    obtain ⟨_, _, ⟨T3, L3, k3, n3⟩, -, X3, ⟨Lc3, hQ3, l3, y3, z3⟩, st3⟩ := X2.virtualBack hx (y := (⟨"com/example/holdfast/holdfast/Acquisition", "isTaken", "()Z"⟩ : MethodName)) (z := (⟨"com/example/holdfast/holdfast/Acquisition", "isTaken", "()Z"⟩ : MethodName)) hown (mvT hZ (hw _ (List.mem_of_getElem? (i := 22) rfl))) (mvT hZ (hw _ (List.mem_of_getElem? (i := 23) rfl))) (notFace_of_selects (args := #[]) (mvT hZ (hw _ (List.mem_of_getElem? (i := 25) rfl)))) (mvT hZ (hw _ (List.mem_of_getElem? (i := 25) rfl))) (mvT hZ (hw _ (List.mem_of_getElem? (i := 24) rfl))) (by decide) (backOf (W := 0) (rm_isTaken l Z a0 hw [] b2 (1 : Int64) T2.heap n0 Od G_token (by decide)) hZ (hw _ (List.mem_of_getElem? (i := 26) rfl)) (hw _ (List.mem_of_getElem? (i := 3) rfl)) (by decide) (by decide)) q3a q3c (g := (mkF m 29 #[.val (.long p0), .second, .val (.long (1 : Int64)), .second, .val (.ref b2), .unset] [(.ref b2)])) rfl (by rw [hml]; rfl) (Steps.refl _) (argsL := []) (rest := []) (lenOf pd_2829Z rfl) rfl (by show 2 * 0 + _ ≤ _; exact Nat.le_of_eq rfl) (hb hby at_29) (fun _ _ => ⟨rfl, rfl, Nat.le_of_ble_eq_true rfl, Nat.le_of_ble_eq_true rfl⟩)
    dsimp only [Pt.U, Pt.locs, Pt.cells, Pt.slots] at X3 l3 y3 z3 st3 hQ3
    subst l3 y3 z3
    obtain ⟨rfl, N3q, e3⟩ := hQ3
    have N3 := Fr.app N2 N3q
    refine OEnds.via (fun _ k => st3.trans k) ?_
    show OEnds p e below s _ _ _ (T3.setTop (mkF m 32 #[.val (.long p0), .second, .val (.long (1 : Int64)), .second, .val (.ref b2), .unset] [(.int (1 : Int32))]))
    refine OEnds.via (fun _ k => XS.istore X3.here hx rfl (hb hby at_32) rfl (l' := #[.val (.long p0), .second, .val (.long (1 : Int64)), .second, .val (.ref b2), .val (.int (1 : Int32))]) rfl k) ?_
    show OEnds p e below s _ _ _ (T3.setTop (mkF m 34 #[.val (.long p0), .second, .val (.long (1 : Int64)), .second, .val (.ref b2), .val (.int (1 : Int32))] []))
    refine OEnds.via (fun _ k => XS.iload X3.here hx rfl (hb hby at_34) rfl k) ?_
    show OEnds p e below s _ _ _ (T3.setTop (mkF m 36 #[.val (.long p0), .second, .val (.long (1 : Int64)), .second, .val (.ref b2), .val (.int (1 : Int32))] [(.int (1 : Int32))]))
    refine OEnds.via (fun _ k => XS.ifNo X3.here hx rfl (hb hby at_36) rfl ((if0 _ _).trans (feq (by decide : ¬ ((1 : Int32) = (0 : Int32)))).1) k) ?_
    show OEnds p e below s _ _ _ (T3.setTop (mkF m 39 #[.val (.long p0), .second, .val (.long (1 : Int64)), .second, .val (.ref b2), .val (.int (1 : Int32))] []))
    refine OEnds.via (fun _ k => XS.aload X3.here hx rfl (hb hby at_39) rfl rfl k) ?_
    show OEnds p e below s _ _ _ (T3.setTop (mkF m 41 #[.val (.long p0), .second, .val (.long (1 : Int64)), .second, .val (.ref b2), .val (.int (1 : Int32))] [(.ref b2)]))
    obtain ⟨cq4, kq4, q4a, q4b, q4c⟩ := isOf hZ e3 E_b
    obtain ⟨_, _, ⟨T4, L4, k4, n4⟩, -, X4, ⟨Lc4, hQ4, l4, y4, z4⟩, st4⟩ := X3.virtualBack hx (y := (⟨"com/example/holdfast/holdfast/Acquisition", "token", "()J"⟩ : MethodName)) (z := (⟨"com/example/holdfast/holdfast/Acquisition", "token", "()J"⟩ : MethodName)) hown (mvT hZ (hw _ (List.mem_of_getElem? (i := 27) rfl))) (mvT hZ (hw _ (List.mem_of_getElem? (i := 28) rfl))) (notFace_of_selects (args := #[]) (mvT hZ (hw _ (List.mem_of_getElem? (i := 30) rfl)))) (mvT hZ (hw _ (List.mem_of_getElem? (i := 30) rfl))) (mvT hZ (hw _ (List.mem_of_getElem? (i := 29) rfl))) (by decide) (backOf (W := 0) (rm_token l Z a0 hw [] b2 (1 : Int64) T2.heap n0 Od G_token) hZ (hw _ (List.mem_of_getElem? (i := 31) rfl)) (hw _ (List.mem_of_getElem? (i := 3) rfl)) (by decide) (by decide)) q4a q4c (g := (mkF m 41 #[.val (.long p0), .second, .val (.long (1 : Int64)), .second, .val (.ref b2), .val (.int (1 : Int32))] [(.ref b2)])) rfl (by rw [hml]; rfl) (Steps.refl _) (argsL := []) (rest := []) (lenOf pd_2829J rfl) rfl (by show 2 * 0 + _ ≤ _; exact Nat.le_of_eq rfl) (hb hby at_41) (fun _ _ => ⟨rfl, e3, Nat.le_of_ble_eq_true rfl, Nat.le_of_ble_eq_true rfl⟩)
    dsimp only [Pt.U, Pt.locs, Pt.cells, Pt.slots] at X4 l4 y4 z4 st4 hQ4
    subst l4 y4 z4
    obtain ⟨rfl, N4q, e4⟩ := hQ4
    have N4 := Fr.app N3 N4q
    refine OEnds.via (fun _ k => st4.trans k) ?_
    show OEnds p e below s _ _ _ (T4.setTop (mkF m 44 #[.val (.long p0), .second, .val (.long (1 : Int64)), .second, .val (.ref b2), .val (.int (1 : Int32))] [(.long (1 : Int64))]))
    refine OEnds.via (fun _ k => XS.lloadN X4.here hx rfl (hb hby at_44) rfl k) ?_
    show OEnds p e below s _ _ _ (T4.setTop (mkF m 45 #[.val (.long p0), .second, .val (.long (1 : Int64)), .second, .val (.ref b2), .val (.int (1 : Int32))] [(.long (1 : Int64)), (.long (1 : Int64))]))
    refine OEnds.via (fun _ k => XS.lcmp X4.here hx rfl (hb hby at_45) rfl k) ?_
    show OEnds p e below s _ _ _ (T4.setTop (mkF m 46 #[.val (.long p0), .second, .val (.long (1 : Int64)), .second, .val (.ref b2), .val (.int (1 : Int32))] [(.int (lcmpW (1 : Int64) (1 : Int64)))]))
    refine OEnds.via (fun _ k => XS.ifNo X4.here hx rfl (hb hby at_46) rfl ((if0 _ _).trans (teq (own_lc0 _)).2) k) ?_
    show OEnds p e below s _ _ _ (T4.setTop (mkF m 49 #[.val (.long p0), .second, .val (.long (1 : Int64)), .second, .val (.ref b2), .val (.int (1 : Int32))] []))
    refine OEnds.via (fun _ k => XS.iconst X4.here hx rfl (hb hby at_49) k) ?_
    show OEnds p e below s _ _ _ (T4.setTop (mkF m 50 #[.val (.long p0), .second, .val (.long (1 : Int64)), .second, .val (.ref b2), .val (.int (1 : Int32))] [(.int (1 : Int32))]))
    refine OEnds.via (fun _ k => XS.goto X4.here hx rfl (pc0 := 50) (pc' := 54) rfl (hb hby at_50) (by decide) (by decide) k) ?_
    show OEnds p e below s _ _ _ (T4.setTop (mkF m 54 #[.val (.long p0), .second, .val (.long (1 : Int64)), .second, .val (.ref b2), .val (.int (1 : Int32))] [(.int (1 : Int32))]))
    refine OEnds.via (fun _ k => XS.istore X4.here hx rfl (hb hby at_54) rfl (l' := #[.val (.long p0), .second, .val (.long (1 : Int64)), .second, .val (.ref b2), .val (.int (1 : Int32))]) rfl k) ?_
    show OEnds p e below s _ _ _ (T4.setTop (mkF m 56 #[.val (.long p0), .second, .val (.long (1 : Int64)), .second, .val (.ref b2), .val (.int (1 : Int32))] []))
    refine OEnds.via (fun _ k => XS.iload X4.here hx rfl (hb hby at_56) rfl k) ?_
    show OEnds p e below s _ _ _ (T4.setTop (mkF m 58 #[.val (.long p0), .second, .val (.long (1 : Int64)), .second, .val (.ref b2), .val (.int (1 : Int32))] [(.int (1 : Int32))]))
    refine OEnds.via (fun _ k => XS.ifNo X4.here hx rfl (hb hby at_58) rfl ((if0 _ _).trans (feq (by decide : ¬ ((1 : Int32) = (0 : Int32)))).1) k) ?_
    show OEnds p e below s _ _ _ (T4.setTop (mkF m 61 #[.val (.long p0), .second, .val (.long (1 : Int64)), .second, .val (.ref b2), .val (.int (1 : Int32))] []))
    refine OEnds.via (fun _ k => XS.aload X4.here hx rfl (hb hby at_61) rfl rfl k) ?_
    show OEnds p e below s _ _ _ (T4.setTop (mkF m 63 #[.val (.long p0), .second, .val (.long (1 : Int64)), .second, .val (.ref b2), .val (.int (1 : Int32))] [(.ref b2)]))
    obtain ⟨cq5, kq5, q5a, q5b, q5c⟩ := isOf hZ e4 E_b
    obtain ⟨_, _, ⟨T5, L5, k5, n5⟩, -, X5, ⟨Lc5, hQ5, l5, y5, z5⟩, st5⟩ := X4.virtualBack hx (y := (⟨"com/example/holdfast/holdfast/Acquisition", "askAgainMillis", "()J"⟩ : MethodName)) (z := (⟨"com/example/holdfast/holdfast/Acquisition", "askAgainMillis", "()J"⟩ : MethodName)) hown (mvT hZ (hw _ (List.mem_of_getElem? (i := 32) rfl))) (mvT hZ (hw _ (List.mem_of_getElem? (i := 33) rfl))) (notFace_of_selects (args := #[]) (mvT hZ (hw _ (List.mem_of_getElem? (i := 35) rfl)))) (mvT hZ (hw _ (List.mem_of_getElem? (i := 35) rfl))) (mvT hZ (hw _ (List.mem_of_getElem? (i := 34) rfl))) (by decide) (backOf (W := 0) (rm_askAgainMillis l Z a0 hw [] b2 (-1 : Int64) T2.heap n0 Od G_askAgainMillis) hZ (hw _ (List.mem_of_getElem? (i := 36) rfl)) (hw _ (List.mem_of_getElem? (i := 3) rfl)) (by decide) (by decide)) q5a q5c (g := (mkF m 63 #[.val (.long p0), .second, .val (.long (1 : Int64)), .second, .val (.ref b2), .val (.int (1 : Int32))] [(.ref b2)])) rfl (by rw [hml]; rfl) (Steps.refl _) (argsL := []) (rest := []) (lenOf pd_2829J rfl) rfl (by show 2 * 0 + _ ≤ _; exact Nat.le_of_eq rfl) (hb hby at_63) (fun _ _ => ⟨rfl, e4, Nat.le_of_ble_eq_true rfl, Nat.le_of_ble_eq_true rfl⟩)
    dsimp only [Pt.U, Pt.locs, Pt.cells, Pt.slots] at X5 l5 y5 z5 st5 hQ5
    subst l5 y5 z5
    obtain ⟨rfl, N5q, e5⟩ := hQ5
    have N5 := Fr.app N4 N5q
    refine OEnds.via (fun _ k => st5.trans k) ?_
    show OEnds p e below s _ _ _ (T5.setTop (mkF m 66 #[.val (.long p0), .second, .val (.long (1 : Int64)), .second, .val (.ref b2), .val (.int (1 : Int32))] [(.long (-1 : Int64))]))
    refine OEnds.via (fun _ k => X5.ldc2Long hx hown (mvT hZ (hw _ (List.mem_of_getElem? (i := 37) rfl))) (g := (mkF m 66 #[.val (.long p0), .second, .val (.long (1 : Int64)), .second, .val (.ref b2), .val (.int (1 : Int32))] [(.long (-1 : Int64))])) rfl (hb hby at_66) _ k) ?_
    show OEnds p e below s _ _ _ (T5.setTop (mkF m 69 #[.val (.long p0), .second, .val (.long (1 : Int64)), .second, .val (.ref b2), .val (.int (1 : Int32))] [(.long (-1 : Int64)), (.long (-1 : Int64))]))
    refine OEnds.via (fun _ k => XS.lcmp X5.here hx rfl (hb hby at_69) rfl k) ?_
    show OEnds p e below s _ _ _ (T5.setTop (mkF m 70 #[.val (.long p0), .second, .val (.long (1 : Int64)), .second, .val (.ref b2), .val (.int (1 : Int32))] [(.int (lcmpW (-1 : Int64) (-1 : Int64)))]))
    refine OEnds.via (fun _ k => XS.ifNo X5.here hx rfl (hb hby at_70) rfl ((if0 _ _).trans (teq (own_lc0 _)).2) k) ?_
    show OEnds p e below s _ _ _ (T5.setTop (mkF m 73 #[.val (.long p0), .second, .val (.long (1 : Int64)), .second, .val (.ref b2), .val (.int (1 : Int32))] []))
    refine OEnds.via (fun _ k => XS.iconst X5.here hx rfl (hb hby at_73) k) ?_
    show OEnds p e below s _ _ _ (T5.setTop (mkF m 74 #[.val (.long p0), .second, .val (.long (1 : Int64)), .second, .val (.ref b2), .val (.int (1 : Int32))] [(.int (1 : Int32))]))
    refine OEnds.via (fun _ k => XS.goto X5.here hx rfl (pc0 := 74) (pc' := 78) rfl (hb hby at_74) (by decide) (by decide) k) ?_
    show OEnds p e below s _ _ _ (T5.setTop (mkF m 78 #[.val (.long p0), .second, .val (.long (1 : Int64)), .second, .val (.ref b2), .val (.int (1 : Int32))] [(.int (1 : Int32))]))
    refine OEnds.via (fun _ k => XS.istore X5.here hx rfl (hb hby at_78) rfl (l' := #[.val (.long p0), .second, .val (.long (1 : Int64)), .second, .val (.ref b2), .val (.int (1 : Int32))]) rfl k) ?_
    show OEnds p e below s _ _ _ (T5.setTop (mkF m 80 #[.val (.long p0), .second, .val (.long (1 : Int64)), .second, .val (.ref b2), .val (.int (1 : Int32))] []))
    refine OEnds.via (fun _ k => XS.iload X5.here hx rfl (hb hby at_80) rfl k) ?_
    show OEnds p e below s _ _ _ (T5.setTop (mkF m 82 #[.val (.long p0), .second, .val (.long (1 : Int64)), .second, .val (.ref b2), .val (.int (1 : Int32))] [(.int (1 : Int32))]))
    refine OEnds.via (fun _ k => XS.ifNo X5.here hx rfl (hb hby at_82) rfl ((if0 _ _).trans (feq (by decide : ¬ ((1 : Int32) = (0 : Int32)))).1) k) ?_
    show OEnds p e below s _ _ _ (T5.setTop (mkF m 85 #[.val (.long p0), .second, .val (.long (1 : Int64)), .second, .val (.ref b2), .val (.int (1 : Int32))] []))
    refine OEnds.via (fun _ k => XS.aload X5.here hx rfl (hb hby at_85) rfl rfl k) ?_
    show OEnds p e below s _ _ _ (T5.setTop (mkF m 87 #[.val (.long p0), .second, .val (.long (1 : Int64)), .second, .val (.ref b2), .val (.int (1 : Int32))] [(.ref b2)]))
    obtain ⟨cq6, kq6, q6a, q6b, q6c⟩ := isOf hZ e5 E_b
    obtain ⟨_, _, ⟨T6, L6, k6, n6⟩, -, X6, ⟨Lc6, hQ6, l6, y6, z6⟩, st6⟩ := X5.virtualBack hx (y := (⟨"com/example/holdfast/holdfast/Acquisition", "keptBy", "()Ljava/lang/String;"⟩ : MethodName)) (z := (⟨"com/example/holdfast/holdfast/Acquisition", "keptBy", "()Ljava/lang/String;"⟩ : MethodName)) hown (mvT hZ (hw _ (List.mem_of_getElem? (i := 38) rfl))) (mvT hZ (hw _ (List.mem_of_getElem? (i := 39) rfl))) (notFace_of_selects (args := #[]) (mvT hZ (hw _ (List.mem_of_getElem? (i := 41) rfl)))) (mvT hZ (hw _ (List.mem_of_getElem? (i := 41) rfl))) (mvT hZ (hw _ (List.mem_of_getElem? (i := 40) rfl))) (by decide) (backOf (W := 0) (rm_keptBy l Z a0 hw [] b2 T2.heap n0 Od G_keptBy) hZ (hw _ (List.mem_of_getElem? (i := 42) rfl)) (hw _ (List.mem_of_getElem? (i := 3) rfl)) (by decide) (by decide)) q6a q6c (g := (mkF m 87 #[.val (.long p0), .second, .val (.long (1 : Int64)), .second, .val (.ref b2), .val (.int (1 : Int32))] [(.ref b2)])) rfl (by rw [hml]; rfl) (Steps.refl _) (argsL := []) (rest := []) (lenOf pd_2829Ljava2flang2fString3b rfl) rfl (by show 2 * 0 + _ ≤ _; exact Nat.le_of_eq rfl) (hb hby at_87) (fun _ _ => ⟨rfl, e5, Nat.le_of_ble_eq_true rfl, Nat.le_of_ble_eq_true rfl⟩)
    dsimp only [Pt.U, Pt.locs, Pt.cells, Pt.slots] at X6 l6 y6 z6 st6 hQ6
    subst l6 y6 z6
    obtain ⟨rfl, N6q, e6⟩ := hQ6
    have N6 := Fr.app N5 N6q
    refine OEnds.via (fun _ k => st6.trans k) ?_
    show OEnds p e below s _ _ _ (T6.setTop (mkF m 90 #[.val (.long p0), .second, .val (.long (1 : Int64)), .second, .val (.ref b2), .val (.int (1 : Int32))] [.null]))
    refine OEnds.via (fun _ k => XS.ifnonnullNo X6.here hx rfl (hb hby at_90) rfl k) ?_
    show OEnds p e below s _ _ _ (T6.setTop (mkF m 93 #[.val (.long p0), .second, .val (.long (1 : Int64)), .second, .val (.ref b2), .val (.int (1 : Int32))] []))
    refine OEnds.via (fun _ k => XS.iconst X6.here hx rfl (hb hby at_93) k) ?_
    show OEnds p e below s _ _ _ (T6.setTop (mkF m 94 #[.val (.long p0), .second, .val (.long (1 : Int64)), .second, .val (.ref b2), .val (.int (1 : Int32))] [(.int (1 : Int32))]))
    refine OEnds.via (fun _ k => XS.goto X6.here hx rfl (pc0 := 94) (pc' := 98) rfl (hb hby at_94) (by decide) (by decide) k) ?_
    show OEnds p e below s _ _ _ (T6.setTop (mkF m 98 #[.val (.long p0), .second, .val (.long (1 : Int64)), .second, .val (.ref b2), .val (.int (1 : Int32))] [(.int (1 : Int32))]))
    refine OEnds.via (fun _ k => XS.istore X6.here hx rfl (hb hby at_98) rfl (l' := #[.val (.long p0), .second, .val (.long (1 : Int64)), .second, .val (.ref b2), .val (.int (1 : Int32))]) rfl k) ?_
    show OEnds p e below s _ _ _ (T6.setTop (mkF m 100 #[.val (.long p0), .second, .val (.long (1 : Int64)), .second, .val (.ref b2), .val (.int (1 : Int32))] []))
    refine OEnds.via (fun _ k => XS.iload X6.here hx rfl (hb hby at_100) rfl k) ?_
    show OEnds p e below s _ _ _ (T6.setTop (mkF m 102 #[.val (.long p0), .second, .val (.long (1 : Int64)), .second, .val (.ref b2), .val (.int (1 : Int32))] [(.int (1 : Int32))]))
    refine OEnds.via (fun _ k => XS.ifNo X6.here hx rfl (hb hby at_102) rfl ((if0 _ _).trans (feq (by decide : ¬ ((1 : Int32) = (0 : Int32)))).1) k) ?_
    show OEnds p e below s _ _ _ (T6.setTop (mkF m 105 #[.val (.long p0), .second, .val (.long (1 : Int64)), .second, .val (.ref b2), .val (.int (1 : Int32))] []))
    refine OEnds.via (fun _ k => XS.aload X6.here hx rfl (hb hby at_105) rfl rfl k) ?_
    show OEnds p e below s _ _ _ (T6.setTop (mkF m 107 #[.val (.long p0), .second, .val (.long (1 : Int64)), .second, .val (.ref b2), .val (.int (1 : Int32))] [(.ref b2)]))
    obtain ⟨cq7, kq7, q7a, q7b, q7c⟩ := isOf hZ e6 E_b
    obtain ⟨_, _, ⟨T7, L7, k7, n7⟩, -, X7, ⟨Lc7, hQ7, l7, y7, z7⟩, st7⟩ := X6.virtualBack hx (y := (⟨"com/example/holdfast/holdfast/Acquisition", "isUnasked", "()Z"⟩ : MethodName)) (z := (⟨"com/example/holdfast/holdfast/Acquisition", "isUnasked", "()Z"⟩ : MethodName)) hown (mvT hZ (hw _ (List.mem_of_getElem? (i := 43) rfl))) (mvT hZ (hw _ (List.mem_of_getElem? (i := 44) rfl))) (notFace_of_selects (args := #[]) (mvT hZ (hw _ (List.mem_of_getElem? (i := 46) rfl)))) (mvT hZ (hw _ (List.mem_of_getElem? (i := 46) rfl))) (mvT hZ (hw _ (List.mem_of_getElem? (i := 45) rfl))) (by decide) (backOf (W := 0) (rm_isUnasked l Z a0 hw [] b2 a_UNASKED T2.heap n0 Od S_UNASKED ne_UNASKED) hZ (hw _ (List.mem_of_getElem? (i := 47) rfl)) (hw _ (List.mem_of_getElem? (i := 3) rfl)) (by decide) (by decide)) q7a q7c (g := (mkF m 107 #[.val (.long p0), .second, .val (.long (1 : Int64)), .second, .val (.ref b2), .val (.int (1 : Int32))] [(.ref b2)])) rfl (by rw [hml]; rfl) (Steps.refl _) (argsL := []) (rest := []) (lenOf pd_2829Z rfl) rfl (by show 2 * 0 + _ ≤ _; exact Nat.le_of_eq rfl) (hb hby at_107) (fun _ _ => ⟨rfl, e6, Nat.le_of_ble_eq_true rfl, Nat.le_of_ble_eq_true rfl⟩)
    dsimp only [Pt.U, Pt.locs, Pt.cells, Pt.slots] at X7 l7 y7 z7 st7 hQ7
    subst l7 y7 z7
    obtain ⟨rfl, N7q, e7⟩ := hQ7
    have N7 := Fr.app N6 N7q
    refine OEnds.via (fun _ k => st7.trans k) ?_
    show OEnds p e below s _ _ _ (T7.setTop (mkF m 110 #[.val (.long p0), .second, .val (.long (1 : Int64)), .second, .val (.ref b2), .val (.int (1 : Int32))] [(.int (0 : Int32))]))
    refine OEnds.via (fun _ k => XS.ifNo X7.here hx rfl (hb hby at_110) rfl ((if0 _ _).trans (teq (by decide : (0 : Int32) = (0 : Int32))).2) k) ?_
    show OEnds p e below s _ _ _ (T7.setTop (mkF m 113 #[.val (.long p0), .second, .val (.long (1 : Int64)), .second, .val (.ref b2), .val (.int (1 : Int32))] []))
    refine OEnds.via (fun _ k => XS.iconst X7.here hx rfl (hb hby at_113) k) ?_
    show OEnds p e below s _ _ _ (T7.setTop (mkF m 114 #[.val (.long p0), .second, .val (.long (1 : Int64)), .second, .val (.ref b2), .val (.int (1 : Int32))] [(.int (1 : Int32))]))
    refine OEnds.via (fun _ k => XS.goto X7.here hx rfl (pc0 := 114) (pc' := 118) rfl (hb hby at_114) (by decide) (by decide) k) ?_
    show OEnds p e below s _ _ _ (T7.setTop (mkF m 118 #[.val (.long p0), .second, .val (.long (1 : Int64)), .second, .val (.ref b2), .val (.int (1 : Int32))] [(.int (1 : Int32))]))
    refine OEnds.via (fun _ k => XS.istore X7.here hx rfl (hb hby at_118) rfl (l' := #[.val (.long p0), .second, .val (.long (1 : Int64)), .second, .val (.ref b2), .val (.int (1 : Int32))]) rfl k) ?_
    show OEnds p e below s _ _ _ (T7.setTop (mkF m 120 #[.val (.long p0), .second, .val (.long (1 : Int64)), .second, .val (.ref b2), .val (.int (1 : Int32))] []))
    refine OEnds.via (fun _ k => XS.iload X7.here hx rfl (hb hby at_120) rfl k) ?_
    show OEnds p e below s _ _ _ (T7.setTop (mkF m 122 #[.val (.long p0), .second, .val (.long (1 : Int64)), .second, .val (.ref b2), .val (.int (1 : Int32))] [(.int (1 : Int32))]))
    refine OEnds.via (fun _ k => XS.ifNo X7.here hx rfl (hb hby at_122) rfl ((if0 _ _).trans (feq (by decide : ¬ ((1 : Int32) = (0 : Int32)))).1) k) ?_
    show OEnds p e below s _ _ _ (T7.setTop (mkF m 125 #[.val (.long p0), .second, .val (.long (1 : Int64)), .second, .val (.ref b2), .val (.int (1 : Int32))] []))
    refine OEnds.via (fun _ k => XS.aload X7.here hx rfl (hb hby at_125) rfl rfl k) ?_
    show OEnds p e below s _ _ _ (T7.setTop (mkF m 127 #[.val (.long p0), .second, .val (.long (1 : Int64)), .second, .val (.ref b2), .val (.int (1 : Int32))] [(.ref b2)]))
    obtain ⟨cq8, kq8, q8a, q8b, q8c⟩ := isOf hZ e7 E_b
    obtain ⟨_, _, ⟨T8, L8, k8, n8⟩, -, X8, ⟨Lc8, hQ8, l8, y8, z8⟩, st8⟩ := X7.virtualBack hx (y := (⟨"com/example/holdfast/holdfast/Acquisition", "isUnconfirmed", "()Z"⟩ : MethodName)) (z := (⟨"com/example/holdfast/holdfast/Acquisition", "isUnconfirmed", "()Z"⟩ : MethodName)) hown (mvT hZ (hw _ (List.mem_of_getElem? (i := 50) rfl))) (mvT hZ (hw _ (List.mem_of_getElem? (i := 51) rfl))) (notFace_of_selects (args := #[]) (mvT hZ (hw _ (List.mem_of_getElem? (i := 53) rfl)))) (mvT hZ (hw _ (List.mem_of_getElem? (i := 53) rfl))) (mvT hZ (hw _ (List.mem_of_getElem? (i := 52) rfl))) (by decide) (backOf (W := 0) (rm_isUnconfirmed l Z a0 hw [] b2 a_UNCONFIRMED T2.heap n0 Od S_UNCONFIRMED ne_UNCONFIRMED) hZ (hw _ (List.mem_of_getElem? (i := 54) rfl)) (hw _ (List.mem_of_getElem? (i := 3) rfl)) (by decide) (by decide)) q8a q8c (g := (mkF m 127 #[.val (.long p0), .second, .val (.long (1 : Int64)), .second, .val (.ref b2), .val (.int (1 : Int32))] [(.ref b2)])) rfl (by rw [hml]; rfl) (Steps.refl _) (argsL := []) (rest := []) (lenOf pd_2829Z rfl) rfl (by show 2 * 0 + _ ≤ _; exact Nat.le_of_eq rfl) (hb hby at_127) (fun _ _ => ⟨rfl, e7, Nat.le_of_ble_eq_true rfl, Nat.le_of_ble_eq_true rfl⟩)
    dsimp only [Pt.U, Pt.locs, Pt.cells, Pt.slots] at X8 l8 y8 z8 st8 hQ8
    subst l8 y8 z8
    obtain ⟨rfl, N8q, e8⟩ := hQ8
    have N8 := Fr.app N7 N8q
    refine OEnds.via (fun _ k => st8.trans k) ?_
    show OEnds p e below s _ _ _ (T8.setTop (mkF m 130 #[.val (.long p0), .second, .val (.long (1 : Int64)), .second, .val (.ref b2), .val (.int (1 : Int32))] [(.int (0 : Int32))]))
    refine OEnds.via (fun _ k => XS.ifNo X8.here hx rfl (hb hby at_130) rfl ((if0 _ _).trans (teq (by decide : (0 : Int32) = (0 : Int32))).2) k) ?_
    show OEnds p e below s _ _ _ (T8.setTop (mkF m 133 #[.val (.long p0), .second, .val (.long (1 : Int64)), .second, .val (.ref b2), .val (.int (1 : Int32))] []))
    refine OEnds.via (fun _ k => XS.iconst X8.here hx rfl (hb hby at_133) k) ?_
    show OEnds p e below s _ _ _ (T8.setTop (mkF m 134 #[.val (.long p0), .second, .val (.long (1 : Int64)), .second, .val (.ref b2), .val (.int (1 : Int32))] [(.int (1 : Int32))]))
    refine OEnds.via (fun _ k => XS.goto X8.here hx rfl (pc0 := 134) (pc' := 138) rfl (hb hby at_134) (by decide) (by decide) k) ?_
    show OEnds p e below s _ _ _ (T8.setTop (mkF m 138 #[.val (.long p0), .second, .val (.long (1 : Int64)), .second, .val (.ref b2), .val (.int (1 : Int32))] [(.int (1 : Int32))]))
    refine OEnds.via (fun _ k => XS.istore X8.here hx rfl (hb hby at_138) rfl (l' := #[.val (.long p0), .second, .val (.long (1 : Int64)), .second, .val (.ref b2), .val (.int (1 : Int32))]) rfl k) ?_
    show OEnds p e below s _ _ _ (T8.setTop (mkF m 140 #[.val (.long p0), .second, .val (.long (1 : Int64)), .second, .val (.ref b2), .val (.int (1 : Int32))] []))
    refine OEnds.via (fun _ k => XS.iload X8.here hx rfl (hb hby at_140) rfl k) ?_
    show OEnds p e below s _ _ _ (T8.setTop (mkF m 142 #[.val (.long p0), .second, .val (.long (1 : Int64)), .second, .val (.ref b2), .val (.int (1 : Int32))] [(.int (1 : Int32))]))
    refine OEnds.via (fun _ k => XS.ifNo X8.here hx rfl (hb hby at_142) rfl ((if0 _ _).trans (feq (by decide : ¬ ((1 : Int32) = (0 : Int32)))).1) k) ?_
    show OEnds p e below s _ _ _ (T8.setTop (mkF m 145 #[.val (.long p0), .second, .val (.long (1 : Int64)), .second, .val (.ref b2), .val (.int (1 : Int32))] []))
    refine OEnds.via (fun _ k => XS.aload X8.here hx rfl (hb hby at_145) rfl rfl k) ?_
    show OEnds p e below s _ _ _ (T8.setTop (mkF m 147 #[.val (.long p0), .second, .val (.long (1 : Int64)), .second, .val (.ref b2), .val (.int (1 : Int32))] [(.ref b2)]))
    obtain ⟨cq9, kq9, q9a, q9b, q9c⟩ := isOf hZ e8 E_b
    obtain ⟨_, _, ⟨T9, L9, k9, n9⟩, -, X9, ⟨Lc9, hQ9, l9, y9, z9⟩, st9⟩ := X8.virtualBack hx (y := (⟨"com/example/holdfast/holdfast/Acquisition", "isUnreached", "()Z"⟩ : MethodName)) (z := (⟨"com/example/holdfast/holdfast/Acquisition", "isUnreached", "()Z"⟩ : MethodName)) hown (mvT hZ (hw _ (List.mem_of_getElem? (i := 57) rfl))) (mvT hZ (hw _ (List.mem_of_getElem? (i := 58) rfl))) (notFace_of_selects (args := #[]) (mvT hZ (hw _ (List.mem_of_getElem? (i := 60) rfl)))) (mvT hZ (hw _ (List.mem_of_getElem? (i := 60) rfl))) (mvT hZ (hw _ (List.mem_of_getElem? (i := 59) rfl))) (by decide) (backOf (W := 0) (rm_isUnreached l Z a0 hw [] b2 T2.heap n0 Od G_unreached) hZ (hw _ (List.mem_of_getElem? (i := 61) rfl)) (hw _ (List.mem_of_getElem? (i := 3) rfl)) (by decide) (by decide)) q9a q9c (g := (mkF m 147 #[.val (.long p0), .second, .val (.long (1 : Int64)), .second, .val (.ref b2), .val (.int (1 : Int32))] [(.ref b2)])) rfl (by rw [hml]; rfl) (Steps.refl _) (argsL := []) (rest := []) (lenOf pd_2829Z rfl) rfl (by show 2 * 0 + _ ≤ _; exact Nat.le_of_eq rfl) (hb hby at_147) (fun _ _ => ⟨rfl, e8, Nat.le_of_ble_eq_true rfl, Nat.le_of_ble_eq_true rfl⟩)
    dsimp only [Pt.U, Pt.locs, Pt.cells, Pt.slots] at X9 l9 y9 z9 st9 hQ9
    subst l9 y9 z9
    obtain ⟨rfl, N9q, e9⟩ := hQ9
    have N9 := Fr.app N8 N9q
    refine OEnds.via (fun _ k => st9.trans k) ?_
    show OEnds p e below s _ _ _ (T9.setTop (mkF m 150 #[.val (.long p0), .second, .val (.long (1 : Int64)), .second, .val (.ref b2), .val (.int (1 : Int32))] [(.int (0 : Int32))]))
    refine OEnds.via (fun _ k => XS.ifNo X9.here hx rfl (hb hby at_150) rfl ((if0 _ _).trans (teq (by decide : (0 : Int32) = (0 : Int32))).2) k) ?_
    show OEnds p e below s _ _ _ (T9.setTop (mkF m 153 #[.val (.long p0), .second, .val (.long (1 : Int64)), .second, .val (.ref b2), .val (.int (1 : Int32))] []))
    refine OEnds.via (fun _ k => XS.iconst X9.here hx rfl (hb hby at_153) k) ?_
    show OEnds p e below s _ _ _ (T9.setTop (mkF m 154 #[.val (.long p0), .second, .val (.long (1 : Int64)), .second, .val (.ref b2), .val (.int (1 : Int32))] [(.int (1 : Int32))]))
    refine OEnds.via (fun _ k => XS.goto X9.here hx rfl (pc0 := 154) (pc' := 158) rfl (hb hby at_154) (by decide) (by decide) k) ?_
    show OEnds p e below s _ _ _ (T9.setTop (mkF m 158 #[.val (.long p0), .second, .val (.long (1 : Int64)), .second, .val (.ref b2), .val (.int (1 : Int32))] [(.int (1 : Int32))]))
    refine OEnds.via (fun _ k => XS.istore X9.here hx rfl (hb hby at_158) rfl (l' := #[.val (.long p0), .second, .val (.long (1 : Int64)), .second, .val (.ref b2), .val (.int (1 : Int32))]) rfl k) ?_
    show OEnds p e below s _ _ _ (T9.setTop (mkF m 160 #[.val (.long p0), .second, .val (.long (1 : Int64)), .second, .val (.ref b2), .val (.int (1 : Int32))] []))
    refine OEnds.via (fun _ k => XS.iload X9.here hx rfl (hb hby at_160) rfl k) ?_
    show OEnds p e below s _ _ _ (T9.setTop (mkF m 162 #[.val (.long p0), .second, .val (.long (1 : Int64)), .second, .val (.ref b2), .val (.int (1 : Int32))] [(.int (1 : Int32))]))
    refine OEnds.via (fun _ k => XS.ifNo X9.here hx rfl (hb hby at_162) rfl ((if0 _ _).trans (feq (by decide : ¬ ((1 : Int32) = (0 : Int32)))).1) k) ?_
    show OEnds p e below s _ _ _ (T9.setTop (mkF m 165 #[.val (.long p0), .second, .val (.long (1 : Int64)), .second, .val (.ref b2), .val (.int (1 : Int32))] []))
    refine OEnds.via (fun _ k => XS.aload X9.here hx rfl (hb hby at_165) rfl rfl k) ?_
    show OEnds p e below s _ _ _ (T9.setTop (mkF m 167 #[.val (.long p0), .second, .val (.long (1 : Int64)), .second, .val (.ref b2), .val (.int (1 : Int32))] [(.ref b2)]))
    obtain ⟨cq10, kq10, q10a, q10b, q10c⟩ := isOf hZ e9 E_b
    obtain ⟨_, _, ⟨T10, L10, k10, n10⟩, -, X10, ⟨Lc10, hQ10, l10, y10, z10⟩, st10⟩ := X9.virtualBack hx (y := (⟨"com/example/holdfast/holdfast/Acquisition", "unreachedBy", "()Lcom/example/holdfast/holdfast/HoldfastException;"⟩ : MethodName)) (z := (⟨"com/example/holdfast/holdfast/Acquisition", "unreachedBy", "()Lcom/example/holdfast/holdfast/HoldfastException;"⟩ : MethodName)) hown (mvT hZ (hw _ (List.mem_of_getElem? (i := 62) rfl))) (mvT hZ (hw _ (List.mem_of_getElem? (i := 63) rfl))) (notFace_of_selects (args := #[]) (mvT hZ (hw _ (List.mem_of_getElem? (i := 65) rfl)))) (mvT hZ (hw _ (List.mem_of_getElem? (i := 65) rfl))) (mvT hZ (hw _ (List.mem_of_getElem? (i := 64) rfl))) (by decide) (backOf (W := 0) (rm_unreachedBy l Z a0 hw [] b2 T2.heap n0 Od G_unreached) hZ (hw _ (List.mem_of_getElem? (i := 66) rfl)) (hw _ (List.mem_of_getElem? (i := 3) rfl)) (by decide) (by decide)) q10a q10c (g := (mkF m 167 #[.val (.long p0), .second, .val (.long (1 : Int64)), .second, .val (.ref b2), .val (.int (1 : Int32))] [(.ref b2)])) rfl (by rw [hml]; rfl) (Steps.refl _) (argsL := []) (rest := []) (lenOf pd_2829Lcom2fexample2fholdfast2fholdfast2fHoldfastException3b rfl) rfl (by show 2 * 0 + _ ≤ _; exact Nat.le_of_eq rfl) (hb hby at_167) (fun _ _ => ⟨rfl, e9, Nat.le_of_ble_eq_true rfl, Nat.le_of_ble_eq_true rfl⟩)
    dsimp only [Pt.U, Pt.locs, Pt.cells, Pt.slots] at X10 l10 y10 z10 st10 hQ10
    subst l10 y10 z10
    obtain ⟨rfl, N10q, e10⟩ := hQ10
    have N10 := Fr.app N9 N10q
    refine OEnds.via (fun _ k => st10.trans k) ?_
    show OEnds p e below s _ _ _ (T10.setTop (mkF m 170 #[.val (.long p0), .second, .val (.long (1 : Int64)), .second, .val (.ref b2), .val (.int (1 : Int32))] [.null]))
    refine OEnds.via (fun _ k => XS.ifnonnullNo X10.here hx rfl (hb hby at_170) rfl k) ?_
    show OEnds p e below s _ _ _ (T10.setTop (mkF m 173 #[.val (.long p0), .second, .val (.long (1 : Int64)), .second, .val (.ref b2), .val (.int (1 : Int32))] []))
    refine OEnds.via (fun _ k => XS.iconst X10.here hx rfl (hb hby at_173) k) ?_
    show OEnds p e below s _ _ _ (T10.setTop (mkF m 174 #[.val (.long p0), .second, .val (.long (1 : Int64)), .second, .val (.ref b2), .val (.int (1 : Int32))] [(.int (1 : Int32))]))
    refine OEnds.via (fun _ k => XS.goto X10.here hx rfl (pc0 := 174) (pc' := 178) rfl (hb hby at_174) (by decide) (by decide) k) ?_
    show OEnds p e below s _ _ _ (T10.setTop (mkF m 178 #[.val (.long p0), .second, .val (.long (1 : Int64)), .second, .val (.ref b2), .val (.int (1 : Int32))] [(.int (1 : Int32))]))
    refine OEnds.via (fun _ k => XS.istore X10.here hx rfl (hb hby at_178) rfl (l' := #[.val (.long p0), .second, .val (.long (1 : Int64)), .second, .val (.ref b2), .val (.int (1 : Int32))]) rfl k) ?_
    show OEnds p e below s _ _ _ (T10.setTop (mkF m 180 #[.val (.long p0), .second, .val (.long (1 : Int64)), .second, .val (.ref b2), .val (.int (1 : Int32))] []))
    refine OEnds.via (fun _ k => XS.iload X10.here hx rfl (hb hby at_180) rfl k) ?_
    show OEnds p e below s _ _ _ (T10.setTop (mkF m 182 #[.val (.long p0), .second, .val (.long (1 : Int64)), .second, .val (.ref b2), .val (.int (1 : Int32))] [(.int (1 : Int32))]))
    refine OEnds.retN X10 hx hlk (t := .boolean) Bd.returns (by simp) (hb hby at_182) ?_ (by decide) (by decide)
    exact ⟨rfl, N10⟩
  · skip
    refine OEnds.via (fun _ k => XS.ifYes X0.here hx rfl (pc0 := 9) (pc' := 14) rfl (hb hby at_9) rfl ((if0 _ _).trans (feq hc9_0).2) (by decide) (by decide) k) ?_
    show OEnds p e below s _ _ _ (s₁.setTop (mkF m 14 #[.val (.long p0), .second, .val (.long (p0 &&& (9223372036854775807 : Int64))), .second, .unset, .unset] []))
    refine OEnds.via (fun _ k => XS.lloadN X0.here hx rfl (hb hby at_14) rfl k) ?_
    show OEnds p e below s _ _ _ (s₁.setTop (mkF m 15 #[.val (.long p0), .second, .val (.long (p0 &&& (9223372036854775807 : Int64))), .second, .unset, .unset] [(.long (p0 &&& (9223372036854775807 : Int64)))]))
    obtain ⟨_, _, ⟨T11, L11, k11, n11⟩, -, X11, ⟨Lc11, hQ11, l11, y11, z11⟩, st11⟩ := Jvm.LawKit.callS X0 hx (y := (⟨"com/example/holdfast/holdfast/Acquisition", "taken", "(J)Lcom/example/holdfast/holdfast/Acquisition;"⟩ : MethodName)) hown (mvT hZ (hw _ (List.mem_of_getElem? (i := 1) rfl))) (mvT hZ (hw _ (List.mem_of_getElem? (i := 2) rfl))) (mvT hZ (hw _ (List.mem_of_getElem? (i := 3) rfl))) (mvT hZ (hw _ (List.mem_of_getElem? (i := 4) rfl))) (by decide) (backOf (W := 0) (rmT l Z a0 hw [] (p0 &&& (9223372036854775807 : Int64)) h0 n0 Od ) hZ (hw _ (List.mem_of_getElem? (i := 4) rfl)) (hw _ (List.mem_of_getElem? (i := 3) rfl)) (by decide) (by decide)) (g := (mkF m 15 #[.val (.long p0), .second, .val (.long (p0 &&& (9223372036854775807 : Int64))), .second, .unset, .unset] [(.long (p0 &&& (9223372036854775807 : Int64)))])) rfl (by rw [hml]; rfl) (argsL := [(.long (p0 &&& (9223372036854775807 : Int64)))]) (rest := []) (lenOf pd_28J29Lcom2fexample2fholdfast2fholdfast2fAcquisition3b rfl) rfl (by show 2 * 0 + _ ≤ _; exact Nat.le_of_eq rfl) (hb hby at_15) (fun _ _ => ⟨rfl, e0, Nat.le_of_ble_eq_true rfl, Nat.le_of_ble_eq_true rfl⟩)
    dsimp only [Pt.U, Pt.locs, Pt.cells, Pt.slots] at X11 l11 y11 z11 st11 hQ11
    subst l11 y11 z11
    obtain ⟨b11, rfl, N11q, K11, ge11, E_b, G_token, G_askAgainMillis, G_keptBy, G_unreached⟩ := hQ11
    have N11 := Fr.app N0 N11q
    replace Od := Od.keep K11 all0
    have ne_UNASKED : b11 ≠ a_UNASKED := Ne.symm (O0.ne E_UNASKED.lt ge11)
    have ne_UNCONFIRMED : b11 ≠ a_UNCONFIRMED := Ne.symm (O0.ne E_UNCONFIRMED.lt ge11)
    refine OEnds.via (fun _ k => st11 _ k) ?_
    show OEnds p e below s _ _ _ (T11.setTop (mkF m 18 #[.val (.long p0), .second, .val (.long (p0 &&& (9223372036854775807 : Int64))), .second, .unset, .unset] [(.ref b11)]))
    refine OEnds.via (fun _ k => XS.astore X11.here hx rfl (hb hby at_18) rfl rfl (l' := #[.val (.long p0), .second, .val (.long (p0 &&& (9223372036854775807 : Int64))), .second, .val (.ref b11), .unset]) rfl k) ?_
    show OEnds p e below s _ _ _ (T11.setTop (mkF m 20 #[.val (.long p0), .second, .val (.long (p0 &&& (9223372036854775807 : Int64))), .second, .val (.ref b11), .unset] []))
    refine OEnds.via (fun _ k => XS.aload X11.here hx rfl (hb hby at_20) rfl rfl k) ?_
    show OEnds p e below s _ _ _ (T11.setTop (mkF m 22 #[.val (.long p0), .second, .val (.long (p0 &&& (9223372036854775807 : Int64))), .second, .val (.ref b11), .unset] [(.ref b11)]))
    refine OEnds.via (fun _ k => XS.ifnonnullYes X11.here hx rfl (pc0 := 22) (pc' := 27) rfl (hb hby at_22) rfl (by decide) (by decide) k) ?_
    show OEnds p e below s _ _ _ (T11.setTop (mkF m 27 #[.val (.long p0), .second, .val (.long (p0 &&& (9223372036854775807 : Int64))), .second, .val (.ref b11), .unset] []))
    refine OEnds.via (fun _ k => XS.aload X11.here hx rfl (hb hby at_27) rfl rfl k) ?_
    show OEnds p e below s _ _ _ (T11.setTop (mkF m 29 #[.val (.long p0), .second, .val (.long (p0 &&& (9223372036854775807 : Int64))), .second, .val (.ref b11), .unset] [(.ref b11)]))
    obtain ⟨cq12, kq12, q12a, q12b, q12c⟩ := isOf hZ rfl E_b
    obtain ⟨_, _, ⟨T12, L12, k12, n12⟩, -, X12, ⟨Lc12, hQ12, l12, y12, z12⟩, st12⟩ := X11.virtualBack hx (y := (⟨"com/example/holdfast/holdfast/Acquisition", "isTaken", "()Z"⟩ : MethodName)) (z := (⟨"com/example/holdfast/holdfast/Acquisition", "isTaken", "()Z"⟩ : MethodName)) hown (mvT hZ (hw _ (List.mem_of_getElem? (i := 22) rfl))) (mvT hZ (hw _ (List.mem_of_getElem? (i := 23) rfl))) (notFace_of_selects (args := #[]) (mvT hZ (hw _ (List.mem_of_getElem? (i := 25) rfl)))) (mvT hZ (hw _ (List.mem_of_getElem? (i := 25) rfl))) (mvT hZ (hw _ (List.mem_of_getElem? (i := 24) rfl))) (by decide) (backOf (W := 0) (rm_isTaken l Z a0 hw [] b11 (p0 &&& (9223372036854775807 : Int64)) T11.heap n0 Od G_token (own_pos _ hc9_0)) hZ (hw _ (List.mem_of_getElem? (i := 26) rfl)) (hw _ (List.mem_of_getElem? (i := 3) rfl)) (by decide) (by decide)) q12a q12c (g := (mkF m 29 #[.val (.long p0), .second, .val (.long (p0 &&& (9223372036854775807 : Int64))), .second, .val (.ref b11), .unset] [(.ref b11)])) rfl (by rw [hml]; rfl) (Steps.refl _) (argsL := []) (rest := []) (lenOf pd_2829Z rfl) rfl (by show 2 * 0 + _ ≤ _; exact Nat.le_of_eq rfl) (hb hby at_29) (fun _ _ => ⟨rfl, rfl, Nat.le_of_ble_eq_true rfl, Nat.le_of_ble_eq_true rfl⟩)
    dsimp only [Pt.U, Pt.locs, Pt.cells, Pt.slots] at X12 l12 y12 z12 st12 hQ12
    subst l12 y12 z12
    obtain ⟨rfl, N12q, e12⟩ := hQ12
    have N12 := Fr.app N11 N12q
    refine OEnds.via (fun _ k => st12.trans k) ?_
    show OEnds p e below s _ _ _ (T12.setTop (mkF m 32 #[.val (.long p0), .second, .val (.long (p0 &&& (9223372036854775807 : Int64))), .second, .val (.ref b11), .unset] [(.int (1 : Int32))]))
    refine OEnds.via (fun _ k => XS.istore X12.here hx rfl (hb hby at_32) rfl (l' := #[.val (.long p0), .second, .val (.long (p0 &&& (9223372036854775807 : Int64))), .second, .val (.ref b11), .val (.int (1 : Int32))]) rfl k) ?_
    show OEnds p e below s _ _ _ (T12.setTop (mkF m 34 #[.val (.long p0), .second, .val (.long (p0 &&& (9223372036854775807 : Int64))), .second, .val (.ref b11), .val (.int (1 : Int32))] []))
    refine OEnds.via (fun _ k => XS.iload X12.here hx rfl (hb hby at_34) rfl k) ?_
    show OEnds p e below s _ _ _ (T12.setTop (mkF m 36 #[.val (.long p0), .second, .val (.long (p0 &&& (9223372036854775807 : Int64))), .second, .val (.ref b11), .val (.int (1 : Int32))] [(.int (1 : Int32))]))
    refine OEnds.via (fun _ k => XS.ifNo X12.here hx rfl (hb hby at_36) rfl ((if0 _ _).trans (feq (by decide : ¬ ((1 : Int32) = (0 : Int32)))).1) k) ?_
    show OEnds p e below s _ _ _ (T12.setTop (mkF m 39 #[.val (.long p0), .second, .val (.long (p0 &&& (9223372036854775807 : Int64))), .second, .val (.ref b11), .val (.int (1 : Int32))] []))
    refine OEnds.via (fun _ k => XS.aload X12.here hx rfl (hb hby at_39) rfl rfl k) ?_
    show OEnds p e below s _ _ _ (T12.setTop (mkF m 41 #[.val (.long p0), .second, .val (.long (p0 &&& (9223372036854775807 : Int64))), .second, .val (.ref b11), .val (.int (1 : Int32))] [(.ref b11)]))
    obtain ⟨cq13, kq13, q13a, q13b, q13c⟩ := isOf hZ e12 E_b
    obtain ⟨_, _, ⟨T13, L13, k13, n13⟩, -, X13, ⟨Lc13, hQ13, l13, y13, z13⟩, st13⟩ := X12.virtualBack hx (y := (⟨"com/example/holdfast/holdfast/Acquisition", "token", "()J"⟩ : MethodName)) (z := (⟨"com/example/holdfast/holdfast/Acquisition", "token", "()J"⟩ : MethodName)) hown (mvT hZ (hw _ (List.mem_of_getElem? (i := 27) rfl))) (mvT hZ (hw _ (List.mem_of_getElem? (i := 28) rfl))) (notFace_of_selects (args := #[]) (mvT hZ (hw _ (List.mem_of_getElem? (i := 30) rfl)))) (mvT hZ (hw _ (List.mem_of_getElem? (i := 30) rfl))) (mvT hZ (hw _ (List.mem_of_getElem? (i := 29) rfl))) (by decide) (backOf (W := 0) (rm_token l Z a0 hw [] b11 (p0 &&& (9223372036854775807 : Int64)) T11.heap n0 Od G_token) hZ (hw _ (List.mem_of_getElem? (i := 31) rfl)) (hw _ (List.mem_of_getElem? (i := 3) rfl)) (by decide) (by decide)) q13a q13c (g := (mkF m 41 #[.val (.long p0), .second, .val (.long (p0 &&& (9223372036854775807 : Int64))), .second, .val (.ref b11), .val (.int (1 : Int32))] [(.ref b11)])) rfl (by rw [hml]; rfl) (Steps.refl _) (argsL := []) (rest := []) (lenOf pd_2829J rfl) rfl (by show 2 * 0 + _ ≤ _; exact Nat.le_of_eq rfl) (hb hby at_41) (fun _ _ => ⟨rfl, e12, Nat.le_of_ble_eq_true rfl, Nat.le_of_ble_eq_true rfl⟩)
    dsimp only [Pt.U, Pt.locs, Pt.cells, Pt.slots] at X13 l13 y13 z13 st13 hQ13
    subst l13 y13 z13
    obtain ⟨rfl, N13q, e13⟩ := hQ13
    have N13 := Fr.app N12 N13q
    refine OEnds.via (fun _ k => st13.trans k) ?_
    show OEnds p e below s _ _ _ (T13.setTop (mkF m 44 #[.val (.long p0), .second, .val (.long (p0 &&& (9223372036854775807 : Int64))), .second, .val (.ref b11), .val (.int (1 : Int32))] [(.long (p0 &&& (9223372036854775807 : Int64)))]))
    refine OEnds.via (fun _ k => XS.lloadN X13.here hx rfl (hb hby at_44) rfl k) ?_
    show OEnds p e below s _ _ _ (T13.setTop (mkF m 45 #[.val (.long p0), .second, .val (.long (p0 &&& (9223372036854775807 : Int64))), .second, .val (.ref b11), .val (.int (1 : Int32))] [(.long (p0 &&& (9223372036854775807 : Int64))), (.long (p0 &&& (9223372036854775807 : Int64)))]))
    refine OEnds.via (fun _ k => XS.lcmp X13.here hx rfl (hb hby at_45) rfl k) ?_
    show OEnds p e below s _ _ _ (T13.setTop (mkF m 46 #[.val (.long p0), .second, .val (.long (p0 &&& (9223372036854775807 : Int64))), .second, .val (.ref b11), .val (.int (1 : Int32))] [(.int (lcmpW (p0 &&& (9223372036854775807 : Int64)) (p0 &&& (9223372036854775807 : Int64))))]))
    refine OEnds.via (fun _ k => XS.ifNo X13.here hx rfl (hb hby at_46) rfl ((if0 _ _).trans (teq (own_lc0 _)).2) k) ?_
    show OEnds p e below s _ _ _ (T13.setTop (mkF m 49 #[.val (.long p0), .second, .val (.long (p0 &&& (9223372036854775807 : Int64))), .second, .val (.ref b11), .val (.int (1 : Int32))] []))
    refine OEnds.via (fun _ k => XS.iconst X13.here hx rfl (hb hby at_49) k) ?_
    show OEnds p e below s _ _ _ (T13.setTop (mkF m 50 #[.val (.long p0), .second, .val (.long (p0 &&& (9223372036854775807 : Int64))), .second, .val (.ref b11), .val (.int (1 : Int32))] [(.int (1 : Int32))]))
    refine OEnds.via (fun _ k => XS.goto X13.here hx rfl (pc0 := 50) (pc' := 54) rfl (hb hby at_50) (by decide) (by decide) k) ?_
    show OEnds p e below s _ _ _ (T13.setTop (mkF m 54 #[.val (.long p0), .second, .val (.long (p0 &&& (9223372036854775807 : Int64))), .second, .val (.ref b11), .val (.int (1 : Int32))] [(.int (1 : Int32))]))
    refine OEnds.via (fun _ k => XS.istore X13.here hx rfl (hb hby at_54) rfl (l' := #[.val (.long p0), .second, .val (.long (p0 &&& (9223372036854775807 : Int64))), .second, .val (.ref b11), .val (.int (1 : Int32))]) rfl k) ?_
    show OEnds p e below s _ _ _ (T13.setTop (mkF m 56 #[.val (.long p0), .second, .val (.long (p0 &&& (9223372036854775807 : Int64))), .second, .val (.ref b11), .val (.int (1 : Int32))] []))
    refine OEnds.via (fun _ k => XS.iload X13.here hx rfl (hb hby at_56) rfl k) ?_
    show OEnds p e below s _ _ _ (T13.setTop (mkF m 58 #[.val (.long p0), .second, .val (.long (p0 &&& (9223372036854775807 : Int64))), .second, .val (.ref b11), .val (.int (1 : Int32))] [(.int (1 : Int32))]))
    refine OEnds.via (fun _ k => XS.ifNo X13.here hx rfl (hb hby at_58) rfl ((if0 _ _).trans (feq (by decide : ¬ ((1 : Int32) = (0 : Int32)))).1) k) ?_
    show OEnds p e below s _ _ _ (T13.setTop (mkF m 61 #[.val (.long p0), .second, .val (.long (p0 &&& (9223372036854775807 : Int64))), .second, .val (.ref b11), .val (.int (1 : Int32))] []))
    refine OEnds.via (fun _ k => XS.aload X13.here hx rfl (hb hby at_61) rfl rfl k) ?_
    show OEnds p e below s _ _ _ (T13.setTop (mkF m 63 #[.val (.long p0), .second, .val (.long (p0 &&& (9223372036854775807 : Int64))), .second, .val (.ref b11), .val (.int (1 : Int32))] [(.ref b11)]))
    obtain ⟨cq14, kq14, q14a, q14b, q14c⟩ := isOf hZ e13 E_b
    obtain ⟨_, _, ⟨T14, L14, k14, n14⟩, -, X14, ⟨Lc14, hQ14, l14, y14, z14⟩, st14⟩ := X13.virtualBack hx (y := (⟨"com/example/holdfast/holdfast/Acquisition", "askAgainMillis", "()J"⟩ : MethodName)) (z := (⟨"com/example/holdfast/holdfast/Acquisition", "askAgainMillis", "()J"⟩ : MethodName)) hown (mvT hZ (hw _ (List.mem_of_getElem? (i := 32) rfl))) (mvT hZ (hw _ (List.mem_of_getElem? (i := 33) rfl))) (notFace_of_selects (args := #[]) (mvT hZ (hw _ (List.mem_of_getElem? (i := 35) rfl)))) (mvT hZ (hw _ (List.mem_of_getElem? (i := 35) rfl))) (mvT hZ (hw _ (List.mem_of_getElem? (i := 34) rfl))) (by decide) (backOf (W := 0) (rm_askAgainMillis l Z a0 hw [] b11 (-1 : Int64) T11.heap n0 Od G_askAgainMillis) hZ (hw _ (List.mem_of_getElem? (i := 36) rfl)) (hw _ (List.mem_of_getElem? (i := 3) rfl)) (by decide) (by decide)) q14a q14c (g := (mkF m 63 #[.val (.long p0), .second, .val (.long (p0 &&& (9223372036854775807 : Int64))), .second, .val (.ref b11), .val (.int (1 : Int32))] [(.ref b11)])) rfl (by rw [hml]; rfl) (Steps.refl _) (argsL := []) (rest := []) (lenOf pd_2829J rfl) rfl (by show 2 * 0 + _ ≤ _; exact Nat.le_of_eq rfl) (hb hby at_63) (fun _ _ => ⟨rfl, e13, Nat.le_of_ble_eq_true rfl, Nat.le_of_ble_eq_true rfl⟩)
    dsimp only [Pt.U, Pt.locs, Pt.cells, Pt.slots] at X14 l14 y14 z14 st14 hQ14
    subst l14 y14 z14
    obtain ⟨rfl, N14q, e14⟩ := hQ14
    have N14 := Fr.app N13 N14q
    refine OEnds.via (fun _ k => st14.trans k) ?_
    show OEnds p e below s _ _ _ (T14.setTop (mkF m 66 #[.val (.long p0), .second, .val (.long (p0 &&& (9223372036854775807 : Int64))), .second, .val (.ref b11), .val (.int (1 : Int32))] [(.long (-1 : Int64))]))
    refine OEnds.via (fun _ k => X14.ldc2Long hx hown (mvT hZ (hw _ (List.mem_of_getElem? (i := 37) rfl))) (g := (mkF m 66 #[.val (.long p0), .second, .val (.long (p0 &&& (9223372036854775807 : Int64))), .second, .val (.ref b11), .val (.int (1 : Int32))] [(.long (-1 : Int64))])) rfl (hb hby at_66) _ k) ?_
    show OEnds p e below s _ _ _ (T14.setTop (mkF m 69 #[.val (.long p0), .second, .val (.long (p0 &&& (9223372036854775807 : Int64))), .second, .val (.ref b11), .val (.int (1 : Int32))] [(.long (-1 : Int64)), (.long (-1 : Int64))]))
    refine OEnds.via (fun _ k => XS.lcmp X14.here hx rfl (hb hby at_69) rfl k) ?_
    show OEnds p e below s _ _ _ (T14.setTop (mkF m 70 #[.val (.long p0), .second, .val (.long (p0 &&& (9223372036854775807 : Int64))), .second, .val (.ref b11), .val (.int (1 : Int32))] [(.int (lcmpW (-1 : Int64) (-1 : Int64)))]))
    refine OEnds.via (fun _ k => XS.ifNo X14.here hx rfl (hb hby at_70) rfl ((if0 _ _).trans (teq (own_lc0 _)).2) k) ?_
    show OEnds p e below s _ _ _ (T14.setTop (mkF m 73 #[.val (.long p0), .second, .val (.long (p0 &&& (9223372036854775807 : Int64))), .second, .val (.ref b11), .val (.int (1 : Int32))] []))
    refine OEnds.via (fun _ k => XS.iconst X14.here hx rfl (hb hby at_73) k) ?_
    show OEnds p e below s _ _ _ (T14.setTop (mkF m 74 #[.val (.long p0), .second, .val (.long (p0 &&& (9223372036854775807 : Int64))), .second, .val (.ref b11), .val (.int (1 : Int32))] [(.int (1 : Int32))]))
    refine OEnds.via (fun _ k => XS.goto X14.here hx rfl (pc0 := 74) (pc' := 78) rfl (hb hby at_74) (by decide) (by decide) k) ?_
    show OEnds p e below s _ _ _ (T14.setTop (mkF m 78 #[.val (.long p0), .second, .val (.long (p0 &&& (9223372036854775807 : Int64))), .second, .val (.ref b11), .val (.int (1 : Int32))] [(.int (1 : Int32))]))
    refine OEnds.via (fun _ k => XS.istore X14.here hx rfl (hb hby at_78) rfl (l' := #[.val (.long p0), .second, .val (.long (p0 &&& (9223372036854775807 : Int64))), .second, .val (.ref b11), .val (.int (1 : Int32))]) rfl k) ?_
    show OEnds p e below s _ _ _ (T14.setTop (mkF m 80 #[.val (.long p0), .second, .val (.long (p0 &&& (9223372036854775807 : Int64))), .second, .val (.ref b11), .val (.int (1 : Int32))] []))
    refine OEnds.via (fun _ k => XS.iload X14.here hx rfl (hb hby at_80) rfl k) ?_
    show OEnds p e below s _ _ _ (T14.setTop (mkF m 82 #[.val (.long p0), .second, .val (.long (p0 &&& (9223372036854775807 : Int64))), .second, .val (.ref b11), .val (.int (1 : Int32))] [(.int (1 : Int32))]))
    refine OEnds.via (fun _ k => XS.ifNo X14.here hx rfl (hb hby at_82) rfl ((if0 _ _).trans (feq (by decide : ¬ ((1 : Int32) = (0 : Int32)))).1) k) ?_
    show OEnds p e below s _ _ _ (T14.setTop (mkF m 85 #[.val (.long p0), .second, .val (.long (p0 &&& (9223372036854775807 : Int64))), .second, .val (.ref b11), .val (.int (1 : Int32))] []))
    refine OEnds.via (fun _ k => XS.aload X14.here hx rfl (hb hby at_85) rfl rfl k) ?_
    show OEnds p e below s _ _ _ (T14.setTop (mkF m 87 #[.val (.long p0), .second, .val (.long (p0 &&& (9223372036854775807 : Int64))), .second, .val (.ref b11), .val (.int (1 : Int32))] [(.ref b11)]))
    obtain ⟨cq15, kq15, q15a, q15b, q15c⟩ := isOf hZ e14 E_b
    obtain ⟨_, _, ⟨T15, L15, k15, n15⟩, -, X15, ⟨Lc15, hQ15, l15, y15, z15⟩, st15⟩ := X14.virtualBack hx (y := (⟨"com/example/holdfast/holdfast/Acquisition", "keptBy", "()Ljava/lang/String;"⟩ : MethodName)) (z := (⟨"com/example/holdfast/holdfast/Acquisition", "keptBy", "()Ljava/lang/String;"⟩ : MethodName)) hown (mvT hZ (hw _ (List.mem_of_getElem? (i := 38) rfl))) (mvT hZ (hw _ (List.mem_of_getElem? (i := 39) rfl))) (notFace_of_selects (args := #[]) (mvT hZ (hw _ (List.mem_of_getElem? (i := 41) rfl)))) (mvT hZ (hw _ (List.mem_of_getElem? (i := 41) rfl))) (mvT hZ (hw _ (List.mem_of_getElem? (i := 40) rfl))) (by decide) (backOf (W := 0) (rm_keptBy l Z a0 hw [] b11 T11.heap n0 Od G_keptBy) hZ (hw _ (List.mem_of_getElem? (i := 42) rfl)) (hw _ (List.mem_of_getElem? (i := 3) rfl)) (by decide) (by decide)) q15a q15c (g := (mkF m 87 #[.val (.long p0), .second, .val (.long (p0 &&& (9223372036854775807 : Int64))), .second, .val (.ref b11), .val (.int (1 : Int32))] [(.ref b11)])) rfl (by rw [hml]; rfl) (Steps.refl _) (argsL := []) (rest := []) (lenOf pd_2829Ljava2flang2fString3b rfl) rfl (by show 2 * 0 + _ ≤ _; exact Nat.le_of_eq rfl) (hb hby at_87) (fun _ _ => ⟨rfl, e14, Nat.le_of_ble_eq_true rfl, Nat.le_of_ble_eq_true rfl⟩)
    dsimp only [Pt.U, Pt.locs, Pt.cells, Pt.slots] at X15 l15 y15 z15 st15 hQ15
    subst l15 y15 z15
    obtain ⟨rfl, N15q, e15⟩ := hQ15
    have N15 := Fr.app N14 N15q
    refine OEnds.via (fun _ k => st15.trans k) ?_
    show OEnds p e below s _ _ _ (T15.setTop (mkF m 90 #[.val (.long p0), .second, .val (.long (p0 &&& (9223372036854775807 : Int64))), .second, .val (.ref b11), .val (.int (1 : Int32))] [.null]))
    refine OEnds.via (fun _ k => XS.ifnonnullNo X15.here hx rfl (hb hby at_90) rfl k) ?_
    show OEnds p e below s _ _ _ (T15.setTop (mkF m 93 #[.val (.long p0), .second, .val (.long (p0 &&& (9223372036854775807 : Int64))), .second, .val (.ref b11), .val (.int (1 : Int32))] []))
    refine OEnds.via (fun _ k => XS.iconst X15.here hx rfl (hb hby at_93) k) ?_
    show OEnds p e below s _ _ _ (T15.setTop (mkF m 94 #[.val (.long p0), .second, .val (.long (p0 &&& (9223372036854775807 : Int64))), .second, .val (.ref b11), .val (.int (1 : Int32))] [(.int (1 : Int32))]))
    refine OEnds.via (fun _ k => XS.goto X15.here hx rfl (pc0 := 94) (pc' := 98) rfl (hb hby at_94) (by decide) (by decide) k) ?_
    show OEnds p e below s _ _ _ (T15.setTop (mkF m 98 #[.val (.long p0), .second, .val (.long (p0 &&& (9223372036854775807 : Int64))), .second, .val (.ref b11), .val (.int (1 : Int32))] [(.int (1 : Int32))]))
    refine OEnds.via (fun _ k => XS.istore X15.here hx rfl (hb hby at_98) rfl (l' := #[.val (.long p0), .second, .val (.long (p0 &&& (9223372036854775807 : Int64))), .second, .val (.ref b11), .val (.int (1 : Int32))]) rfl k) ?_
    show OEnds p e below s _ _ _ (T15.setTop (mkF m 100 #[.val (.long p0), .second, .val (.long (p0 &&& (9223372036854775807 : Int64))), .second, .val (.ref b11), .val (.int (1 : Int32))] []))
    refine OEnds.via (fun _ k => XS.iload X15.here hx rfl (hb hby at_100) rfl k) ?_
    show OEnds p e below s _ _ _ (T15.setTop (mkF m 102 #[.val (.long p0), .second, .val (.long (p0 &&& (9223372036854775807 : Int64))), .second, .val (.ref b11), .val (.int (1 : Int32))] [(.int (1 : Int32))]))
    refine OEnds.via (fun _ k => XS.ifNo X15.here hx rfl (hb hby at_102) rfl ((if0 _ _).trans (feq (by decide : ¬ ((1 : Int32) = (0 : Int32)))).1) k) ?_
    show OEnds p e below s _ _ _ (T15.setTop (mkF m 105 #[.val (.long p0), .second, .val (.long (p0 &&& (9223372036854775807 : Int64))), .second, .val (.ref b11), .val (.int (1 : Int32))] []))
    refine OEnds.via (fun _ k => XS.aload X15.here hx rfl (hb hby at_105) rfl rfl k) ?_
    show OEnds p e below s _ _ _ (T15.setTop (mkF m 107 #[.val (.long p0), .second, .val (.long (p0 &&& (9223372036854775807 : Int64))), .second, .val (.ref b11), .val (.int (1 : Int32))] [(.ref b11)]))
    obtain ⟨cq16, kq16, q16a, q16b, q16c⟩ := isOf hZ e15 E_b
    obtain ⟨_, _, ⟨T16, L16, k16, n16⟩, -, X16, ⟨Lc16, hQ16, l16, y16, z16⟩, st16⟩ := X15.virtualBack hx (y := (⟨"com/example/holdfast/holdfast/Acquisition", "isUnasked", "()Z"⟩ : MethodName)) (z := (⟨"com/example/holdfast/holdfast/Acquisition", "isUnasked", "()Z"⟩ : MethodName)) hown (mvT hZ (hw _ (List.mem_of_getElem? (i := 43) rfl))) (mvT hZ (hw _ (List.mem_of_getElem? (i := 44) rfl))) (notFace_of_selects (args := #[]) (mvT hZ (hw _ (List.mem_of_getElem? (i := 46) rfl)))) (mvT hZ (hw _ (List.mem_of_getElem? (i := 46) rfl))) (mvT hZ (hw _ (List.mem_of_getElem? (i := 45) rfl))) (by decide) (backOf (W := 0) (rm_isUnasked l Z a0 hw [] b11 a_UNASKED T11.heap n0 Od S_UNASKED ne_UNASKED) hZ (hw _ (List.mem_of_getElem? (i := 47) rfl)) (hw _ (List.mem_of_getElem? (i := 3) rfl)) (by decide) (by decide)) q16a q16c (g := (mkF m 107 #[.val (.long p0), .second, .val (.long (p0 &&& (9223372036854775807 : Int64))), .second, .val (.ref b11), .val (.int (1 : Int32))] [(.ref b11)])) rfl (by rw [hml]; rfl) (Steps.refl _) (argsL := []) (rest := []) (lenOf pd_2829Z rfl) rfl (by show 2 * 0 + _ ≤ _; exact Nat.le_of_eq rfl) (hb hby at_107) (fun _ _ => ⟨rfl, e15, Nat.le_of_ble_eq_true rfl, Nat.le_of_ble_eq_true rfl⟩)
    dsimp only [Pt.U, Pt.locs, Pt.cells, Pt.slots] at X16 l16 y16 z16 st16 hQ16
    subst l16 y16 z16
    obtain ⟨rfl, N16q, e16⟩ := hQ16
    have N16 := Fr.app N15 N16q
    refine OEnds.via (fun _ k => st16.trans k) ?_
    show OEnds p e below s _ _ _ (T16.setTop (mkF m 110 #[.val (.long p0), .second, .val (.long (p0 &&& (9223372036854775807 : Int64))), .second, .val (.ref b11), .val (.int (1 : Int32))] [(.int (0 : Int32))]))
    refine OEnds.via (fun _ k => XS.ifNo X16.here hx rfl (hb hby at_110) rfl ((if0 _ _).trans (teq (by decide : (0 : Int32) = (0 : Int32))).2) k) ?_
    show OEnds p e below s _ _ _ (T16.setTop (mkF m 113 #[.val (.long p0), .second, .val (.long (p0 &&& (9223372036854775807 : Int64))), .second, .val (.ref b11), .val (.int (1 : Int32))] []))
    refine OEnds.via (fun _ k => XS.iconst X16.here hx rfl (hb hby at_113) k) ?_
    show OEnds p e below s _ _ _ (T16.setTop (mkF m 114 #[.val (.long p0), .second, .val (.long (p0 &&& (9223372036854775807 : Int64))), .second, .val (.ref b11), .val (.int (1 : Int32))] [(.int (1 : Int32))]))
    refine OEnds.via (fun _ k => XS.goto X16.here hx rfl (pc0 := 114) (pc' := 118) rfl (hb hby at_114) (by decide) (by decide) k) ?_
    show OEnds p e below s _ _ _ (T16.setTop (mkF m 118 #[.val (.long p0), .second, .val (.long (p0 &&& (9223372036854775807 : Int64))), .second, .val (.ref b11), .val (.int (1 : Int32))] [(.int (1 : Int32))]))
    refine OEnds.via (fun _ k => XS.istore X16.here hx rfl (hb hby at_118) rfl (l' := #[.val (.long p0), .second, .val (.long (p0 &&& (9223372036854775807 : Int64))), .second, .val (.ref b11), .val (.int (1 : Int32))]) rfl k) ?_
    show OEnds p e below s _ _ _ (T16.setTop (mkF m 120 #[.val (.long p0), .second, .val (.long (p0 &&& (9223372036854775807 : Int64))), .second, .val (.ref b11), .val (.int (1 : Int32))] []))
    refine OEnds.via (fun _ k => XS.iload X16.here hx rfl (hb hby at_120) rfl k) ?_
    show OEnds p e below s _ _ _ (T16.setTop (mkF m 122 #[.val (.long p0), .second, .val (.long (p0 &&& (9223372036854775807 : Int64))), .second, .val (.ref b11), .val (.int (1 : Int32))] [(.int (1 : Int32))]))
    refine OEnds.via (fun _ k => XS.ifNo X16.here hx rfl (hb hby at_122) rfl ((if0 _ _).trans (feq (by decide : ¬ ((1 : Int32) = (0 : Int32)))).1) k) ?_
    show OEnds p e below s _ _ _ (T16.setTop (mkF m 125 #[.val (.long p0), .second, .val (.long (p0 &&& (9223372036854775807 : Int64))), .second, .val (.ref b11), .val (.int (1 : Int32))] []))
    refine OEnds.via (fun _ k => XS.aload X16.here hx rfl (hb hby at_125) rfl rfl k) ?_
    show OEnds p e below s _ _ _ (T16.setTop (mkF m 127 #[.val (.long p0), .second, .val (.long (p0 &&& (9223372036854775807 : Int64))), .second, .val (.ref b11), .val (.int (1 : Int32))] [(.ref b11)]))
    obtain ⟨cq17, kq17, q17a, q17b, q17c⟩ := isOf hZ e16 E_b
    obtain ⟨_, _, ⟨T17, L17, k17, n17⟩, -, X17, ⟨Lc17, hQ17, l17, y17, z17⟩, st17⟩ := X16.virtualBack hx (y := (⟨"com/example/holdfast/holdfast/Acquisition", "isUnconfirmed", "()Z"⟩ : MethodName)) (z := (⟨"com/example/holdfast/holdfast/Acquisition", "isUnconfirmed", "()Z"⟩ : MethodName)) hown (mvT hZ (hw _ (List.mem_of_getElem? (i := 50) rfl))) (mvT hZ (hw _ (List.mem_of_getElem? (i := 51) rfl))) (notFace_of_selects (args := #[]) (mvT hZ (hw _ (List.mem_of_getElem? (i := 53) rfl)))) (mvT hZ (hw _ (List.mem_of_getElem? (i := 53) rfl))) (mvT hZ (hw _ (List.mem_of_getElem? (i := 52) rfl))) (by decide) (backOf (W := 0) (rm_isUnconfirmed l Z a0 hw [] b11 a_UNCONFIRMED T11.heap n0 Od S_UNCONFIRMED ne_UNCONFIRMED) hZ (hw _ (List.mem_of_getElem? (i := 54) rfl)) (hw _ (List.mem_of_getElem? (i := 3) rfl)) (by decide) (by decide)) q17a q17c (g := (mkF m 127 #[.val (.long p0), .second, .val (.long (p0 &&& (9223372036854775807 : Int64))), .second, .val (.ref b11), .val (.int (1 : Int32))] [(.ref b11)])) rfl (by rw [hml]; rfl) (Steps.refl _) (argsL := []) (rest := []) (lenOf pd_2829Z rfl) rfl (by show 2 * 0 + _ ≤ _; exact Nat.le_of_eq rfl) (hb hby at_127) (fun _ _ => ⟨rfl, e16, Nat.le_of_ble_eq_true rfl, Nat.le_of_ble_eq_true rfl⟩)
    dsimp only [Pt.U, Pt.locs, Pt.cells, Pt.slots] at X17 l17 y17 z17 st17 hQ17
    subst l17 y17 z17
    obtain ⟨rfl, N17q, e17⟩ := hQ17
    have N17 := Fr.app N16 N17q
    refine OEnds.via (fun _ k => st17.trans k) ?_
    show OEnds p e below s _ _ _ (T17.setTop (mkF m 130 #[.val (.long p0), .second, .val (.long (p0 &&& (9223372036854775807 : Int64))), .second, .val (.ref b11), .val (.int (1 : Int32))] [(.int (0 : Int32))]))
    refine OEnds.via (fun _ k => XS.ifNo X17.here hx rfl (hb hby at_130) rfl ((if0 _ _).trans (teq (by decide : (0 : Int32) = (0 : Int32))).2) k) ?_
    show OEnds p e below s _ _ _ (T17.setTop (mkF m 133 #[.val (.long p0), .second, .val (.long (p0 &&& (9223372036854775807 : Int64))), .second, .val (.ref b11), .val (.int (1 : Int32))] []))
    refine OEnds.via (fun _ k => XS.iconst X17.here hx rfl (hb hby at_133) k) ?_
    show OEnds p e below s _ _ _ (T17.setTop (mkF m 134 #[.val (.long p0), .second, .val (.long (p0 &&& (9223372036854775807 : Int64))), .second, .val (.ref b11), .val (.int (1 : Int32))] [(.int (1 : Int32))]))
    refine OEnds.via (fun _ k => XS.goto X17.here hx rfl (pc0 := 134) (pc' := 138) rfl (hb hby at_134) (by decide) (by decide) k) ?_
    show OEnds p e below s _ _ _ (T17.setTop (mkF m 138 #[.val (.long p0), .second, .val (.long (p0 &&& (9223372036854775807 : Int64))), .second, .val (.ref b11), .val (.int (1 : Int32))] [(.int (1 : Int32))]))
    refine OEnds.via (fun _ k => XS.istore X17.here hx rfl (hb hby at_138) rfl (l' := #[.val (.long p0), .second, .val (.long (p0 &&& (9223372036854775807 : Int64))), .second, .val (.ref b11), .val (.int (1 : Int32))]) rfl k) ?_
    show OEnds p e below s _ _ _ (T17.setTop (mkF m 140 #[.val (.long p0), .second, .val (.long (p0 &&& (9223372036854775807 : Int64))), .second, .val (.ref b11), .val (.int (1 : Int32))] []))
    refine OEnds.via (fun _ k => XS.iload X17.here hx rfl (hb hby at_140) rfl k) ?_
    show OEnds p e below s _ _ _ (T17.setTop (mkF m 142 #[.val (.long p0), .second, .val (.long (p0 &&& (9223372036854775807 : Int64))), .second, .val (.ref b11), .val (.int (1 : Int32))] [(.int (1 : Int32))]))
    refine OEnds.via (fun _ k => XS.ifNo X17.here hx rfl (hb hby at_142) rfl ((if0 _ _).trans (feq (by decide : ¬ ((1 : Int32) = (0 : Int32)))).1) k) ?_
    show OEnds p e below s _ _ _ (T17.setTop (mkF m 145 #[.val (.long p0), .second, .val (.long (p0 &&& (9223372036854775807 : Int64))), .second, .val (.ref b11), .val (.int (1 : Int32))] []))
    refine OEnds.via (fun _ k => XS.aload X17.here hx rfl (hb hby at_145) rfl rfl k) ?_
    show OEnds p e below s _ _ _ (T17.setTop (mkF m 147 #[.val (.long p0), .second, .val (.long (p0 &&& (9223372036854775807 : Int64))), .second, .val (.ref b11), .val (.int (1 : Int32))] [(.ref b11)]))
    obtain ⟨cq18, kq18, q18a, q18b, q18c⟩ := isOf hZ e17 E_b
    obtain ⟨_, _, ⟨T18, L18, k18, n18⟩, -, X18, ⟨Lc18, hQ18, l18, y18, z18⟩, st18⟩ := X17.virtualBack hx (y := (⟨"com/example/holdfast/holdfast/Acquisition", "isUnreached", "()Z"⟩ : MethodName)) (z := (⟨"com/example/holdfast/holdfast/Acquisition", "isUnreached", "()Z"⟩ : MethodName)) hown (mvT hZ (hw _ (List.mem_of_getElem? (i := 57) rfl))) (mvT hZ (hw _ (List.mem_of_getElem? (i := 58) rfl))) (notFace_of_selects (args := #[]) (mvT hZ (hw _ (List.mem_of_getElem? (i := 60) rfl)))) (mvT hZ (hw _ (List.mem_of_getElem? (i := 60) rfl))) (mvT hZ (hw _ (List.mem_of_getElem? (i := 59) rfl))) (by decide) (backOf (W := 0) (rm_isUnreached l Z a0 hw [] b11 T11.heap n0 Od G_unreached) hZ (hw _ (List.mem_of_getElem? (i := 61) rfl)) (hw _ (List.mem_of_getElem? (i := 3) rfl)) (by decide) (by decide)) q18a q18c (g := (mkF m 147 #[.val (.long p0), .second, .val (.long (p0 &&& (9223372036854775807 : Int64))), .second, .val (.ref b11), .val (.int (1 : Int32))] [(.ref b11)])) rfl (by rw [hml]; rfl) (Steps.refl _) (argsL := []) (rest := []) (lenOf pd_2829Z rfl) rfl (by show 2 * 0 + _ ≤ _; exact Nat.le_of_eq rfl) (hb hby at_147) (fun _ _ => ⟨rfl, e17, Nat.le_of_ble_eq_true rfl, Nat.le_of_ble_eq_true rfl⟩)
    dsimp only [Pt.U, Pt.locs, Pt.cells, Pt.slots] at X18 l18 y18 z18 st18 hQ18
    subst l18 y18 z18
    obtain ⟨rfl, N18q, e18⟩ := hQ18
    have N18 := Fr.app N17 N18q
    refine OEnds.via (fun _ k => st18.trans k) ?_
    show OEnds p e below s _ _ _ (T18.setTop (mkF m 150 #[.val (.long p0), .second, .val (.long (p0 &&& (9223372036854775807 : Int64))), .second, .val (.ref b11), .val (.int (1 : Int32))] [(.int (0 : Int32))]))
    refine OEnds.via (fun _ k => XS.ifNo X18.here hx rfl (hb hby at_150) rfl ((if0 _ _).trans (teq (by decide : (0 : Int32) = (0 : Int32))).2) k) ?_
    show OEnds p e below s _ _ _ (T18.setTop (mkF m 153 #[.val (.long p0), .second, .val (.long (p0 &&& (9223372036854775807 : Int64))), .second, .val (.ref b11), .val (.int (1 : Int32))] []))
    refine OEnds.via (fun _ k => XS.iconst X18.here hx rfl (hb hby at_153) k) ?_
    show OEnds p e below s _ _ _ (T18.setTop (mkF m 154 #[.val (.long p0), .second, .val (.long (p0 &&& (9223372036854775807 : Int64))), .second, .val (.ref b11), .val (.int (1 : Int32))] [(.int (1 : Int32))]))
    refine OEnds.via (fun _ k => XS.goto X18.here hx rfl (pc0 := 154) (pc' := 158) rfl (hb hby at_154) (by decide) (by decide) k) ?_
    show OEnds p e below s _ _ _ (T18.setTop (mkF m 158 #[.val (.long p0), .second, .val (.long (p0 &&& (9223372036854775807 : Int64))), .second, .val (.ref b11), .val (.int (1 : Int32))] [(.int (1 : Int32))]))
    refine OEnds.via (fun _ k => XS.istore X18.here hx rfl (hb hby at_158) rfl (l' := #[.val (.long p0), .second, .val (.long (p0 &&& (9223372036854775807 : Int64))), .second, .val (.ref b11), .val (.int (1 : Int32))]) rfl k) ?_
    show OEnds p e below s _ _ _ (T18.setTop (mkF m 160 #[.val (.long p0), .second, .val (.long (p0 &&& (9223372036854775807 : Int64))), .second, .val (.ref b11), .val (.int (1 : Int32))] []))
    refine OEnds.via (fun _ k => XS.iload X18.here hx rfl (hb hby at_160) rfl k) ?_
    show OEnds p e below s _ _ _ (T18.setTop (mkF m 162 #[.val (.long p0), .second, .val (.long (p0 &&& (9223372036854775807 : Int64))), .second, .val (.ref b11), .val (.int (1 : Int32))] [(.int (1 : Int32))]))
    refine OEnds.via (fun _ k => XS.ifNo X18.here hx rfl (hb hby at_162) rfl ((if0 _ _).trans (feq (by decide : ¬ ((1 : Int32) = (0 : Int32)))).1) k) ?_
    show OEnds p e below s _ _ _ (T18.setTop (mkF m 165 #[.val (.long p0), .second, .val (.long (p0 &&& (9223372036854775807 : Int64))), .second, .val (.ref b11), .val (.int (1 : Int32))] []))
    refine OEnds.via (fun _ k => XS.aload X18.here hx rfl (hb hby at_165) rfl rfl k) ?_
    show OEnds p e below s _ _ _ (T18.setTop (mkF m 167 #[.val (.long p0), .second, .val (.long (p0 &&& (9223372036854775807 : Int64))), .second, .val (.ref b11), .val (.int (1 : Int32))] [(.ref b11)]))
    obtain ⟨cq19, kq19, q19a, q19b, q19c⟩ := isOf hZ e18 E_b
    obtain ⟨_, _, ⟨T19, L19, k19, n19⟩, -, X19, ⟨Lc19, hQ19, l19, y19, z19⟩, st19⟩ := X18.virtualBack hx (y := (⟨"com/example/holdfast/holdfast/Acquisition", "unreachedBy", "()Lcom/example/holdfast/holdfast/HoldfastException;"⟩ : MethodName)) (z := (⟨"com/example/holdfast/holdfast/Acquisition", "unreachedBy", "()Lcom/example/holdfast/holdfast/HoldfastException;"⟩ : MethodName)) hown (mvT hZ (hw _ (List.mem_of_getElem? (i := 62) rfl))) (mvT hZ (hw _ (List.mem_of_getElem? (i := 63) rfl))) (notFace_of_selects (args := #[]) (mvT hZ (hw _ (List.mem_of_getElem? (i := 65) rfl)))) (mvT hZ (hw _ (List.mem_of_getElem? (i := 65) rfl))) (mvT hZ (hw _ (List.mem_of_getElem? (i := 64) rfl))) (by decide) (backOf (W := 0) (rm_unreachedBy l Z a0 hw [] b11 T11.heap n0 Od G_unreached) hZ (hw _ (List.mem_of_getElem? (i := 66) rfl)) (hw _ (List.mem_of_getElem? (i := 3) rfl)) (by decide) (by decide)) q19a q19c (g := (mkF m 167 #[.val (.long p0), .second, .val (.long (p0 &&& (9223372036854775807 : Int64))), .second, .val (.ref b11), .val (.int (1 : Int32))] [(.ref b11)])) rfl (by rw [hml]; rfl) (Steps.refl _) (argsL := []) (rest := []) (lenOf pd_2829Lcom2fexample2fholdfast2fholdfast2fHoldfastException3b rfl) rfl (by show 2 * 0 + _ ≤ _; exact Nat.le_of_eq rfl) (hb hby at_167) (fun _ _ => ⟨rfl, e18, Nat.le_of_ble_eq_true rfl, Nat.le_of_ble_eq_true rfl⟩)
    dsimp only [Pt.U, Pt.locs, Pt.cells, Pt.slots] at X19 l19 y19 z19 st19 hQ19
    subst l19 y19 z19
    obtain ⟨rfl, N19q, e19⟩ := hQ19
    have N19 := Fr.app N18 N19q
    refine OEnds.via (fun _ k => st19.trans k) ?_
    show OEnds p e below s _ _ _ (T19.setTop (mkF m 170 #[.val (.long p0), .second, .val (.long (p0 &&& (9223372036854775807 : Int64))), .second, .val (.ref b11), .val (.int (1 : Int32))] [.null]))
    refine OEnds.via (fun _ k => XS.ifnonnullNo X19.here hx rfl (hb hby at_170) rfl k) ?_
    show OEnds p e below s _ _ _ (T19.setTop (mkF m 173 #[.val (.long p0), .second, .val (.long (p0 &&& (9223372036854775807 : Int64))), .second, .val (.ref b11), .val (.int (1 : Int32))] []))
    refine OEnds.via (fun _ k => XS.iconst X19.here hx rfl (hb hby at_173) k) ?_
    show OEnds p e below s _ _ _ (T19.setTop (mkF m 174 #[.val (.long p0), .second, .val (.long (p0 &&& (9223372036854775807 : Int64))), .second, .val (.ref b11), .val (.int (1 : Int32))] [(.int (1 : Int32))]))
    refine OEnds.via (fun _ k => XS.goto X19.here hx rfl (pc0 := 174) (pc' := 178) rfl (hb hby at_174) (by decide) (by decide) k) ?_
    show OEnds p e below s _ _ _ (T19.setTop (mkF m 178 #[.val (.long p0), .second, .val (.long (p0 &&& (9223372036854775807 : Int64))), .second, .val (.ref b11), .val (.int (1 : Int32))] [(.int (1 : Int32))]))
    refine OEnds.via (fun _ k => XS.istore X19.here hx rfl (hb hby at_178) rfl (l' := #[.val (.long p0), .second, .val (.long (p0 &&& (9223372036854775807 : Int64))), .second, .val (.ref b11), .val (.int (1 : Int32))]) rfl k) ?_
    show OEnds p e below s _ _ _ (T19.setTop (mkF m 180 #[.val (.long p0), .second, .val (.long (p0 &&& (9223372036854775807 : Int64))), .second, .val (.ref b11), .val (.int (1 : Int32))] []))
    refine OEnds.via (fun _ k => XS.iload X19.here hx rfl (hb hby at_180) rfl k) ?_
    show OEnds p e below s _ _ _ (T19.setTop (mkF m 182 #[.val (.long p0), .second, .val (.long (p0 &&& (9223372036854775807 : Int64))), .second, .val (.ref b11), .val (.int (1 : Int32))] [(.int (1 : Int32))]))
    refine OEnds.retN X19 hx hlk (t := .boolean) Bd.returns (by simp) (hb hby at_182) ?_ (by decide) (by decide)
    exact ⟨rfl, N19⟩
set_option maxRecDepth 65536 in
set_option maxHeartbeats 40000000 in
theorem comes_1 {Post : Tables → Env → Array Value → State → Outcome → State → Prop} (hpost : ∀ tb e args s v u, (limb_1_1.after args s (.returned v) u = true ∧ limb_1_2.after args s (.returned v) u = true ∧ True) → FrameEnd s (.returned v) u (Jvm.fieldLocs frame_1_writes args s ++ Jvm.arrayLocs frame_1_arrays args s ++ Jvm.staticLocs frame_1_statics s) 16 128 → Post tb e args s (.returned v) u) :
    ArmFor flags0 classFile x code maxLocals ret World_1 tables_1 room_1 Calls_1 rest_1 Pre_1 Post := by
  intro l hfl _ _ p e ha hc hk s m args below hf hA hF happ hP
  obtain ⟨hcalls, hrest, hpre⟩ := hP
  obtain ⟨-, -, -, hnamed, -, -, -, hat⟩ := (Spec.applies_iff hf).mp happ
  obtain ⟨hg, hn⟩ := and_e (Cond.before_iff.mp (show (Jvm.Cond.and given_1 narrow_1).before args s = true from hpre))
  obtain ⟨g1, g2⟩ := and_e hg
  obtain ⟨w0, rfl⟩ : ∃ w0 : Value, args = #[w0] := by
    have hs : args.size = 1 := by simpa [Cond.value, given_1] using g1
    obtain ⟨L⟩ := args
    match L, hs with
    | [w0], _ => exact ⟨w0, rfl⟩
  have hw := fun d (hd : d ∈ tables_1) => atoms_spec (ws := Jvm.Cond.code x code maxLocals ret :: tables_1) hat d (List.mem_cons_of_mem _ hd)
  have hfit : Fit s := fun {y c} hc i hi => by
    obtain ⟨ha, rfl⟩ := Array.getElem?_eq_some_iff.mp hc
    have q := List.all_eq_true.mp ((Array.all_eq_true_iff_forall_mem.mp hF) _ (Array.getElem_mem ha)) i (List.mem_range.mpr hi)
    simpa [Array.getElem?_eq_getElem hi] using q
  obtain ⟨i0, ei0⟩ := isL_v g2
  obtain rfl : w0 = (.long i0) := Option.some.inj ei0
  obtain ⟨g3, g4⟩ := and_e hn
  obtain ⟨a_UNASKED, ev_a_UNASKED⟩ := exa_v g3
  have S_a_UNASKED : Sta s s.heap "com/example/holdfast/holdfast/Acquisition" "UNASKED" "Lcom/example/holdfast/holdfast/Acquisition;" (.ref a_UNASKED) := Sta.start ev_a_UNASKED (Or.inr ⟨(hw _ (List.mem_of_getElem? (i := 3) rfl)), (hw _ (List.mem_of_getElem? (i := 49) rfl))⟩)
  have E_a_UNASKED : Exa s s.heap a_UNASKED "com/example/holdfast/holdfast/Acquisition" := Exa.start ev_a_UNASKED g3
  obtain ⟨a_UNCONFIRMED, ev_a_UNCONFIRMED⟩ := exa_v g4
  have S_a_UNCONFIRMED : Sta s s.heap "com/example/holdfast/holdfast/Acquisition" "UNCONFIRMED" "Lcom/example/holdfast/holdfast/Acquisition;" (.ref a_UNCONFIRMED) := Sta.start ev_a_UNCONFIRMED (Or.inr ⟨(hw _ (List.mem_of_getElem? (i := 3) rfl)), (hw _ (List.mem_of_getElem? (i := 56) rfl))⟩)
  have E_a_UNCONFIRMED : Exa s s.heap a_UNCONFIRMED "com/example/holdfast/holdfast/Acquisition" := Exa.start ev_a_UNCONFIRMED g4
  obtain ⟨n, o, h1, h2, h3, _, L, rfl, ⟨rfl, N⟩, hq⟩ := rm0 l s _ hw tables_1 i0 a_UNASKED a_UNCONFIRMED s.heap s.heap.size (Old.start s) S_a_UNASKED S_a_UNCONFIRMED E_a_UNASKED E_a_UNCONFIRMED p e ha hc hk s m _ below hf ((Spec.applies_iff_loose hf).mp happ).1 ⟨rfl, State.Warmed39.refl s, rfl⟩ trivial
  refine ⟨n, _, h1, h2, h3, hpost _ _ _ _ _ _ ⟨Cond.after_iff.mpr rfl, Cond.after_iff.mpr (eq_i res_at (Term.int_eval (1)) rfl), trivial⟩ ⟨hq.1, hq.2.1, (hq.2.2.sift fun y hy => Or.inr (N y hy)).mono (by decide) (by decide)⟩⟩
theorem main_1_1 : Claimed_1_1 := comes_1 fun _ _ _ _ _ _ h hF => ⟨h.1, hF⟩
theorem main_1_2 : Claimed_1_2 := comes_1 fun _ _ _ _ _ _ h hF => ⟨h.2.1, hF⟩
end Jvm.Pilot.@@N@@
namespace Jvm.Pilot.@@N@@
open Jvm Jvm.ClassFile Sem Op Lib Jvm.Free Jvm.Stand Jvm.Pilot.@@N@@.Jvm.D
/-! MADE BY PROGRAM (witnessworld.py) out of the Statement's table words and the real class files: 9 classes; the members and pool entries that the words name. The judged class is class 1, her method 1. -/
namespace start1
open Jvm.ClassFile
def u (s : String) : CpInfo := .utf8 (stringToUtf16 s)
/-- a pool by its gaps: so many unusable entries, then the entry; so many at the end -/
def gap : Nat → List CpInfo → List CpInfo
  | 0, r => r
  | n + 1, r => .unusable :: gap n r
def poolList (es : List (Nat × CpInfo)) (last : Nat) : List CpInfo := es.foldr (fun e r => gap e.1 (e.2 :: r)) (gap last [])
def pool (es : List (Nat × CpInfo)) (last : Nat) : Array CpInfo := ⟨poolList es last⟩
def fileOf (pool : Array CpInfo) (this : Nat) (attrs : Array Attribute := #[]) (ms : Array MethodInfo := #[]) (fl : Nat := 33) (sup : Nat := 0) (ifs : Array Nat := #[]) (fds : Array FieldInfo := #[]) : ClassFile where
  minorVersion := 0
  majorVersion := 65
  constantPool := pool
  accessFlags := fl
  thisClass := this
  superClass := sup
  interfaces := ifs
  fields := fds
  methods := ms
  attributes := attrs
def plain (name : String) (sup : Option ClassId) : Class where
  name := name
  kind := .ordinary
  loader := none
  accessFlags := 33
  super := sup
  interfaces := #[]
  cf := none
  fields := #[]
  methods := #[]
  instanceTypes := #[]
  staticTypes := #[]
  resolved := #[]
  callSites := []
  init := .initialized
  statics := none
  mirror := none

def pool0 : Array CpInfo := pool [(5, u "<init>"), (0, u "()V"), (1, .class_ 10), (1, u "java/lang/Object")] 113

def k0c0 : Code := { maxStack := 0, maxLocals := 1, code := object_method_1_code, exceptionTable := #[], attributes := #[] }
def k0m0 : Method := { name := "<init>", desc := "()V", sig := { parameters := [], returnType := none }, accessFlags := 1, code := some k0c0 }
/-- java/lang/Object -/
def k0 : Class := { plain "java/lang/Object" none with
  accessFlags := 33
  interfaces := #[]
  cf := some (fileOf pool0 8 #[] #[{ accessFlags := 1, nameIndex := 5, descriptorIndex := 6, attributes := #[] }] 33 0 #[] #[])
  fields := #[]
  methods := #[k0m0]
  instanceTypes := #[]
  staticTypes := #[]
  resolved := Array.replicate 124 none
  statics := none }

def pool1 : Array CpInfo := pool [(2, .class_ 4), (1, u "java/lang/Object"), (0, u "<init>"), (0, u "()V"), (2, .long 9223372036854775807), (1, .methodref 12 13), (0, .class_ 14), (0, .nameAndType 15 16), (0, u "com/example/holdfast/holdfast/Acquisition"), (0, u "taken"), (0, u "(J)Lcom/example/holdfast/holdfast/Acquisition;"), (0, .methodref 12 18), (0, .nameAndType 19 20), (0, u "isTaken"), (0, u "()Z"), (0, .methodref 12 22), (0, .nameAndType 23 24), (0, u "token"), (0, u "()J"), (0, .methodref 12 26), (0, .nameAndType 27 24), (0, u "askAgainMillis"), (0, .long 18446744073709551615), (1, .methodref 12 31), (0, .nameAndType 32 33), (0, u "keptBy"), (0, u "()Ljava/lang/String;"), (0, .methodref 12 35), (0, .nameAndType 36 20), (0, u "isUnasked"), (0, .methodref 12 38), (0, .nameAndType 39 20), (0, u "isUnconfirmed"), (0, .methodref 12 41), (0, .nameAndType 42 20), (0, u "isUnreached"), (0, .methodref 12 44), (0, .nameAndType 45 46), (0, u "unreachedBy"), (0, u "()Lcom/example/holdfast/holdfast/HoldfastException;"), (0, .class_ 48), (0, u "com/example/holdfast/holdfast/AcquisitionTakenPinLaw"), (2, u "law"), (0, u "(J)Z")] 3

def k1m0 : Method := { name := "<init>", desc := "()V", sig := { parameters := [], returnType := none }, accessFlags := 1, code := none }
def k1c1 : Code := { maxStack := 4, maxLocals := 6, code := code, exceptionTable := #[], attributes := #[] }
def k1m1 : Method := { name := "law", desc := "(J)Z", sig := { parameters := [.long], returnType := some .boolean }, accessFlags := 9, code := some k1c1 }
/-- com/example/holdfast/holdfast/AcquisitionTakenPinLaw -/
def k1 : Class := { plain "com/example/holdfast/holdfast/AcquisitionTakenPinLaw" (some 0) with
  accessFlags := 49
  interfaces := #[]
  cf := some (fileOf pool1 47 #[] #[{ accessFlags := 1, nameIndex := 5, descriptorIndex := 6, attributes := #[] }, { accessFlags := 9, nameIndex := 51, descriptorIndex := 52, attributes := #[] }] 49 2 #[] #[])
  fields := #[]
  methods := #[k1m0, k1m1]
  instanceTypes := #[]
  staticTypes := #[]
  resolved := Array.replicate 56 none
  statics := none }

def pool2 : Array CpInfo := pool [(1, .methodref 2 3), (0, .class_ 4), (0, .nameAndType 5 6), (0, u "java/lang/Object"), (0, u "<init>"), (0, u "()V"), (0, .fieldref 8 9), (0, .class_ 10), (0, .nameAndType 11 12), (0, u "com/example/holdfast/holdfast/Acquisition"), (0, u "token"), (0, u "J"), (0, .fieldref 8 14), (0, .nameAndType 15 12), (0, u "askAgainMillis"), (0, .fieldref 8 17), (0, .nameAndType 18 19), (0, u "keptBy"), (0, u "Ljava/lang/String;"), (0, .fieldref 8 21), (0, .nameAndType 22 23), (0, u "unreached"), (0, u "Lcom/example/holdfast/holdfast/HoldfastException;"), (0, .long 18446744073709551615), (1, .methodref 8 27), (0, .nameAndType 5 28), (0, u "(JJLjava/lang/String;Lcom/example/holdfast/holdfast/HoldfastException;)V"), (0, .fieldref 8 30), (0, .nameAndType 31 32), (0, u "UNASKED"), (0, u "Lcom/example/holdfast/holdfast/Acquisition;"), (0, .fieldref 8 34), (0, .nameAndType 35 32), (0, u "UNCONFIRMED"), (2, u "taken"), (0, u "(J)Lcom/example/holdfast/holdfast/Acquisition;"), (6, u "isTaken"), (0, u "()Z"), (1, u "isUnasked"), (0, u "isUnconfirmed"), (0, u "isUnreached"), (0, u "unreachedBy"), (0, u "()Lcom/example/holdfast/holdfast/HoldfastException;"), (0, u "()J"), (0, u "()Ljava/lang/String;")] 3

def k2c0 : Code := { maxStack := 3, maxLocals := 7, code := prog_1_method_1_code, exceptionTable := #[], attributes := #[] }
def k2m0 : Method := { name := "<init>", desc := "(JJLjava/lang/String;Lcom/example/holdfast/holdfast/HoldfastException;)V", sig := { parameters := [.long, .long, (.object "java/lang/String"), (.object "com/example/holdfast/holdfast/HoldfastException")], returnType := none }, accessFlags := 2, code := some k2c0 }
def k2c1 : Code := { maxStack := 8, maxLocals := 2, code := prog_1_method_2_code, exceptionTable := #[], attributes := #[] }
def k2m1 : Method := { name := "taken", desc := "(J)Lcom/example/holdfast/holdfast/Acquisition;", sig := { parameters := [.long], returnType := some (.object "com/example/holdfast/holdfast/Acquisition") }, accessFlags := 8, code := some k2c1 }
def k2c2 : Code := { maxStack := 4, maxLocals := 1, code := prog_1_method_7_code, exceptionTable := #[], attributes := #[] }
def k2m2 : Method := { name := "isTaken", desc := "()Z", sig := { parameters := [], returnType := some .boolean }, accessFlags := 0, code := some k2c2 }
def k2c3 : Code := { maxStack := 2, maxLocals := 1, code := prog_1_method_8_code, exceptionTable := #[], attributes := #[] }
def k2m3 : Method := { name := "isUnasked", desc := "()Z", sig := { parameters := [], returnType := some .boolean }, accessFlags := 0, code := some k2c3 }
def k2c4 : Code := { maxStack := 2, maxLocals := 1, code := prog_1_method_9_code, exceptionTable := #[], attributes := #[] }
def k2m4 : Method := { name := "isUnconfirmed", desc := "()Z", sig := { parameters := [], returnType := some .boolean }, accessFlags := 0, code := some k2c4 }
def k2c5 : Code := { maxStack := 1, maxLocals := 1, code := prog_1_method_10_code, exceptionTable := #[], attributes := #[] }
def k2m5 : Method := { name := "isUnreached", desc := "()Z", sig := { parameters := [], returnType := some .boolean }, accessFlags := 0, code := some k2c5 }
def k2c6 : Code := { maxStack := 1, maxLocals := 1, code := prog_1_method_11_code, exceptionTable := #[], attributes := #[] }
def k2m6 : Method := { name := "unreachedBy", desc := "()Lcom/example/holdfast/holdfast/HoldfastException;", sig := { parameters := [], returnType := some (.object "com/example/holdfast/holdfast/HoldfastException") }, accessFlags := 0, code := some k2c6 }
def k2c7 : Code := { maxStack := 2, maxLocals := 1, code := prog_1_method_12_code, exceptionTable := #[], attributes := #[] }
def k2m7 : Method := { name := "token", desc := "()J", sig := { parameters := [], returnType := some .long }, accessFlags := 0, code := some k2c7 }
def k2c8 : Code := { maxStack := 2, maxLocals := 1, code := prog_1_method_13_code, exceptionTable := #[], attributes := #[] }
def k2m8 : Method := { name := "askAgainMillis", desc := "()J", sig := { parameters := [], returnType := some .long }, accessFlags := 0, code := some k2c8 }
def k2c9 : Code := { maxStack := 1, maxLocals := 1, code := prog_1_method_14_code, exceptionTable := #[], attributes := #[] }
def k2m9 : Method := { name := "keptBy", desc := "()Ljava/lang/String;", sig := { parameters := [], returnType := some (.object "java/lang/String") }, accessFlags := 0, code := some k2c9 }
/-- com/example/holdfast/holdfast/Acquisition -/
def k2 : Class := { plain "com/example/holdfast/holdfast/Acquisition" (some 0) with
  accessFlags := 48
  interfaces := #[]
  cf := some (fileOf pool2 8 #[] #[{ accessFlags := 2, nameIndex := 5, descriptorIndex := 28, attributes := #[] }, { accessFlags := 8, nameIndex := 38, descriptorIndex := 39, attributes := #[] }, { accessFlags := 0, nameIndex := 46, descriptorIndex := 47, attributes := #[] }, { accessFlags := 0, nameIndex := 49, descriptorIndex := 47, attributes := #[] }, { accessFlags := 0, nameIndex := 50, descriptorIndex := 47, attributes := #[] }, { accessFlags := 0, nameIndex := 51, descriptorIndex := 47, attributes := #[] }, { accessFlags := 0, nameIndex := 52, descriptorIndex := 53, attributes := #[] }, { accessFlags := 0, nameIndex := 11, descriptorIndex := 54, attributes := #[] }, { accessFlags := 0, nameIndex := 15, descriptorIndex := 54, attributes := #[] }, { accessFlags := 0, nameIndex := 18, descriptorIndex := 55, attributes := #[] }] 48 2 #[] #[{ accessFlags := 26, nameIndex := 31, descriptorIndex := 32, attributes := #[] }, { accessFlags := 26, nameIndex := 35, descriptorIndex := 32, attributes := #[] }, { accessFlags := 18, nameIndex := 11, descriptorIndex := 12, attributes := #[] }, { accessFlags := 18, nameIndex := 15, descriptorIndex := 12, attributes := #[] }, { accessFlags := 18, nameIndex := 18, descriptorIndex := 19, attributes := #[] }, { accessFlags := 18, nameIndex := 22, descriptorIndex := 23, attributes := #[] }])
  fields := #[{ name := "UNASKED", type := (.object "com/example/holdfast/holdfast/Acquisition"), accessFlags := 26, slot := 0, constantValue := 0 }, { name := "UNCONFIRMED", type := (.object "com/example/holdfast/holdfast/Acquisition"), accessFlags := 26, slot := 1, constantValue := 0 }, { name := "token", type := .long, accessFlags := 18, slot := 0, constantValue := 0 }, { name := "askAgainMillis", type := .long, accessFlags := 18, slot := 1, constantValue := 0 }, { name := "keptBy", type := (.object "java/lang/String"), accessFlags := 18, slot := 2, constantValue := 0 }, { name := "unreached", type := (.object "com/example/holdfast/holdfast/HoldfastException"), accessFlags := 18, slot := 3, constantValue := 0 }]
  methods := #[k2m0, k2m1, k2m2, k2m3, k2m4, k2m5, k2m6, k2m7, k2m8, k2m9]
  instanceTypes := #[.long, .long, (.object "java/lang/String"), (.object "com/example/holdfast/holdfast/HoldfastException")]
  staticTypes := #[(.object "com/example/holdfast/holdfast/Acquisition"), (.object "com/example/holdfast/holdfast/Acquisition")]
  resolved := Array.replicate 59 none
  statics := some 0 }

def pool3 : Array CpInfo := pool [(1, u "java/lang/Cloneable"), (0, .class_ 1), (0, u "java/lang/Object"), (0, .class_ 3)] 3

/-- java/lang/Cloneable -/
def k3 : Class := { plain "java/lang/Cloneable" (some 0) with
  accessFlags := 1537
  interfaces := #[]
  cf := some (fileOf pool3 2 #[] #[] 1537 4 #[] #[])
  fields := #[]
  methods := #[]
  instanceTypes := #[]
  staticTypes := #[]
  resolved := Array.replicate 8 none
  statics := none }

def pool4 : Array CpInfo := pool [(1, u "java/io/Serializable"), (0, .class_ 1), (0, u "java/lang/Object"), (0, .class_ 3)] 3

/-- java/io/Serializable -/
def k4 : Class := { plain "java/io/Serializable" (some 0) with
  accessFlags := 1537
  interfaces := #[]
  cf := some (fileOf pool4 2 #[] #[] 1537 4 #[] #[])
  fields := #[]
  methods := #[]
  instanceTypes := #[]
  staticTypes := #[]
  resolved := Array.replicate 8 none
  statics := none }

/-- the primitive byte -/
def k5 : Class := { plain "byte" none with kind := .primitive 'B', accessFlags := 0x411 }
/-- [B -/
def k6 : Class := { plain "[B" (some 0) with kind := .array 5 .byte, interfaces := #[3, 4], accessFlags := 1041 }

/-- the primitive int -/
def k7 : Class := { plain "int" none with kind := .primitive 'I', accessFlags := 0x411 }
/-- [I -/
def k8 : Class := { plain "[I" (some 0) with kind := .array 7 .int, interfaces := #[3, 4], accessFlags := 1041 }

def heap : Heap := #[{ cls := 2, slots := #[.ref 1, .ref 2], vm := .statics 2 },
  { cls := 2, slots := #[.long 0, .long 0, .null, .null], vm := .none },
  { cls := 2, slots := #[.long 0, .long 0, .null, .null], vm := .none }]
def classes : Array Class := #[k0, k1, k2, k3, k4, k5, k6, k7, k8]
def interned : List (Array UInt16 × Addr) := []
def slotsUsed : Nat := 10
def theMethod : MethodId := ⟨1, 1⟩
def args0 : Array Value := #[.long 5]
def aboutOver (below : List Frame) : State where
  vm := { classes := classes, interned := interned.toArray }
  heap := heap
  slotsUsed := slotsUsed
  threads := #[{ frames := .invoking theMethod args0 :: below }]
def below0 : List Frame := [.native { method := ⟨0, 0⟩, args := #[] }]
def about1 : State := aboutOver below0
def p0 : Program := .bare "" "" ""
def e0 : Env := launch0.env 0 0 0
theorem w_frames : about1.frames = Frame.invoking theMethod args0 :: below0 := rfl
set_option maxRecDepth 65536 in
theorem w_args : argsFit about1.vm theMethod args0 = true := by decide +kernel
set_option maxRecDepth 65536 in
theorem w_heap : heapFits about1 = true := by decide +kernel
set_option maxRecDepth 65536 in
theorem w_runnable : about1.curStatus? = some .runnable := by decide +kernel
set_option maxRecDepth 65536 in
theorem w_alone : about1.alone = true := by decide +kernel
set_option maxRecDepth 65536 in
theorem w_named : about1.methodNamed? x = some theMethod := by decide +kernel
set_option maxRecDepth 65536 in
theorem w_hears : about1.hears theMethod below0 = true := by decide +kernel
set_option maxRecDepth 65536 in
theorem w_ripe : about1.ripe theMethod args0 below0 = true := by decide +kernel
theorem w_running : about1.status = .running := rfl
set_option maxRecDepth 65536 in
theorem w_room : about1.hasRoom e0.platform room_1 = true :=
  launch0.hasRoom_least _ room_1 (by decide +kernel) (by decide +kernel) (by decide +kernel) (by decide +kernel) (by decide +kernel) (by decide +kernel)
theorem allAtoms_all (ts : List Jvm.Cond) (a : Array Jvm.Value) (st : Jvm.State) : (allAtoms ts).before a st = ts.all (fun c => c.before a st) := by
  induction ts with
  | nil => rfl
  | cons c t ih =>
    show (Jvm.Cond.and c (allAtoms t)).before a st = _
    rw [Jvm.Cond.before_and, ih, List.all_cons]
def words1 : List Jvm.Cond := Jvm.Cond.code x code maxLocals ret :: tables_1
/-- a 'code' word, met by the world's own term for the bytes: nothing is compared byte by byte -/
theorem code_word {y : MethodName} {bytes : ByteArray} {mx : Nat} {rt : Option FieldType} {a : Array Value} {s : State} {m : MethodId} {meth : Method} {c : Code} (h1 : s.methodNamed? y = some m) (h2 : s.vm.method? m = some meth) (h3 : meth.code = some c) (h4 : c.code = bytes)
    (h5 : (c.maxLocals == mx && c.exceptionTable.isEmpty && decide (c.maxStack ≤ mostOperands) && decide (meth.sig.returnType = rt) && !meth.locks && decide (parseMethodDescriptor y.desc = some meth.sig)) = true) : (Jvm.Cond.code y bytes mx rt).before a s = true := by
  simp only [Bool.and_eq_true, beq_iff_eq, Bool.not_eq_true', decide_eq_true_eq] at h5
  obtain ⟨⟨⟨⟨⟨g1, g2⟩, g3⟩, g4⟩, g5⟩, g6⟩ := h5
  simp [Cond.before, Cond.holds, Cond.value, h1, h2, h3, h4, g1, g2, g3, g4, g5, g6]
def isCode : Jvm.Cond → Bool
  | .code _ _ _ _ => true
  | _ => false
theorem all_split {L : List Jvm.Cond} {P : Jvm.Cond → Bool} (h1 : L.all (fun c => isCode c || P c) = true) (h2 : ∀ c ∈ L.filter isCode, P c = true) : L.all P = true := by
  refine List.all_eq_true.mpr fun c hc => ?_
  have h := List.all_eq_true.mp h1 c hc
  rcases Bool.eq_false_or_eq_true (isCode c) with hi | hi
  · exact h2 c (List.mem_filter.mpr ⟨hc, hi⟩)
  · simpa [hi] using h
set_option maxRecDepth 65536 in
theorem w_c0 : (Jvm.Cond.code x code maxLocals ret).before args0 about1 = true := code_word (m := ⟨1, 1⟩) (meth := k1m1) (c := k1c1) (by decide +kernel) rfl rfl rfl (by decide +kernel)
set_option maxRecDepth 65536 in
theorem w_c1 : (Jvm.Cond.code ({ cls := "com/example/holdfast/holdfast/Acquisition", name := "taken", desc := "(J)Lcom/example/holdfast/holdfast/Acquisition;" } : Jvm.MethodName) prog_1_method_2_code (2 : Nat) (Option.some (Jvm.ClassFile.FieldType.object "com/example/holdfast/holdfast/Acquisition"))).before args0 about1 = true := code_word (m := ⟨2, 1⟩) (meth := k2m1) (c := k2c1) (by decide +kernel) rfl rfl rfl (by decide +kernel)
set_option maxRecDepth 65536 in
theorem w_c2 : (Jvm.Cond.code ({ cls := "com/example/holdfast/holdfast/Acquisition", name := "<init>", desc := "(JJLjava/lang/String;Lcom/example/holdfast/holdfast/HoldfastException;)V" } : Jvm.MethodName) prog_1_method_1_code (7 : Nat) (Option.none : Option Jvm.ClassFile.FieldType)).before args0 about1 = true := code_word (m := ⟨2, 0⟩) (meth := k2m0) (c := k2c0) (by decide +kernel) rfl rfl rfl (by decide +kernel)
set_option maxRecDepth 65536 in
theorem w_c3 : (Jvm.Cond.code ({ cls := "java/lang/Object", name := "<init>", desc := "()V" } : Jvm.MethodName) object_method_1_code (1 : Nat) (Option.none : Option Jvm.ClassFile.FieldType)).before args0 about1 = true := code_word (m := ⟨0, 0⟩) (meth := k0m0) (c := k0c0) (by decide +kernel) rfl rfl rfl (by decide +kernel)
set_option maxRecDepth 65536 in
theorem w_c4 : (Jvm.Cond.code ({ cls := "com/example/holdfast/holdfast/Acquisition", name := "isTaken", desc := "()Z" } : Jvm.MethodName) prog_1_method_7_code (1 : Nat) (Option.some Jvm.ClassFile.FieldType.boolean)).before args0 about1 = true := code_word (m := ⟨2, 2⟩) (meth := k2m2) (c := k2c2) (by decide +kernel) rfl rfl rfl (by decide +kernel)
set_option maxRecDepth 65536 in
theorem w_c5 : (Jvm.Cond.code ({ cls := "com/example/holdfast/holdfast/Acquisition", name := "token", desc := "()J" } : Jvm.MethodName) prog_1_method_12_code (1 : Nat) (Option.some Jvm.ClassFile.FieldType.long)).before args0 about1 = true := code_word (m := ⟨2, 7⟩) (meth := k2m7) (c := k2c7) (by decide +kernel) rfl rfl rfl (by decide +kernel)
set_option maxRecDepth 65536 in
theorem w_c6 : (Jvm.Cond.code ({ cls := "com/example/holdfast/holdfast/Acquisition", name := "askAgainMillis", desc := "()J" } : Jvm.MethodName) prog_1_method_13_code (1 : Nat) (Option.some Jvm.ClassFile.FieldType.long)).before args0 about1 = true := code_word (m := ⟨2, 8⟩) (meth := k2m8) (c := k2c8) (by decide +kernel) rfl rfl rfl (by decide +kernel)
set_option maxRecDepth 65536 in
theorem w_c7 : (Jvm.Cond.code ({ cls := "com/example/holdfast/holdfast/Acquisition", name := "keptBy", desc := "()Ljava/lang/String;" } : Jvm.MethodName) prog_1_method_14_code (1 : Nat) (Option.some (Jvm.ClassFile.FieldType.object "java/lang/String"))).before args0 about1 = true := code_word (m := ⟨2, 9⟩) (meth := k2m9) (c := k2c9) (by decide +kernel) rfl rfl rfl (by decide +kernel)
set_option maxRecDepth 65536 in
theorem w_c8 : (Jvm.Cond.code ({ cls := "com/example/holdfast/holdfast/Acquisition", name := "isUnasked", desc := "()Z" } : Jvm.MethodName) prog_1_method_8_code (1 : Nat) (Option.some Jvm.ClassFile.FieldType.boolean)).before args0 about1 = true := code_word (m := ⟨2, 3⟩) (meth := k2m3) (c := k2c3) (by decide +kernel) rfl rfl rfl (by decide +kernel)
set_option maxRecDepth 65536 in
theorem w_c9 : (Jvm.Cond.code ({ cls := "com/example/holdfast/holdfast/Acquisition", name := "isUnconfirmed", desc := "()Z" } : Jvm.MethodName) prog_1_method_9_code (1 : Nat) (Option.some Jvm.ClassFile.FieldType.boolean)).before args0 about1 = true := code_word (m := ⟨2, 4⟩) (meth := k2m4) (c := k2c4) (by decide +kernel) rfl rfl rfl (by decide +kernel)
set_option maxRecDepth 65536 in
theorem w_c10 : (Jvm.Cond.code ({ cls := "com/example/holdfast/holdfast/Acquisition", name := "isUnreached", desc := "()Z" } : Jvm.MethodName) prog_1_method_10_code (1 : Nat) (Option.some Jvm.ClassFile.FieldType.boolean)).before args0 about1 = true := code_word (m := ⟨2, 5⟩) (meth := k2m5) (c := k2c5) (by decide +kernel) rfl rfl rfl (by decide +kernel)
set_option maxRecDepth 65536 in
theorem w_c11 : (Jvm.Cond.code ({ cls := "com/example/holdfast/holdfast/Acquisition", name := "unreachedBy", desc := "()Lcom/example/holdfast/holdfast/HoldfastException;" } : Jvm.MethodName) prog_1_method_11_code (1 : Nat) (Option.some (Jvm.ClassFile.FieldType.object "com/example/holdfast/holdfast/HoldfastException"))).before args0 about1 = true := code_word (m := ⟨2, 6⟩) (meth := k2m6) (c := k2c6) (by decide +kernel) rfl rfl rfl (by decide +kernel)
def codes1 : List Jvm.Cond := [Jvm.Cond.code x code maxLocals ret, Jvm.Cond.code ({ cls := "com/example/holdfast/holdfast/Acquisition", name := "taken", desc := "(J)Lcom/example/holdfast/holdfast/Acquisition;" } : Jvm.MethodName) prog_1_method_2_code (2 : Nat) (Option.some (Jvm.ClassFile.FieldType.object "com/example/holdfast/holdfast/Acquisition")), Jvm.Cond.code ({ cls := "com/example/holdfast/holdfast/Acquisition", name := "<init>", desc := "(JJLjava/lang/String;Lcom/example/holdfast/holdfast/HoldfastException;)V" } : Jvm.MethodName) prog_1_method_1_code (7 : Nat) (Option.none : Option Jvm.ClassFile.FieldType), Jvm.Cond.code ({ cls := "java/lang/Object", name := "<init>", desc := "()V" } : Jvm.MethodName) object_method_1_code (1 : Nat) (Option.none : Option Jvm.ClassFile.FieldType), Jvm.Cond.code ({ cls := "com/example/holdfast/holdfast/Acquisition", name := "isTaken", desc := "()Z" } : Jvm.MethodName) prog_1_method_7_code (1 : Nat) (Option.some Jvm.ClassFile.FieldType.boolean), Jvm.Cond.code ({ cls := "com/example/holdfast/holdfast/Acquisition", name := "token", desc := "()J" } : Jvm.MethodName) prog_1_method_12_code (1 : Nat) (Option.some Jvm.ClassFile.FieldType.long), Jvm.Cond.code ({ cls := "com/example/holdfast/holdfast/Acquisition", name := "askAgainMillis", desc := "()J" } : Jvm.MethodName) prog_1_method_13_code (1 : Nat) (Option.some Jvm.ClassFile.FieldType.long), Jvm.Cond.code ({ cls := "com/example/holdfast/holdfast/Acquisition", name := "keptBy", desc := "()Ljava/lang/String;" } : Jvm.MethodName) prog_1_method_14_code (1 : Nat) (Option.some (Jvm.ClassFile.FieldType.object "java/lang/String")), Jvm.Cond.code ({ cls := "com/example/holdfast/holdfast/Acquisition", name := "isUnasked", desc := "()Z" } : Jvm.MethodName) prog_1_method_8_code (1 : Nat) (Option.some Jvm.ClassFile.FieldType.boolean), Jvm.Cond.code ({ cls := "com/example/holdfast/holdfast/Acquisition", name := "isUnconfirmed", desc := "()Z" } : Jvm.MethodName) prog_1_method_9_code (1 : Nat) (Option.some Jvm.ClassFile.FieldType.boolean), Jvm.Cond.code ({ cls := "com/example/holdfast/holdfast/Acquisition", name := "isUnreached", desc := "()Z" } : Jvm.MethodName) prog_1_method_10_code (1 : Nat) (Option.some Jvm.ClassFile.FieldType.boolean), Jvm.Cond.code ({ cls := "com/example/holdfast/holdfast/Acquisition", name := "unreachedBy", desc := "()Lcom/example/holdfast/holdfast/HoldfastException;" } : Jvm.MethodName) prog_1_method_11_code (1 : Nat) (Option.some (Jvm.ClassFile.FieldType.object "com/example/holdfast/holdfast/HoldfastException"))]
set_option maxRecDepth 65536 in
theorem codes_eq : words1.filter isCode = codes1 := rfl
theorem w_codes : ∀ c ∈ words1.filter isCode, c.before args0 about1 = true := by
  rw [codes_eq]
  intro c hc
  simp only [codes1, List.mem_cons, List.not_mem_nil, or_false] at hc
  rcases hc with rfl | rfl | rfl | rfl | rfl | rfl | rfl | rfl | rfl | rfl | rfl | rfl
  · exact w_c0
  · exact w_c1
  · exact w_c2
  · exact w_c3
  · exact w_c4
  · exact w_c5
  · exact w_c6
  · exact w_c7
  · exact w_c8
  · exact w_c9
  · exact w_c10
  · exact w_c11
set_option maxRecDepth 65536 in
theorem w_t1 : (words1.take 24).all (fun c => isCode c || c.before args0 about1) = true := by decide +kernel
set_option maxRecDepth 65536 in
theorem w_t2 : ((words1.drop 24).take 24).all (fun c => isCode c || c.before args0 about1) = true := by decide +kernel
set_option maxRecDepth 65536 in
theorem w_t3 : ((words1.drop 24).drop 24).all (fun c => isCode c || c.before args0 about1) = true := by decide +kernel
theorem w_tables : (allAtoms (Jvm.Cond.code x code maxLocals ret :: tables_1)).before args0 about1 = true := by
  rw [allAtoms_all]
  show words1.all (fun c => c.before args0 about1) = true
  refine all_split ?_ w_codes
  rw [← List.take_append_drop 24 words1, List.all_append, w_t1, ← List.take_append_drop 24 (words1.drop 24), List.all_append, w_t2, w_t3]
  rfl
set_option maxRecDepth 65536 in
theorem w_case : (Jvm.Cond.and given_1 narrow_1).before args0 about1 = true := by decide +kernel
theorem w_applies : (headSpec (Jvm.Cond.code x code maxLocals ret :: tables_1) room_1).applies x e0.platform about1 = true :=
  (Spec.applies_iff w_frames).mpr ⟨w_running, w_runnable, w_alone, w_named, w_hears, w_ripe, w_room, w_tables⟩
theorem atStart : AtStart classFile x code maxLocals ret World_1 tables_1 room_1 Calls_1 rest_1 Pre_1 launch0 p0 e0 about1 theMethod args0 below0 :=
  ⟨lists_1, trivial, launch0.admits_env _ _ _, launch0.least_env, fairChoices_fair.cas, fairChoices_fair.clock, w_frames, w_args, w_heap, w_applies, trivial, trivial, w_case⟩
end start1
theorem witness_1 : WitnessClaimed_1 := ⟨start1.p0, start1.e0, start1.about1, start1.theMethod, start1.args0, start1.below0, start1.atStart⟩
end Jvm.Pilot.@@N@@
