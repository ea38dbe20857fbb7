import JvmDerived
import JvmDerived.Pilot.@@N@@Statement
import JvmDerived.Pilot.@@N@@Code
set_option linter.unusedVariables false
set_option linter.unusedSimpArgs false
namespace Jvm.RoadKit
open Sem ClassFile Op Lib Jvm.Stand Jvm.Free Jvm.LawKit
section OwnKit
variable {p : Program} {l : Launch} {e : Env} {R : Room} {s : State} {m : MethodId} {args : Array Value} {below : List Frame} {meth : Method} {c : Code} {T : State} {locs : List Loc} {cells slots : Nat} {rc rs : Nat} {Q : Option Value → Heap → List Loc → Prop} {S S' : State}
/-- from S on the invocation ends, it returns, and Q holds of what it returns, of the heap and of the places written -/
def OEnds (p : Program) (e : Env) (below : List Frame) (s : State) (rc rs : Nat) (Q : Option Value → Heap → List Loc → Prop) (S : State) : Prop :=
  ∃ s₂ o, Steps p.tables e below S s₂ ∧ s₂.status = .running ∧ Ended s₂ below o ∧ ∃ v L, o = .returned v ∧ Q v s₂.heap L ∧ FrameEnd s o s₂ L rc rs
theorem OEnds.via (h : ∀ t, Steps p.tables e below S' t → Steps p.tables e below S t) (k : OEnds p e below s rc rs Q S') : OEnds p e below s rc rs Q S := by
  obtain ⟨t, o, h1, r⟩ := k
  exact ⟨t, o, h _ h1, r⟩
theorem OEnds.retN (X : Stand p l e R s m args below meth c T locs cells slots) (hx : p.tables.exec = Jvm.exec) (hlk : meth.locks = false) {pc : Nat} {Ls : Array Slot} {z : Int32} {t : FieldType} {rest : List Value} (hret : meth.sig.returnType = some t) (ht : t = .boolean ∨ t = .byte ∨ t = .char ∨ t = .short)
    (hd : decode c.code pc = .ok (.ireturn, 1)) (q : Q (some (.int (nar t z))) T.heap locs) (hc : cells ≤ rc) (hs : slots ≤ rs) : OEnds p e below s rc rs Q (T.setTop (mkF m pc Ls (.int z :: rest))) := by
  obtain ⟨fs, hr, hrun, hended, hW, hsame⟩ := X.leave (v := some (.int (nar t z))) (fun h => by rw [hret] at h; cases h) hlk
  exact ⟨_, _, Jvm.RoadKit.retN X hx hret ht hd hr, hrun, hended, _, _, rfl, q, ⟨_, rfl⟩, hW, hsame.mono hc hs⟩
theorem OEnds.retI (X : Stand p l e R s m args below meth c T locs cells slots) (hx : p.tables.exec = Jvm.exec) (hlk : meth.locks = false) {pc : Nat} {Ls : Array Slot} {z : Int32} {rest : List Value} (hret : meth.sig.returnType = some .int)
    (hd : decode c.code pc = .ok (.ireturn, 1)) (q : Q (some (.int z)) T.heap locs) (hc : cells ≤ rc) (hs : slots ≤ rs) : OEnds p e below s rc rs Q (T.setTop (mkF m pc Ls (.int z :: rest))) := by
  obtain ⟨fs, hr, hrun, hended, hW, hsame⟩ := X.leave (v := some (.int z)) (fun h => by rw [hret] at h; cases h) hlk
  exact ⟨_, _, retOut X hx hret rfl (Or.inl ⟨rfl, Or.inl rfl, z, rfl⟩) hd hr, hrun, hended, _, _, rfl, q, ⟨_, rfl⟩, hW, hsame.mono hc hs⟩
theorem OEnds.retJ (X : Stand p l e R s m args below meth c T locs cells slots) (hx : p.tables.exec = Jvm.exec) (hlk : meth.locks = false) {pc : Nat} {Ls : Array Slot} {z : Int64} {rest : List Value} (hret : meth.sig.returnType = some .long)
    (hd : decode c.code pc = .ok (.lreturn, 1)) (q : Q (some (.long z)) T.heap locs) (hc : cells ≤ rc) (hs : slots ≤ rs) : OEnds p e below s rc rs Q (T.setTop (mkF m pc Ls (.long z :: rest))) := by
  obtain ⟨fs, hr, hrun, hended, hW, hsame⟩ := X.leave (v := some (.long z)) (fun h => by rw [hret] at h; cases h) hlk
  exact ⟨_, _, retOut X hx hret rfl (Or.inr (Or.inl ⟨rfl, rfl, z, rfl⟩)) hd hr, hrun, hended, _, _, rfl, q, ⟨_, rfl⟩, hW, hsame.mono hc hs⟩
theorem OEnds.retR (X : Stand p l e R s m args below meth c T locs cells slots) (hx : p.tables.exec = Jvm.exec) (hlk : meth.locks = false) {pc : Nat} {Ls : Array Slot} {w : Value} {t : FieldType} {rest : List Value} (hret : meth.sig.returnType = some t) (ht : t.isReference = true) (hw : w.isRef = true)
    (hd : decode c.code pc = .ok (.areturn, 1)) (q : Q (some w) T.heap locs) (hc : cells ≤ rc) (hs : slots ≤ rs) : OEnds p e below s rc rs Q (T.setTop (mkF m pc Ls (w :: rest))) := by
  obtain ⟨fs, hr, hrun, hended, hW, hsame⟩ := X.leave (v := some w) (fun h => by rw [hret] at h; cases h) hlk
  have hn : narrow t w = w := by rcases ref_cases hw with rfl | ⟨a, rfl⟩ <;> cases t <;> rfl
  exact ⟨_, _, retOut X hx hret hn (Or.inr (Or.inr (Or.inr (Or.inr ⟨rfl, ht, hw⟩)))) hd hr, hrun, hended, _, _, rfl, q, ⟨_, rfl⟩, hW, hsame.mono hc hs⟩
theorem OEnds.retV (X : Stand p l e R s m args below meth c T locs cells slots) (hx : p.tables.exec = Jvm.exec) (hlk : meth.locks = false) {pc : Nat} {Ls : Array Slot} (hret : meth.sig.returnType = none)
    (hd : decode c.code pc = .ok (.return_, 1)) (q : Q none T.heap locs) (hc : cells ≤ rc) (hs : slots ≤ rs) : OEnds p e below s rc rs Q (T.setTop (mkF m pc Ls [])) := by
  obtain ⟨fs, hr, hrun, hended, hW, hsame⟩ := X.leave (v := none) (fun _ => rfl) hlk
  exact ⟨_, _, X.returnOut hx hret hd hr, hrun, hended, _, _, rfl, q, ⟨_, rfl⟩, hW, hsame.mono hc hs⟩
/-- the call answers r, writes nothing that was there, makes nothing -/
def QA (r : Option Value) (h0 : Heap) (n0 : Nat) : Option Value → Heap → List Loc → Prop := fun v h L => v = r ∧ Fr n0 L ∧ h = h0
/-- the law's own answer -/
def QL (n0 : Nat) : Option Value → Heap → List Loc → Prop := fun v _ L => v = some (.int 1) ∧ Fr n0 L
theorem own_lc0 (x : Int64) : lcmpW x x = 0 := by rw [lcW]; exact (lc_eq _ _).mpr rfl
theorem own_lcpos {x y : Int64} (h : y < x) : 0 < lcmpW x y := by rw [lcW]; exact (lc_gt _ _).mpr h
theorem own_lcnpos {x y : Int64} (h : ¬ y < x) : ¬ 0 < lcmpW x y := by rw [lcW]; exact fun q => h ((lc_gt _ _).mp q)
theorem own_narrow {t : String} {w : Value} (h : w.isRef = true) : narrow (.object t) w = w := by rcases ref_cases h with rfl | ⟨_, rfl⟩ <;> rfl
theorem own_fits {t : String} {w : Value} (h : w.isRef = true) : fits (.object t) w = true := by rcases ref_cases h with rfl | ⟨_, rfl⟩ <;> rfl
end OwnKit
section OwnWords
variable {args : Array Value} {s : State} {t u : Term} {a : Addr} {cl : Cell} {ty : FieldType} {j k : Int32}
theorem own_eqint (h : (Jvm.Cond.eq t (.int k)).value args s none s [] = some true) : t.eval args s none [] s = some (.int k) := by
  obtain ⟨x, y, e1, e2, -, k2⟩ := cmp_v (Or.inl h)
  obtain rfl : Value.int k = y := Option.some.inj ((Term.int_eval k).symm.trans e2)
  obtain ⟨z, rfl⟩ : ∃ z, x = .int z := k2
  have q := gotT (Cond.eq_ints e1 (Term.int_eval k)) h
  rw [e1, q]
theorem own_len (h : (Jvm.Cond.eq (.length t) (.int k)).value args s none s [] = some true) (ev : t.eval args s none [] s = some (.ref a)) (A : Arr s s.heap a cl ty) : cl.slots.size < 2 ^ 31 ∧ cl.slots.size.toInt32 = k := by
  have e1 := own_eqint h
  have e2 : s.arrayAt? a = some cl := A.fin (Vm.Alike.refl _)
  have e3 : cl.slots.size < 2 ^ 31 := by
    refine Classical.byContradiction fun q => ?_
    simp [Term.eval, ev, e2, q] at e1
  have e4 := len_f ev e2 e3
  rw [e1] at e4
  exact ⟨e3, (Value.int.inj (Option.some.inj e4)).symm⟩
theorem own_elem (h : (Jvm.Cond.eq (.elem t (.int j)) (.int k)).value args s none s [] = some true) (ev : t.eval args s none [] s = some (.ref a)) (A : Arr s s.heap a cl ty) : cl.slots[j.toNatClampNeg]? = some (.int k) :=
  (elem_in (own_eqint h) ev (Term.int_eval j) A.1).2
theorem own_eqref (h : (Jvm.Cond.eq t u).value args s none s [] = some true) (eu : u.eval args s none [] s = some (.ref a)) : t.eval args s none [] s = some (.ref a) := by
  obtain ⟨x, y, e1, e2, -, k2⟩ := cmp_v (Or.inl h)
  obtain rfl : Value.ref a = y := Option.some.inj (eu.symm.trans e2)
  have hx : x.isRef = true := k2.2
  have q := gotT (eq_R e1 eu hx rfl) h
  rw [e1, q]
theorem own_elemR (h : (Jvm.Cond.eq (.elem t (.int j)) u).value args s none s [] = some true) {b : Addr} (eu : u.eval args s none [] s = some (.ref b)) (ev : t.eval args s none [] s = some (.ref a)) (A : Arr s s.heap a cl ty) : cl.slots[j.toNatClampNeg]? = some (.ref b) :=
  (elem_in (own_eqref h eu) ev (Term.int_eval j) A.1).2
end OwnWords
end Jvm.RoadKit
namespace Jvm.Pilot.@@N@@
open Jvm Jvm.ClassFile Sem Op Lib Jvm.Free Jvm.Stand Jvm.LawKit Jvm.RoadKit Bundle Jvm.Pilot.@@N@@.Jvm.D
def own_res (AL : List Addr) (b : Int32) : Nat → Addr
  | 0 => AL.getD 7 0
  | i + 1 => if (Int32.ofNat i) = b then AL.getD i 0 else own_res AL b i
def own_exp (AL : List Addr) (b : Int32) : Addr := if b = (0 : Int32) then AL.getD 0 0 else if b = (1 : Int32) then AL.getD 1 0 else if b = (2 : Int32) then AL.getD 2 0 else if b = (3 : Int32) then AL.getD 3 0 else if b = (4 : Int32) then AL.getD 4 0 else if b = (5 : Int32) then AL.getD 5 0 else if b = (6 : Int32) then AL.getD 6 0 else if b = (7 : Int32) then AL.getD 7 0 else if b = (8 : Int32) then AL.getD 8 0 else if b = (9 : Int32) then AL.getD 9 0 else if b = (10 : Int32) then AL.getD 10 0 else if b = (11 : Int32) then AL.getD 11 0 else if b = (12 : Int32) then AL.getD 12 0 else AL.getD 7 0
theorem own_same (AL : List Addr) (b : Int32) : own_res AL b 13 = own_exp AL b := by
  by_cases h0 : b = (0 : Int32)
  · subst h0; rfl
  by_cases h1 : b = (1 : Int32)
  · subst h1; rfl
  by_cases h2 : b = (2 : Int32)
  · subst h2; rfl
  by_cases h3 : b = (3 : Int32)
  · subst h3; rfl
  by_cases h4 : b = (4 : Int32)
  · subst h4; rfl
  by_cases h5 : b = (5 : Int32)
  · subst h5; rfl
  by_cases h6 : b = (6 : Int32)
  · subst h6; rfl
  by_cases h7 : b = (7 : Int32)
  · subst h7; rfl
  by_cases h8 : b = (8 : Int32)
  · subst h8; rfl
  by_cases h9 : b = (9 : Int32)
  · subst h9; rfl
  by_cases h10 : b = (10 : Int32)
  · subst h10; rfl
  by_cases h11 : b = (11 : Int32)
  · subst h11; rfl
  by_cases h12 : b = (12 : Int32)
  · subst h12; rfl
  · have q : ∀ k : Nat, k < 13 → ¬ (Int32.ofNat k = b) := fun k hk e => by
      match k, hk with
      | 0, _ => exact h0 e.symm
      | 1, _ => exact h1 e.symm
      | 2, _ => exact h2 e.symm
      | 3, _ => exact h3 e.symm
      | 4, _ => exact h4 e.symm
      | 5, _ => exact h5 e.symm
      | 6, _ => exact h6 e.symm
      | 7, _ => exact h7 e.symm
      | 8, _ => exact h8 e.symm
      | 9, _ => exact h9 e.symm
      | 10, _ => exact h10 e.symm
      | 11, _ => exact h11 e.symm
      | 12, _ => exact h12 e.symm
    simp only [own_exp, own_res, if_neg h0, if_neg h1, if_neg h2, if_neg h3, if_neg h4, if_neg h5, if_neg h6, if_neg h7, if_neg h8, if_neg h9, if_neg h10, if_neg h11, if_neg h12, if_neg (q 0 (by decide)), if_neg (q 1 (by decide)), if_neg (q 2 (by decide)), if_neg (q 3 (by decide)), if_neg (q 4 (by decide)), if_neg (q 5 (by decide)), if_neg (q 6 (by decide)), if_neg (q 7 (by decide)), if_neg (q 8 (by decide)), if_neg (q 9 (by decide)), if_neg (q 10 (by decide)), if_neg (q 11 (by decide)), if_neg (q 12 (by decide))]
theorem own_os5 {z0 z1 z2 z3 z4 : Value} {s5 : Slot} {v : Addr} (h : s5 = .unset ∨ ∃ w, s5 = .val (.ref w)) : storeLocals #[.val z0, .val z1, .val z2, .val z3, .val z4, s5] 5 (.ref v) = some #[.val z0, .val z1, .val z2, .val z3, .val z4, .val (.ref v)] := by
  rcases h with rfl | ⟨w, rfl⟩ <;> rfl
theorem own_map (AL : List Addr) (i : Nat) (h : i < AL.length) : (AL.map Value.ref).getD i .null = .ref (AL.getD i 0) := by
  simp [List.getD_eq_getElem?_getD, List.getElem?_eq_getElem h]
theorem own_lt {i : Nat} (h : i < 13) : Int32.ofNat i < (13 : Int32) := by
  rw [Int32.lt_iff_toInt_lt, Int32.toInt_ofNat_of_lt (by omega)]
  show (i : Int) < 13
  omega
theorem d2_0 : decode prog_21_method_1_code 0 = .ok (.getstatic 43, 3) := by decide +kernel
theorem d2_3 : decode prog_21_method_1_code 3 = .ok (.invokevirtual 47, 3) := by decide +kernel
theorem d2_6 : decode prog_21_method_1_code 6 = .ok (.checkcast 48, 3) := by decide +kernel
theorem d2_9 : decode prog_21_method_1_code 9 = .ok (.areturn, 1) := by decide +kernel
theorem pn_com_example_anchovy_anchovy_remoting_LanguageCode : plainName "com/example/anchovy/anchovy/remoting/LanguageCode" = true := by first | (simp [plainName, overriddenIn]; done) | decide +kernel
def Q_rmV (Z : State) (AL : List Addr) (va : Addr) (kA : ClassId) (h0 : Heap) (n0 : Nat) (v : Option Value) (h : Heap) (L : List Loc) : Prop := ∃ b, v = some (.ref b) ∧ Fr n0 L ∧ Keep h0 h [] ∧ Arh Z h b kA (.object "com/example/anchovy/anchovy/remoting/LanguageCode") (13 : Int32) [] (AL.map Value.ref) .null
theorem pd_2829Ljava2flang2fObject3b : parseMethodDescriptor "()Ljava/lang/Object;" = some ⟨[], some (.object "java/lang/Object")⟩ := by decide +kernel
set_option maxRecDepth 65536 in
set_option maxHeartbeats 40000000 in
theorem rmV (l : Launch) (Z : State) (a0 : Array Value) (hw : ∀ d ∈ tables_1, d.before a0 Z = true) (ws : List Jvm.Cond) (AL : List Addr) (va : Addr) (kA : ClassId) (h0 : Heap) (n0 : Nat) (O0 : Old Z n0 h0) (S_V : Sta Z Z.heap "com/example/anchovy/anchovy/remoting/LanguageCode" "$VALUES" "[Lcom/example/anchovy/anchovy/remoting/LanguageCode;" (.ref va)) (AV : Arh Z Z.heap va kA (.object "com/example/anchovy/anchovy/remoting/LanguageCode") (13 : Int32) [] (AL.map Value.ref) .null) (EV : Exa Z Z.heap va "[Lcom/example/anchovy/anchovy/remoting/LanguageCode;") :
    MetFree l (⟨"com/example/anchovy/anchovy/remoting/LanguageCode", "values", "()[Lcom/example/anchovy/anchovy/remoting/LanguageCode;"⟩ : MethodName) (head1 (Jvm.Cond.code (⟨"com/example/anchovy/anchovy/remoting/LanguageCode", "values", "()[Lcom/example/anchovy/anchovy/remoting/LanguageCode;"⟩ : MethodName) prog_21_method_1_code 0 (some (.array (.object "com/example/anchovy/anchovy/remoting/LanguageCode"))) :: ws) ({ frames := 1, cells := 1, slots := 13, locals := 14 } : Room)) (fun ar' U => ar' = #[] ∧ Z.Warmed39 U.vm ∧ U.heap = h0) (fun _ _ _ _ _ => True) (fun _ U o U' => ∃ v L, o = .returned v ∧ (Q_rmV Z AL va kA h0 n0) v U'.heap L ∧ FrameEnd U o U' L ({ frames := 1, cells := 1, slots := 13, locals := 14 } : Room).cells ({ frames := 1, cells := 1, slots := 13, locals := 14 } : Room).slots) := by
  refine MetFree.of_bodySF (plainFor_of_name pn_com_example_anchovy_anchovy_remoting_LanguageCode) hisR ?_
  intro p e s m args below meth c s₁ Bd hml0 hP hK
  obtain ⟨rfl, hZ, hh⟩ := hP
  have hx := Bd.exec
  have hby := Bd.bytes
  have hlk := BodyLoose.notSynchronized Bd
  have hml : c.maxLocals = 0 := hml0
  have hown : s.vm.findClass "com/example/anchovy/anchovy/remoting/LanguageCode" = some m.cls := findClass_of_methodNamed Bd.named
  have hnm := (name_of_methodNamed Bd.named Bd.method).1
  have X0 : Stand p l e ({ frames := 1, cells := 1, slots := 13, locals := 14 } : Room) s m #[] below meth c s₁ [] 0 0 := Stand.of_body Bd
  have e0 : s₁.heap = h0 := by rw [← hh, Bd.state]; rfl
  have N0 := Fr.nil n0
  have Z0 : n0 ≤ h0.size := O0.1 ▸ O0.2.1
  show OEnds p e below s ({ frames := 1, cells := 1, slots := 13, locals := 14 } : Room).cells ({ frames := 1, cells := 1, slots := 13, locals := 14 } : Room).slots (Q_rmV Z AL va kA h0 n0) (s₁.setTop (entryFrame m #[] 0))
  refine OEnds.via (fun _ k => castTop (show entryFrame m #[] 0 = (mkF m 0 #[] []) by first | (simp [entryFrame, mkF, argsToLocals, Value.category, maxLocals]; done) | rfl) k) ?_
  obtain ⟨T1, X1, e1, st1⟩ := getS2 X0 hx hZ hown (host := "") (Or.inl (hw _ (List.mem_of_getElem? (i := 9) rfl))) Via.refl e0 (Sta.ext O0.2 S_V) (g := (mkF m 0 #[] [])) rfl (hb hby d2_0)
  refine OEnds.via (fun _ k => st1 _ k) ?_
  show OEnds p e below s _ _ _ (T1.setTop (mkF m 3 #[] [(.ref va)]))
  obtain ⟨T2, h2, X2, e2, E2, A2, F2, st2⟩ := cloneH X1 hx hZ hown (hw _ (List.mem_of_getElem? (i := 11) rfl)) (hw _ (List.mem_of_getElem? (i := 12) rfl)) (hw _ (List.mem_of_getElem? (i := 16) rfl)) (hw _ (List.mem_of_getElem? (i := 14) rfl)) (hw _ (List.mem_of_getElem? (i := 15) rfl)) (hw _ (List.mem_of_getElem? (i := 17) rfl)) e1 (AV.ext O0.2) (EV.ext O0.2) (g := (mkF m 3 #[] [(.ref va)])) rfl (by rw [hml]; rfl) rfl (hb hby d2_3) (by decide) (W := 0) (cap := 13) (Nat.le_refl 0) (by decide) (by decide) (by decide) (by decide)
  refine OEnds.via (fun _ k => st2 _ k) ?_
  show OEnds p e below s _ _ _ (T2.setTop (mkF m 6 #[] [(.ref h0.size)]))
  obtain ⟨T3, X3, e3, st3⟩ := castY X2 hx hZ hown (hw _ (List.mem_of_getElem? (i := 31) rfl)) e2 (Ins.self F2) (g := (mkF m 6 #[] [(.ref h0.size)])) rfl rfl (hb hby d2_6)
  refine OEnds.via (fun _ k => st3 _ k) ?_
  show OEnds p e below s _ _ _ (T3.setTop (mkF m 9 #[] [(.ref h0.size)]))
  refine OEnds.retR X3 hx hlk Bd.returns rfl rfl (hb hby d2_9) ?_ (by decide) (by decide)
  rw [e3]
  exact ⟨_, rfl, N0, (Keep.refl h0 []).ext E2, A2⟩
theorem d1_0 : decode prog_21_method_5_code 0 = .ok (.getstatic 25, 3) := by decide +kernel
theorem d1_3 : decode prog_21_method_5_code 3 = .ok (.astore_n 1, 1) := by decide +kernel
theorem d1_4 : decode prog_21_method_5_code 4 = .ok (.invokestatic 66, 3) := by decide +kernel
theorem d1_7 : decode prog_21_method_5_code 7 = .ok (.astore_n 2, 1) := by decide +kernel
theorem d1_8 : decode prog_21_method_5_code 8 = .ok (.aload_n 2, 1) := by decide +kernel
theorem d1_9 : decode prog_21_method_5_code 9 = .ok (.arraylength, 1) := by decide +kernel
theorem d1_10 : decode prog_21_method_5_code 10 = .ok (.istore_n 3, 1) := by decide +kernel
theorem d1_11 : decode prog_21_method_5_code 11 = .ok (.iconst 0, 1) := by decide +kernel
theorem d1_12 : decode prog_21_method_5_code 12 = .ok (.istore 4, 2) := by decide +kernel
theorem d1_14 : decode prog_21_method_5_code 14 = .ok (.iload 4, 2) := by decide +kernel
theorem d1_16 : decode prog_21_method_5_code 16 = .ok (.iload_n 3, 1) := by decide +kernel
theorem d1_17 : decode prog_21_method_5_code 17 = .ok (.if_icmp .ge 27, 3) := by decide +kernel
theorem d1_20 : decode prog_21_method_5_code 20 = .ok (.aload_n 2, 1) := by decide +kernel
theorem d1_21 : decode prog_21_method_5_code 21 = .ok (.iload 4, 2) := by decide +kernel
theorem d1_23 : decode prog_21_method_5_code 23 = .ok (.aaload, 1) := by decide +kernel
theorem d1_24 : decode prog_21_method_5_code 24 = .ok (.astore 5, 2) := by decide +kernel
theorem d1_26 : decode prog_21_method_5_code 26 = .ok (.aload 5, 2) := by decide +kernel
theorem d1_28 : decode prog_21_method_5_code 28 = .ok (.getfield 62, 3) := by decide +kernel
theorem d1_31 : decode prog_21_method_5_code 31 = .ok (.iload_n 0, 1) := by decide +kernel
theorem d1_32 : decode prog_21_method_5_code 32 = .ok (.if_icmp .ne 6, 3) := by decide +kernel
theorem d1_35 : decode prog_21_method_5_code 35 = .ok (.aload 5, 2) := by decide +kernel
theorem d1_37 : decode prog_21_method_5_code 37 = .ok (.astore_n 1, 1) := by decide +kernel
theorem d1_38 : decode prog_21_method_5_code 38 = .ok (.iinc 4 1, 3) := by decide +kernel
theorem d1_41 : decode prog_21_method_5_code 41 = .ok (.goto (-27), 3) := by decide +kernel
theorem d1_44 : decode prog_21_method_5_code 44 = .ok (.aload_n 1, 1) := by decide +kernel
theorem d1_45 : decode prog_21_method_5_code 45 = .ok (.areturn, 1) := by decide +kernel
def Q_rmO (Z : State) (b : Int32) (AL : List Addr) (va : Addr) (kA : ClassId) (h0 : Heap) (n0 : Nat) (v : Option Value) (h : Heap) (L : List Loc) : Prop := v = some (.ref (own_res AL b 13)) ∧ Fr n0 L ∧ Keep h0 h []
theorem pd_28295bLcom2fexample2fanchovy2fanchovy2fremoting2fLanguageCode3b : parseMethodDescriptor "()[Lcom/example/anchovy/anchovy/remoting/LanguageCode;" = some ⟨[], some (.array (.object "com/example/anchovy/anchovy/remoting/LanguageCode"))⟩ := by decide +kernel
set_option maxRecDepth 65536 in
set_option maxHeartbeats 40000000 in
theorem rmO (l : Launch) (Z : State) (a0 : Array Value) (hw : ∀ d ∈ tables_1, d.before a0 Z = true) (ws : List Jvm.Cond) (b : Int32) (AL : List Addr) (va : Addr) (kA : ClassId) (h0 : Heap) (n0 : Nat) (O0 : Old Z n0 h0) (hAL : AL.length = 13) (S_V : Sta Z Z.heap "com/example/anchovy/anchovy/remoting/LanguageCode" "$VALUES" "[Lcom/example/anchovy/anchovy/remoting/LanguageCode;" (.ref va)) (AV : Arh Z Z.heap va kA (.object "com/example/anchovy/anchovy/remoting/LanguageCode") (13 : Int32) [] (AL.map Value.ref) .null) (EV : Exa Z Z.heap va "[Lcom/example/anchovy/anchovy/remoting/LanguageCode;") (S_OTHER : Sta Z Z.heap "com/example/anchovy/anchovy/remoting/LanguageCode" "OTHER" "Lcom/example/anchovy/anchovy/remoting/LanguageCode;" (.ref (AL.getD 7 0))) (FC : ∀ i, i < 13 → Fld Z Z.heap (AL.getD i 0) "com/example/anchovy/anchovy/remoting/LanguageCode" "code" "B" (.int (Int32.ofNat i))) :
    MetFree l (⟨"com/example/anchovy/anchovy/remoting/LanguageCode", "of", "(B)Lcom/example/anchovy/anchovy/remoting/LanguageCode;"⟩ : MethodName) (head1 (Jvm.Cond.code (⟨"com/example/anchovy/anchovy/remoting/LanguageCode", "of", "(B)Lcom/example/anchovy/anchovy/remoting/LanguageCode;"⟩ : MethodName) prog_21_method_5_code 6 (some (.object "com/example/anchovy/anchovy/remoting/LanguageCode")) :: ws) ({ frames := 2, cells := 1, slots := 13, locals := 26 } : Room)) (fun ar' U => ar' = #[(.int b)] ∧ Z.Warmed39 U.vm ∧ U.heap = h0) (fun _ _ _ _ _ => True) (fun _ U o U' => ∃ v L, o = .returned v ∧ (Q_rmO Z b AL va kA h0 n0) v U'.heap L ∧ FrameEnd U o U' L ({ frames := 2, cells := 1, slots := 13, locals := 26 } : Room).cells ({ frames := 2, cells := 1, slots := 13, locals := 26 } : Room).slots) := by
  refine MetFree.of_bodySF (plainFor_of_name pn_com_example_anchovy_anchovy_remoting_LanguageCode) hisR ?_
  intro p e s m args below meth c s₁ Bd hml0 hP hK
  obtain ⟨rfl, hZ, hh⟩ := hP
  have hx := Bd.exec
  have hby := Bd.bytes
  have hlk := BodyLoose.notSynchronized Bd
  have hml : c.maxLocals = 6 := hml0
  have hown : s.vm.findClass "com/example/anchovy/anchovy/remoting/LanguageCode" = some m.cls := findClass_of_methodNamed Bd.named
  have hnm := (name_of_methodNamed Bd.named Bd.method).1
  have X0 : Stand p l e ({ frames := 2, cells := 1, slots := 13, locals := 26 } : Room) s m #[(.int b)] below meth c s₁ [] 0 0 := Stand.of_body Bd
  have e0 : s₁.heap = h0 := by rw [← hh, Bd.state]; rfl
  have N0 := Fr.nil n0
  have Z0 : n0 ≤ h0.size := O0.1 ▸ O0.2.1
  show OEnds p e below s ({ frames := 2, cells := 1, slots := 13, locals := 26 } : Room).cells ({ frames := 2, cells := 1, slots := 13, locals := 26 } : Room).slots (Q_rmO Z b AL va kA h0 n0) (s₁.setTop (entryFrame m #[(.int b)] 6))
  refine OEnds.via (fun _ k => castTop (show entryFrame m #[(.int b)] 6 = (mkF m 0 #[.val (.int b), .unset, .unset, .unset, .unset, .unset] []) by first | (simp [entryFrame, mkF, argsToLocals, Value.category, maxLocals]; done) | rfl) k) ?_
  have Od := O0
  show OEnds p e below s _ _ _ (s₁.setTop (mkF m 0 #[.val (.int b), .unset, .unset, .unset, .unset, .unset] []))
  obtain ⟨T1, X1, e1, st1⟩ := getS2 X0 hx hZ hown (host := "") (Or.inl (hw _ (List.mem_of_getElem? (i := 4) rfl))) Via.refl e0 (Sta.ext O0.2 S_OTHER) (g := (mkF m 0 #[.val (.int b), .unset, .unset, .unset, .unset, .unset] [])) rfl (hb hby d1_0)
  refine OEnds.via (fun _ k => st1 _ k) ?_
  show OEnds p e below s _ _ _ (T1.setTop (mkF m 3 #[.val (.int b), .unset, .unset, .unset, .unset, .unset] [(.ref (AL.getD 7 0))]))
  refine OEnds.via (fun _ k => XS.astoreN X1.here hx rfl (hb hby d1_3) rfl rfl (l' := #[.val (.int b), .val (.ref (AL.getD 7 0)), .unset, .unset, .unset, .unset]) rfl k) ?_
  show OEnds p e below s _ _ _ (T1.setTop (mkF m 4 #[.val (.int b), .val (.ref (AL.getD 7 0)), .unset, .unset, .unset, .unset] []))
  obtain ⟨_, _, ⟨T2, L2, k2, n2⟩, -, X2, ⟨Lc2, hQ2, l2, y2, z2⟩, st2⟩ := Jvm.LawKit.callS X1 hx (y := (⟨"com/example/anchovy/anchovy/remoting/LanguageCode", "values", "()[Lcom/example/anchovy/anchovy/remoting/LanguageCode;"⟩ : MethodName)) hown (mvT hZ (hw _ (List.mem_of_getElem? (i := 6) rfl))) (mvT hZ (hw _ (List.mem_of_getElem? (i := 7) rfl))) (mvT hZ (hw _ (List.mem_of_getElem? (i := 2) rfl))) (mvT hZ (hw _ (List.mem_of_getElem? (i := 8) rfl))) (by decide) (backOf (W := 0) (rmV l Z a0 hw [] AL va kA h0 n0 Od S_V AV EV) hZ (hw _ (List.mem_of_getElem? (i := 8) rfl)) (hw _ (List.mem_of_getElem? (i := 2) rfl)) (by decide) (by decide)) (g := (mkF m 4 #[.val (.int b), .val (.ref (AL.getD 7 0)), .unset, .unset, .unset, .unset] [])) rfl (by rw [hml]; rfl) (argsL := []) (rest := []) (lenOf pd_28295bLcom2fexample2fanchovy2fanchovy2fremoting2fLanguageCode3b rfl) rfl (by show 2 * 0 + _ ≤ _; exact Nat.le_of_eq rfl) (hb hby d1_4) (fun _ _ => ⟨rfl, e1, Nat.le_of_ble_eq_true rfl, Nat.le_of_ble_eq_true rfl⟩)
  dsimp only [Pt.U, Pt.locs, Pt.cells, Pt.slots] at X2 l2 y2 z2 st2 hQ2
  subst l2 y2 z2
  obtain ⟨ar, rfl, N2q, K2, A2⟩ := hQ2
  have N2 := Fr.app N0 N2q
  replace Od := Od.keep K2 all0
  obtain ⟨cl, Ar, qA, Sa, MA, HA, GA⟩ := A2
  refine OEnds.via (fun _ k => st2 _ k) ?_
  show OEnds p e below s _ _ _ (T2.setTop (mkF m 7 #[.val (.int b), .val (.ref (AL.getD 7 0)), .unset, .unset, .unset, .unset] [(.ref ar)]))
  refine OEnds.via (fun _ k => XS.astoreN X2.here hx rfl (hb hby d1_7) rfl rfl (l' := #[.val (.int b), .val (.ref (AL.getD 7 0)), .val (.ref ar), .unset, .unset, .unset]) rfl k) ?_
  show OEnds p e below s _ _ _ (T2.setTop (mkF m 8 #[.val (.int b), .val (.ref (AL.getD 7 0)), .val (.ref ar), .unset, .unset, .unset] []))
  refine OEnds.via (fun _ k => XS.aloadN X2.here hx rfl (hb hby d1_8) rfl rfl k) ?_
  show OEnds p e below s _ _ _ (T2.setTop (mkF m 9 #[.val (.int b), .val (.ref (AL.getD 7 0)), .val (.ref ar), .unset, .unset, .unset] [(.ref ar)]))
  refine OEnds.via (fun _ k => X2.arraylength hx Ar.1 (State.isArrayOf_alike hZ.alike Ar.2.1) (g := (mkF m 9 #[.val (.int b), .val (.ref (AL.getD 7 0)), .val (.ref ar), .unset, .unset, .unset] [(.ref ar)])) rfl rfl (hb hby d1_9) _ k) ?_
  rw [len_of Sa MA]
  show OEnds p e below s _ _ _ (T2.setTop (mkF m 10 #[.val (.int b), .val (.ref (AL.getD 7 0)), .val (.ref ar), .unset, .unset, .unset] [(.int (13 : Int32))]))
  refine OEnds.via (fun _ k => XS.istoreN X2.here hx rfl (hb hby d1_10) rfl (l' := #[.val (.int b), .val (.ref (AL.getD 7 0)), .val (.ref ar), .val (.int (13 : Int32)), .unset, .unset]) rfl k) ?_
  show OEnds p e below s _ _ _ (T2.setTop (mkF m 11 #[.val (.int b), .val (.ref (AL.getD 7 0)), .val (.ref ar), .val (.int (13 : Int32)), .unset, .unset] []))
  refine OEnds.via (fun _ k => XS.iconst X2.here hx rfl (hb hby d1_11) k) ?_
  show OEnds p e below s _ _ _ (T2.setTop (mkF m 12 #[.val (.int b), .val (.ref (AL.getD 7 0)), .val (.ref ar), .val (.int (13 : Int32)), .unset, .unset] [(.int (0 : Int32))]))
  refine OEnds.via (fun _ k => XS.istore X2.here hx rfl (hb hby d1_12) rfl (l' := #[.val (.int b), .val (.ref (AL.getD 7 0)), .val (.ref ar), .val (.int (13 : Int32)), .val (.int (0 : Int32)), .unset]) rfl k) ?_
  show OEnds p e below s _ _ _ (T2.setTop (mkF m 14 #[.val (.int b), .val (.ref (AL.getD 7 0)), .val (.ref ar), .val (.int (13 : Int32)), .val (.int (0 : Int32)), .unset] []))
  have at' : ∀ i, i < 13 → cl.slots[(Int32.ofNat i).toNatClampNeg]? = some (.ref (AL.getD i 0)) := fun i hi => by
    rw [clamp_of rfl (by omega), HA i (by rw [Sa]; exact hi)]
    exact congrArg some (own_map AL i (by omega))
  have in' : ∀ i, i < 13 → ¬ (Int32.ofNat i < 0 ∨ cl.slots.size ≤ (Int32.ofNat i).toNatClampNeg) := fun i hi => by rw [Sa]; exact within rfl hi (by decide)
  have loop : ∀ (k i : Nat) (r : Addr) (s5 : Slot), i + k = 13 → r = own_res AL b i → (s5 = .unset ∨ ∃ w, s5 = .val (.ref w)) → ∀ (U : State), (∃ L, Fr n0 L ∧ Stand p l e ({ frames := 2, cells := 1, slots := 13, locals := 26 } : Room) s m #[(.int b)] below meth c U L (0 + 1) (0 + 13)) → U.heap = T2.heap → OEnds p e below s ({ frames := 2, cells := 1, slots := 13, locals := 26 } : Room).cells ({ frames := 2, cells := 1, slots := 13, locals := 26 } : Room).slots (Q_rmO Z b AL va kA h0 n0) (U.setTop (mkF m 14 #[.val (.int b), .val (.ref r), .val (.ref ar), .val (.int (13 : Int32)), .val (.int (Int32.ofNat i)), s5] [])) := by
    intro k
    induction k with
    | zero =>
      intro i r s5 hi hr h5 U ⟨L', NL, XU⟩ eU
      obtain rfl : i = 13 := by omega
      subst hr
      show OEnds p e below s _ _ _ (U.setTop (mkF m 14 #[.val (.int b), .val (.ref (own_res AL b 13)), .val (.ref ar), .val (.int (13 : Int32)), .val (.int (Int32.ofNat 13)), s5] []))
      refine OEnds.via (fun _ k => XS.iload XU.here hx rfl (hb hby d1_14) rfl k) ?_
      show OEnds p e below s _ _ _ (U.setTop (mkF m 16 #[.val (.int b), .val (.ref (own_res AL b 13)), .val (.ref ar), .val (.int (13 : Int32)), .val (.int (Int32.ofNat 13)), s5] [(.int (Int32.ofNat 13))]))
      refine OEnds.via (fun _ k => XS.iloadN XU.here hx rfl (hb hby d1_16) rfl k) ?_
      show OEnds p e below s _ _ _ (U.setTop (mkF m 17 #[.val (.int b), .val (.ref (own_res AL b 13)), .val (.ref ar), .val (.int (13 : Int32)), .val (.int (Int32.ofNat 13)), s5] [(.int (13 : Int32)), (.int (Int32.ofNat 13))]))
      refine OEnds.via (fun _ k => XS.icmpYes XU.here hx rfl (pc0 := 17) (pc' := 44) rfl (hb hby d1_17) rfl (flt (by decide : ¬ (Int32.ofNat 13) < (13 : Int32))).2.1 (by decide) (by decide) k) ?_
      show OEnds p e below s _ _ _ (U.setTop (mkF m 44 #[.val (.int b), .val (.ref (own_res AL b 13)), .val (.ref ar), .val (.int (13 : Int32)), .val (.int (Int32.ofNat 13)), s5] []))
      refine OEnds.via (fun _ k => XS.aloadN XU.here hx rfl (hb hby d1_44) rfl rfl k) ?_
      show OEnds p e below s _ _ _ (U.setTop (mkF m 45 #[.val (.int b), .val (.ref (own_res AL b 13)), .val (.ref ar), .val (.int (13 : Int32)), .val (.int (Int32.ofNat 13)), s5] [(.ref (own_res AL b 13))]))
      refine OEnds.retR XU hx hlk Bd.returns rfl rfl (hb hby d1_45) ?_ (by decide) (by decide)
      rw [eU]
      exact ⟨rfl, NL, K2⟩
    | succ k ih =>
      intro i r s5 hi hr h5 U ⟨L', NL, XU⟩ eU
      have hi' : i < 13 := by omega
      show OEnds p e below s _ _ _ (U.setTop (mkF m 14 #[.val (.int b), .val (.ref r), .val (.ref ar), .val (.int (13 : Int32)), .val (.int (Int32.ofNat i)), s5] []))
      refine OEnds.via (fun _ k => XS.iload XU.here hx rfl (hb hby d1_14) rfl k) ?_
      show OEnds p e below s _ _ _ (U.setTop (mkF m 16 #[.val (.int b), .val (.ref r), .val (.ref ar), .val (.int (13 : Int32)), .val (.int (Int32.ofNat i)), s5] [(.int (Int32.ofNat i))]))
      refine OEnds.via (fun _ k => XS.iloadN XU.here hx rfl (hb hby d1_16) rfl k) ?_
      show OEnds p e below s _ _ _ (U.setTop (mkF m 17 #[.val (.int b), .val (.ref r), .val (.ref ar), .val (.int (13 : Int32)), .val (.int (Int32.ofNat i)), s5] [(.int (13 : Int32)), (.int (Int32.ofNat i))]))
      refine OEnds.via (fun _ k => XS.icmpNo XU.here hx rfl (hb hby d1_17) rfl (tlt (own_lt hi')).2.1 k) ?_
      show OEnds p e below s _ _ _ (U.setTop (mkF m 20 #[.val (.int b), .val (.ref r), .val (.ref ar), .val (.int (13 : Int32)), .val (.int (Int32.ofNat i)), s5] []))
      refine OEnds.via (fun _ k => XS.aloadN XU.here hx rfl (hb hby d1_20) rfl rfl k) ?_
      show OEnds p e below s _ _ _ (U.setTop (mkF m 21 #[.val (.int b), .val (.ref r), .val (.ref ar), .val (.int (13 : Int32)), .val (.int (Int32.ofNat i)), s5] [(.ref ar)]))
      refine OEnds.via (fun _ k => XS.iload XU.here hx rfl (hb hby d1_21) rfl k) ?_
      show OEnds p e below s _ _ _ (U.setTop (mkF m 23 #[.val (.int b), .val (.ref r), .val (.ref ar), .val (.int (13 : Int32)), .val (.int (Int32.ofNat i)), s5] [(.int (Int32.ofNat i)), (.ref ar)]))
      refine OEnds.via (fun _ k => XU.aaload hx (j := (Int32.ofNat i)) (v := (.ref (AL.getD i 0))) (by rw [eU]; exact Ar.1) (State.isArrayOf_alike hZ.alike Ar.2.1) rfl Ar.2.2 (in' i hi') (at' i hi') (g := (mkF m 23 #[.val (.int b), .val (.ref r), .val (.ref ar), .val (.int (13 : Int32)), .val (.int (Int32.ofNat i)), s5] [(.int (Int32.ofNat i)), (.ref ar)])) rfl rfl (hb hby d1_23) _ k) ?_
      show OEnds p e below s _ _ _ (U.setTop (mkF m 24 #[.val (.int b), .val (.ref r), .val (.ref ar), .val (.int (13 : Int32)), .val (.int (Int32.ofNat i)), s5] [(.ref (AL.getD i 0))]))
      refine OEnds.via (fun _ k => XS.astore XU.here hx rfl (hb hby d1_24) rfl rfl (l' := #[.val (.int b), .val (.ref r), .val (.ref ar), .val (.int (13 : Int32)), .val (.int (Int32.ofNat i)), .val (.ref (AL.getD i 0))]) (own_os5 h5) k) ?_
      show OEnds p e below s _ _ _ (U.setTop (mkF m 26 #[.val (.int b), .val (.ref r), .val (.ref ar), .val (.int (13 : Int32)), .val (.int (Int32.ofNat i)), .val (.ref (AL.getD i 0))] []))
      refine OEnds.via (fun _ k => XS.aload XU.here hx rfl (hb hby d1_26) rfl rfl k) ?_
      show OEnds p e below s _ _ _ (U.setTop (mkF m 28 #[.val (.int b), .val (.ref r), .val (.ref ar), .val (.int (13 : Int32)), .val (.int (Int32.ofNat i)), .val (.ref (AL.getD i 0))] [(.ref (AL.getD i 0))]))
      obtain ⟨T3, X3, e3, st3⟩ := getF XU hx hZ hown (host := "") (Or.inl (hw _ (List.mem_of_getElem? (i := 33) rfl))) Via.refl eU (Fld.ext Od.2 (FC i hi')) (g := (mkF m 28 #[.val (.int b), .val (.ref r), .val (.ref ar), .val (.int (13 : Int32)), .val (.int (Int32.ofNat i)), .val (.ref (AL.getD i 0))] [(.ref (AL.getD i 0))])) rfl rfl (hb hby d1_28)
      refine OEnds.via (fun _ k => st3 _ k) ?_
      show OEnds p e below s _ _ _ (T3.setTop (mkF m 31 #[.val (.int b), .val (.ref r), .val (.ref ar), .val (.int (13 : Int32)), .val (.int (Int32.ofNat i)), .val (.ref (AL.getD i 0))] [(.int (Int32.ofNat i))]))
      refine OEnds.via (fun _ k => XS.iloadN X3.here hx rfl (hb hby d1_31) rfl k) ?_
      show OEnds p e below s _ _ _ (T3.setTop (mkF m 32 #[.val (.int b), .val (.ref r), .val (.ref ar), .val (.int (13 : Int32)), .val (.int (Int32.ofNat i)), .val (.ref (AL.getD i 0))] [(.int b), (.int (Int32.ofNat i))]))
      by_cases hc32_3 : (Int32.ofNat i) = b
      · skip
        refine OEnds.via (fun _ k => XS.icmpNo X3.here hx rfl (hb hby d1_32) rfl (teq hc32_3).2 k) ?_
        show OEnds p e below s _ _ _ (T3.setTop (mkF m 35 #[.val (.int b), .val (.ref r), .val (.ref ar), .val (.int (13 : Int32)), .val (.int (Int32.ofNat i)), .val (.ref (AL.getD i 0))] []))
        refine OEnds.via (fun _ k => XS.aload X3.here hx rfl (hb hby d1_35) rfl rfl k) ?_
        show OEnds p e below s _ _ _ (T3.setTop (mkF m 37 #[.val (.int b), .val (.ref r), .val (.ref ar), .val (.int (13 : Int32)), .val (.int (Int32.ofNat i)), .val (.ref (AL.getD i 0))] [(.ref (AL.getD i 0))]))
        refine OEnds.via (fun _ k => XS.astoreN X3.here hx rfl (hb hby d1_37) rfl rfl (l' := #[.val (.int b), .val (.ref (AL.getD i 0)), .val (.ref ar), .val (.int (13 : Int32)), .val (.int (Int32.ofNat i)), .val (.ref (AL.getD i 0))]) rfl k) ?_
        show OEnds p e below s _ _ _ (T3.setTop (mkF m 38 #[.val (.int b), .val (.ref (AL.getD i 0)), .val (.ref ar), .val (.int (13 : Int32)), .val (.int (Int32.ofNat i)), .val (.ref (AL.getD i 0))] []))
        refine OEnds.via (fun _ k => XS.iinc X3.here hx rfl (hb hby d1_38) rfl (l' := #[.val (.int b), .val (.ref (AL.getD i 0)), .val (.ref ar), .val (.int (13 : Int32)), .val (.int ((Int32.ofNat i) + (1 : Int32))), .val (.ref (AL.getD i 0))]) rfl k) ?_
        show OEnds p e below s _ _ _ (T3.setTop (mkF m 41 #[.val (.int b), .val (.ref (AL.getD i 0)), .val (.ref ar), .val (.int (13 : Int32)), .val (.int ((Int32.ofNat i) + (1 : Int32))), .val (.ref (AL.getD i 0))] []))
        refine OEnds.via (fun _ k => XS.goto X3.here hx rfl (pc0 := 41) (pc' := 14) rfl (hb hby d1_41) (by decide) (by decide) k) ?_
        show OEnds p e below s _ _ _ (T3.setTop (mkF m 14 #[.val (.int b), .val (.ref (AL.getD i 0)), .val (.ref ar), .val (.int (13 : Int32)), .val (.int ((Int32.ofNat i) + (1 : Int32))), .val (.ref (AL.getD i 0))] []))
        have q := ih (i + 1) (AL.getD i 0) (.val (.ref (AL.getD i 0))) (by omega) (by rw [own_res, if_pos hc32_3]) (Or.inr ⟨_, rfl⟩) T3 ⟨_, NL, X3⟩ e3
        rw [inc_ofNat] at q
        exact q
      · skip
        refine OEnds.via (fun _ k => XS.icmpYes X3.here hx rfl (pc0 := 32) (pc' := 38) rfl (hb hby d1_32) rfl (feq hc32_3).2 (by decide) (by decide) k) ?_
        show OEnds p e below s _ _ _ (T3.setTop (mkF m 38 #[.val (.int b), .val (.ref r), .val (.ref ar), .val (.int (13 : Int32)), .val (.int (Int32.ofNat i)), .val (.ref (AL.getD i 0))] []))
        refine OEnds.via (fun _ k => XS.iinc X3.here hx rfl (hb hby d1_38) rfl (l' := #[.val (.int b), .val (.ref r), .val (.ref ar), .val (.int (13 : Int32)), .val (.int ((Int32.ofNat i) + (1 : Int32))), .val (.ref (AL.getD i 0))]) rfl k) ?_
        show OEnds p e below s _ _ _ (T3.setTop (mkF m 41 #[.val (.int b), .val (.ref r), .val (.ref ar), .val (.int (13 : Int32)), .val (.int ((Int32.ofNat i) + (1 : Int32))), .val (.ref (AL.getD i 0))] []))
        refine OEnds.via (fun _ k => XS.goto X3.here hx rfl (pc0 := 41) (pc' := 14) rfl (hb hby d1_41) (by decide) (by decide) k) ?_
        show OEnds p e below s _ _ _ (T3.setTop (mkF m 14 #[.val (.int b), .val (.ref r), .val (.ref ar), .val (.int (13 : Int32)), .val (.int ((Int32.ofNat i) + (1 : Int32))), .val (.ref (AL.getD i 0))] []))
        have q := ih (i + 1) r (.val (.ref (AL.getD i 0))) (by omega) (by rw [own_res, if_neg hc32_3]; exact hr) (Or.inr ⟨_, rfl⟩) T3 ⟨_, NL, X3⟩ e3
        rw [inc_ofNat] at q
        exact q
  exact loop 13 0 _ _ rfl rfl (Or.inl rfl) T2 ⟨_, N2, X2⟩ rfl
theorem d3_0 : decode method_2_code 0 = .ok (.iload_n 0, 1) := by decide +kernel
theorem d3_1 : decode method_2_code 1 = .ok (.ifCond .ne 7, 3) := by decide +kernel
theorem d3_4 : decode method_2_code 4 = .ok (.getstatic 7, 3) := by decide +kernel
theorem d3_7 : decode method_2_code 7 = .ok (.areturn, 1) := by decide +kernel
theorem d3_8 : decode method_2_code 8 = .ok (.iload_n 0, 1) := by decide +kernel
theorem d3_9 : decode method_2_code 9 = .ok (.iconst 1, 1) := by decide +kernel
theorem d3_10 : decode method_2_code 10 = .ok (.if_icmp .ne 7, 3) := by decide +kernel
theorem d3_13 : decode method_2_code 13 = .ok (.getstatic 13, 3) := by decide +kernel
theorem d3_16 : decode method_2_code 16 = .ok (.areturn, 1) := by decide +kernel
theorem d3_17 : decode method_2_code 17 = .ok (.iload_n 0, 1) := by decide +kernel
theorem d3_18 : decode method_2_code 18 = .ok (.iconst 2, 1) := by decide +kernel
theorem d3_19 : decode method_2_code 19 = .ok (.if_icmp .ne 7, 3) := by decide +kernel
theorem d3_22 : decode method_2_code 22 = .ok (.getstatic 16, 3) := by decide +kernel
theorem d3_25 : decode method_2_code 25 = .ok (.areturn, 1) := by decide +kernel
theorem d3_26 : decode method_2_code 26 = .ok (.iload_n 0, 1) := by decide +kernel
theorem d3_27 : decode method_2_code 27 = .ok (.iconst 3, 1) := by decide +kernel
theorem d3_28 : decode method_2_code 28 = .ok (.if_icmp .ne 7, 3) := by decide +kernel
theorem d3_31 : decode method_2_code 31 = .ok (.getstatic 19, 3) := by decide +kernel
theorem d3_34 : decode method_2_code 34 = .ok (.areturn, 1) := by decide +kernel
theorem d3_35 : decode method_2_code 35 = .ok (.iload_n 0, 1) := by decide +kernel
theorem d3_36 : decode method_2_code 36 = .ok (.iconst 4, 1) := by decide +kernel
theorem d3_37 : decode method_2_code 37 = .ok (.if_icmp .ne 7, 3) := by decide +kernel
theorem d3_40 : decode method_2_code 40 = .ok (.getstatic 22, 3) := by decide +kernel
theorem d3_43 : decode method_2_code 43 = .ok (.areturn, 1) := by decide +kernel
theorem d3_44 : decode method_2_code 44 = .ok (.iload_n 0, 1) := by decide +kernel
theorem d3_45 : decode method_2_code 45 = .ok (.iconst 5, 1) := by decide +kernel
theorem d3_46 : decode method_2_code 46 = .ok (.if_icmp .ne 7, 3) := by decide +kernel
theorem d3_49 : decode method_2_code 49 = .ok (.getstatic 25, 3) := by decide +kernel
theorem d3_52 : decode method_2_code 52 = .ok (.areturn, 1) := by decide +kernel
theorem d3_53 : decode method_2_code 53 = .ok (.iload_n 0, 1) := by decide +kernel
theorem d3_54 : decode method_2_code 54 = .ok (.bipush 6, 2) := by decide +kernel
theorem d3_56 : decode method_2_code 56 = .ok (.if_icmp .ne 7, 3) := by decide +kernel
theorem d3_59 : decode method_2_code 59 = .ok (.getstatic 28, 3) := by decide +kernel
theorem d3_62 : decode method_2_code 62 = .ok (.areturn, 1) := by decide +kernel
theorem d3_63 : decode method_2_code 63 = .ok (.iload_n 0, 1) := by decide +kernel
theorem d3_64 : decode method_2_code 64 = .ok (.bipush 7, 2) := by decide +kernel
theorem d3_66 : decode method_2_code 66 = .ok (.if_icmp .ne 7, 3) := by decide +kernel
theorem d3_69 : decode method_2_code 69 = .ok (.getstatic 31, 3) := by decide +kernel
theorem d3_72 : decode method_2_code 72 = .ok (.areturn, 1) := by decide +kernel
theorem d3_73 : decode method_2_code 73 = .ok (.iload_n 0, 1) := by decide +kernel
theorem d3_74 : decode method_2_code 74 = .ok (.bipush 8, 2) := by decide +kernel
theorem d3_76 : decode method_2_code 76 = .ok (.if_icmp .ne 7, 3) := by decide +kernel
theorem d3_79 : decode method_2_code 79 = .ok (.getstatic 34, 3) := by decide +kernel
theorem d3_82 : decode method_2_code 82 = .ok (.areturn, 1) := by decide +kernel
theorem d3_83 : decode method_2_code 83 = .ok (.iload_n 0, 1) := by decide +kernel
theorem d3_84 : decode method_2_code 84 = .ok (.bipush 9, 2) := by decide +kernel
theorem d3_86 : decode method_2_code 86 = .ok (.if_icmp .ne 7, 3) := by decide +kernel
theorem d3_89 : decode method_2_code 89 = .ok (.getstatic 37, 3) := by decide +kernel
theorem d3_92 : decode method_2_code 92 = .ok (.areturn, 1) := by decide +kernel
theorem d3_93 : decode method_2_code 93 = .ok (.iload_n 0, 1) := by decide +kernel
theorem d3_94 : decode method_2_code 94 = .ok (.bipush 10, 2) := by decide +kernel
theorem d3_96 : decode method_2_code 96 = .ok (.if_icmp .ne 7, 3) := by decide +kernel
theorem d3_99 : decode method_2_code 99 = .ok (.getstatic 40, 3) := by decide +kernel
theorem d3_102 : decode method_2_code 102 = .ok (.areturn, 1) := by decide +kernel
theorem d3_103 : decode method_2_code 103 = .ok (.iload_n 0, 1) := by decide +kernel
theorem d3_104 : decode method_2_code 104 = .ok (.bipush 11, 2) := by decide +kernel
theorem d3_106 : decode method_2_code 106 = .ok (.if_icmp .ne 7, 3) := by decide +kernel
theorem d3_109 : decode method_2_code 109 = .ok (.getstatic 43, 3) := by decide +kernel
theorem d3_112 : decode method_2_code 112 = .ok (.areturn, 1) := by decide +kernel
theorem d3_113 : decode method_2_code 113 = .ok (.iload_n 0, 1) := by decide +kernel
theorem d3_114 : decode method_2_code 114 = .ok (.bipush 12, 2) := by decide +kernel
theorem d3_116 : decode method_2_code 116 = .ok (.if_icmp .ne 7, 3) := by decide +kernel
theorem d3_119 : decode method_2_code 119 = .ok (.getstatic 46, 3) := by decide +kernel
theorem d3_122 : decode method_2_code 122 = .ok (.areturn, 1) := by decide +kernel
theorem d3_123 : decode method_2_code 123 = .ok (.getstatic 31, 3) := by decide +kernel
theorem d3_126 : decode method_2_code 126 = .ok (.areturn, 1) := by decide +kernel
theorem pn_com_example_anchovy_anchovy_remoting_LanguageCodeOfPinLaw : plainName "com/example/anchovy/anchovy/remoting/LanguageCodeOfPinLaw" = true := by first | (simp [plainName, overriddenIn]; done) | decide +kernel
set_option maxRecDepth 65536 in
set_option maxHeartbeats 40000000 in
theorem rmX (l : Launch) (Z : State) (a0 : Array Value) (hw : ∀ d ∈ tables_1, d.before a0 Z = true) (ws : List Jvm.Cond) (b : Int32) (AL : List Addr) (h0 : Heap) (n0 : Nat) (O0 : Old Z n0 h0) (S_JAVA : Sta Z Z.heap "com/example/anchovy/anchovy/remoting/LanguageCode" "JAVA" "Lcom/example/anchovy/anchovy/remoting/LanguageCode;" (.ref (AL.getD 0 0))) (S_CPP : Sta Z Z.heap "com/example/anchovy/anchovy/remoting/LanguageCode" "CPP" "Lcom/example/anchovy/anchovy/remoting/LanguageCode;" (.ref (AL.getD 1 0))) (S_DOTNET : Sta Z Z.heap "com/example/anchovy/anchovy/remoting/LanguageCode" "DOTNET" "Lcom/example/anchovy/anchovy/remoting/LanguageCode;" (.ref (AL.getD 2 0))) (S_PYTHON : Sta Z Z.heap "com/example/anchovy/anchovy/remoting/LanguageCode" "PYTHON" "Lcom/example/anchovy/anchovy/remoting/LanguageCode;" (.ref (AL.getD 3 0))) (S_DELPHI : Sta Z Z.heap "com/example/anchovy/anchovy/remoting/LanguageCode" "DELPHI" "Lcom/example/anchovy/anchovy/remoting/LanguageCode;" (.ref (AL.getD 4 0))) (S_ERLANG : Sta Z Z.heap "com/example/anchovy/anchovy/remoting/LanguageCode" "ERLANG" "Lcom/example/anchovy/anchovy/remoting/LanguageCode;" (.ref (AL.getD 5 0))) (S_RUBY : Sta Z Z.heap "com/example/anchovy/anchovy/remoting/LanguageCode" "RUBY" "Lcom/example/anchovy/anchovy/remoting/LanguageCode;" (.ref (AL.getD 6 0))) (S_OTHER : Sta Z Z.heap "com/example/anchovy/anchovy/remoting/LanguageCode" "OTHER" "Lcom/example/anchovy/anchovy/remoting/LanguageCode;" (.ref (AL.getD 7 0))) (S_HTTP : Sta Z Z.heap "com/example/anchovy/anchovy/remoting/LanguageCode" "HTTP" "Lcom/example/anchovy/anchovy/remoting/LanguageCode;" (.ref (AL.getD 8 0))) (S_GO : Sta Z Z.heap "com/example/anchovy/anchovy/remoting/LanguageCode" "GO" "Lcom/example/anchovy/anchovy/remoting/LanguageCode;" (.ref (AL.getD 9 0))) (S_PHP : Sta Z Z.heap "com/example/anchovy/anchovy/remoting/LanguageCode" "PHP" "Lcom/example/anchovy/anchovy/remoting/LanguageCode;" (.ref (AL.getD 10 0))) (S_OMS : Sta Z Z.heap "com/example/anchovy/anchovy/remoting/LanguageCode" "OMS" "Lcom/example/anchovy/anchovy/remoting/LanguageCode;" (.ref (AL.getD 11 0))) (S_RUST : Sta Z Z.heap "com/example/anchovy/anchovy/remoting/LanguageCode" "RUST" "Lcom/example/anchovy/anchovy/remoting/LanguageCode;" (.ref (AL.getD 12 0))) :
    MetFree l (⟨"com/example/anchovy/anchovy/remoting/LanguageCodeOfPinLaw", "expected", "(I)Lcom/example/anchovy/anchovy/remoting/LanguageCode;"⟩ : MethodName) (head1 (Jvm.Cond.code (⟨"com/example/anchovy/anchovy/remoting/LanguageCodeOfPinLaw", "expected", "(I)Lcom/example/anchovy/anchovy/remoting/LanguageCode;"⟩ : MethodName) method_2_code 1 (some (.object "com/example/anchovy/anchovy/remoting/LanguageCode")) :: ws) ({ frames := 0, cells := 0, slots := 0, locals := 0 } : Room)) (fun ar' U => ar' = #[(.int b)] ∧ Z.Warmed39 U.vm ∧ U.heap = h0) (fun _ _ _ _ _ => True) (fun _ U o U' => ∃ v L, o = .returned v ∧ (QA (some (.ref (own_exp AL b))) h0 n0) v U'.heap L ∧ FrameEnd U o U' L ({ frames := 0, cells := 0, slots := 0, locals := 0 } : Room).cells ({ frames := 0, cells := 0, slots := 0, locals := 0 } : Room).slots) := by
  refine MetFree.of_bodySF (plainFor_of_name pn_com_example_anchovy_anchovy_remoting_LanguageCodeOfPinLaw) hisR ?_
  intro p e s m args below meth c s₁ Bd hml0 hP hK
  obtain ⟨rfl, hZ, hh⟩ := hP
  have hx := Bd.exec
  have hby := Bd.bytes
  have hlk := BodyLoose.notSynchronized Bd
  have hml : c.maxLocals = 1 := hml0
  have hown : s.vm.findClass "com/example/anchovy/anchovy/remoting/LanguageCodeOfPinLaw" = some m.cls := findClass_of_methodNamed Bd.named
  have hnm := (name_of_methodNamed Bd.named Bd.method).1
  have X0 : Stand p l e ({ frames := 0, cells := 0, slots := 0, locals := 0 } : Room) s m #[(.int b)] below meth c s₁ [] 0 0 := Stand.of_body Bd
  have e0 : s₁.heap = h0 := by rw [← hh, Bd.state]; rfl
  have N0 := Fr.nil n0
  have Z0 : n0 ≤ h0.size := O0.1 ▸ O0.2.1
  show OEnds p e below s ({ frames := 0, cells := 0, slots := 0, locals := 0 } : Room).cells ({ frames := 0, cells := 0, slots := 0, locals := 0 } : Room).slots (QA (some (.ref (own_exp AL b))) h0 n0) (s₁.setTop (entryFrame m #[(.int b)] 1))
  refine OEnds.via (fun _ k => castTop (show entryFrame m #[(.int b)] 1 = (mkF m 0 #[.val (.int b)] []) by first | (simp [entryFrame, mkF, argsToLocals, Value.category, maxLocals]; done) | rfl) k) ?_
  refine OEnds.via (fun _ k => XS.iloadN X0.here hx rfl (hb hby d3_0) rfl k) ?_
  show OEnds p e below s _ _ _ (s₁.setTop (mkF m 1 #[.val (.int b)] [(.int b)]))
  by_cases hc1_0 : b = (0 : Int32)
  · skip
    refine OEnds.via (fun _ k => XS.ifNo X0.here hx rfl (hb hby d3_1) rfl ((if0 _ _).trans (teq hc1_0).2) k) ?_
    show OEnds p e below s _ _ _ (s₁.setTop (mkF m 4 #[.val (.int b)] []))
    obtain ⟨T2, X2, e2, st2⟩ := getS2 X0 hx hZ hown (host := "") (Or.inl (hw _ (List.mem_of_getElem? (i := 39) rfl))) Via.refl e0 (Sta.ext O0.2 S_JAVA) (g := (mkF m 4 #[.val (.int b)] [])) rfl (hb hby d3_4)
    refine OEnds.via (fun _ k => st2 _ k) ?_
    show OEnds p e below s _ _ _ (T2.setTop (mkF m 7 #[.val (.int b)] [(.ref (AL.getD 0 0))]))
    refine OEnds.retR X2 hx hlk Bd.returns rfl rfl (hb hby d3_7) ?_ (by decide) (by decide)
    exact ⟨by simp only [own_exp, if_pos hc1_0], N0, e2⟩
  · skip
    refine OEnds.via (fun _ k => XS.ifYes X0.here hx rfl (pc0 := 1) (pc' := 8) rfl (hb hby d3_1) rfl ((if0 _ _).trans (feq hc1_0).2) (by decide) (by decide) k) ?_
    show OEnds p e below s _ _ _ (s₁.setTop (mkF m 8 #[.val (.int b)] []))
    refine OEnds.via (fun _ k => XS.iloadN X0.here hx rfl (hb hby d3_8) rfl k) ?_
    show OEnds p e below s _ _ _ (s₁.setTop (mkF m 9 #[.val (.int b)] [(.int b)]))
    refine OEnds.via (fun _ k => XS.iconst X0.here hx rfl (hb hby d3_9) k) ?_
    show OEnds p e below s _ _ _ (s₁.setTop (mkF m 10 #[.val (.int b)] [(.int (1 : Int32)), (.int b)]))
    by_cases hc10_2 : b = (1 : Int32)
    · skip
      refine OEnds.via (fun _ k => XS.icmpNo X0.here hx rfl (hb hby d3_10) rfl (teq hc10_2).2 k) ?_
      show OEnds p e below s _ _ _ (s₁.setTop (mkF m 13 #[.val (.int b)] []))
      obtain ⟨T4, X4, e4, st4⟩ := getS2 X0 hx hZ hown (host := "") (Or.inl (hw _ (List.mem_of_getElem? (i := 42) rfl))) Via.refl e0 (Sta.ext O0.2 S_CPP) (g := (mkF m 13 #[.val (.int b)] [])) rfl (hb hby d3_13)
      refine OEnds.via (fun _ k => st4 _ k) ?_
      show OEnds p e below s _ _ _ (T4.setTop (mkF m 16 #[.val (.int b)] [(.ref (AL.getD 1 0))]))
      refine OEnds.retR X4 hx hlk Bd.returns rfl rfl (hb hby d3_16) ?_ (by decide) (by decide)
      exact ⟨by simp only [own_exp, if_neg hc1_0, if_pos hc10_2], N0, e4⟩
    · skip
      refine OEnds.via (fun _ k => XS.icmpYes X0.here hx rfl (pc0 := 10) (pc' := 17) rfl (hb hby d3_10) rfl (feq hc10_2).2 (by decide) (by decide) k) ?_
      show OEnds p e below s _ _ _ (s₁.setTop (mkF m 17 #[.val (.int b)] []))
      refine OEnds.via (fun _ k => XS.iloadN X0.here hx rfl (hb hby d3_17) rfl k) ?_
      show OEnds p e below s _ _ _ (s₁.setTop (mkF m 18 #[.val (.int b)] [(.int b)]))
      refine OEnds.via (fun _ k => XS.iconst X0.here hx rfl (hb hby d3_18) k) ?_
      show OEnds p e below s _ _ _ (s₁.setTop (mkF m 19 #[.val (.int b)] [(.int (2 : Int32)), (.int b)]))
      by_cases hc19_4 : b = (2 : Int32)
      · skip
        refine OEnds.via (fun _ k => XS.icmpNo X0.here hx rfl (hb hby d3_19) rfl (teq hc19_4).2 k) ?_
        show OEnds p e below s _ _ _ (s₁.setTop (mkF m 22 #[.val (.int b)] []))
        obtain ⟨T6, X6, e6, st6⟩ := getS2 X0 hx hZ hown (host := "") (Or.inl (hw _ (List.mem_of_getElem? (i := 43) rfl))) Via.refl e0 (Sta.ext O0.2 S_DOTNET) (g := (mkF m 22 #[.val (.int b)] [])) rfl (hb hby d3_22)
        refine OEnds.via (fun _ k => st6 _ k) ?_
        show OEnds p e below s _ _ _ (T6.setTop (mkF m 25 #[.val (.int b)] [(.ref (AL.getD 2 0))]))
        refine OEnds.retR X6 hx hlk Bd.returns rfl rfl (hb hby d3_25) ?_ (by decide) (by decide)
        exact ⟨by simp only [own_exp, if_neg hc1_0, if_neg hc10_2, if_pos hc19_4], N0, e6⟩
      · skip
        refine OEnds.via (fun _ k => XS.icmpYes X0.here hx rfl (pc0 := 19) (pc' := 26) rfl (hb hby d3_19) rfl (feq hc19_4).2 (by decide) (by decide) k) ?_
        show OEnds p e below s _ _ _ (s₁.setTop (mkF m 26 #[.val (.int b)] []))
        refine OEnds.via (fun _ k => XS.iloadN X0.here hx rfl (hb hby d3_26) rfl k) ?_
        show OEnds p e below s _ _ _ (s₁.setTop (mkF m 27 #[.val (.int b)] [(.int b)]))
        refine OEnds.via (fun _ k => XS.iconst X0.here hx rfl (hb hby d3_27) k) ?_
        show OEnds p e below s _ _ _ (s₁.setTop (mkF m 28 #[.val (.int b)] [(.int (3 : Int32)), (.int b)]))
        by_cases hc28_6 : b = (3 : Int32)
        · skip
          refine OEnds.via (fun _ k => XS.icmpNo X0.here hx rfl (hb hby d3_28) rfl (teq hc28_6).2 k) ?_
          show OEnds p e below s _ _ _ (s₁.setTop (mkF m 31 #[.val (.int b)] []))
          obtain ⟨T8, X8, e8, st8⟩ := getS2 X0 hx hZ hown (host := "") (Or.inl (hw _ (List.mem_of_getElem? (i := 40) rfl))) Via.refl e0 (Sta.ext O0.2 S_PYTHON) (g := (mkF m 31 #[.val (.int b)] [])) rfl (hb hby d3_31)
          refine OEnds.via (fun _ k => st8 _ k) ?_
          show OEnds p e below s _ _ _ (T8.setTop (mkF m 34 #[.val (.int b)] [(.ref (AL.getD 3 0))]))
          refine OEnds.retR X8 hx hlk Bd.returns rfl rfl (hb hby d3_34) ?_ (by decide) (by decide)
          exact ⟨by simp only [own_exp, if_neg hc1_0, if_neg hc10_2, if_neg hc19_4, if_pos hc28_6], N0, e8⟩
        · skip
          refine OEnds.via (fun _ k => XS.icmpYes X0.here hx rfl (pc0 := 28) (pc' := 35) rfl (hb hby d3_28) rfl (feq hc28_6).2 (by decide) (by decide) k) ?_
          show OEnds p e below s _ _ _ (s₁.setTop (mkF m 35 #[.val (.int b)] []))
          refine OEnds.via (fun _ k => XS.iloadN X0.here hx rfl (hb hby d3_35) rfl k) ?_
          show OEnds p e below s _ _ _ (s₁.setTop (mkF m 36 #[.val (.int b)] [(.int b)]))
          refine OEnds.via (fun _ k => XS.iconst X0.here hx rfl (hb hby d3_36) k) ?_
          show OEnds p e below s _ _ _ (s₁.setTop (mkF m 37 #[.val (.int b)] [(.int (4 : Int32)), (.int b)]))
          by_cases hc37_8 : b = (4 : Int32)
          · skip
            refine OEnds.via (fun _ k => XS.icmpNo X0.here hx rfl (hb hby d3_37) rfl (teq hc37_8).2 k) ?_
            show OEnds p e below s _ _ _ (s₁.setTop (mkF m 40 #[.val (.int b)] []))
            obtain ⟨T10, X10, e10, st10⟩ := getS2 X0 hx hZ hown (host := "") (Or.inl (hw _ (List.mem_of_getElem? (i := 51) rfl))) Via.refl e0 (Sta.ext O0.2 S_DELPHI) (g := (mkF m 40 #[.val (.int b)] [])) rfl (hb hby d3_40)
            refine OEnds.via (fun _ k => st10 _ k) ?_
            show OEnds p e below s _ _ _ (T10.setTop (mkF m 43 #[.val (.int b)] [(.ref (AL.getD 4 0))]))
            refine OEnds.retR X10 hx hlk Bd.returns rfl rfl (hb hby d3_43) ?_ (by decide) (by decide)
            exact ⟨by simp only [own_exp, if_neg hc1_0, if_neg hc10_2, if_neg hc19_4, if_neg hc28_6, if_pos hc37_8], N0, e10⟩
          · skip
            refine OEnds.via (fun _ k => XS.icmpYes X0.here hx rfl (pc0 := 37) (pc' := 44) rfl (hb hby d3_37) rfl (feq hc37_8).2 (by decide) (by decide) k) ?_
            show OEnds p e below s _ _ _ (s₁.setTop (mkF m 44 #[.val (.int b)] []))
            refine OEnds.via (fun _ k => XS.iloadN X0.here hx rfl (hb hby d3_44) rfl k) ?_
            show OEnds p e below s _ _ _ (s₁.setTop (mkF m 45 #[.val (.int b)] [(.int b)]))
            refine OEnds.via (fun _ k => XS.iconst X0.here hx rfl (hb hby d3_45) k) ?_
            show OEnds p e below s _ _ _ (s₁.setTop (mkF m 46 #[.val (.int b)] [(.int (5 : Int32)), (.int b)]))
            by_cases hc46_10 : b = (5 : Int32)
            · skip
              refine OEnds.via (fun _ k => XS.icmpNo X0.here hx rfl (hb hby d3_46) rfl (teq hc46_10).2 k) ?_
              show OEnds p e below s _ _ _ (s₁.setTop (mkF m 49 #[.val (.int b)] []))
              obtain ⟨T12, X12, e12, st12⟩ := getS2 X0 hx hZ hown (host := "") (Or.inl (hw _ (List.mem_of_getElem? (i := 50) rfl))) Via.refl e0 (Sta.ext O0.2 S_ERLANG) (g := (mkF m 49 #[.val (.int b)] [])) rfl (hb hby d3_49)
              refine OEnds.via (fun _ k => st12 _ k) ?_
              show OEnds p e below s _ _ _ (T12.setTop (mkF m 52 #[.val (.int b)] [(.ref (AL.getD 5 0))]))
              refine OEnds.retR X12 hx hlk Bd.returns rfl rfl (hb hby d3_52) ?_ (by decide) (by decide)
              exact ⟨by simp only [own_exp, if_neg hc1_0, if_neg hc10_2, if_neg hc19_4, if_neg hc28_6, if_neg hc37_8, if_pos hc46_10], N0, e12⟩
            · skip
              refine OEnds.via (fun _ k => XS.icmpYes X0.here hx rfl (pc0 := 46) (pc' := 53) rfl (hb hby d3_46) rfl (feq hc46_10).2 (by decide) (by decide) k) ?_
              show OEnds p e below s _ _ _ (s₁.setTop (mkF m 53 #[.val (.int b)] []))
              refine OEnds.via (fun _ k => XS.iloadN X0.here hx rfl (hb hby d3_53) rfl k) ?_
              show OEnds p e below s _ _ _ (s₁.setTop (mkF m 54 #[.val (.int b)] [(.int b)]))
              refine OEnds.via (fun _ k => XS.bipush X0.here hx rfl (hb hby d3_54) k) ?_
              show OEnds p e below s _ _ _ (s₁.setTop (mkF m 56 #[.val (.int b)] [(.int (6 : Int32)), (.int b)]))
              by_cases hc56_12 : b = (6 : Int32)
              · skip
                refine OEnds.via (fun _ k => XS.icmpNo X0.here hx rfl (hb hby d3_56) rfl (teq hc56_12).2 k) ?_
                show OEnds p e below s _ _ _ (s₁.setTop (mkF m 59 #[.val (.int b)] []))
                obtain ⟨T14, X14, e14, st14⟩ := getS2 X0 hx hZ hown (host := "") (Or.inl (hw _ (List.mem_of_getElem? (i := 47) rfl))) Via.refl e0 (Sta.ext O0.2 S_RUBY) (g := (mkF m 59 #[.val (.int b)] [])) rfl (hb hby d3_59)
                refine OEnds.via (fun _ k => st14 _ k) ?_
                show OEnds p e below s _ _ _ (T14.setTop (mkF m 62 #[.val (.int b)] [(.ref (AL.getD 6 0))]))
                refine OEnds.retR X14 hx hlk Bd.returns rfl rfl (hb hby d3_62) ?_ (by decide) (by decide)
                exact ⟨by simp only [own_exp, if_neg hc1_0, if_neg hc10_2, if_neg hc19_4, if_neg hc28_6, if_neg hc37_8, if_neg hc46_10, if_pos hc56_12], N0, e14⟩
              · skip
                refine OEnds.via (fun _ k => XS.icmpYes X0.here hx rfl (pc0 := 56) (pc' := 63) rfl (hb hby d3_56) rfl (feq hc56_12).2 (by decide) (by decide) k) ?_
                show OEnds p e below s _ _ _ (s₁.setTop (mkF m 63 #[.val (.int b)] []))
                refine OEnds.via (fun _ k => XS.iloadN X0.here hx rfl (hb hby d3_63) rfl k) ?_
                show OEnds p e below s _ _ _ (s₁.setTop (mkF m 64 #[.val (.int b)] [(.int b)]))
                refine OEnds.via (fun _ k => XS.bipush X0.here hx rfl (hb hby d3_64) k) ?_
                show OEnds p e below s _ _ _ (s₁.setTop (mkF m 66 #[.val (.int b)] [(.int (7 : Int32)), (.int b)]))
                by_cases hc66_14 : b = (7 : Int32)
                · skip
                  refine OEnds.via (fun _ k => XS.icmpNo X0.here hx rfl (hb hby d3_66) rfl (teq hc66_14).2 k) ?_
                  show OEnds p e below s _ _ _ (s₁.setTop (mkF m 69 #[.val (.int b)] []))
                  obtain ⟨T16, X16, e16, st16⟩ := getS2 X0 hx hZ hown (host := "") (Or.inl (hw _ (List.mem_of_getElem? (i := 41) rfl))) Via.refl e0 (Sta.ext O0.2 S_OTHER) (g := (mkF m 69 #[.val (.int b)] [])) rfl (hb hby d3_69)
                  refine OEnds.via (fun _ k => st16 _ k) ?_
                  show OEnds p e below s _ _ _ (T16.setTop (mkF m 72 #[.val (.int b)] [(.ref (AL.getD 7 0))]))
                  refine OEnds.retR X16 hx hlk Bd.returns rfl rfl (hb hby d3_72) ?_ (by decide) (by decide)
                  exact ⟨by simp only [own_exp, if_neg hc1_0, if_neg hc10_2, if_neg hc19_4, if_neg hc28_6, if_neg hc37_8, if_neg hc46_10, if_neg hc56_12, if_pos hc66_14], N0, e16⟩
                · skip
                  refine OEnds.via (fun _ k => XS.icmpYes X0.here hx rfl (pc0 := 66) (pc' := 73) rfl (hb hby d3_66) rfl (feq hc66_14).2 (by decide) (by decide) k) ?_
                  show OEnds p e below s _ _ _ (s₁.setTop (mkF m 73 #[.val (.int b)] []))
                  refine OEnds.via (fun _ k => XS.iloadN X0.here hx rfl (hb hby d3_73) rfl k) ?_
                  show OEnds p e below s _ _ _ (s₁.setTop (mkF m 74 #[.val (.int b)] [(.int b)]))
                  refine OEnds.via (fun _ k => XS.bipush X0.here hx rfl (hb hby d3_74) k) ?_
                  show OEnds p e below s _ _ _ (s₁.setTop (mkF m 76 #[.val (.int b)] [(.int (8 : Int32)), (.int b)]))
                  by_cases hc76_16 : b = (8 : Int32)
                  · skip
                    refine OEnds.via (fun _ k => XS.icmpNo X0.here hx rfl (hb hby d3_76) rfl (teq hc76_16).2 k) ?_
                    show OEnds p e below s _ _ _ (s₁.setTop (mkF m 79 #[.val (.int b)] []))
                    obtain ⟨T18, X18, e18, st18⟩ := getS2 X0 hx hZ hown (host := "") (Or.inl (hw _ (List.mem_of_getElem? (i := 46) rfl))) Via.refl e0 (Sta.ext O0.2 S_HTTP) (g := (mkF m 79 #[.val (.int b)] [])) rfl (hb hby d3_79)
                    refine OEnds.via (fun _ k => st18 _ k) ?_
                    show OEnds p e below s _ _ _ (T18.setTop (mkF m 82 #[.val (.int b)] [(.ref (AL.getD 8 0))]))
                    refine OEnds.retR X18 hx hlk Bd.returns rfl rfl (hb hby d3_82) ?_ (by decide) (by decide)
                    exact ⟨by simp only [own_exp, if_neg hc1_0, if_neg hc10_2, if_neg hc19_4, if_neg hc28_6, if_neg hc37_8, if_neg hc46_10, if_neg hc56_12, if_neg hc66_14, if_pos hc76_16], N0, e18⟩
                  · skip
                    refine OEnds.via (fun _ k => XS.icmpYes X0.here hx rfl (pc0 := 76) (pc' := 83) rfl (hb hby d3_76) rfl (feq hc76_16).2 (by decide) (by decide) k) ?_
                    show OEnds p e below s _ _ _ (s₁.setTop (mkF m 83 #[.val (.int b)] []))
                    refine OEnds.via (fun _ k => XS.iloadN X0.here hx rfl (hb hby d3_83) rfl k) ?_
                    show OEnds p e below s _ _ _ (s₁.setTop (mkF m 84 #[.val (.int b)] [(.int b)]))
                    refine OEnds.via (fun _ k => XS.bipush X0.here hx rfl (hb hby d3_84) k) ?_
                    show OEnds p e below s _ _ _ (s₁.setTop (mkF m 86 #[.val (.int b)] [(.int (9 : Int32)), (.int b)]))
                    by_cases hc86_18 : b = (9 : Int32)
                    · skip
                      refine OEnds.via (fun _ k => XS.icmpNo X0.here hx rfl (hb hby d3_86) rfl (teq hc86_18).2 k) ?_
                      show OEnds p e below s _ _ _ (s₁.setTop (mkF m 89 #[.val (.int b)] []))
                      obtain ⟨T20, X20, e20, st20⟩ := getS2 X0 hx hZ hown (host := "") (Or.inl (hw _ (List.mem_of_getElem? (i := 48) rfl))) Via.refl e0 (Sta.ext O0.2 S_GO) (g := (mkF m 89 #[.val (.int b)] [])) rfl (hb hby d3_89)
                      refine OEnds.via (fun _ k => st20 _ k) ?_
                      show OEnds p e below s _ _ _ (T20.setTop (mkF m 92 #[.val (.int b)] [(.ref (AL.getD 9 0))]))
                      refine OEnds.retR X20 hx hlk Bd.returns rfl rfl (hb hby d3_92) ?_ (by decide) (by decide)
                      exact ⟨by simp only [own_exp, if_neg hc1_0, if_neg hc10_2, if_neg hc19_4, if_neg hc28_6, if_neg hc37_8, if_neg hc46_10, if_neg hc56_12, if_neg hc66_14, if_neg hc76_16, if_pos hc86_18], N0, e20⟩
                    · skip
                      refine OEnds.via (fun _ k => XS.icmpYes X0.here hx rfl (pc0 := 86) (pc' := 93) rfl (hb hby d3_86) rfl (feq hc86_18).2 (by decide) (by decide) k) ?_
                      show OEnds p e below s _ _ _ (s₁.setTop (mkF m 93 #[.val (.int b)] []))
                      refine OEnds.via (fun _ k => XS.iloadN X0.here hx rfl (hb hby d3_93) rfl k) ?_
                      show OEnds p e below s _ _ _ (s₁.setTop (mkF m 94 #[.val (.int b)] [(.int b)]))
                      refine OEnds.via (fun _ k => XS.bipush X0.here hx rfl (hb hby d3_94) k) ?_
                      show OEnds p e below s _ _ _ (s₁.setTop (mkF m 96 #[.val (.int b)] [(.int (10 : Int32)), (.int b)]))
                      by_cases hc96_20 : b = (10 : Int32)
                      · skip
                        refine OEnds.via (fun _ k => XS.icmpNo X0.here hx rfl (hb hby d3_96) rfl (teq hc96_20).2 k) ?_
                        show OEnds p e below s _ _ _ (s₁.setTop (mkF m 99 #[.val (.int b)] []))
                        obtain ⟨T22, X22, e22, st22⟩ := getS2 X0 hx hZ hown (host := "") (Or.inl (hw _ (List.mem_of_getElem? (i := 45) rfl))) Via.refl e0 (Sta.ext O0.2 S_PHP) (g := (mkF m 99 #[.val (.int b)] [])) rfl (hb hby d3_99)
                        refine OEnds.via (fun _ k => st22 _ k) ?_
                        show OEnds p e below s _ _ _ (T22.setTop (mkF m 102 #[.val (.int b)] [(.ref (AL.getD 10 0))]))
                        refine OEnds.retR X22 hx hlk Bd.returns rfl rfl (hb hby d3_102) ?_ (by decide) (by decide)
                        exact ⟨by simp only [own_exp, if_neg hc1_0, if_neg hc10_2, if_neg hc19_4, if_neg hc28_6, if_neg hc37_8, if_neg hc46_10, if_neg hc56_12, if_neg hc66_14, if_neg hc76_16, if_neg hc86_18, if_pos hc96_20], N0, e22⟩
                      · skip
                        refine OEnds.via (fun _ k => XS.icmpYes X0.here hx rfl (pc0 := 96) (pc' := 103) rfl (hb hby d3_96) rfl (feq hc96_20).2 (by decide) (by decide) k) ?_
                        show OEnds p e below s _ _ _ (s₁.setTop (mkF m 103 #[.val (.int b)] []))
                        refine OEnds.via (fun _ k => XS.iloadN X0.here hx rfl (hb hby d3_103) rfl k) ?_
                        show OEnds p e below s _ _ _ (s₁.setTop (mkF m 104 #[.val (.int b)] [(.int b)]))
                        refine OEnds.via (fun _ k => XS.bipush X0.here hx rfl (hb hby d3_104) k) ?_
                        show OEnds p e below s _ _ _ (s₁.setTop (mkF m 106 #[.val (.int b)] [(.int (11 : Int32)), (.int b)]))
                        by_cases hc106_22 : b = (11 : Int32)
                        · skip
                          refine OEnds.via (fun _ k => XS.icmpNo X0.here hx rfl (hb hby d3_106) rfl (teq hc106_22).2 k) ?_
                          show OEnds p e below s _ _ _ (s₁.setTop (mkF m 109 #[.val (.int b)] []))
                          obtain ⟨T24, X24, e24, st24⟩ := getS2 X0 hx hZ hown (host := "") (Or.inl (hw _ (List.mem_of_getElem? (i := 44) rfl))) Via.refl e0 (Sta.ext O0.2 S_OMS) (g := (mkF m 109 #[.val (.int b)] [])) rfl (hb hby d3_109)
                          refine OEnds.via (fun _ k => st24 _ k) ?_
                          show OEnds p e below s _ _ _ (T24.setTop (mkF m 112 #[.val (.int b)] [(.ref (AL.getD 11 0))]))
                          refine OEnds.retR X24 hx hlk Bd.returns rfl rfl (hb hby d3_112) ?_ (by decide) (by decide)
                          exact ⟨by simp only [own_exp, if_neg hc1_0, if_neg hc10_2, if_neg hc19_4, if_neg hc28_6, if_neg hc37_8, if_neg hc46_10, if_neg hc56_12, if_neg hc66_14, if_neg hc76_16, if_neg hc86_18, if_neg hc96_20, if_pos hc106_22], N0, e24⟩
                        · skip
                          refine OEnds.via (fun _ k => XS.icmpYes X0.here hx rfl (pc0 := 106) (pc' := 113) rfl (hb hby d3_106) rfl (feq hc106_22).2 (by decide) (by decide) k) ?_
                          show OEnds p e below s _ _ _ (s₁.setTop (mkF m 113 #[.val (.int b)] []))
                          refine OEnds.via (fun _ k => XS.iloadN X0.here hx rfl (hb hby d3_113) rfl k) ?_
                          show OEnds p e below s _ _ _ (s₁.setTop (mkF m 114 #[.val (.int b)] [(.int b)]))
                          refine OEnds.via (fun _ k => XS.bipush X0.here hx rfl (hb hby d3_114) k) ?_
                          show OEnds p e below s _ _ _ (s₁.setTop (mkF m 116 #[.val (.int b)] [(.int (12 : Int32)), (.int b)]))
                          by_cases hc116_24 : b = (12 : Int32)
                          · skip
                            refine OEnds.via (fun _ k => XS.icmpNo X0.here hx rfl (hb hby d3_116) rfl (teq hc116_24).2 k) ?_
                            show OEnds p e below s _ _ _ (s₁.setTop (mkF m 119 #[.val (.int b)] []))
                            obtain ⟨T26, X26, e26, st26⟩ := getS2 X0 hx hZ hown (host := "") (Or.inl (hw _ (List.mem_of_getElem? (i := 49) rfl))) Via.refl e0 (Sta.ext O0.2 S_RUST) (g := (mkF m 119 #[.val (.int b)] [])) rfl (hb hby d3_119)
                            refine OEnds.via (fun _ k => st26 _ k) ?_
                            show OEnds p e below s _ _ _ (T26.setTop (mkF m 122 #[.val (.int b)] [(.ref (AL.getD 12 0))]))
                            refine OEnds.retR X26 hx hlk Bd.returns rfl rfl (hb hby d3_122) ?_ (by decide) (by decide)
                            exact ⟨by simp only [own_exp, if_neg hc1_0, if_neg hc10_2, if_neg hc19_4, if_neg hc28_6, if_neg hc37_8, if_neg hc46_10, if_neg hc56_12, if_neg hc66_14, if_neg hc76_16, if_neg hc86_18, if_neg hc96_20, if_neg hc106_22, if_pos hc116_24], N0, e26⟩
                          · skip
                            refine OEnds.via (fun _ k => XS.icmpYes X0.here hx rfl (pc0 := 116) (pc' := 123) rfl (hb hby d3_116) rfl (feq hc116_24).2 (by decide) (by decide) k) ?_
                            show OEnds p e below s _ _ _ (s₁.setTop (mkF m 123 #[.val (.int b)] []))
                            obtain ⟨T27, X27, e27, st27⟩ := getS2 X0 hx hZ hown (host := "") (Or.inl (hw _ (List.mem_of_getElem? (i := 41) rfl))) Via.refl e0 (Sta.ext O0.2 S_OTHER) (g := (mkF m 123 #[.val (.int b)] [])) rfl (hb hby d3_123)
                            refine OEnds.via (fun _ k => st27 _ k) ?_
                            show OEnds p e below s _ _ _ (T27.setTop (mkF m 126 #[.val (.int b)] [(.ref (AL.getD 7 0))]))
                            refine OEnds.retR X27 hx hlk Bd.returns rfl rfl (hb hby d3_126) ?_ (by decide) (by decide)
                            exact ⟨by simp only [own_exp, if_neg hc1_0, if_neg hc10_2, if_neg hc19_4, if_neg hc28_6, if_neg hc37_8, if_neg hc46_10, if_neg hc56_12, if_neg hc66_14, if_neg hc76_16, if_neg hc86_18, if_neg hc96_20, if_neg hc106_22, if_neg hc116_24], N0, e27⟩
theorem pd_28B29Lcom2fexample2fanchovy2fanchovy2fremoting2fLanguageCode3b : parseMethodDescriptor "(B)Lcom/example/anchovy/anchovy/remoting/LanguageCode;" = some ⟨[.byte], some (.object "com/example/anchovy/anchovy/remoting/LanguageCode")⟩ := by decide +kernel
theorem pd_28I29Lcom2fexample2fanchovy2fanchovy2fremoting2fLanguageCode3b : parseMethodDescriptor "(I)Lcom/example/anchovy/anchovy/remoting/LanguageCode;" = some ⟨[.int], some (.object "com/example/anchovy/anchovy/remoting/LanguageCode")⟩ := by decide +kernel
set_option maxRecDepth 65536 in
set_option maxHeartbeats 40000000 in
theorem rm0 (l : Launch) (Z : State) (a0 : Array Value) (hw : ∀ d ∈ tables_1, d.before a0 Z = true) (ws : List Jvm.Cond) (p0 : Int32) (AL : List Addr) (va : Addr) (kA : ClassId) (h0 : Heap) (n0 : Nat) (O0 : Old Z n0 h0) (hAL : AL.length = 13) (S_V : Sta Z Z.heap "com/example/anchovy/anchovy/remoting/LanguageCode" "$VALUES" "[Lcom/example/anchovy/anchovy/remoting/LanguageCode;" (.ref va)) (AV : Arh Z Z.heap va kA (.object "com/example/anchovy/anchovy/remoting/LanguageCode") (13 : Int32) [] (AL.map Value.ref) .null) (EV : Exa Z Z.heap va "[Lcom/example/anchovy/anchovy/remoting/LanguageCode;") (FC : ∀ i, i < 13 → Fld Z Z.heap (AL.getD i 0) "com/example/anchovy/anchovy/remoting/LanguageCode" "code" "B" (.int (Int32.ofNat i))) (S_JAVA : Sta Z Z.heap "com/example/anchovy/anchovy/remoting/LanguageCode" "JAVA" "Lcom/example/anchovy/anchovy/remoting/LanguageCode;" (.ref (AL.getD 0 0))) (S_CPP : Sta Z Z.heap "com/example/anchovy/anchovy/remoting/LanguageCode" "CPP" "Lcom/example/anchovy/anchovy/remoting/LanguageCode;" (.ref (AL.getD 1 0))) (S_DOTNET : Sta Z Z.heap "com/example/anchovy/anchovy/remoting/LanguageCode" "DOTNET" "Lcom/example/anchovy/anchovy/remoting/LanguageCode;" (.ref (AL.getD 2 0))) (S_PYTHON : Sta Z Z.heap "com/example/anchovy/anchovy/remoting/LanguageCode" "PYTHON" "Lcom/example/anchovy/anchovy/remoting/LanguageCode;" (.ref (AL.getD 3 0))) (S_DELPHI : Sta Z Z.heap "com/example/anchovy/anchovy/remoting/LanguageCode" "DELPHI" "Lcom/example/anchovy/anchovy/remoting/LanguageCode;" (.ref (AL.getD 4 0))) (S_ERLANG : Sta Z Z.heap "com/example/anchovy/anchovy/remoting/LanguageCode" "ERLANG" "Lcom/example/anchovy/anchovy/remoting/LanguageCode;" (.ref (AL.getD 5 0))) (S_RUBY : Sta Z Z.heap "com/example/anchovy/anchovy/remoting/LanguageCode" "RUBY" "Lcom/example/anchovy/anchovy/remoting/LanguageCode;" (.ref (AL.getD 6 0))) (S_OTHER : Sta Z Z.heap "com/example/anchovy/anchovy/remoting/LanguageCode" "OTHER" "Lcom/example/anchovy/anchovy/remoting/LanguageCode;" (.ref (AL.getD 7 0))) (S_HTTP : Sta Z Z.heap "com/example/anchovy/anchovy/remoting/LanguageCode" "HTTP" "Lcom/example/anchovy/anchovy/remoting/LanguageCode;" (.ref (AL.getD 8 0))) (S_GO : Sta Z Z.heap "com/example/anchovy/anchovy/remoting/LanguageCode" "GO" "Lcom/example/anchovy/anchovy/remoting/LanguageCode;" (.ref (AL.getD 9 0))) (S_PHP : Sta Z Z.heap "com/example/anchovy/anchovy/remoting/LanguageCode" "PHP" "Lcom/example/anchovy/anchovy/remoting/LanguageCode;" (.ref (AL.getD 10 0))) (S_OMS : Sta Z Z.heap "com/example/anchovy/anchovy/remoting/LanguageCode" "OMS" "Lcom/example/anchovy/anchovy/remoting/LanguageCode;" (.ref (AL.getD 11 0))) (S_RUST : Sta Z Z.heap "com/example/anchovy/anchovy/remoting/LanguageCode" "RUST" "Lcom/example/anchovy/anchovy/remoting/LanguageCode;" (.ref (AL.getD 12 0))) :
    MetFree l x (head1 (Jvm.Cond.code x code maxLocals ret :: ws) room_1) (fun ar' U => ar' = #[(.int p0)] ∧ Z.Warmed39 U.vm ∧ U.heap = h0) (fun _ _ _ _ _ => True) (fun _ U o U' => ∃ v L, o = .returned v ∧ (QL n0) v U'.heap L ∧ FrameEnd U o U' L 16 128) := by
  refine MetFree.of_bodySF (plainFor_of_name pn_com_example_anchovy_anchovy_remoting_LanguageCodeOfPinLaw) hisR ?_
  intro p e s m args below meth c s₁ Bd hml0 hP hK
  obtain ⟨rfl, hZ, hh⟩ := hP
  have hx := Bd.exec
  have hby := Bd.bytes
  have hlk := BodyLoose.notSynchronized Bd
  have hml : c.maxLocals = 3 := hml0
  have hown : s.vm.findClass "com/example/anchovy/anchovy/remoting/LanguageCodeOfPinLaw" = some m.cls := findClass_of_methodNamed Bd.named
  have hnm := (name_of_methodNamed Bd.named Bd.method).1
  have X0 : Stand p l e room_1 s m #[(.int p0)] below meth c s₁ [] 0 0 := Stand.of_body Bd
  have e0 : s₁.heap = h0 := by rw [← hh, Bd.state]; rfl
  have N0 := Fr.nil n0
  have Z0 : n0 ≤ h0.size := O0.1 ▸ O0.2.1
  show OEnds p e below s 16 128 (QL n0) (s₁.setTop (entryFrame m #[(.int p0)] maxLocals))
  refine OEnds.via (fun _ k => castTop (show entryFrame m #[(.int p0)] maxLocals = (mkF m 0 #[.val (.int p0), .unset, .unset] []) by first | (simp [entryFrame, mkF, argsToLocals, Value.category, maxLocals]; done) | rfl) k) ?_
  have Od := O0
  show OEnds p e below s _ _ _ (s₁.setTop (mkF m 0 #[.val (.int p0), .unset, .unset] []))
  refine OEnds.via (fun _ k => XS.iloadN X0.here hx rfl (hb hby at_0) rfl k) ?_
  show OEnds p e below s _ _ _ (s₁.setTop (mkF m 1 #[.val (.int p0), .unset, .unset] [(.int p0)]))
  refine OEnds.via (fun _ k => XS.sipush X0.here hx rfl (hb hby at_1) k) ?_
  show OEnds p e below s _ _ _ (s₁.setTop (mkF m 4 #[.val (.int p0), .unset, .unset] [(.int (256 : Int32)), (.int p0)]))
  refine OEnds.via (fun _ k => XS.iand X0.here hx rfl (hb hby at_4) rfl k) ?_
  show OEnds p e below s _ _ _ (s₁.setTop (mkF m 5 #[.val (.int p0), .unset, .unset] [(.int (p0 &&& (256 : Int32)))]))
  by_cases hc5_0 : (p0 &&& (256 : Int32)) = (0 : Int32)
  · skip
    refine OEnds.via (fun _ k => XS.ifYes X0.here hx rfl (pc0 := 5) (pc' := 21) rfl (hb hby at_5) rfl ((if0 _ _).trans (teq hc5_0).1) (by decide) (by decide) k) ?_
    show OEnds p e below s _ _ _ (s₁.setTop (mkF m 21 #[.val (.int p0), .unset, .unset] []))
    refine OEnds.via (fun _ k => XS.iloadN X0.here hx rfl (hb hby at_21) rfl k) ?_
    show OEnds p e below s _ _ _ (s₁.setTop (mkF m 22 #[.val (.int p0), .unset, .unset] [(.int p0)]))
    refine OEnds.via (fun _ k => XS.i2b X0.here hx rfl (hb hby at_22) rfl k) ?_
    show OEnds p e below s _ _ _ (s₁.setTop (mkF m 23 #[.val (.int p0), .unset, .unset] [(.int (p0.toInt8.toInt32))]))
    refine OEnds.via (fun _ k => XS.istoreN X0.here hx rfl (hb hby at_23) rfl (l' := #[.val (.int p0), .val (.int (p0.toInt8.toInt32)), .unset]) rfl k) ?_
    show OEnds p e below s _ _ _ (s₁.setTop (mkF m 24 #[.val (.int p0), .val (.int (p0.toInt8.toInt32)), .unset] []))
    generalize (p0.toInt8.toInt32) = b
    show OEnds p e below s _ _ _ (s₁.setTop (mkF m 24 #[.val (.int p0), .val (.int b), .unset] []))
    refine OEnds.via (fun _ k => XS.iloadN X0.here hx rfl (hb hby at_24) rfl k) ?_
    show OEnds p e below s _ _ _ (s₁.setTop (mkF m 25 #[.val (.int p0), .val (.int b), .unset] [(.int b)]))
    obtain ⟨_, _, ⟨T2, L2, k2, n2⟩, -, X2, ⟨Lc2, hQ2, l2, y2, z2⟩, st2⟩ := Jvm.LawKit.callS X0 hx (y := (⟨"com/example/anchovy/anchovy/remoting/LanguageCode", "of", "(B)Lcom/example/anchovy/anchovy/remoting/LanguageCode;"⟩ : MethodName)) hown (mvT hZ (hw _ (List.mem_of_getElem? (i := 0) rfl))) (mvT hZ (hw _ (List.mem_of_getElem? (i := 1) rfl))) (mvT hZ (hw _ (List.mem_of_getElem? (i := 2) rfl))) (mvT hZ (hw _ (List.mem_of_getElem? (i := 3) rfl))) (by decide) (backOf (W := 0) (rmO l Z a0 hw [] b AL va kA h0 n0 Od hAL S_V AV EV S_OTHER FC) hZ (hw _ (List.mem_of_getElem? (i := 3) rfl)) (hw _ (List.mem_of_getElem? (i := 2) rfl)) (by decide) (by decide)) (g := (mkF m 25 #[.val (.int p0), .val (.int b), .unset] [(.int b)])) rfl (by rw [hml]; rfl) (argsL := [(.int b)]) (rest := []) (lenOf pd_28B29Lcom2fexample2fanchovy2fanchovy2fremoting2fLanguageCode3b rfl) rfl (by show 2 * 0 + _ ≤ _; exact Nat.le_of_eq rfl) (hb hby at_25) (fun _ _ => ⟨rfl, e0, Nat.le_of_ble_eq_true rfl, Nat.le_of_ble_eq_true rfl⟩)
    dsimp only [Pt.U, Pt.locs, Pt.cells, Pt.slots] at X2 l2 y2 z2 st2 hQ2
    subst l2 y2 z2
    obtain ⟨rfl, N2q, K2⟩ := hQ2
    have N2 := Fr.app N0 N2q
    replace Od := Od.keep K2 all0
    refine OEnds.via (fun _ k => st2 _ k) ?_
    show OEnds p e below s _ _ _ (T2.setTop (mkF m 28 #[.val (.int p0), .val (.int b), .unset] [(.ref (own_res AL b 13))]))
    refine OEnds.via (fun _ k => XS.astoreN X2.here hx rfl (hb hby at_28) rfl rfl (l' := #[.val (.int p0), .val (.int b), .val (.ref (own_res AL b 13))]) rfl k) ?_
    show OEnds p e below s _ _ _ (T2.setTop (mkF m 29 #[.val (.int p0), .val (.int b), .val (.ref (own_res AL b 13))] []))
    refine OEnds.via (fun _ k => XS.aloadN X2.here hx rfl (hb hby at_29) rfl rfl k) ?_
    show OEnds p e below s _ _ _ (T2.setTop (mkF m 30 #[.val (.int p0), .val (.int b), .val (.ref (own_res AL b 13))] [(.ref (own_res AL b 13))]))
    refine OEnds.via (fun _ k => XS.ifnullNo X2.here hx rfl (hb hby at_30) rfl k) ?_
    show OEnds p e below s _ _ _ (T2.setTop (mkF m 33 #[.val (.int p0), .val (.int b), .val (.ref (own_res AL b 13))] []))
    refine OEnds.via (fun _ k => XS.aloadN X2.here hx rfl (hb hby at_33) rfl rfl k) ?_
    show OEnds p e below s _ _ _ (T2.setTop (mkF m 34 #[.val (.int p0), .val (.int b), .val (.ref (own_res AL b 13))] [(.ref (own_res AL b 13))]))
    refine OEnds.via (fun _ k => XS.iloadN X2.here hx rfl (hb hby at_34) rfl k) ?_
    show OEnds p e below s _ _ _ (T2.setTop (mkF m 35 #[.val (.int p0), .val (.int b), .val (.ref (own_res AL b 13))] [(.int b), (.ref (own_res AL b 13))]))
    obtain ⟨_, _, ⟨T3, L3, k3, n3⟩, -, X3, ⟨Lc3, hQ3, l3, y3, z3⟩, st3⟩ := Jvm.LawKit.callS X2 hx (y := (⟨"com/example/anchovy/anchovy/remoting/LanguageCodeOfPinLaw", "expected", "(I)Lcom/example/anchovy/anchovy/remoting/LanguageCode;"⟩ : MethodName)) hown (mvT hZ (hw _ (List.mem_of_getElem? (i := 35) rfl))) (mvT hZ (hw _ (List.mem_of_getElem? (i := 36) rfl))) (mvT hZ (hw _ (List.mem_of_getElem? (i := 37) rfl))) (mvT hZ (hw _ (List.mem_of_getElem? (i := 38) rfl))) (by decide) (backOf (W := 1) (rmX l Z a0 hw [] b AL T2.heap n0 Od S_JAVA S_CPP S_DOTNET S_PYTHON S_DELPHI S_ERLANG S_RUBY S_OTHER S_HTTP S_GO S_PHP S_OMS S_RUST) hZ (hw _ (List.mem_of_getElem? (i := 38) rfl)) (hw _ (List.mem_of_getElem? (i := 37) rfl)) (by decide) (by decide)) (g := (mkF m 35 #[.val (.int p0), .val (.int b), .val (.ref (own_res AL b 13))] [(.int b), (.ref (own_res AL b 13))])) rfl (by rw [hml]; rfl) (argsL := [(.int b)]) (rest := [(.ref (own_res AL b 13))]) (lenOf pd_28I29Lcom2fexample2fanchovy2fanchovy2fremoting2fLanguageCode3b rfl) rfl (by show 2 * 0 + _ ≤ _; exact Nat.le_of_eq rfl) (hb hby at_35) (fun _ _ => ⟨rfl, rfl, Nat.le_of_ble_eq_true rfl, Nat.le_of_ble_eq_true rfl⟩)
    dsimp only [Pt.U, Pt.locs, Pt.cells, Pt.slots] at X3 l3 y3 z3 st3 hQ3
    subst l3 y3 z3
    obtain ⟨rfl, N3q, e3⟩ := hQ3
    have N3 := Fr.app N2 N3q
    refine OEnds.via (fun _ k => st3 _ k) ?_
    show OEnds p e below s _ _ _ (T3.setTop (mkF m 38 #[.val (.int p0), .val (.int b), .val (.ref (own_res AL b 13))] [(.ref (own_exp AL b)), (.ref (own_res AL b 13))]))
    refine OEnds.via (fun _ k => Jvm.RoadKit.acmp (g := (mkF m 38 #[.val (.int p0), .val (.int b), .val (.ref (own_res AL b 13))] [(.ref (own_exp AL b)), (.ref (own_res AL b 13))])) X3 hx rfl rfl rfl (pc0 := 38) (pc' := 41) (same := true) rfl (hb hby at_38) rfl (decide_eq_true (congrArg Value.ref (own_same AL b))) (by decide) (by decide) k) ?_
    show OEnds p e below s _ _ _ (T3.setTop (mkF m 41 #[.val (.int p0), .val (.int b), .val (.ref (own_res AL b 13))] []))
    refine OEnds.via (fun _ k => XS.iconst X3.here hx rfl (hb hby at_41) k) ?_
    show OEnds p e below s _ _ _ (T3.setTop (mkF m 42 #[.val (.int p0), .val (.int b), .val (.ref (own_res AL b 13))] [(.int (1 : Int32))]))
    refine OEnds.via (fun _ k => XS.goto X3.here hx rfl (pc0 := 42) (pc' := 46) rfl (hb hby at_42) (by decide) (by decide) k) ?_
    show OEnds p e below s _ _ _ (T3.setTop (mkF m 46 #[.val (.int p0), .val (.int b), .val (.ref (own_res AL b 13))] [(.int (1 : Int32))]))
    refine OEnds.retN X3 hx hlk (t := .boolean) Bd.returns (by simp) (hb hby at_46) ?_ (by decide) (by decide)
    exact ⟨rfl, N3⟩
  · skip
    refine OEnds.via (fun _ k => XS.ifNo X0.here hx rfl (hb hby at_5) rfl ((if0 _ _).trans (feq hc5_0).1) k) ?_
    show OEnds p e below s _ _ _ (s₁.setTop (mkF m 8 #[.val (.int p0), .unset, .unset] []))
    refine OEnds.via (fun _ k => XS.iloadN X0.here hx rfl (hb hby at_8) rfl k) ?_
    show OEnds p e below s _ _ _ (s₁.setTop (mkF m 9 #[.val (.int p0), .unset, .unset] [(.int p0)]))
    refine OEnds.via (fun _ k => XS.sipush X0.here hx rfl (hb hby at_9) k) ?_
    show OEnds p e below s _ _ _ (s₁.setTop (mkF m 12 #[.val (.int p0), .unset, .unset] [(.int (255 : Int32)), (.int p0)]))
    refine OEnds.via (fun _ k => XS.iand X0.here hx rfl (hb hby at_12) rfl k) ?_
    show OEnds p e below s _ _ _ (s₁.setTop (mkF m 13 #[.val (.int p0), .unset, .unset] [(.int (p0 &&& (255 : Int32)))]))
    refine OEnds.via (fun _ k => XS.bipush X0.here hx rfl (hb hby at_13) k) ?_
    show OEnds p e below s _ _ _ (s₁.setTop (mkF m 15 #[.val (.int p0), .unset, .unset] [(.int (14 : Int32)), (.int (p0 &&& (255 : Int32)))]))
    refine OEnds.via (fun _ k => iremM X0 hx rfl (hb hby at_15) rfl (by decide) k) ?_
    show OEnds p e below s _ _ _ (s₁.setTop (mkF m 16 #[.val (.int p0), .unset, .unset] [(.int ((p0 &&& (255 : Int32)) % (14 : Int32)))]))
    refine OEnds.via (fun _ k => XS.i2b X0.here hx rfl (hb hby at_16) rfl k) ?_
    show OEnds p e below s _ _ _ (s₁.setTop (mkF m 17 #[.val (.int p0), .unset, .unset] [(.int (((p0 &&& (255 : Int32)) % (14 : Int32)).toInt8.toInt32))]))
    refine OEnds.via (fun _ k => XS.istoreN X0.here hx rfl (hb hby at_17) rfl (l' := #[.val (.int p0), .val (.int (((p0 &&& (255 : Int32)) % (14 : Int32)).toInt8.toInt32)), .unset]) rfl k) ?_
    show OEnds p e below s _ _ _ (s₁.setTop (mkF m 18 #[.val (.int p0), .val (.int (((p0 &&& (255 : Int32)) % (14 : Int32)).toInt8.toInt32)), .unset] []))
    refine OEnds.via (fun _ k => XS.goto X0.here hx rfl (pc0 := 18) (pc' := 24) rfl (hb hby at_18) (by decide) (by decide) k) ?_
    show OEnds p e below s _ _ _ (s₁.setTop (mkF m 24 #[.val (.int p0), .val (.int (((p0 &&& (255 : Int32)) % (14 : Int32)).toInt8.toInt32)), .unset] []))
    generalize (((p0 &&& (255 : Int32)) % (14 : Int32)).toInt8.toInt32) = b
    show OEnds p e below s _ _ _ (s₁.setTop (mkF m 24 #[.val (.int p0), .val (.int b), .unset] []))
    refine OEnds.via (fun _ k => XS.iloadN X0.here hx rfl (hb hby at_24) rfl k) ?_
    show OEnds p e below s _ _ _ (s₁.setTop (mkF m 25 #[.val (.int p0), .val (.int b), .unset] [(.int b)]))
    obtain ⟨_, _, ⟨T4, L4, k4, n4⟩, -, X4, ⟨Lc4, hQ4, l4, y4, z4⟩, st4⟩ := Jvm.LawKit.callS X0 hx (y := (⟨"com/example/anchovy/anchovy/remoting/LanguageCode", "of", "(B)Lcom/example/anchovy/anchovy/remoting/LanguageCode;"⟩ : MethodName)) hown (mvT hZ (hw _ (List.mem_of_getElem? (i := 0) rfl))) (mvT hZ (hw _ (List.mem_of_getElem? (i := 1) rfl))) (mvT hZ (hw _ (List.mem_of_getElem? (i := 2) rfl))) (mvT hZ (hw _ (List.mem_of_getElem? (i := 3) rfl))) (by decide) (backOf (W := 0) (rmO l Z a0 hw [] b AL va kA h0 n0 Od hAL S_V AV EV S_OTHER FC) hZ (hw _ (List.mem_of_getElem? (i := 3) rfl)) (hw _ (List.mem_of_getElem? (i := 2) rfl)) (by decide) (by decide)) (g := (mkF m 25 #[.val (.int p0), .val (.int b), .unset] [(.int b)])) rfl (by rw [hml]; rfl) (argsL := [(.int b)]) (rest := []) (lenOf pd_28B29Lcom2fexample2fanchovy2fanchovy2fremoting2fLanguageCode3b rfl) rfl (by show 2 * 0 + _ ≤ _; exact Nat.le_of_eq rfl) (hb hby at_25) (fun _ _ => ⟨rfl, e0, Nat.le_of_ble_eq_true rfl, Nat.le_of_ble_eq_true rfl⟩)
    dsimp only [Pt.U, Pt.locs, Pt.cells, Pt.slots] at X4 l4 y4 z4 st4 hQ4
    subst l4 y4 z4
    obtain ⟨rfl, N4q, K4⟩ := hQ4
    have N4 := Fr.app N0 N4q
    replace Od := Od.keep K4 all0
    refine OEnds.via (fun _ k => st4 _ k) ?_
    show OEnds p e below s _ _ _ (T4.setTop (mkF m 28 #[.val (.int p0), .val (.int b), .unset] [(.ref (own_res AL b 13))]))
    refine OEnds.via (fun _ k => XS.astoreN X4.here hx rfl (hb hby at_28) rfl rfl (l' := #[.val (.int p0), .val (.int b), .val (.ref (own_res AL b 13))]) rfl k) ?_
    show OEnds p e below s _ _ _ (T4.setTop (mkF m 29 #[.val (.int p0), .val (.int b), .val (.ref (own_res AL b 13))] []))
    refine OEnds.via (fun _ k => XS.aloadN X4.here hx rfl (hb hby at_29) rfl rfl k) ?_
    show OEnds p e below s _ _ _ (T4.setTop (mkF m 30 #[.val (.int p0), .val (.int b), .val (.ref (own_res AL b 13))] [(.ref (own_res AL b 13))]))
    refine OEnds.via (fun _ k => XS.ifnullNo X4.here hx rfl (hb hby at_30) rfl k) ?_
    show OEnds p e below s _ _ _ (T4.setTop (mkF m 33 #[.val (.int p0), .val (.int b), .val (.ref (own_res AL b 13))] []))
    refine OEnds.via (fun _ k => XS.aloadN X4.here hx rfl (hb hby at_33) rfl rfl k) ?_
    show OEnds p e below s _ _ _ (T4.setTop (mkF m 34 #[.val (.int p0), .val (.int b), .val (.ref (own_res AL b 13))] [(.ref (own_res AL b 13))]))
    refine OEnds.via (fun _ k => XS.iloadN X4.here hx rfl (hb hby at_34) rfl k) ?_
    show OEnds p e below s _ _ _ (T4.setTop (mkF m 35 #[.val (.int p0), .val (.int b), .val (.ref (own_res AL b 13))] [(.int b), (.ref (own_res AL b 13))]))
    obtain ⟨_, _, ⟨T5, L5, k5, n5⟩, -, X5, ⟨Lc5, hQ5, l5, y5, z5⟩, st5⟩ := Jvm.LawKit.callS X4 hx (y := (⟨"com/example/anchovy/anchovy/remoting/LanguageCodeOfPinLaw", "expected", "(I)Lcom/example/anchovy/anchovy/remoting/LanguageCode;"⟩ : MethodName)) hown (mvT hZ (hw _ (List.mem_of_getElem? (i := 35) rfl))) (mvT hZ (hw _ (List.mem_of_getElem? (i := 36) rfl))) (mvT hZ (hw _ (List.mem_of_getElem? (i := 37) rfl))) (mvT hZ (hw _ (List.mem_of_getElem? (i := 38) rfl))) (by decide) (backOf (W := 1) (rmX l Z a0 hw [] b AL T4.heap n0 Od S_JAVA S_CPP S_DOTNET S_PYTHON S_DELPHI S_ERLANG S_RUBY S_OTHER S_HTTP S_GO S_PHP S_OMS S_RUST) hZ (hw _ (List.mem_of_getElem? (i := 38) rfl)) (hw _ (List.mem_of_getElem? (i := 37) rfl)) (by decide) (by decide)) (g := (mkF m 35 #[.val (.int p0), .val (.int b), .val (.ref (own_res AL b 13))] [(.int b), (.ref (own_res AL b 13))])) rfl (by rw [hml]; rfl) (argsL := [(.int b)]) (rest := [(.ref (own_res AL b 13))]) (lenOf pd_28I29Lcom2fexample2fanchovy2fanchovy2fremoting2fLanguageCode3b rfl) rfl (by show 2 * 0 + _ ≤ _; exact Nat.le_of_eq rfl) (hb hby at_35) (fun _ _ => ⟨rfl, rfl, Nat.le_of_ble_eq_true rfl, Nat.le_of_ble_eq_true rfl⟩)
    dsimp only [Pt.U, Pt.locs, Pt.cells, Pt.slots] at X5 l5 y5 z5 st5 hQ5
    subst l5 y5 z5
    obtain ⟨rfl, N5q, e5⟩ := hQ5
    have N5 := Fr.app N4 N5q
    refine OEnds.via (fun _ k => st5 _ k) ?_
    show OEnds p e below s _ _ _ (T5.setTop (mkF m 38 #[.val (.int p0), .val (.int b), .val (.ref (own_res AL b 13))] [(.ref (own_exp AL b)), (.ref (own_res AL b 13))]))
    refine OEnds.via (fun _ k => Jvm.RoadKit.acmp (g := (mkF m 38 #[.val (.int p0), .val (.int b), .val (.ref (own_res AL b 13))] [(.ref (own_exp AL b)), (.ref (own_res AL b 13))])) X5 hx rfl rfl rfl (pc0 := 38) (pc' := 41) (same := true) rfl (hb hby at_38) rfl (decide_eq_true (congrArg Value.ref (own_same AL b))) (by decide) (by decide) k) ?_
    show OEnds p e below s _ _ _ (T5.setTop (mkF m 41 #[.val (.int p0), .val (.int b), .val (.ref (own_res AL b 13))] []))
    refine OEnds.via (fun _ k => XS.iconst X5.here hx rfl (hb hby at_41) k) ?_
    show OEnds p e below s _ _ _ (T5.setTop (mkF m 42 #[.val (.int p0), .val (.int b), .val (.ref (own_res AL b 13))] [(.int (1 : Int32))]))
    refine OEnds.via (fun _ k => XS.goto X5.here hx rfl (pc0 := 42) (pc' := 46) rfl (hb hby at_42) (by decide) (by decide) k) ?_
    show OEnds p e below s _ _ _ (T5.setTop (mkF m 46 #[.val (.int p0), .val (.int b), .val (.ref (own_res AL b 13))] [(.int (1 : Int32))]))
    refine OEnds.retN X5 hx hlk (t := .boolean) Bd.returns (by simp) (hb hby at_46) ?_ (by decide) (by decide)
    exact ⟨rfl, N5⟩
set_option maxRecDepth 65536 in
set_option maxHeartbeats 40000000 in
theorem comes_1 {Post : Tables → Env → Array Value → State → Outcome → State → Prop} (hpost : ∀ tb e args s v u, (limb_1_1.after args s (.returned v) u = true ∧ limb_1_2.after args s (.returned v) u = true ∧ True) → FrameEnd s (.returned v) u (Jvm.fieldLocs frame_1_writes args s ++ Jvm.arrayLocs frame_1_arrays args s ++ Jvm.staticLocs frame_1_statics s) 16 128 → Post tb e args s (.returned v) u) :
    ArmFor flags0 classFile x code maxLocals ret World_1 tables_1 room_1 Calls_1 rest_1 Pre_1 Post := by
  intro l hfl _ _ p e ha hc hk s m args below hf hA hF happ hP
  obtain ⟨hcalls, hrest, hpre⟩ := hP
  obtain ⟨-, -, -, hnamed, -, -, -, hat⟩ := (Spec.applies_iff hf).mp happ
  obtain ⟨hg, hn⟩ := and_e (Cond.before_iff.mp (show (Jvm.Cond.and given_1 narrow_1).before args s = true from hpre))
  obtain ⟨g1, g2⟩ := and_e hg
  obtain ⟨w0, rfl⟩ : ∃ w0 : Value, args = #[w0] := by
    have hs : args.size = 1 := by simpa [Cond.value, given_1] using g1
    obtain ⟨L⟩ := args
    match L, hs with
    | [w0], _ => exact ⟨w0, rfl⟩
  have hw := fun d (hd : d ∈ tables_1) => atoms_spec (ws := Jvm.Cond.code x code maxLocals ret :: tables_1) hat d (List.mem_cons_of_mem _ hd)
  have hfit : Fit s := fun {y c} hc i hi => by
    obtain ⟨ha, rfl⟩ := Array.getElem?_eq_some_iff.mp hc
    have q := List.all_eq_true.mp ((Array.all_eq_true_iff_forall_mem.mp hF) _ (Array.getElem_mem ha)) i (List.mem_range.mpr hi)
    simpa [Array.getElem?_eq_getElem hi] using q
  obtain ⟨i0, ei0⟩ := is_v g2
  obtain rfl : w0 = (.int i0) := Option.some.inj ei0
  obtain ⟨g3, g4⟩ := and_e hn
  obtain ⟨g5, g6⟩ := and_e g4
  obtain ⟨g7, g8⟩ := and_e g6
  obtain ⟨g9, g10⟩ := and_e g8
  obtain ⟨g11, g12⟩ := and_e g10
  obtain ⟨g13, g14⟩ := and_e g12
  obtain ⟨g15, g16⟩ := and_e g14
  obtain ⟨g17, g18⟩ := and_e g16
  obtain ⟨g19, g20⟩ := and_e g18
  obtain ⟨g21, g22⟩ := and_e g20
  obtain ⟨g23, g24⟩ := and_e g22
  obtain ⟨g25, g26⟩ := and_e g24
  obtain ⟨g27, g28⟩ := and_e g26
  obtain ⟨g29, g30⟩ := and_e g28
  obtain ⟨g31, g32⟩ := and_e g30
  obtain ⟨g33, g34⟩ := and_e g32
  obtain ⟨g35, g36⟩ := and_e g34
  obtain ⟨g37, g38⟩ := and_e g36
  obtain ⟨g39, g40⟩ := and_e g38
  obtain ⟨g41, g42⟩ := and_e g40
  obtain ⟨g43, g44⟩ := and_e g42
  obtain ⟨g45, g46⟩ := and_e g44
  obtain ⟨g47, g48⟩ := and_e g46
  obtain ⟨g49, g50⟩ := and_e g48
  obtain ⟨g51, g52⟩ := and_e g50
  obtain ⟨g53, g54⟩ := and_e g52
  obtain ⟨g55, g56⟩ := and_e g54
  obtain ⟨g57, g58⟩ := and_e g56
  obtain ⟨g59, g60⟩ := and_e g58
  obtain ⟨g61, g62⟩ := and_e g60
  obtain ⟨g63, g64⟩ := and_e g62
  obtain ⟨g65, g66⟩ := and_e g64
  obtain ⟨g67, g68⟩ := and_e g66
  obtain ⟨g69, g70⟩ := and_e g68
  obtain ⟨g71, g72⟩ := and_e g70
  obtain ⟨g73, g74⟩ := and_e g72
  obtain ⟨g75, g76⟩ := and_e g74
  obtain ⟨g77, g78⟩ := and_e g76
  obtain ⟨g79, g80⟩ := and_e g78
  obtain ⟨g81, g82⟩ := and_e g80
  obtain ⟨g83, g84⟩ := and_e g82
  obtain ⟨a_OTHER, ev_a_OTHER⟩ := exa_v g3
  have S_a_OTHER : Sta s s.heap "com/example/anchovy/anchovy/remoting/LanguageCode" "OTHER" "Lcom/example/anchovy/anchovy/remoting/LanguageCode;" (.ref a_OTHER) := Sta.start ev_a_OTHER (Or.inr ⟨(hw _ (List.mem_of_getElem? (i := 2) rfl)), (hw _ (List.mem_of_getElem? (i := 5) rfl))⟩)
  have E_a_OTHER : Exa s s.heap a_OTHER "com/example/anchovy/anchovy/remoting/LanguageCode" := Exa.start ev_a_OTHER g3
  obtain ⟨a__VALUES, ev_a__VALUES⟩ := arr_v g5
  have S_a__VALUES : Sta s s.heap "com/example/anchovy/anchovy/remoting/LanguageCode" "$VALUES" "[Lcom/example/anchovy/anchovy/remoting/LanguageCode;" (.ref a__VALUES) := Sta.start ev_a__VALUES (Or.inl (hw _ (List.mem_of_getElem? (i := 30) rfl)))
  obtain ⟨cl_a__VALUES, Ar_a__VALUES⟩ := Arr.start ev_a__VALUES g5
  have E_a__VALUES : Exa s s.heap a__VALUES "[Lcom/example/anchovy/anchovy/remoting/LanguageCode;" := Exa.start ev_a__VALUES g7
  obtain ⟨a_JAVA, ev_a_JAVA⟩ := exa_v g11
  have S_a_JAVA : Sta s s.heap "com/example/anchovy/anchovy/remoting/LanguageCode" "JAVA" "Lcom/example/anchovy/anchovy/remoting/LanguageCode;" (.ref a_JAVA) := Sta.start ev_a_JAVA (Or.inr ⟨(hw _ (List.mem_of_getElem? (i := 2) rfl)), (hw _ (List.mem_of_getElem? (i := 18) rfl))⟩)
  have E_a_JAVA : Exa s s.heap a_JAVA "com/example/anchovy/anchovy/remoting/LanguageCode" := Exa.start ev_a_JAVA g11
  obtain ⟨a_CPP, ev_a_CPP⟩ := exa_v g15
  have S_a_CPP : Sta s s.heap "com/example/anchovy/anchovy/remoting/LanguageCode" "CPP" "Lcom/example/anchovy/anchovy/remoting/LanguageCode;" (.ref a_CPP) := Sta.start ev_a_CPP (Or.inr ⟨(hw _ (List.mem_of_getElem? (i := 2) rfl)), (hw _ (List.mem_of_getElem? (i := 19) rfl))⟩)
  have E_a_CPP : Exa s s.heap a_CPP "com/example/anchovy/anchovy/remoting/LanguageCode" := Exa.start ev_a_CPP g15
  obtain ⟨a_DOTNET, ev_a_DOTNET⟩ := exa_v g19
  have S_a_DOTNET : Sta s s.heap "com/example/anchovy/anchovy/remoting/LanguageCode" "DOTNET" "Lcom/example/anchovy/anchovy/remoting/LanguageCode;" (.ref a_DOTNET) := Sta.start ev_a_DOTNET (Or.inr ⟨(hw _ (List.mem_of_getElem? (i := 2) rfl)), (hw _ (List.mem_of_getElem? (i := 20) rfl))⟩)
  have E_a_DOTNET : Exa s s.heap a_DOTNET "com/example/anchovy/anchovy/remoting/LanguageCode" := Exa.start ev_a_DOTNET g19
  obtain ⟨a_PYTHON, ev_a_PYTHON⟩ := exa_v g23
  have S_a_PYTHON : Sta s s.heap "com/example/anchovy/anchovy/remoting/LanguageCode" "PYTHON" "Lcom/example/anchovy/anchovy/remoting/LanguageCode;" (.ref a_PYTHON) := Sta.start ev_a_PYTHON (Or.inr ⟨(hw _ (List.mem_of_getElem? (i := 2) rfl)), (hw _ (List.mem_of_getElem? (i := 21) rfl))⟩)
  have E_a_PYTHON : Exa s s.heap a_PYTHON "com/example/anchovy/anchovy/remoting/LanguageCode" := Exa.start ev_a_PYTHON g23
  obtain ⟨a_DELPHI, ev_a_DELPHI⟩ := exa_v g27
  have S_a_DELPHI : Sta s s.heap "com/example/anchovy/anchovy/remoting/LanguageCode" "DELPHI" "Lcom/example/anchovy/anchovy/remoting/LanguageCode;" (.ref a_DELPHI) := Sta.start ev_a_DELPHI (Or.inr ⟨(hw _ (List.mem_of_getElem? (i := 2) rfl)), (hw _ (List.mem_of_getElem? (i := 22) rfl))⟩)
  have E_a_DELPHI : Exa s s.heap a_DELPHI "com/example/anchovy/anchovy/remoting/LanguageCode" := Exa.start ev_a_DELPHI g27
  obtain ⟨a_ERLANG, ev_a_ERLANG⟩ := exa_v g31
  have S_a_ERLANG : Sta s s.heap "com/example/anchovy/anchovy/remoting/LanguageCode" "ERLANG" "Lcom/example/anchovy/anchovy/remoting/LanguageCode;" (.ref a_ERLANG) := Sta.start ev_a_ERLANG (Or.inr ⟨(hw _ (List.mem_of_getElem? (i := 2) rfl)), (hw _ (List.mem_of_getElem? (i := 23) rfl))⟩)
  have E_a_ERLANG : Exa s s.heap a_ERLANG "com/example/anchovy/anchovy/remoting/LanguageCode" := Exa.start ev_a_ERLANG g31
  obtain ⟨a_RUBY, ev_a_RUBY⟩ := exa_v g35
  have S_a_RUBY : Sta s s.heap "com/example/anchovy/anchovy/remoting/LanguageCode" "RUBY" "Lcom/example/anchovy/anchovy/remoting/LanguageCode;" (.ref a_RUBY) := Sta.start ev_a_RUBY (Or.inr ⟨(hw _ (List.mem_of_getElem? (i := 2) rfl)), (hw _ (List.mem_of_getElem? (i := 24) rfl))⟩)
  have E_a_RUBY : Exa s s.heap a_RUBY "com/example/anchovy/anchovy/remoting/LanguageCode" := Exa.start ev_a_RUBY g35
  obtain ⟨a_HTTP, ev_a_HTTP⟩ := exa_v g41
  have S_a_HTTP : Sta s s.heap "com/example/anchovy/anchovy/remoting/LanguageCode" "HTTP" "Lcom/example/anchovy/anchovy/remoting/LanguageCode;" (.ref a_HTTP) := Sta.start ev_a_HTTP (Or.inr ⟨(hw _ (List.mem_of_getElem? (i := 2) rfl)), (hw _ (List.mem_of_getElem? (i := 25) rfl))⟩)
  have E_a_HTTP : Exa s s.heap a_HTTP "com/example/anchovy/anchovy/remoting/LanguageCode" := Exa.start ev_a_HTTP g41
  obtain ⟨a_GO, ev_a_GO⟩ := exa_v g45
  have S_a_GO : Sta s s.heap "com/example/anchovy/anchovy/remoting/LanguageCode" "GO" "Lcom/example/anchovy/anchovy/remoting/LanguageCode;" (.ref a_GO) := Sta.start ev_a_GO (Or.inr ⟨(hw _ (List.mem_of_getElem? (i := 2) rfl)), (hw _ (List.mem_of_getElem? (i := 26) rfl))⟩)
  have E_a_GO : Exa s s.heap a_GO "com/example/anchovy/anchovy/remoting/LanguageCode" := Exa.start ev_a_GO g45
  obtain ⟨a_PHP, ev_a_PHP⟩ := exa_v g49
  have S_a_PHP : Sta s s.heap "com/example/anchovy/anchovy/remoting/LanguageCode" "PHP" "Lcom/example/anchovy/anchovy/remoting/LanguageCode;" (.ref a_PHP) := Sta.start ev_a_PHP (Or.inr ⟨(hw _ (List.mem_of_getElem? (i := 2) rfl)), (hw _ (List.mem_of_getElem? (i := 27) rfl))⟩)
  have E_a_PHP : Exa s s.heap a_PHP "com/example/anchovy/anchovy/remoting/LanguageCode" := Exa.start ev_a_PHP g49
  obtain ⟨a_OMS, ev_a_OMS⟩ := exa_v g53
  have S_a_OMS : Sta s s.heap "com/example/anchovy/anchovy/remoting/LanguageCode" "OMS" "Lcom/example/anchovy/anchovy/remoting/LanguageCode;" (.ref a_OMS) := Sta.start ev_a_OMS (Or.inr ⟨(hw _ (List.mem_of_getElem? (i := 2) rfl)), (hw _ (List.mem_of_getElem? (i := 28) rfl))⟩)
  have E_a_OMS : Exa s s.heap a_OMS "com/example/anchovy/anchovy/remoting/LanguageCode" := Exa.start ev_a_OMS g53
  obtain ⟨a_RUST, ev_a_RUST⟩ := exa_v g57
  have S_a_RUST : Sta s s.heap "com/example/anchovy/anchovy/remoting/LanguageCode" "RUST" "Lcom/example/anchovy/anchovy/remoting/LanguageCode;" (.ref a_RUST) := Sta.start ev_a_RUST (Or.inr ⟨(hw _ (List.mem_of_getElem? (i := 2) rfl)), (hw _ (List.mem_of_getElem? (i := 29) rfl))⟩)
  have E_a_RUST : Exa s s.heap a_RUST "com/example/anchovy/anchovy/remoting/LanguageCode" := Exa.start ev_a_RUST g57
  obtain ⟨L31_a__VALUES, L_a__VALUES⟩ := own_len g9 ev_a__VALUES Ar_a__VALUES
  have el_a__VALUES_0 := own_elemR g13 ev_a_JAVA ev_a__VALUES Ar_a__VALUES
  have el_a__VALUES_1 := own_elemR g17 ev_a_CPP ev_a__VALUES Ar_a__VALUES
  have el_a__VALUES_2 := own_elemR g21 ev_a_DOTNET ev_a__VALUES Ar_a__VALUES
  have el_a__VALUES_3 := own_elemR g25 ev_a_PYTHON ev_a__VALUES Ar_a__VALUES
  have el_a__VALUES_4 := own_elemR g29 ev_a_DELPHI ev_a__VALUES Ar_a__VALUES
  have el_a__VALUES_5 := own_elemR g33 ev_a_ERLANG ev_a__VALUES Ar_a__VALUES
  have el_a__VALUES_6 := own_elemR g37 ev_a_RUBY ev_a__VALUES Ar_a__VALUES
  have el_a__VALUES_7 := own_elemR g39 ev_a_OTHER ev_a__VALUES Ar_a__VALUES
  have el_a__VALUES_8 := own_elemR g43 ev_a_HTTP ev_a__VALUES Ar_a__VALUES
  have el_a__VALUES_9 := own_elemR g47 ev_a_GO ev_a__VALUES Ar_a__VALUES
  have el_a__VALUES_10 := own_elemR g51 ev_a_PHP ev_a__VALUES Ar_a__VALUES
  have el_a__VALUES_11 := own_elemR g55 ev_a_OMS ev_a__VALUES Ar_a__VALUES
  have el_a__VALUES_12 := own_elemR g59 ev_a_RUST ev_a__VALUES Ar_a__VALUES
  have F_code_a_JAVA : Fld s s.heap a_JAVA "com/example/anchovy/anchovy/remoting/LanguageCode" "code" "B" (.int (0 : Int32)) := Fld.start ((fld_at ev_a_JAVA).symm.trans (own_eqint g61))
  have F_code_a_CPP : Fld s s.heap a_CPP "com/example/anchovy/anchovy/remoting/LanguageCode" "code" "B" (.int (1 : Int32)) := Fld.start ((fld_at ev_a_CPP).symm.trans (own_eqint g63))
  have F_code_a_DOTNET : Fld s s.heap a_DOTNET "com/example/anchovy/anchovy/remoting/LanguageCode" "code" "B" (.int (2 : Int32)) := Fld.start ((fld_at ev_a_DOTNET).symm.trans (own_eqint g65))
  have F_code_a_PYTHON : Fld s s.heap a_PYTHON "com/example/anchovy/anchovy/remoting/LanguageCode" "code" "B" (.int (3 : Int32)) := Fld.start ((fld_at ev_a_PYTHON).symm.trans (own_eqint g67))
  have F_code_a_DELPHI : Fld s s.heap a_DELPHI "com/example/anchovy/anchovy/remoting/LanguageCode" "code" "B" (.int (4 : Int32)) := Fld.start ((fld_at ev_a_DELPHI).symm.trans (own_eqint g69))
  have F_code_a_ERLANG : Fld s s.heap a_ERLANG "com/example/anchovy/anchovy/remoting/LanguageCode" "code" "B" (.int (5 : Int32)) := Fld.start ((fld_at ev_a_ERLANG).symm.trans (own_eqint g71))
  have F_code_a_RUBY : Fld s s.heap a_RUBY "com/example/anchovy/anchovy/remoting/LanguageCode" "code" "B" (.int (6 : Int32)) := Fld.start ((fld_at ev_a_RUBY).symm.trans (own_eqint g73))
  have F_code_a_OTHER : Fld s s.heap a_OTHER "com/example/anchovy/anchovy/remoting/LanguageCode" "code" "B" (.int (7 : Int32)) := Fld.start ((fld_at ev_a_OTHER).symm.trans (own_eqint g75))
  have F_code_a_HTTP : Fld s s.heap a_HTTP "com/example/anchovy/anchovy/remoting/LanguageCode" "code" "B" (.int (8 : Int32)) := Fld.start ((fld_at ev_a_HTTP).symm.trans (own_eqint g77))
  have F_code_a_GO : Fld s s.heap a_GO "com/example/anchovy/anchovy/remoting/LanguageCode" "code" "B" (.int (9 : Int32)) := Fld.start ((fld_at ev_a_GO).symm.trans (own_eqint g79))
  have F_code_a_PHP : Fld s s.heap a_PHP "com/example/anchovy/anchovy/remoting/LanguageCode" "code" "B" (.int (10 : Int32)) := Fld.start ((fld_at ev_a_PHP).symm.trans (own_eqint g81))
  have F_code_a_OMS : Fld s s.heap a_OMS "com/example/anchovy/anchovy/remoting/LanguageCode" "code" "B" (.int (11 : Int32)) := Fld.start ((fld_at ev_a_OMS).symm.trans (own_eqint g83))
  have F_code_a_RUST : Fld s s.heap a_RUST "com/example/anchovy/anchovy/remoting/LanguageCode" "code" "B" (.int (12 : Int32)) := Fld.start ((fld_at ev_a_RUST).symm.trans (own_eqint g84))
  have AV : Arv s s.heap a__VALUES cl_a__VALUES.cls (.object "com/example/anchovy/anchovy/remoting/LanguageCode") (13 : Int32) ([a_JAVA, a_CPP, a_DOTNET, a_PYTHON, a_DELPHI, a_ERLANG, a_RUBY, a_OTHER, a_HTTP, a_GO, a_PHP, a_OMS, a_RUST].map Value.ref) .null := Arv.start hfit Ar_a__VALUES L31_a__VALUES L_a__VALUES (by decide) rfl ⟨el_a__VALUES_0, el_a__VALUES_1, el_a__VALUES_2, el_a__VALUES_3, el_a__VALUES_4, el_a__VALUES_5, el_a__VALUES_6, el_a__VALUES_7, el_a__VALUES_8, el_a__VALUES_9, el_a__VALUES_10, el_a__VALUES_11, el_a__VALUES_12, trivial⟩
  have FC : ∀ i, i < 13 → Fld s s.heap ([a_JAVA, a_CPP, a_DOTNET, a_PYTHON, a_DELPHI, a_ERLANG, a_RUBY, a_OTHER, a_HTTP, a_GO, a_PHP, a_OMS, a_RUST].getD i 0) "com/example/anchovy/anchovy/remoting/LanguageCode" "code" "B" (.int (Int32.ofNat i)) := fun i hi => by
    match i, hi with
    | 0, _ => exact F_code_a_JAVA
    | 1, _ => exact F_code_a_CPP
    | 2, _ => exact F_code_a_DOTNET
    | 3, _ => exact F_code_a_PYTHON
    | 4, _ => exact F_code_a_DELPHI
    | 5, _ => exact F_code_a_ERLANG
    | 6, _ => exact F_code_a_RUBY
    | 7, _ => exact F_code_a_OTHER
    | 8, _ => exact F_code_a_HTTP
    | 9, _ => exact F_code_a_GO
    | 10, _ => exact F_code_a_PHP
    | 11, _ => exact F_code_a_OMS
    | 12, _ => exact F_code_a_RUST
  obtain ⟨n, o, h1, h2, h3, _, L, rfl, ⟨rfl, N⟩, hq⟩ := rm0 l s _ hw tables_1 i0 [a_JAVA, a_CPP, a_DOTNET, a_PYTHON, a_DELPHI, a_ERLANG, a_RUBY, a_OTHER, a_HTTP, a_GO, a_PHP, a_OMS, a_RUST] a__VALUES cl_a__VALUES.cls s.heap s.heap.size (Old.start s) rfl S_a__VALUES AV E_a__VALUES FC S_a_JAVA S_a_CPP S_a_DOTNET S_a_PYTHON S_a_DELPHI S_a_ERLANG S_a_RUBY S_a_OTHER S_a_HTTP S_a_GO S_a_PHP S_a_OMS S_a_RUST p e ha hc hk s m _ below hf ((Spec.applies_iff_loose hf).mp happ).1 ⟨rfl, State.Warmed39.refl s, rfl⟩ trivial
  refine ⟨n, _, h1, h2, h3, hpost _ _ _ _ _ _ ⟨Cond.after_iff.mpr rfl, Cond.after_iff.mpr (eq_i res_at (Term.int_eval (1)) rfl), trivial⟩ ⟨hq.1, hq.2.1, (hq.2.2.sift fun y hy => Or.inr (N y hy)).mono (by decide) (by decide)⟩⟩
theorem main_1_1 : Claimed_1_1 := comes_1 fun _ _ _ _ _ _ h hF => ⟨h.1, hF⟩
theorem main_1_2 : Claimed_1_2 := comes_1 fun _ _ _ _ _ _ h hF => ⟨h.2.1, hF⟩
end Jvm.Pilot.@@N@@
namespace Jvm.Pilot.@@N@@
open Jvm Jvm.ClassFile Sem Op Lib Jvm.Free Jvm.Stand Jvm.Pilot.@@N@@.Jvm.D
/-! MADE BY PROGRAM (witnessworld.py) out of the Statement's table words and the real class files: 13 classes; the members and pool entries that the words name. The judged class is class 1, her method 2. -/
namespace start1
open Jvm.ClassFile
def u (s : String) : CpInfo := .utf8 (stringToUtf16 s)
/-- a pool by its gaps: so many unusable entries, then the entry; so many at the end -/
def gap : Nat → List CpInfo → List CpInfo
  | 0, r => r
  | n + 1, r => .unusable :: gap n r
def poolList (es : List (Nat × CpInfo)) (last : Nat) : List CpInfo := es.foldr (fun e r => gap e.1 (e.2 :: r)) (gap last [])
def pool (es : List (Nat × CpInfo)) (last : Nat) : Array CpInfo := ⟨poolList es last⟩
def fileOf (pool : Array CpInfo) (this : Nat) (attrs : Array Attribute := #[]) (ms : Array MethodInfo := #[]) (fl : Nat := 33) (sup : Nat := 0) (ifs : Array Nat := #[]) (fds : Array FieldInfo := #[]) : ClassFile where
  minorVersion := 0
  majorVersion := 65
  constantPool := pool
  accessFlags := fl
  thisClass := this
  superClass := sup
  interfaces := ifs
  fields := fds
  methods := ms
  attributes := attrs
def plain (name : String) (sup : Option ClassId) : Class where
  name := name
  kind := .ordinary
  loader := none
  accessFlags := 33
  super := sup
  interfaces := #[]
  cf := none
  fields := #[]
  methods := #[]
  instanceTypes := #[]
  staticTypes := #[]
  resolved := #[]
  callSites := []
  init := .initialized
  statics := none
  mirror := none

def pool0 : Array CpInfo := pool [(5, u "<init>"), (0, u "()V"), (1, .class_ 10), (1, u "java/lang/Object"), (85, u "clone"), (0, u "()Ljava/lang/Object;")] 26

def k0m0 : Method := { name := "<init>", desc := "()V", sig := { parameters := [], returnType := none }, accessFlags := 1, code := none }
def k0m1 : Method := { name := "clone", desc := "()Ljava/lang/Object;", sig := { parameters := [], returnType := some (.object "java/lang/Object") }, accessFlags := 260, code := none }
/-- java/lang/Object -/
def k0 : Class := { plain "java/lang/Object" none with
  accessFlags := 33
  interfaces := #[]
  cf := some (fileOf pool0 8 #[] #[{ accessFlags := 1, nameIndex := 5, descriptorIndex := 6, attributes := #[] }, { accessFlags := 260, nameIndex := 96, descriptorIndex := 97, attributes := #[] }] 33 0 #[] #[])
  fields := #[]
  methods := #[k0m0, k0m1]
  instanceTypes := #[]
  staticTypes := #[]
  resolved := Array.replicate 124 none
  statics := none }

def pool1 : Array CpInfo := pool [(2, .class_ 4), (1, u "java/lang/Object"), (0, u "<init>"), (0, u "()V"), (0, .fieldref 8 9), (0, .class_ 10), (0, .nameAndType 11 12), (0, u "com/example/anchovy/anchovy/remoting/LanguageCode"), (0, u "JAVA"), (0, u "Lcom/example/anchovy/anchovy/remoting/LanguageCode;"), (0, .fieldref 8 14), (0, .nameAndType 15 12), (0, u "CPP"), (0, .fieldref 8 17), (0, .nameAndType 18 12), (0, u "DOTNET"), (0, .fieldref 8 20), (0, .nameAndType 21 12), (0, u "PYTHON"), (0, .fieldref 8 23), (0, .nameAndType 24 12), (0, u "DELPHI"), (0, .fieldref 8 26), (0, .nameAndType 27 12), (0, u "ERLANG"), (0, .fieldref 8 29), (0, .nameAndType 30 12), (0, u "RUBY"), (0, .fieldref 8 32), (0, .nameAndType 33 12), (0, u "OTHER"), (0, .fieldref 8 35), (0, .nameAndType 36 12), (0, u "HTTP"), (0, .fieldref 8 38), (0, .nameAndType 39 12), (0, u "GO"), (0, .fieldref 8 41), (0, .nameAndType 42 12), (0, u "PHP"), (0, .fieldref 8 44), (0, .nameAndType 45 12), (0, u "OMS"), (0, .fieldref 8 47), (0, .nameAndType 48 12), (0, u "RUST"), (0, .methodref 8 50), (0, .nameAndType 51 52), (0, u "of"), (0, u "(B)Lcom/example/anchovy/anchovy/remoting/LanguageCode;"), (0, .methodref 54 55), (0, .class_ 56), (0, .nameAndType 57 58), (0, u "com/example/anchovy/anchovy/remoting/LanguageCodeOfPinLaw"), (0, u "expected"), (0, u "(I)Lcom/example/anchovy/anchovy/remoting/LanguageCode;"), (3, u "law"), (0, u "(I)Z")] 2

def k1m0 : Method := { name := "<init>", desc := "()V", sig := { parameters := [], returnType := none }, accessFlags := 1, code := none }
def k1c1 : Code := { maxStack := 2, maxLocals := 1, code := method_2_code, exceptionTable := #[], attributes := #[] }
def k1m1 : Method := { name := "expected", desc := "(I)Lcom/example/anchovy/anchovy/remoting/LanguageCode;", sig := { parameters := [.int], returnType := some (.object "com/example/anchovy/anchovy/remoting/LanguageCode") }, accessFlags := 10, code := some k1c1 }
def k1c2 : Code := { maxStack := 2, maxLocals := 3, code := code, exceptionTable := #[], attributes := #[] }
def k1m2 : Method := { name := "law", desc := "(I)Z", sig := { parameters := [.int], returnType := some .boolean }, accessFlags := 9, code := some k1c2 }
/-- com/example/anchovy/anchovy/remoting/LanguageCodeOfPinLaw -/
def k1 : Class := { plain "com/example/anchovy/anchovy/remoting/LanguageCodeOfPinLaw" (some 0) with
  accessFlags := 49
  interfaces := #[]
  cf := some (fileOf pool1 54 #[] #[{ accessFlags := 1, nameIndex := 5, descriptorIndex := 6, attributes := #[] }, { accessFlags := 10, nameIndex := 57, descriptorIndex := 58, attributes := #[] }, { accessFlags := 9, nameIndex := 62, descriptorIndex := 63, attributes := #[] }] 49 2 #[] #[])
  fields := #[]
  methods := #[k1m0, k1m1, k1m2]
  instanceTypes := #[]
  staticTypes := #[]
  resolved := Array.replicate 66 none
  statics := none }

def pool2 : Array CpInfo := pool [(1, .class_ 2), (0, u "java/lang/constant/Constable"), (0, .class_ 4), (0, u "java/lang/Object")] 6

/-- java/lang/constant/Constable -/
def k2 : Class := { plain "java/lang/constant/Constable" (some 0) with
  accessFlags := 1537
  interfaces := #[]
  cf := some (fileOf pool2 1 #[] #[] 1537 3 #[] #[])
  fields := #[]
  methods := #[]
  instanceTypes := #[]
  staticTypes := #[]
  resolved := Array.replicate 11 none
  statics := none }

def pool3 : Array CpInfo := pool [(1, .class_ 2), (0, u "java/lang/Comparable"), (0, .class_ 4), (0, u "java/lang/Object")] 7

/-- java/lang/Comparable -/
def k3 : Class := { plain "java/lang/Comparable" (some 0) with
  accessFlags := 1537
  interfaces := #[]
  cf := some (fileOf pool3 1 #[] #[] 1537 3 #[] #[])
  fields := #[]
  methods := #[]
  instanceTypes := #[]
  staticTypes := #[]
  resolved := Array.replicate 12 none
  statics := none }

def pool4 : Array CpInfo := pool [(1, .class_ 2), (0, u "java/io/Serializable"), (0, .class_ 4), (0, u "java/lang/Object")] 2

/-- java/io/Serializable -/
def k4 : Class := { plain "java/io/Serializable" (some 0) with
  accessFlags := 1537
  interfaces := #[]
  cf := some (fileOf pool4 1 #[] #[] 1537 3 #[] #[])
  fields := #[]
  methods := #[]
  instanceTypes := #[]
  staticTypes := #[]
  resolved := Array.replicate 7 none
  statics := none }

def pool5 : Array CpInfo := pool [(2, .class_ 4), (1, u "java/lang/Enum"), (0, u "name"), (0, u "Ljava/lang/String;"), (2, u "ordinal"), (0, u "I"), (1, .class_ 14), (1, u "java/lang/Object"), (4, u "hash"), (86, .class_ 108), (1, u "java/lang/Enum$EnumDesc"), (2, .class_ 112), (0, u "java/lang/constant/Constable"), (0, .class_ 114), (0, u "java/lang/Comparable"), (0, .class_ 116), (0, u "java/io/Serializable")] 87

/-- java/lang/Enum -/
def k5 : Class := { plain "java/lang/Enum" (some 0) with
  accessFlags := 1057
  interfaces := #[2, 3, 4]
  cf := some (fileOf pool5 2 #[.nestMembers #[106]] #[] 1057 12 #[111, 113, 115] #[{ accessFlags := 18, nameIndex := 5, descriptorIndex := 6, attributes := #[] }, { accessFlags := 18, nameIndex := 9, descriptorIndex := 10, attributes := #[] }, { accessFlags := 2, nameIndex := 19, descriptorIndex := 10, attributes := #[] }])
  fields := #[{ name := "name", type := (.object "java/lang/String"), accessFlags := 18, slot := 0, constantValue := 0 }, { name := "ordinal", type := .int, accessFlags := 18, slot := 1, constantValue := 0 }, { name := "hash", type := .int, accessFlags := 2, slot := 2, constantValue := 0 }]
  methods := #[]
  instanceTypes := #[(.object "java/lang/String"), .int, .int]
  staticTypes := #[]
  resolved := Array.replicate 204 none
  statics := none }

def pool6 : Array CpInfo := pool [(1, .class_ 2), (0, u "com/example/anchovy/anchovy/remoting/LanguageCode"), (2, u "JAVA"), (0, u "Lcom/example/anchovy/anchovy/remoting/LanguageCode;"), (2, u "CPP"), (2, u "DOTNET"), (2, u "PYTHON"), (2, u "DELPHI"), (2, u "ERLANG"), (2, u "RUBY"), (0, .fieldref 1 26), (0, .nameAndType 27 6), (0, u "OTHER"), (2, u "HTTP"), (2, u "GO"), (2, u "PHP"), (2, u "OMS"), (2, u "RUST"), (0, .fieldref 1 44), (0, .nameAndType 45 46), (0, u "$VALUES"), (0, u "[Lcom/example/anchovy/anchovy/remoting/LanguageCode;"), (0, .methodref 48 49), (0, .class_ 46), (0, .nameAndType 50 51), (0, u "clone"), (0, u "()Ljava/lang/Object;"), (1, .class_ 55), (1, u "java/lang/Enum"), (6, .fieldref 1 63), (0, .nameAndType 64 65), (0, u "code"), (0, u "B"), (0, .methodref 1 67), (0, .nameAndType 68 69), (0, u "values"), (0, u "()[Lcom/example/anchovy/anchovy/remoting/LanguageCode;"), (37, u "of"), (0, u "(B)Lcom/example/anchovy/anchovy/remoting/LanguageCode;")] 6

def k6c0 : Code := { maxStack := 1, maxLocals := 0, code := prog_21_method_1_code, exceptionTable := #[], attributes := #[] }
def k6m0 : Method := { name := "values", desc := "()[Lcom/example/anchovy/anchovy/remoting/LanguageCode;", sig := { parameters := [], returnType := some (.array (.object "com/example/anchovy/anchovy/remoting/LanguageCode")) }, accessFlags := 9, code := some k6c0 }
def k6c1 : Code := { maxStack := 2, maxLocals := 6, code := prog_21_method_5_code, exceptionTable := #[], attributes := #[] }
def k6m1 : Method := { name := "of", desc := "(B)Lcom/example/anchovy/anchovy/remoting/LanguageCode;", sig := { parameters := [.byte], returnType := some (.object "com/example/anchovy/anchovy/remoting/LanguageCode") }, accessFlags := 8, code := some k6c1 }
/-- com/example/anchovy/anchovy/remoting/LanguageCode -/
def k6 : Class := { plain "com/example/anchovy/anchovy/remoting/LanguageCode" (some 5) with
  accessFlags := 16433
  interfaces := #[]
  cf := some (fileOf pool6 1 #[] #[{ accessFlags := 9, nameIndex := 68, descriptorIndex := 69, attributes := #[] }, { accessFlags := 8, nameIndex := 107, descriptorIndex := 108, attributes := #[] }] 16433 53 #[] #[{ accessFlags := 16409, nameIndex := 5, descriptorIndex := 6, attributes := #[] }, { accessFlags := 16409, nameIndex := 9, descriptorIndex := 6, attributes := #[] }, { accessFlags := 16409, nameIndex := 12, descriptorIndex := 6, attributes := #[] }, { accessFlags := 16409, nameIndex := 15, descriptorIndex := 6, attributes := #[] }, { accessFlags := 16409, nameIndex := 18, descriptorIndex := 6, attributes := #[] }, { accessFlags := 16409, nameIndex := 21, descriptorIndex := 6, attributes := #[] }, { accessFlags := 16409, nameIndex := 24, descriptorIndex := 6, attributes := #[] }, { accessFlags := 16409, nameIndex := 27, descriptorIndex := 6, attributes := #[] }, { accessFlags := 16409, nameIndex := 30, descriptorIndex := 6, attributes := #[] }, { accessFlags := 16409, nameIndex := 33, descriptorIndex := 6, attributes := #[] }, { accessFlags := 16409, nameIndex := 36, descriptorIndex := 6, attributes := #[] }, { accessFlags := 16409, nameIndex := 39, descriptorIndex := 6, attributes := #[] }, { accessFlags := 16409, nameIndex := 42, descriptorIndex := 6, attributes := #[] }, { accessFlags := 18, nameIndex := 64, descriptorIndex := 65, attributes := #[] }, { accessFlags := 4122, nameIndex := 45, descriptorIndex := 46, attributes := #[] }])
  fields := #[{ name := "JAVA", type := (.object "com/example/anchovy/anchovy/remoting/LanguageCode"), accessFlags := 16409, slot := 0, constantValue := 0 }, { name := "CPP", type := (.object "com/example/anchovy/anchovy/remoting/LanguageCode"), accessFlags := 16409, slot := 1, constantValue := 0 }, { name := "DOTNET", type := (.object "com/example/anchovy/anchovy/remoting/LanguageCode"), accessFlags := 16409, slot := 2, constantValue := 0 }, { name := "PYTHON", type := (.object "com/example/anchovy/anchovy/remoting/LanguageCode"), accessFlags := 16409, slot := 3, constantValue := 0 }, { name := "DELPHI", type := (.object "com/example/anchovy/anchovy/remoting/LanguageCode"), accessFlags := 16409, slot := 4, constantValue := 0 }, { name := "ERLANG", type := (.object "com/example/anchovy/anchovy/remoting/LanguageCode"), accessFlags := 16409, slot := 5, constantValue := 0 }, { name := "RUBY", type := (.object "com/example/anchovy/anchovy/remoting/LanguageCode"), accessFlags := 16409, slot := 6, constantValue := 0 }, { name := "OTHER", type := (.object "com/example/anchovy/anchovy/remoting/LanguageCode"), accessFlags := 16409, slot := 7, constantValue := 0 }, { name := "HTTP", type := (.object "com/example/anchovy/anchovy/remoting/LanguageCode"), accessFlags := 16409, slot := 8, constantValue := 0 }, { name := "GO", type := (.object "com/example/anchovy/anchovy/remoting/LanguageCode"), accessFlags := 16409, slot := 9, constantValue := 0 }, { name := "PHP", type := (.object "com/example/anchovy/anchovy/remoting/LanguageCode"), accessFlags := 16409, slot := 10, constantValue := 0 }, { name := "OMS", type := (.object "com/example/anchovy/anchovy/remoting/LanguageCode"), accessFlags := 16409, slot := 11, constantValue := 0 }, { name := "RUST", type := (.object "com/example/anchovy/anchovy/remoting/LanguageCode"), accessFlags := 16409, slot := 12, constantValue := 0 }, { name := "code", type := .byte, accessFlags := 18, slot := 3, constantValue := 0 }, { name := "$VALUES", type := (.array (.object "com/example/anchovy/anchovy/remoting/LanguageCode")), accessFlags := 4122, slot := 13, constantValue := 0 }]
  methods := #[k6m0, k6m1]
  instanceTypes := #[(.object "java/lang/String"), .int, .int, .byte]
  staticTypes := #[(.object "com/example/anchovy/anchovy/remoting/LanguageCode"), (.object "com/example/anchovy/anchovy/remoting/LanguageCode"), (.object "com/example/anchovy/anchovy/remoting/LanguageCode"), (.object "com/example/anchovy/anchovy/remoting/LanguageCode"), (.object "com/example/anchovy/anchovy/remoting/LanguageCode"), (.object "com/example/anchovy/anchovy/remoting/LanguageCode"), (.object "com/example/anchovy/anchovy/remoting/LanguageCode"), (.object "com/example/anchovy/anchovy/remoting/LanguageCode"), (.object "com/example/anchovy/anchovy/remoting/LanguageCode"), (.object "com/example/anchovy/anchovy/remoting/LanguageCode"), (.object "com/example/anchovy/anchovy/remoting/LanguageCode"), (.object "com/example/anchovy/anchovy/remoting/LanguageCode"), (.object "com/example/anchovy/anchovy/remoting/LanguageCode"), (.array (.object "com/example/anchovy/anchovy/remoting/LanguageCode"))]
  resolved := Array.replicate 115 none
  statics := some 0 }

def pool7 : Array CpInfo := pool [(1, .class_ 2), (0, u "java/lang/Cloneable"), (0, .class_ 4), (0, u "java/lang/Object")] 2

/-- java/lang/Cloneable -/
def k7 : Class := { plain "java/lang/Cloneable" (some 0) with
  accessFlags := 1537
  interfaces := #[]
  cf := some (fileOf pool7 1 #[] #[] 1537 3 #[] #[])
  fields := #[]
  methods := #[]
  instanceTypes := #[]
  staticTypes := #[]
  resolved := Array.replicate 7 none
  statics := none }

/-- the primitive byte -/
def k8 : Class := { plain "byte" none with kind := .primitive 'B', accessFlags := 0x411 }
/-- [B -/
def k9 : Class := { plain "[B" (some 0) with kind := .array 8 .byte, interfaces := #[7, 4], accessFlags := 1041 }

/-- the primitive int -/
def k10 : Class := { plain "int" none with kind := .primitive 'I', accessFlags := 0x411 }
/-- [I -/
def k11 : Class := { plain "[I" (some 0) with kind := .array 10 .int, interfaces := #[7, 4], accessFlags := 1041 }

/-- [Lcom/example/anchovy/anchovy/remoting/LanguageCode; -/
def k12 : Class := { plain "[Lcom/example/anchovy/anchovy/remoting/LanguageCode;" (some 0) with kind := .array 6 (.object "com/example/anchovy/anchovy/remoting/LanguageCode"), interfaces := #[7, 4], accessFlags := 1041 }

def heap : Heap := #[{ cls := 6, slots := #[.ref 2, .ref 3, .ref 4, .ref 5, .ref 6, .ref 7, .ref 8, .ref 9, .ref 10, .ref 11, .ref 12, .ref 13, .ref 14, .ref 1], vm := .statics 6 },
  { cls := 12, slots := #[.ref 2, .ref 3, .ref 4, .ref 5, .ref 6, .ref 7, .ref 8, .ref 9, .ref 10, .ref 11, .ref 12, .ref 13, .ref 14], vm := .none },
  { cls := 6, slots := #[.null, .int 0, .int 0, .int 0], vm := .none },
  { cls := 6, slots := #[.null, .int 1, .int 0, .int 1], vm := .none },
  { cls := 6, slots := #[.null, .int 2, .int 0, .int 2], vm := .none },
  { cls := 6, slots := #[.null, .int 3, .int 0, .int 3], vm := .none },
  { cls := 6, slots := #[.null, .int 4, .int 0, .int 4], vm := .none },
  { cls := 6, slots := #[.null, .int 5, .int 0, .int 5], vm := .none },
  { cls := 6, slots := #[.null, .int 6, .int 0, .int 6], vm := .none },
  { cls := 6, slots := #[.null, .int 7, .int 0, .int 7], vm := .none },
  { cls := 6, slots := #[.null, .int 8, .int 0, .int 8], vm := .none },
  { cls := 6, slots := #[.null, .int 9, .int 0, .int 9], vm := .none },
  { cls := 6, slots := #[.null, .int 10, .int 0, .int 10], vm := .none },
  { cls := 6, slots := #[.null, .int 11, .int 0, .int 11], vm := .none },
  { cls := 6, slots := #[.null, .int 12, .int 0, .int 12], vm := .none }]
def classes : Array Class := #[k0, k1, k2, k3, k4, k5, k6, k7, k8, k9, k10, k11, k12]
def interned : List (Array UInt16 × Addr) := []
def slotsUsed : Nat := 79
def theMethod : MethodId := ⟨1, 2⟩
def args0 : Array Value := #[.int 5]
def aboutOver (below : List Frame) : State where
  vm := { classes := classes, interned := interned.toArray }
  heap := heap
  slotsUsed := slotsUsed
  threads := #[{ frames := .invoking theMethod args0 :: below }]
def below0 : List Frame := [.native { method := ⟨0, 0⟩, args := #[] }]
def about1 : State := aboutOver below0
def p0 : Program := .bare "" "" ""
def e0 : Env := launch0.env 0 0 0
theorem w_frames : about1.frames = Frame.invoking theMethod args0 :: below0 := rfl
set_option maxRecDepth 65536 in
theorem w_args : argsFit about1.vm theMethod args0 = true := by decide +kernel
set_option maxRecDepth 65536 in
theorem w_heap : heapFits about1 = true := by decide +kernel
set_option maxRecDepth 65536 in
theorem w_runnable : about1.curStatus? = some .runnable := by decide +kernel
set_option maxRecDepth 65536 in
theorem w_alone : about1.alone = true := by decide +kernel
set_option maxRecDepth 65536 in
theorem w_named : about1.methodNamed? x = some theMethod := by decide +kernel
set_option maxRecDepth 65536 in
theorem w_hears : about1.hears theMethod below0 = true := by decide +kernel
set_option maxRecDepth 65536 in
theorem w_ripe : about1.ripe theMethod args0 below0 = true := by decide +kernel
theorem w_running : about1.status = .running := rfl
set_option maxRecDepth 65536 in
theorem w_room : about1.hasRoom e0.platform room_1 = true :=
  launch0.hasRoom_least _ room_1 (by decide +kernel) (by decide +kernel) (by decide +kernel) (by decide +kernel) (by decide +kernel) (by decide +kernel)
theorem allAtoms_all (ts : List Jvm.Cond) (a : Array Jvm.Value) (st : Jvm.State) : (allAtoms ts).before a st = ts.all (fun c => c.before a st) := by
  induction ts with
  | nil => rfl
  | cons c t ih =>
    show (Jvm.Cond.and c (allAtoms t)).before a st = _
    rw [Jvm.Cond.before_and, ih, List.all_cons]
def words1 : List Jvm.Cond := Jvm.Cond.code x code maxLocals ret :: tables_1
/-- a 'code' word, met by the world's own term for the bytes: nothing is compared byte by byte -/
theorem code_word {y : MethodName} {bytes : ByteArray} {mx : Nat} {rt : Option FieldType} {a : Array Value} {s : State} {m : MethodId} {meth : Method} {c : Code} (h1 : s.methodNamed? y = some m) (h2 : s.vm.method? m = some meth) (h3 : meth.code = some c) (h4 : c.code = bytes)
    (h5 : (c.maxLocals == mx && c.exceptionTable.isEmpty && decide (c.maxStack ≤ mostOperands) && decide (meth.sig.returnType = rt) && !meth.locks && decide (parseMethodDescriptor y.desc = some meth.sig)) = true) : (Jvm.Cond.code y bytes mx rt).before a s = true := by
  simp only [Bool.and_eq_true, beq_iff_eq, Bool.not_eq_true', decide_eq_true_eq] at h5
  obtain ⟨⟨⟨⟨⟨g1, g2⟩, g3⟩, g4⟩, g5⟩, g6⟩ := h5
  simp [Cond.before, Cond.holds, Cond.value, h1, h2, h3, h4, g1, g2, g3, g4, g5, g6]
def isCode : Jvm.Cond → Bool
  | .code _ _ _ _ => true
  | _ => false
theorem all_split {L : List Jvm.Cond} {P : Jvm.Cond → Bool} (h1 : L.all (fun c => isCode c || P c) = true) (h2 : ∀ c ∈ L.filter isCode, P c = true) : L.all P = true := by
  refine List.all_eq_true.mpr fun c hc => ?_
  have h := List.all_eq_true.mp h1 c hc
  rcases Bool.eq_false_or_eq_true (isCode c) with hi | hi
  · exact h2 c (List.mem_filter.mpr ⟨hc, hi⟩)
  · simpa [hi] using h
set_option maxRecDepth 65536 in
theorem w_c0 : (Jvm.Cond.code x code maxLocals ret).before args0 about1 = true := code_word (m := ⟨1, 2⟩) (meth := k1m2) (c := k1c2) (by decide +kernel) rfl rfl rfl (by decide +kernel)
set_option maxRecDepth 65536 in
theorem w_c1 : (Jvm.Cond.code ({ cls := "com/example/anchovy/anchovy/remoting/LanguageCode", name := "of", desc := "(B)Lcom/example/anchovy/anchovy/remoting/LanguageCode;" } : Jvm.MethodName) prog_21_method_5_code (6 : Nat) (Option.some (Jvm.ClassFile.FieldType.object "com/example/anchovy/anchovy/remoting/LanguageCode"))).before args0 about1 = true := code_word (m := ⟨6, 1⟩) (meth := k6m1) (c := k6c1) (by decide +kernel) rfl rfl rfl (by decide +kernel)
set_option maxRecDepth 65536 in
theorem w_c2 : (Jvm.Cond.code ({ cls := "com/example/anchovy/anchovy/remoting/LanguageCode", name := "values", desc := "()[Lcom/example/anchovy/anchovy/remoting/LanguageCode;" } : Jvm.MethodName) prog_21_method_1_code (0 : Nat) (Option.some (Jvm.ClassFile.FieldType.array (Jvm.ClassFile.FieldType.object "com/example/anchovy/anchovy/remoting/LanguageCode")))).before args0 about1 = true := code_word (m := ⟨6, 0⟩) (meth := k6m0) (c := k6c0) (by decide +kernel) rfl rfl rfl (by decide +kernel)
set_option maxRecDepth 65536 in
theorem w_c3 : (Jvm.Cond.code ({ cls := "com/example/anchovy/anchovy/remoting/LanguageCodeOfPinLaw", name := "expected", desc := "(I)Lcom/example/anchovy/anchovy/remoting/LanguageCode;" } : Jvm.MethodName) method_2_code (1 : Nat) (Option.some (Jvm.ClassFile.FieldType.object "com/example/anchovy/anchovy/remoting/LanguageCode"))).before args0 about1 = true := code_word (m := ⟨1, 1⟩) (meth := k1m1) (c := k1c1) (by decide +kernel) rfl rfl rfl (by decide +kernel)
def codes1 : List Jvm.Cond := [Jvm.Cond.code x code maxLocals ret, Jvm.Cond.code ({ cls := "com/example/anchovy/anchovy/remoting/LanguageCode", name := "of", desc := "(B)Lcom/example/anchovy/anchovy/remoting/LanguageCode;" } : Jvm.MethodName) prog_21_method_5_code (6 : Nat) (Option.some (Jvm.ClassFile.FieldType.object "com/example/anchovy/anchovy/remoting/LanguageCode")), Jvm.Cond.code ({ cls := "com/example/anchovy/anchovy/remoting/LanguageCode", name := "values", desc := "()[Lcom/example/anchovy/anchovy/remoting/LanguageCode;" } : Jvm.MethodName) prog_21_method_1_code (0 : Nat) (Option.some (Jvm.ClassFile.FieldType.array (Jvm.ClassFile.FieldType.object "com/example/anchovy/anchovy/remoting/LanguageCode"))), Jvm.Cond.code ({ cls := "com/example/anchovy/anchovy/remoting/LanguageCodeOfPinLaw", name := "expected", desc := "(I)Lcom/example/anchovy/anchovy/remoting/LanguageCode;" } : Jvm.MethodName) method_2_code (1 : Nat) (Option.some (Jvm.ClassFile.FieldType.object "com/example/anchovy/anchovy/remoting/LanguageCode"))]
set_option maxRecDepth 65536 in
theorem codes_eq : words1.filter isCode = codes1 := rfl
theorem w_codes : ∀ c ∈ words1.filter isCode, c.before args0 about1 = true := by
  rw [codes_eq]
  intro c hc
  simp only [codes1, List.mem_cons, List.not_mem_nil, or_false] at hc
  rcases hc with rfl | rfl | rfl | rfl
  · exact w_c0
  · exact w_c1
  · exact w_c2
  · exact w_c3
set_option maxRecDepth 65536 in
theorem w_t1 : (words1.take 24).all (fun c => isCode c || c.before args0 about1) = true := by decide +kernel
set_option maxRecDepth 65536 in
theorem w_t2 : ((words1.drop 24).take 24).all (fun c => isCode c || c.before args0 about1) = true := by decide +kernel
set_option maxRecDepth 65536 in
theorem w_t3 : ((words1.drop 24).drop 24).all (fun c => isCode c || c.before args0 about1) = true := by decide +kernel
theorem w_tables : (allAtoms (Jvm.Cond.code x code maxLocals ret :: tables_1)).before args0 about1 = true := by
  rw [allAtoms_all]
  show words1.all (fun c => c.before args0 about1) = true
  refine all_split ?_ w_codes
  rw [← List.take_append_drop 24 words1, List.all_append, w_t1, ← List.take_append_drop 24 (words1.drop 24), List.all_append, w_t2, w_t3]
  rfl
set_option maxRecDepth 65536 in
theorem w_case : (Jvm.Cond.and given_1 narrow_1).before args0 about1 = true := by decide +kernel
theorem w_applies : (headSpec (Jvm.Cond.code x code maxLocals ret :: tables_1) room_1).applies x e0.platform about1 = true :=
  (Spec.applies_iff w_frames).mpr ⟨w_running, w_runnable, w_alone, w_named, w_hears, w_ripe, w_room, w_tables⟩
theorem atStart : AtStart classFile x code maxLocals ret World_1 tables_1 room_1 Calls_1 rest_1 Pre_1 launch0 p0 e0 about1 theMethod args0 below0 :=
  ⟨lists_1, trivial, launch0.admits_env _ _ _, launch0.least_env, fairChoices_fair.cas, fairChoices_fair.clock, w_frames, w_args, w_heap, w_applies, trivial, trivial, w_case⟩
end start1
theorem witness_1 : WitnessClaimed_1 := ⟨start1.p0, start1.e0, start1.about1, start1.theMethod, start1.args0, start1.below0, start1.atStart⟩
end Jvm.Pilot.@@N@@
