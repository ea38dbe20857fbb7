import JvmDerived
import JvmDerived.Pilot.@@N@@Statement
import JvmDerived.Pilot.@@N@@Code
set_option linter.unusedVariables false
set_option linter.unusedSimpArgs false
namespace Jvm.RoadKit
open Sem ClassFile Op Lib Jvm.Stand Jvm.Free Jvm.LawKit
section OwnKit
variable {p : Program} {l : Launch} {e : Env} {R : Room} {s : State} {m : MethodId} {args : Array Value} {below : List Frame} {meth : Method} {c : Code} {T : State} {locs : List Loc} {cells slots : Nat} {rc rs : Nat} {Q : Option Value → Heap → List Loc → Prop} {S S' : State}
/-- from S on the invocation ends, it returns, and Q holds of what it returns, of the heap and of the places written -/
def OEnds (p : Program) (e : Env) (below : List Frame) (s : State) (rc rs : Nat) (Q : Option Value → Heap → List Loc → Prop) (S : State) : Prop :=
  ∃ s₂ o, Steps p.tables e below S s₂ ∧ s₂.status = .running ∧ Ended s₂ below o ∧ ∃ v L, o = .returned v ∧ Q v s₂.heap L ∧ FrameEnd s o s₂ L rc rs
theorem OEnds.via (h : ∀ t, Steps p.tables e below S' t → Steps p.tables e below S t) (k : OEnds p e below s rc rs Q S') : OEnds p e below s rc rs Q S := by
  obtain ⟨t, o, h1, r⟩ := k
  exact ⟨t, o, h _ h1, r⟩
theorem OEnds.retN (X : Stand p l e R s m args below meth c T locs cells slots) (hx : p.tables.exec = Jvm.exec) (hlk : meth.locks = false) {pc : Nat} {Ls : Array Slot} {z : Int32} {t : FieldType} {rest : List Value} (hret : meth.sig.returnType = some t) (ht : t = .boolean ∨ t = .byte ∨ t = .char ∨ t = .short)
    (hd : decode c.code pc = .ok (.ireturn, 1)) (q : Q (some (.int (nar t z))) T.heap locs) (hc : cells ≤ rc) (hs : slots ≤ rs) : OEnds p e below s rc rs Q (T.setTop (mkF m pc Ls (.int z :: rest))) := by
  obtain ⟨fs, hr, hrun, hended, hW, hsame⟩ := X.leave (v := some (.int (nar t z))) (fun h => by rw [hret] at h; cases h) hlk
  exact ⟨_, _, Jvm.RoadKit.retN X hx hret ht hd hr, hrun, hended, _, _, rfl, q, ⟨_, rfl⟩, hW, hsame.mono hc hs⟩
theorem OEnds.retI (X : Stand p l e R s m args below meth c T locs cells slots) (hx : p.tables.exec = Jvm.exec) (hlk : meth.locks = false) {pc : Nat} {Ls : Array Slot} {z : Int32} {rest : List Value} (hret : meth.sig.returnType = some .int)
    (hd : decode c.code pc = .ok (.ireturn, 1)) (q : Q (some (.int z)) T.heap locs) (hc : cells ≤ rc) (hs : slots ≤ rs) : OEnds p e below s rc rs Q (T.setTop (mkF m pc Ls (.int z :: rest))) := by
  obtain ⟨fs, hr, hrun, hended, hW, hsame⟩ := X.leave (v := some (.int z)) (fun h => by rw [hret] at h; cases h) hlk
  exact ⟨_, _, retOut X hx hret rfl (Or.inl ⟨rfl, Or.inl rfl, z, rfl⟩) hd hr, hrun, hended, _, _, rfl, q, ⟨_, rfl⟩, hW, hsame.mono hc hs⟩
theorem OEnds.retJ (X : Stand p l e R s m args below meth c T locs cells slots) (hx : p.tables.exec = Jvm.exec) (hlk : meth.locks = false) {pc : Nat} {Ls : Array Slot} {z : Int64} {rest : List Value} (hret : meth.sig.returnType = some .long)
    (hd : decode c.code pc = .ok (.lreturn, 1)) (q : Q (some (.long z)) T.heap locs) (hc : cells ≤ rc) (hs : slots ≤ rs) : OEnds p e below s rc rs Q (T.setTop (mkF m pc Ls (.long z :: rest))) := by
  obtain ⟨fs, hr, hrun, hended, hW, hsame⟩ := X.leave (v := some (.long z)) (fun h => by rw [hret] at h; cases h) hlk
  exact ⟨_, _, retOut X hx hret rfl (Or.inr (Or.inl ⟨rfl, rfl, z, rfl⟩)) hd hr, hrun, hended, _, _, rfl, q, ⟨_, rfl⟩, hW, hsame.mono hc hs⟩
theorem OEnds.retR (X : Stand p l e R s m args below meth c T locs cells slots) (hx : p.tables.exec = Jvm.exec) (hlk : meth.locks = false) {pc : Nat} {Ls : Array Slot} {w : Value} {t : FieldType} {rest : List Value} (hret : meth.sig.returnType = some t) (ht : t.isReference = true) (hw : w.isRef = true)
    (hd : decode c.code pc = .ok (.areturn, 1)) (q : Q (some w) T.heap locs) (hc : cells ≤ rc) (hs : slots ≤ rs) : OEnds p e below s rc rs Q (T.setTop (mkF m pc Ls (w :: rest))) := by
  obtain ⟨fs, hr, hrun, hended, hW, hsame⟩ := X.leave (v := some w) (fun h => by rw [hret] at h; cases h) hlk
  have hn : narrow t w = w := by rcases ref_cases hw with rfl | ⟨a, rfl⟩ <;> cases t <;> rfl
  exact ⟨_, _, retOut X hx hret hn (Or.inr (Or.inr (Or.inr (Or.inr ⟨rfl, ht, hw⟩)))) hd hr, hrun, hended, _, _, rfl, q, ⟨_, rfl⟩, hW, hsame.mono hc hs⟩
theorem OEnds.retV (X : Stand p l e R s m args below meth c T locs cells slots) (hx : p.tables.exec = Jvm.exec) (hlk : meth.locks = false) {pc : Nat} {Ls : Array Slot} (hret : meth.sig.returnType = none)
    (hd : decode c.code pc = .ok (.return_, 1)) (q : Q none T.heap locs) (hc : cells ≤ rc) (hs : slots ≤ rs) : OEnds p e below s rc rs Q (T.setTop (mkF m pc Ls [])) := by
  obtain ⟨fs, hr, hrun, hended, hW, hsame⟩ := X.leave (v := none) (fun _ => rfl) hlk
  exact ⟨_, _, X.returnOut hx hret hd hr, hrun, hended, _, _, rfl, q, ⟨_, rfl⟩, hW, hsame.mono hc hs⟩
/-- the call answers r, writes nothing that was there, makes nothing -/
def QA (r : Option Value) (h0 : Heap) (n0 : Nat) : Option Value → Heap → List Loc → Prop := fun v h L => v = r ∧ Fr n0 L ∧ h = h0
/-- the law's own answer -/
def QL (n0 : Nat) : Option Value → Heap → List Loc → Prop := fun v _ L => v = some (.int 1) ∧ Fr n0 L
theorem own_lc0 (x : Int64) : lcmpW x x = 0 := by rw [lcW]; exact (lc_eq _ _).mpr rfl
theorem own_lcpos {x y : Int64} (h : y < x) : 0 < lcmpW x y := by rw [lcW]; exact (lc_gt _ _).mpr h
theorem own_lcnpos {x y : Int64} (h : ¬ y < x) : ¬ 0 < lcmpW x y := by rw [lcW]; exact fun q => h ((lc_gt _ _).mp q)
theorem own_narrow {t : String} {w : Value} (h : w.isRef = true) : narrow (.object t) w = w := by rcases ref_cases h with rfl | ⟨_, rfl⟩ <;> rfl
theorem own_fits {t : String} {w : Value} (h : w.isRef = true) : fits (.object t) w = true := by rcases ref_cases h with rfl | ⟨_, rfl⟩ <;> rfl
end OwnKit
section OwnWords
variable {args : Array Value} {s : State} {t u : Term} {a : Addr} {cl : Cell} {ty : FieldType} {j k : Int32}
theorem own_eqint (h : (Jvm.Cond.eq t (.int k)).value args s none s [] = some true) : t.eval args s none [] s = some (.int k) := by
  obtain ⟨x, y, e1, e2, -, k2⟩ := cmp_v (Or.inl h)
  obtain rfl : Value.int k = y := Option.some.inj ((Term.int_eval k).symm.trans e2)
  obtain ⟨z, rfl⟩ : ∃ z, x = .int z := k2
  have q := gotT (Cond.eq_ints e1 (Term.int_eval k)) h
  rw [e1, q]
theorem own_len (h : (Jvm.Cond.eq (.length t) (.int k)).value args s none s [] = some true) (ev : t.eval args s none [] s = some (.ref a)) (A : Arr s s.heap a cl ty) : cl.slots.size < 2 ^ 31 ∧ cl.slots.size.toInt32 = k := by
  have e1 := own_eqint h
  have e2 : s.arrayAt? a = some cl := A.fin (Vm.Alike.refl _)
  have e3 : cl.slots.size < 2 ^ 31 := by
    refine Classical.byContradiction fun q => ?_
    simp [Term.eval, ev, e2, q] at e1
  have e4 := len_f ev e2 e3
  rw [e1] at e4
  exact ⟨e3, (Value.int.inj (Option.some.inj e4)).symm⟩
theorem own_elem (h : (Jvm.Cond.eq (.elem t (.int j)) (.int k)).value args s none s [] = some true) (ev : t.eval args s none [] s = some (.ref a)) (A : Arr s s.heap a cl ty) : cl.slots[j.toNatClampNeg]? = some (.int k) :=
  (elem_in (own_eqint h) ev (Term.int_eval j) A.1).2
theorem own_eqref (h : (Jvm.Cond.eq t u).value args s none s [] = some true) (eu : u.eval args s none [] s = some (.ref a)) : t.eval args s none [] s = some (.ref a) := by
  obtain ⟨x, y, e1, e2, -, k2⟩ := cmp_v (Or.inl h)
  obtain rfl : Value.ref a = y := Option.some.inj (eu.symm.trans e2)
  have hx : x.isRef = true := k2.2
  have q := gotT (eq_R e1 eu hx rfl) h
  rw [e1, q]
theorem own_elemR (h : (Jvm.Cond.eq (.elem t (.int j)) u).value args s none s [] = some true) {b : Addr} (eu : u.eval args s none [] s = some (.ref b)) (ev : t.eval args s none [] s = some (.ref a)) (A : Arr s s.heap a cl ty) : cl.slots[j.toNatClampNeg]? = some (.ref b) :=
  (elem_in (own_eqref h eu) ev (Term.int_eval j) A.1).2
end OwnWords
end Jvm.RoadKit
namespace Jvm.Pilot.@@N@@
open Jvm Jvm.ClassFile Sem Op Lib Jvm.Free Jvm.Stand Jvm.LawKit Jvm.RoadKit Bundle Jvm.Pilot.@@N@@.Jvm.D
theorem d1_0 : decode prog_60_method_5_code 0 = .ok (.aload_n 0, 1) := by decide +kernel
theorem d1_1 : decode prog_60_method_5_code 1 = .ok (.getstatic 3, 3) := by decide +kernel
theorem d1_4 : decode prog_60_method_5_code 4 = .ok (.if_acmp .eq 7, 3) := by decide +kernel
theorem d1_7 : decode prog_60_method_5_code 7 = .ok (.iconst 1, 1) := by decide +kernel
theorem d1_8 : decode prog_60_method_5_code 8 = .ok (.goto 4, 3) := by decide +kernel
theorem d1_11 : decode prog_60_method_5_code 11 = .ok (.iconst 0, 1) := by decide +kernel
theorem d1_12 : decode prog_60_method_5_code 12 = .ok (.ireturn, 1) := by decide +kernel
theorem pn_com_example_charttop_charttop_search_VisitScore : plainName "com/example/charttop/charttop/search/VisitScore" = true := by first | (simp [plainName, overriddenIn]; done) | decide +kernel
set_option maxRecDepth 65536 in
set_option maxHeartbeats 40000000 in
theorem rm1 (l : Launch) (Z : State) (a0 : Array Value) (hw : ∀ d ∈ tables_1, d.before a0 Z = true) (ws : List Jvm.Cond) (r : Addr) (a_CONCAT : Addr) (b : Int32) (h0 : Heap) (n0 : Nat) (O0 : Old Z n0 h0) (S_CONCAT : Sta Z Z.heap "com/example/charttop/charttop/search/VisitScore" "CONCAT" "Lcom/example/charttop/charttop/search/VisitScore;" (.ref a_CONCAT)) (hb1 : (r = a_CONCAT ∧ b = 0) ∨ (r ≠ a_CONCAT ∧ b = 1)) :
    MetFree l (⟨"com/example/charttop/charttop/search/VisitScore", "byReports", "()Z"⟩ : MethodName) (head1 (Jvm.Cond.code (⟨"com/example/charttop/charttop/search/VisitScore", "byReports", "()Z"⟩ : MethodName) prog_60_method_5_code 1 (some .boolean) :: ws) ({ frames := 0, cells := 0, slots := 0, locals := 0 } : Room)) (fun a U => a = #[(.ref r)] ∧ Z.Warmed39 U.vm ∧ U.heap = h0) (fun _ _ _ _ _ => True) (fun _ U o U' => ∃ v L, o = .returned v ∧ (QA (some (.int b)) h0 n0) v U'.heap L ∧ FrameEnd U o U' L ({ frames := 0, cells := 0, slots := 0, locals := 0 } : Room).cells ({ frames := 0, cells := 0, slots := 0, locals := 0 } : Room).slots) := by
  refine MetFree.of_bodySF (plainFor_of_name pn_com_example_charttop_charttop_search_VisitScore) hisR ?_
  intro p e s m args below meth c s₁ Bd hml0 hP hK
  obtain ⟨rfl, hZ, hh⟩ := hP
  have hx := Bd.exec
  have hby := Bd.bytes
  have hlk := BodyLoose.notSynchronized Bd
  have hml : c.maxLocals = 1 := hml0
  have hown : s.vm.findClass "com/example/charttop/charttop/search/VisitScore" = some m.cls := findClass_of_methodNamed Bd.named
  have hnm := (name_of_methodNamed Bd.named Bd.method).1
  have X0 : Stand p l e ({ frames := 0, cells := 0, slots := 0, locals := 0 } : Room) s m #[(.ref r)] below meth c s₁ [] 0 0 := Stand.of_body Bd
  have e0 : s₁.heap = h0 := by rw [← hh, Bd.state]; rfl
  have N0 := Fr.nil n0
  have Z0 : n0 ≤ h0.size := O0.1 ▸ O0.2.1
  show OEnds p e below s ({ frames := 0, cells := 0, slots := 0, locals := 0 } : Room).cells ({ frames := 0, cells := 0, slots := 0, locals := 0 } : Room).slots (QA (some (.int b)) h0 n0) (s₁.setTop (entryFrame m #[(.ref r)] 1))
  refine OEnds.via (fun t k => castTop (show entryFrame m #[(.ref r)] 1 = (mkF m 0 #[.val (.ref r)] []) by first | (simp [entryFrame, mkF, argsToLocals, Value.category, maxLocals]; done) | rfl) k) ?_
  rcases hb1 with ⟨rfl, rfl⟩ | ⟨hne, rfl⟩
  · skip
    show OEnds p e below s _ _ _ (s₁.setTop (mkF m 0 #[.val (.ref r)] []))
    refine OEnds.via (fun _ k => XS.aloadN X0.here hx rfl (hb hby d1_0) rfl rfl k) ?_
    show OEnds p e below s _ _ _ (s₁.setTop (mkF m 1 #[.val (.ref r)] [(.ref r)]))
    obtain ⟨T1, X1, e1, st1⟩ := getS2 X0 hx hZ hown (host := "") (Or.inl (hw _ (List.mem_of_getElem? (i := 8) rfl))) Via.refl e0 (Sta.ext O0.2 S_CONCAT) (g := (mkF m 1 #[.val (.ref r)] [(.ref r)])) rfl (hb hby d1_1)
    refine OEnds.via (fun _ k => st1 _ k) ?_
    show OEnds p e below s _ _ _ (T1.setTop (mkF m 4 #[.val (.ref r)] [(.ref r), (.ref r)]))
    refine OEnds.via (fun _ k => Jvm.RoadKit.acmp (g := (mkF m 4 #[.val (.ref r)] [(.ref r), (.ref r)])) X1 hx rfl rfl rfl (pc0 := 4) (pc' := 11) (same := true) rfl (hb hby d1_4) rfl (decide_eq_true rfl) (by decide) (by decide) k) ?_
    show OEnds p e below s _ _ _ (T1.setTop (mkF m 11 #[.val (.ref r)] []))
    refine OEnds.via (fun _ k => XS.iconst X1.here hx rfl (hb hby d1_11) k) ?_
    show OEnds p e below s _ _ _ (T1.setTop (mkF m 12 #[.val (.ref r)] [(.int (0 : Int32))]))
    refine OEnds.retN X1 hx hlk (t := .boolean) Bd.returns (by simp) (hb hby d1_12) ?_ (by decide) (by decide)
    exact ⟨rfl, N0, e1⟩
  · skip
    show OEnds p e below s _ _ _ (s₁.setTop (mkF m 0 #[.val (.ref r)] []))
    refine OEnds.via (fun _ k => XS.aloadN X0.here hx rfl (hb hby d1_0) rfl rfl k) ?_
    show OEnds p e below s _ _ _ (s₁.setTop (mkF m 1 #[.val (.ref r)] [(.ref r)]))
    obtain ⟨T2, X2, e2, st2⟩ := getS2 X0 hx hZ hown (host := "") (Or.inl (hw _ (List.mem_of_getElem? (i := 8) rfl))) Via.refl e0 (Sta.ext O0.2 S_CONCAT) (g := (mkF m 1 #[.val (.ref r)] [(.ref r)])) rfl (hb hby d1_1)
    refine OEnds.via (fun _ k => st2 _ k) ?_
    show OEnds p e below s _ _ _ (T2.setTop (mkF m 4 #[.val (.ref r)] [(.ref a_CONCAT), (.ref r)]))
    refine OEnds.via (fun _ k => Jvm.RoadKit.acmp (g := (mkF m 4 #[.val (.ref r)] [(.ref a_CONCAT), (.ref r)])) X2 hx rfl rfl rfl (pc0 := 4) (pc' := 7) (same := false) rfl (hb hby d1_4) rfl (decide_eq_false fun q => hne (Value.ref.inj q)) (by decide) (by decide) k) ?_
    show OEnds p e below s _ _ _ (T2.setTop (mkF m 7 #[.val (.ref r)] []))
    refine OEnds.via (fun _ k => XS.iconst X2.here hx rfl (hb hby d1_7) k) ?_
    show OEnds p e below s _ _ _ (T2.setTop (mkF m 8 #[.val (.ref r)] [(.int (1 : Int32))]))
    refine OEnds.via (fun _ k => XS.goto X2.here hx rfl (pc0 := 8) (pc' := 12) rfl (hb hby d1_8) (by decide) (by decide) k) ?_
    show OEnds p e below s _ _ _ (T2.setTop (mkF m 12 #[.val (.ref r)] [(.int (1 : Int32))]))
    refine OEnds.retN X2 hx hlk (t := .boolean) Bd.returns (by simp) (hb hby d1_12) ?_ (by decide) (by decide)
    exact ⟨rfl, N0, e2⟩
theorem pn_com_example_charttop_charttop_search_VisitScoreByReportsPinLaw : plainName "com/example/charttop/charttop/search/VisitScoreByReportsPinLaw" = true := by first | (simp [plainName, overriddenIn]; done) | decide +kernel
theorem pd_2829Z : parseMethodDescriptor "()Z" = some ⟨[], some .boolean⟩ := by decide +kernel
set_option maxRecDepth 65536 in
set_option maxHeartbeats 40000000 in
theorem rm0 (l : Launch) (Z : State) (a0 : Array Value) (hw : ∀ d ∈ tables_1, d.before a0 Z = true) (ws : List Jvm.Cond) (p0 : Int32) (a_CONCAT : Addr) (a_MAX : Addr) (a_SUM : Addr) (a_EXPSUM : Addr) (h0 : Heap) (n0 : Nat) (O0 : Old Z n0 h0) (S_CONCAT : Sta Z Z.heap "com/example/charttop/charttop/search/VisitScore" "CONCAT" "Lcom/example/charttop/charttop/search/VisitScore;" (.ref a_CONCAT)) (S_MAX : Sta Z Z.heap "com/example/charttop/charttop/search/VisitScore" "MAX" "Lcom/example/charttop/charttop/search/VisitScore;" (.ref a_MAX)) (S_SUM : Sta Z Z.heap "com/example/charttop/charttop/search/VisitScore" "SUM" "Lcom/example/charttop/charttop/search/VisitScore;" (.ref a_SUM)) (S_EXPSUM : Sta Z Z.heap "com/example/charttop/charttop/search/VisitScore" "EXPSUM" "Lcom/example/charttop/charttop/search/VisitScore;" (.ref a_EXPSUM)) (E_CONCAT : Exa Z Z.heap a_CONCAT "com/example/charttop/charttop/search/VisitScore") (E_MAX : Exa Z Z.heap a_MAX "com/example/charttop/charttop/search/VisitScore") (E_SUM : Exa Z Z.heap a_SUM "com/example/charttop/charttop/search/VisitScore") (E_EXPSUM : Exa Z Z.heap a_EXPSUM "com/example/charttop/charttop/search/VisitScore") (ne_MAX : a_MAX ≠ a_CONCAT) (ne_SUM : a_SUM ≠ a_CONCAT) (ne_EXPSUM : a_EXPSUM ≠ a_CONCAT) :
    MetFree l x (head1 (Jvm.Cond.code x code maxLocals ret :: ws) room_1) (fun a U => a = #[(.int p0)] ∧ Z.Warmed39 U.vm ∧ U.heap = h0) (fun _ _ _ _ _ => True) (fun _ U o U' => ∃ v L, o = .returned v ∧ (QL n0) v U'.heap L ∧ FrameEnd U o U' L 0 0) := by
  refine MetFree.of_bodySF (plainFor_of_name pn_com_example_charttop_charttop_search_VisitScoreByReportsPinLaw) hisR ?_
  intro p e s m args below meth c s₁ Bd hml0 hP hK
  obtain ⟨rfl, hZ, hh⟩ := hP
  have hx := Bd.exec
  have hby := Bd.bytes
  have hlk := BodyLoose.notSynchronized Bd
  have hml : c.maxLocals = 4 := hml0
  have hown : s.vm.findClass "com/example/charttop/charttop/search/VisitScoreByReportsPinLaw" = some m.cls := findClass_of_methodNamed Bd.named
  have hnm := (name_of_methodNamed Bd.named Bd.method).1
  have X0 : Stand p l e room_1 s m #[(.int p0)] below meth c s₁ [] 0 0 := Stand.of_body Bd
  have e0 : s₁.heap = h0 := by rw [← hh, Bd.state]; rfl
  have N0 := Fr.nil n0
  have Z0 : n0 ≤ h0.size := O0.1 ▸ O0.2.1
  show OEnds p e below s 0 0 (QL n0) (s₁.setTop (entryFrame m #[(.int p0)] maxLocals))
  refine OEnds.via (fun t k => castTop (show entryFrame m #[(.int p0)] maxLocals = (mkF m 0 #[.val (.int p0), .unset, .unset, .unset] []) by first | (simp [entryFrame, mkF, argsToLocals, Value.category, maxLocals]; done) | rfl) k) ?_
  refine OEnds.via (fun _ k => XS.iloadN X0.here hx rfl (hb hby at_0) rfl k) ?_
  show OEnds p e below s _ _ _ (s₁.setTop (mkF m 1 #[.val (.int p0), .unset, .unset, .unset] [(.int p0)]))
  refine OEnds.via (fun _ k => XS.iconst X0.here hx rfl (hb hby at_1) k) ?_
  show OEnds p e below s _ _ _ (s₁.setTop (mkF m 2 #[.val (.int p0), .unset, .unset, .unset] [(.int (3 : Int32)), (.int p0)]))
  refine OEnds.via (fun _ k => XS.iand X0.here hx rfl (hb hby at_2) rfl k) ?_
  show OEnds p e below s _ _ _ (s₁.setTop (mkF m 3 #[.val (.int p0), .unset, .unset, .unset] [(.int (p0 &&& (3 : Int32)))]))
  refine OEnds.via (fun _ k => XS.istoreN X0.here hx rfl (hb hby at_3) rfl (l' := #[.val (.int p0), .val (.int (p0 &&& (3 : Int32))), .unset, .unset]) rfl k) ?_
  show OEnds p e below s _ _ _ (s₁.setTop (mkF m 4 #[.val (.int p0), .val (.int (p0 &&& (3 : Int32))), .unset, .unset] []))
  refine OEnds.via (fun _ k => XS.iloadN X0.here hx rfl (hb hby at_4) rfl k) ?_
  show OEnds p e below s _ _ _ (s₁.setTop (mkF m 5 #[.val (.int p0), .val (.int (p0 &&& (3 : Int32))), .unset, .unset] [(.int (p0 &&& (3 : Int32)))]))
  by_cases hc5_0 : (p0 &&& (3 : Int32)) = (0 : Int32)
  · skip
    refine OEnds.via (fun _ k => XS.ifNo X0.here hx rfl (hb hby at_5) rfl ((if0 _ _).trans (teq hc5_0).2) k) ?_
    show OEnds p e below s _ _ _ (s₁.setTop (mkF m 8 #[.val (.int p0), .val (.int (p0 &&& (3 : Int32))), .unset, .unset] []))
    obtain ⟨T2, X2, e2, st2⟩ := getS2 X0 hx hZ hown (host := "") (Or.inl (hw _ (List.mem_of_getElem? (i := 0) rfl))) Via.refl e0 (Sta.ext O0.2 S_CONCAT) (g := (mkF m 8 #[.val (.int p0), .val (.int (p0 &&& (3 : Int32))), .unset, .unset] [])) rfl (hb hby at_8)
    refine OEnds.via (fun _ k => st2 _ k) ?_
    show OEnds p e below s _ _ _ (T2.setTop (mkF m 11 #[.val (.int p0), .val (.int (p0 &&& (3 : Int32))), .unset, .unset] [(.ref a_CONCAT)]))
    refine OEnds.via (fun _ k => XS.astoreN X2.here hx rfl (hb hby at_11) rfl rfl (l' := #[.val (.int p0), .val (.int (p0 &&& (3 : Int32))), .val (.ref a_CONCAT), .unset]) rfl k) ?_
    show OEnds p e below s _ _ _ (T2.setTop (mkF m 12 #[.val (.int p0), .val (.int (p0 &&& (3 : Int32))), .val (.ref a_CONCAT), .unset] []))
    refine OEnds.via (fun _ k => XS.goto X2.here hx rfl (pc0 := 12) (pc' := 43) rfl (hb hby at_12) (by decide) (by decide) k) ?_
    show OEnds p e below s _ _ _ (T2.setTop (mkF m 43 #[.val (.int p0), .val (.int (p0 &&& (3 : Int32))), .val (.ref a_CONCAT), .unset] []))
    refine OEnds.via (fun _ k => XS.iloadN X2.here hx rfl (hb hby at_43) rfl k) ?_
    show OEnds p e below s _ _ _ (T2.setTop (mkF m 44 #[.val (.int p0), .val (.int (p0 &&& (3 : Int32))), .val (.ref a_CONCAT), .unset] [(.int (p0 &&& (3 : Int32)))]))
    refine OEnds.via (fun _ k => XS.ifNo X2.here hx rfl (hb hby at_44) rfl ((if0 _ _).trans (teq hc5_0).2) k) ?_
    show OEnds p e below s _ _ _ (T2.setTop (mkF m 47 #[.val (.int p0), .val (.int (p0 &&& (3 : Int32))), .val (.ref a_CONCAT), .unset] []))
    refine OEnds.via (fun _ k => XS.iconst X2.here hx rfl (hb hby at_47) k) ?_
    show OEnds p e below s _ _ _ (T2.setTop (mkF m 48 #[.val (.int p0), .val (.int (p0 &&& (3 : Int32))), .val (.ref a_CONCAT), .unset] [(.int (0 : Int32))]))
    refine OEnds.via (fun _ k => XS.istoreN X2.here hx rfl (hb hby at_48) rfl (l' := #[.val (.int p0), .val (.int (p0 &&& (3 : Int32))), .val (.ref a_CONCAT), .val (.int (0 : Int32))]) rfl k) ?_
    show OEnds p e below s _ _ _ (T2.setTop (mkF m 49 #[.val (.int p0), .val (.int (p0 &&& (3 : Int32))), .val (.ref a_CONCAT), .val (.int (0 : Int32))] []))
    refine OEnds.via (fun _ k => XS.goto X2.here hx rfl (pc0 := 49) (pc' := 54) rfl (hb hby at_49) (by decide) (by decide) k) ?_
    show OEnds p e below s _ _ _ (T2.setTop (mkF m 54 #[.val (.int p0), .val (.int (p0 &&& (3 : Int32))), .val (.ref a_CONCAT), .val (.int (0 : Int32))] []))
    refine OEnds.via (fun _ k => XS.aloadN X2.here hx rfl (hb hby at_54) rfl rfl k) ?_
    show OEnds p e below s _ _ _ (T2.setTop (mkF m 55 #[.val (.int p0), .val (.int (p0 &&& (3 : Int32))), .val (.ref a_CONCAT), .val (.int (0 : Int32))] [(.ref a_CONCAT)]))
    obtain ⟨cq3, kq3, q3a, q3b, q3c⟩ := isOf hZ e2 (Exa.ext O0.2 E_CONCAT)
    obtain ⟨_, _, ⟨T3, L3, k3, n3⟩, -, X3, ⟨Lc3, hQ3, l3, y3, z3⟩, st3⟩ := X2.virtualBack hx (y := (⟨"com/example/charttop/charttop/search/VisitScore", "byReports", "()Z"⟩ : MethodName)) (z := (⟨"com/example/charttop/charttop/search/VisitScore", "byReports", "()Z"⟩ : MethodName)) hown (mvT hZ (hw _ (List.mem_of_getElem? (i := 3) rfl))) (mvT hZ (hw _ (List.mem_of_getElem? (i := 4) rfl))) (notFace_of_selects (args := #[]) (mvT hZ (hw _ (List.mem_of_getElem? (i := 6) rfl)))) (mvT hZ (hw _ (List.mem_of_getElem? (i := 6) rfl))) (mvT hZ (hw _ (List.mem_of_getElem? (i := 5) rfl))) (by decide) (backOf (W := 0) (rm1 l Z a0 hw [] a_CONCAT a_CONCAT 0 h0 n0 O0 S_CONCAT (Or.inl ⟨rfl, rfl⟩)) hZ (hw _ (List.mem_of_getElem? (i := 7) rfl)) (hw _ (List.mem_of_getElem? (i := 1) rfl)) (by decide) (by decide)) q3a q3c (g := (mkF m 55 #[.val (.int p0), .val (.int (p0 &&& (3 : Int32))), .val (.ref a_CONCAT), .val (.int (0 : Int32))] [(.ref a_CONCAT)])) rfl (by rw [hml]; rfl) (Steps.refl _) (argsL := []) (rest := []) (lenOf pd_2829Z rfl) rfl (by show 2 * 0 + _ ≤ _; exact Nat.le_of_eq rfl) (hb hby at_55) (fun _ _ => ⟨rfl, e2, Nat.le_of_ble_eq_true rfl, Nat.le_of_ble_eq_true rfl⟩)
    dsimp only [Pt.U, Pt.locs, Pt.cells, Pt.slots] at X3 l3 y3 z3 st3 hQ3
    subst l3 y3 z3
    obtain ⟨rfl, N3q, e3⟩ := hQ3
    have N3 := Fr.app N0 N3q
    refine OEnds.via (fun _ k => st3.trans k) ?_
    show OEnds p e below s _ _ _ (T3.setTop (mkF m 58 #[.val (.int p0), .val (.int (p0 &&& (3 : Int32))), .val (.ref a_CONCAT), .val (.int (0 : Int32))] [(.int (0 : Int32))]))
    refine OEnds.via (fun _ k => XS.iloadN X3.here hx rfl (hb hby at_58) rfl k) ?_
    show OEnds p e below s _ _ _ (T3.setTop (mkF m 59 #[.val (.int p0), .val (.int (p0 &&& (3 : Int32))), .val (.ref a_CONCAT), .val (.int (0 : Int32))] [(.int (0 : Int32)), (.int (0 : Int32))]))
    refine OEnds.via (fun _ k => XS.icmpNo X3.here hx rfl (hb hby at_59) rfl (teq (rfl : (0 : Int32) = (0 : Int32))).2 k) ?_
    show OEnds p e below s _ _ _ (T3.setTop (mkF m 62 #[.val (.int p0), .val (.int (p0 &&& (3 : Int32))), .val (.ref a_CONCAT), .val (.int (0 : Int32))] []))
    refine OEnds.via (fun _ k => XS.iconst X3.here hx rfl (hb hby at_62) k) ?_
    show OEnds p e below s _ _ _ (T3.setTop (mkF m 63 #[.val (.int p0), .val (.int (p0 &&& (3 : Int32))), .val (.ref a_CONCAT), .val (.int (0 : Int32))] [(.int (1 : Int32))]))
    refine OEnds.via (fun _ k => XS.goto X3.here hx rfl (pc0 := 63) (pc' := 67) rfl (hb hby at_63) (by decide) (by decide) k) ?_
    show OEnds p e below s _ _ _ (T3.setTop (mkF m 67 #[.val (.int p0), .val (.int (p0 &&& (3 : Int32))), .val (.ref a_CONCAT), .val (.int (0 : Int32))] [(.int (1 : Int32))]))
    refine OEnds.retN X3 hx hlk (t := .boolean) Bd.returns (by simp) (hb hby at_67) ?_ (by decide) (by decide)
    exact ⟨rfl, N3⟩
  · skip
    refine OEnds.via (fun _ k => XS.ifYes X0.here hx rfl (pc0 := 5) (pc' := 15) rfl (hb hby at_5) rfl ((if0 _ _).trans (feq hc5_0).2) (by decide) (by decide) k) ?_
    show OEnds p e below s _ _ _ (s₁.setTop (mkF m 15 #[.val (.int p0), .val (.int (p0 &&& (3 : Int32))), .unset, .unset] []))
    refine OEnds.via (fun _ k => XS.iloadN X0.here hx rfl (hb hby at_15) rfl k) ?_
    show OEnds p e below s _ _ _ (s₁.setTop (mkF m 16 #[.val (.int p0), .val (.int (p0 &&& (3 : Int32))), .unset, .unset] [(.int (p0 &&& (3 : Int32)))]))
    refine OEnds.via (fun _ k => XS.iconst X0.here hx rfl (hb hby at_16) k) ?_
    show OEnds p e below s _ _ _ (s₁.setTop (mkF m 17 #[.val (.int p0), .val (.int (p0 &&& (3 : Int32))), .unset, .unset] [(.int (1 : Int32)), (.int (p0 &&& (3 : Int32)))]))
    by_cases hc17_3 : (p0 &&& (3 : Int32)) = (1 : Int32)
    · skip
      refine OEnds.via (fun _ k => XS.icmpNo X0.here hx rfl (hb hby at_17) rfl (teq hc17_3).2 k) ?_
      show OEnds p e below s _ _ _ (s₁.setTop (mkF m 20 #[.val (.int p0), .val (.int (p0 &&& (3 : Int32))), .unset, .unset] []))
      obtain ⟨T5, X5, e5, st5⟩ := getS2 X0 hx hZ hown (host := "") (Or.inl (hw _ (List.mem_of_getElem? (i := 13) rfl))) Via.refl e0 (Sta.ext O0.2 S_MAX) (g := (mkF m 20 #[.val (.int p0), .val (.int (p0 &&& (3 : Int32))), .unset, .unset] [])) rfl (hb hby at_20)
      refine OEnds.via (fun _ k => st5 _ k) ?_
      show OEnds p e below s _ _ _ (T5.setTop (mkF m 23 #[.val (.int p0), .val (.int (p0 &&& (3 : Int32))), .unset, .unset] [(.ref a_MAX)]))
      refine OEnds.via (fun _ k => XS.astoreN X5.here hx rfl (hb hby at_23) rfl rfl (l' := #[.val (.int p0), .val (.int (p0 &&& (3 : Int32))), .val (.ref a_MAX), .unset]) rfl k) ?_
      show OEnds p e below s _ _ _ (T5.setTop (mkF m 24 #[.val (.int p0), .val (.int (p0 &&& (3 : Int32))), .val (.ref a_MAX), .unset] []))
      refine OEnds.via (fun _ k => XS.goto X5.here hx rfl (pc0 := 24) (pc' := 43) rfl (hb hby at_24) (by decide) (by decide) k) ?_
      show OEnds p e below s _ _ _ (T5.setTop (mkF m 43 #[.val (.int p0), .val (.int (p0 &&& (3 : Int32))), .val (.ref a_MAX), .unset] []))
      refine OEnds.via (fun _ k => XS.iloadN X5.here hx rfl (hb hby at_43) rfl k) ?_
      show OEnds p e below s _ _ _ (T5.setTop (mkF m 44 #[.val (.int p0), .val (.int (p0 &&& (3 : Int32))), .val (.ref a_MAX), .unset] [(.int (p0 &&& (3 : Int32)))]))
      refine OEnds.via (fun _ k => XS.ifYes X5.here hx rfl (pc0 := 44) (pc' := 52) rfl (hb hby at_44) rfl ((if0 _ _).trans (feq hc5_0).2) (by decide) (by decide) k) ?_
      show OEnds p e below s _ _ _ (T5.setTop (mkF m 52 #[.val (.int p0), .val (.int (p0 &&& (3 : Int32))), .val (.ref a_MAX), .unset] []))
      refine OEnds.via (fun _ k => XS.iconst X5.here hx rfl (hb hby at_52) k) ?_
      show OEnds p e below s _ _ _ (T5.setTop (mkF m 53 #[.val (.int p0), .val (.int (p0 &&& (3 : Int32))), .val (.ref a_MAX), .unset] [(.int (1 : Int32))]))
      refine OEnds.via (fun _ k => XS.istoreN X5.here hx rfl (hb hby at_53) rfl (l' := #[.val (.int p0), .val (.int (p0 &&& (3 : Int32))), .val (.ref a_MAX), .val (.int (1 : Int32))]) rfl k) ?_
      show OEnds p e below s _ _ _ (T5.setTop (mkF m 54 #[.val (.int p0), .val (.int (p0 &&& (3 : Int32))), .val (.ref a_MAX), .val (.int (1 : Int32))] []))
      refine OEnds.via (fun _ k => XS.aloadN X5.here hx rfl (hb hby at_54) rfl rfl k) ?_
      show OEnds p e below s _ _ _ (T5.setTop (mkF m 55 #[.val (.int p0), .val (.int (p0 &&& (3 : Int32))), .val (.ref a_MAX), .val (.int (1 : Int32))] [(.ref a_MAX)]))
      obtain ⟨cq6, kq6, q6a, q6b, q6c⟩ := isOf hZ e5 (Exa.ext O0.2 E_MAX)
      obtain ⟨_, _, ⟨T6, L6, k6, n6⟩, -, X6, ⟨Lc6, hQ6, l6, y6, z6⟩, st6⟩ := X5.virtualBack hx (y := (⟨"com/example/charttop/charttop/search/VisitScore", "byReports", "()Z"⟩ : MethodName)) (z := (⟨"com/example/charttop/charttop/search/VisitScore", "byReports", "()Z"⟩ : MethodName)) hown (mvT hZ (hw _ (List.mem_of_getElem? (i := 3) rfl))) (mvT hZ (hw _ (List.mem_of_getElem? (i := 4) rfl))) (notFace_of_selects (args := #[]) (mvT hZ (hw _ (List.mem_of_getElem? (i := 6) rfl)))) (mvT hZ (hw _ (List.mem_of_getElem? (i := 6) rfl))) (mvT hZ (hw _ (List.mem_of_getElem? (i := 5) rfl))) (by decide) (backOf (W := 0) (rm1 l Z a0 hw [] a_MAX a_CONCAT 1 h0 n0 O0 S_CONCAT (Or.inr ⟨ne_MAX, rfl⟩)) hZ (hw _ (List.mem_of_getElem? (i := 7) rfl)) (hw _ (List.mem_of_getElem? (i := 1) rfl)) (by decide) (by decide)) q6a q6c (g := (mkF m 55 #[.val (.int p0), .val (.int (p0 &&& (3 : Int32))), .val (.ref a_MAX), .val (.int (1 : Int32))] [(.ref a_MAX)])) rfl (by rw [hml]; rfl) (Steps.refl _) (argsL := []) (rest := []) (lenOf pd_2829Z rfl) rfl (by show 2 * 0 + _ ≤ _; exact Nat.le_of_eq rfl) (hb hby at_55) (fun _ _ => ⟨rfl, e5, Nat.le_of_ble_eq_true rfl, Nat.le_of_ble_eq_true rfl⟩)
      dsimp only [Pt.U, Pt.locs, Pt.cells, Pt.slots] at X6 l6 y6 z6 st6 hQ6
      subst l6 y6 z6
      obtain ⟨rfl, N6q, e6⟩ := hQ6
      have N6 := Fr.app N0 N6q
      refine OEnds.via (fun _ k => st6.trans k) ?_
      show OEnds p e below s _ _ _ (T6.setTop (mkF m 58 #[.val (.int p0), .val (.int (p0 &&& (3 : Int32))), .val (.ref a_MAX), .val (.int (1 : Int32))] [(.int (1 : Int32))]))
      refine OEnds.via (fun _ k => XS.iloadN X6.here hx rfl (hb hby at_58) rfl k) ?_
      show OEnds p e below s _ _ _ (T6.setTop (mkF m 59 #[.val (.int p0), .val (.int (p0 &&& (3 : Int32))), .val (.ref a_MAX), .val (.int (1 : Int32))] [(.int (1 : Int32)), (.int (1 : Int32))]))
      refine OEnds.via (fun _ k => XS.icmpNo X6.here hx rfl (hb hby at_59) rfl (teq (rfl : (1 : Int32) = (1 : Int32))).2 k) ?_
      show OEnds p e below s _ _ _ (T6.setTop (mkF m 62 #[.val (.int p0), .val (.int (p0 &&& (3 : Int32))), .val (.ref a_MAX), .val (.int (1 : Int32))] []))
      refine OEnds.via (fun _ k => XS.iconst X6.here hx rfl (hb hby at_62) k) ?_
      show OEnds p e below s _ _ _ (T6.setTop (mkF m 63 #[.val (.int p0), .val (.int (p0 &&& (3 : Int32))), .val (.ref a_MAX), .val (.int (1 : Int32))] [(.int (1 : Int32))]))
      refine OEnds.via (fun _ k => XS.goto X6.here hx rfl (pc0 := 63) (pc' := 67) rfl (hb hby at_63) (by decide) (by decide) k) ?_
      show OEnds p e below s _ _ _ (T6.setTop (mkF m 67 #[.val (.int p0), .val (.int (p0 &&& (3 : Int32))), .val (.ref a_MAX), .val (.int (1 : Int32))] [(.int (1 : Int32))]))
      refine OEnds.retN X6 hx hlk (t := .boolean) Bd.returns (by simp) (hb hby at_67) ?_ (by decide) (by decide)
      exact ⟨rfl, N6⟩
    · skip
      refine OEnds.via (fun _ k => XS.icmpYes X0.here hx rfl (pc0 := 17) (pc' := 27) rfl (hb hby at_17) rfl (feq hc17_3).2 (by decide) (by decide) k) ?_
      show OEnds p e below s _ _ _ (s₁.setTop (mkF m 27 #[.val (.int p0), .val (.int (p0 &&& (3 : Int32))), .unset, .unset] []))
      refine OEnds.via (fun _ k => XS.iloadN X0.here hx rfl (hb hby at_27) rfl k) ?_
      show OEnds p e below s _ _ _ (s₁.setTop (mkF m 28 #[.val (.int p0), .val (.int (p0 &&& (3 : Int32))), .unset, .unset] [(.int (p0 &&& (3 : Int32)))]))
      refine OEnds.via (fun _ k => XS.iconst X0.here hx rfl (hb hby at_28) k) ?_
      show OEnds p e below s _ _ _ (s₁.setTop (mkF m 29 #[.val (.int p0), .val (.int (p0 &&& (3 : Int32))), .unset, .unset] [(.int (2 : Int32)), (.int (p0 &&& (3 : Int32)))]))
      by_cases hc29_6 : (p0 &&& (3 : Int32)) = (2 : Int32)
      · skip
        refine OEnds.via (fun _ k => XS.icmpNo X0.here hx rfl (hb hby at_29) rfl (teq hc29_6).2 k) ?_
        show OEnds p e below s _ _ _ (s₁.setTop (mkF m 32 #[.val (.int p0), .val (.int (p0 &&& (3 : Int32))), .unset, .unset] []))
        obtain ⟨T8, X8, e8, st8⟩ := getS2 X0 hx hZ hown (host := "") (Or.inl (hw _ (List.mem_of_getElem? (i := 11) rfl))) Via.refl e0 (Sta.ext O0.2 S_SUM) (g := (mkF m 32 #[.val (.int p0), .val (.int (p0 &&& (3 : Int32))), .unset, .unset] [])) rfl (hb hby at_32)
        refine OEnds.via (fun _ k => st8 _ k) ?_
        show OEnds p e below s _ _ _ (T8.setTop (mkF m 35 #[.val (.int p0), .val (.int (p0 &&& (3 : Int32))), .unset, .unset] [(.ref a_SUM)]))
        refine OEnds.via (fun _ k => XS.astoreN X8.here hx rfl (hb hby at_35) rfl rfl (l' := #[.val (.int p0), .val (.int (p0 &&& (3 : Int32))), .val (.ref a_SUM), .unset]) rfl k) ?_
        show OEnds p e below s _ _ _ (T8.setTop (mkF m 36 #[.val (.int p0), .val (.int (p0 &&& (3 : Int32))), .val (.ref a_SUM), .unset] []))
        refine OEnds.via (fun _ k => XS.goto X8.here hx rfl (pc0 := 36) (pc' := 43) rfl (hb hby at_36) (by decide) (by decide) k) ?_
        show OEnds p e below s _ _ _ (T8.setTop (mkF m 43 #[.val (.int p0), .val (.int (p0 &&& (3 : Int32))), .val (.ref a_SUM), .unset] []))
        refine OEnds.via (fun _ k => XS.iloadN X8.here hx rfl (hb hby at_43) rfl k) ?_
        show OEnds p e below s _ _ _ (T8.setTop (mkF m 44 #[.val (.int p0), .val (.int (p0 &&& (3 : Int32))), .val (.ref a_SUM), .unset] [(.int (p0 &&& (3 : Int32)))]))
        refine OEnds.via (fun _ k => XS.ifYes X8.here hx rfl (pc0 := 44) (pc' := 52) rfl (hb hby at_44) rfl ((if0 _ _).trans (feq hc5_0).2) (by decide) (by decide) k) ?_
        show OEnds p e below s _ _ _ (T8.setTop (mkF m 52 #[.val (.int p0), .val (.int (p0 &&& (3 : Int32))), .val (.ref a_SUM), .unset] []))
        refine OEnds.via (fun _ k => XS.iconst X8.here hx rfl (hb hby at_52) k) ?_
        show OEnds p e below s _ _ _ (T8.setTop (mkF m 53 #[.val (.int p0), .val (.int (p0 &&& (3 : Int32))), .val (.ref a_SUM), .unset] [(.int (1 : Int32))]))
        refine OEnds.via (fun _ k => XS.istoreN X8.here hx rfl (hb hby at_53) rfl (l' := #[.val (.int p0), .val (.int (p0 &&& (3 : Int32))), .val (.ref a_SUM), .val (.int (1 : Int32))]) rfl k) ?_
        show OEnds p e below s _ _ _ (T8.setTop (mkF m 54 #[.val (.int p0), .val (.int (p0 &&& (3 : Int32))), .val (.ref a_SUM), .val (.int (1 : Int32))] []))
        refine OEnds.via (fun _ k => XS.aloadN X8.here hx rfl (hb hby at_54) rfl rfl k) ?_
        show OEnds p e below s _ _ _ (T8.setTop (mkF m 55 #[.val (.int p0), .val (.int (p0 &&& (3 : Int32))), .val (.ref a_SUM), .val (.int (1 : Int32))] [(.ref a_SUM)]))
        obtain ⟨cq9, kq9, q9a, q9b, q9c⟩ := isOf hZ e8 (Exa.ext O0.2 E_SUM)
        obtain ⟨_, _, ⟨T9, L9, k9, n9⟩, -, X9, ⟨Lc9, hQ9, l9, y9, z9⟩, st9⟩ := X8.virtualBack hx (y := (⟨"com/example/charttop/charttop/search/VisitScore", "byReports", "()Z"⟩ : MethodName)) (z := (⟨"com/example/charttop/charttop/search/VisitScore", "byReports", "()Z"⟩ : MethodName)) hown (mvT hZ (hw _ (List.mem_of_getElem? (i := 3) rfl))) (mvT hZ (hw _ (List.mem_of_getElem? (i := 4) rfl))) (notFace_of_selects (args := #[]) (mvT hZ (hw _ (List.mem_of_getElem? (i := 6) rfl)))) (mvT hZ (hw _ (List.mem_of_getElem? (i := 6) rfl))) (mvT hZ (hw _ (List.mem_of_getElem? (i := 5) rfl))) (by decide) (backOf (W := 0) (rm1 l Z a0 hw [] a_SUM a_CONCAT 1 h0 n0 O0 S_CONCAT (Or.inr ⟨ne_SUM, rfl⟩)) hZ (hw _ (List.mem_of_getElem? (i := 7) rfl)) (hw _ (List.mem_of_getElem? (i := 1) rfl)) (by decide) (by decide)) q9a q9c (g := (mkF m 55 #[.val (.int p0), .val (.int (p0 &&& (3 : Int32))), .val (.ref a_SUM), .val (.int (1 : Int32))] [(.ref a_SUM)])) rfl (by rw [hml]; rfl) (Steps.refl _) (argsL := []) (rest := []) (lenOf pd_2829Z rfl) rfl (by show 2 * 0 + _ ≤ _; exact Nat.le_of_eq rfl) (hb hby at_55) (fun _ _ => ⟨rfl, e8, Nat.le_of_ble_eq_true rfl, Nat.le_of_ble_eq_true rfl⟩)
        dsimp only [Pt.U, Pt.locs, Pt.cells, Pt.slots] at X9 l9 y9 z9 st9 hQ9
        subst l9 y9 z9
        obtain ⟨rfl, N9q, e9⟩ := hQ9
        have N9 := Fr.app N0 N9q
        refine OEnds.via (fun _ k => st9.trans k) ?_
        show OEnds p e below s _ _ _ (T9.setTop (mkF m 58 #[.val (.int p0), .val (.int (p0 &&& (3 : Int32))), .val (.ref a_SUM), .val (.int (1 : Int32))] [(.int (1 : Int32))]))
        refine OEnds.via (fun _ k => XS.iloadN X9.here hx rfl (hb hby at_58) rfl k) ?_
        show OEnds p e below s _ _ _ (T9.setTop (mkF m 59 #[.val (.int p0), .val (.int (p0 &&& (3 : Int32))), .val (.ref a_SUM), .val (.int (1 : Int32))] [(.int (1 : Int32)), (.int (1 : Int32))]))
        refine OEnds.via (fun _ k => XS.icmpNo X9.here hx rfl (hb hby at_59) rfl (teq (rfl : (1 : Int32) = (1 : Int32))).2 k) ?_
        show OEnds p e below s _ _ _ (T9.setTop (mkF m 62 #[.val (.int p0), .val (.int (p0 &&& (3 : Int32))), .val (.ref a_SUM), .val (.int (1 : Int32))] []))
        refine OEnds.via (fun _ k => XS.iconst X9.here hx rfl (hb hby at_62) k) ?_
        show OEnds p e below s _ _ _ (T9.setTop (mkF m 63 #[.val (.int p0), .val (.int (p0 &&& (3 : Int32))), .val (.ref a_SUM), .val (.int (1 : Int32))] [(.int (1 : Int32))]))
        refine OEnds.via (fun _ k => XS.goto X9.here hx rfl (pc0 := 63) (pc' := 67) rfl (hb hby at_63) (by decide) (by decide) k) ?_
        show OEnds p e below s _ _ _ (T9.setTop (mkF m 67 #[.val (.int p0), .val (.int (p0 &&& (3 : Int32))), .val (.ref a_SUM), .val (.int (1 : Int32))] [(.int (1 : Int32))]))
        refine OEnds.retN X9 hx hlk (t := .boolean) Bd.returns (by simp) (hb hby at_67) ?_ (by decide) (by decide)
        exact ⟨rfl, N9⟩
      · skip
        refine OEnds.via (fun _ k => XS.icmpYes X0.here hx rfl (pc0 := 29) (pc' := 39) rfl (hb hby at_29) rfl (feq hc29_6).2 (by decide) (by decide) k) ?_
        show OEnds p e below s _ _ _ (s₁.setTop (mkF m 39 #[.val (.int p0), .val (.int (p0 &&& (3 : Int32))), .unset, .unset] []))
        obtain ⟨T10, X10, e10, st10⟩ := getS2 X0 hx hZ hown (host := "") (Or.inl (hw _ (List.mem_of_getElem? (i := 9) rfl))) Via.refl e0 (Sta.ext O0.2 S_EXPSUM) (g := (mkF m 39 #[.val (.int p0), .val (.int (p0 &&& (3 : Int32))), .unset, .unset] [])) rfl (hb hby at_39)
        refine OEnds.via (fun _ k => st10 _ k) ?_
        show OEnds p e below s _ _ _ (T10.setTop (mkF m 42 #[.val (.int p0), .val (.int (p0 &&& (3 : Int32))), .unset, .unset] [(.ref a_EXPSUM)]))
        refine OEnds.via (fun _ k => XS.astoreN X10.here hx rfl (hb hby at_42) rfl rfl (l' := #[.val (.int p0), .val (.int (p0 &&& (3 : Int32))), .val (.ref a_EXPSUM), .unset]) rfl k) ?_
        show OEnds p e below s _ _ _ (T10.setTop (mkF m 43 #[.val (.int p0), .val (.int (p0 &&& (3 : Int32))), .val (.ref a_EXPSUM), .unset] []))
        refine OEnds.via (fun _ k => XS.iloadN X10.here hx rfl (hb hby at_43) rfl k) ?_
        show OEnds p e below s _ _ _ (T10.setTop (mkF m 44 #[.val (.int p0), .val (.int (p0 &&& (3 : Int32))), .val (.ref a_EXPSUM), .unset] [(.int (p0 &&& (3 : Int32)))]))
        refine OEnds.via (fun _ k => XS.ifYes X10.here hx rfl (pc0 := 44) (pc' := 52) rfl (hb hby at_44) rfl ((if0 _ _).trans (feq hc5_0).2) (by decide) (by decide) k) ?_
        show OEnds p e below s _ _ _ (T10.setTop (mkF m 52 #[.val (.int p0), .val (.int (p0 &&& (3 : Int32))), .val (.ref a_EXPSUM), .unset] []))
        refine OEnds.via (fun _ k => XS.iconst X10.here hx rfl (hb hby at_52) k) ?_
        show OEnds p e below s _ _ _ (T10.setTop (mkF m 53 #[.val (.int p0), .val (.int (p0 &&& (3 : Int32))), .val (.ref a_EXPSUM), .unset] [(.int (1 : Int32))]))
        refine OEnds.via (fun _ k => XS.istoreN X10.here hx rfl (hb hby at_53) rfl (l' := #[.val (.int p0), .val (.int (p0 &&& (3 : Int32))), .val (.ref a_EXPSUM), .val (.int (1 : Int32))]) rfl k) ?_
        show OEnds p e below s _ _ _ (T10.setTop (mkF m 54 #[.val (.int p0), .val (.int (p0 &&& (3 : Int32))), .val (.ref a_EXPSUM), .val (.int (1 : Int32))] []))
        refine OEnds.via (fun _ k => XS.aloadN X10.here hx rfl (hb hby at_54) rfl rfl k) ?_
        show OEnds p e below s _ _ _ (T10.setTop (mkF m 55 #[.val (.int p0), .val (.int (p0 &&& (3 : Int32))), .val (.ref a_EXPSUM), .val (.int (1 : Int32))] [(.ref a_EXPSUM)]))
        obtain ⟨cq11, kq11, q11a, q11b, q11c⟩ := isOf hZ e10 (Exa.ext O0.2 E_EXPSUM)
        obtain ⟨_, _, ⟨T11, L11, k11, n11⟩, -, X11, ⟨Lc11, hQ11, l11, y11, z11⟩, st11⟩ := X10.virtualBack hx (y := (⟨"com/example/charttop/charttop/search/VisitScore", "byReports", "()Z"⟩ : MethodName)) (z := (⟨"com/example/charttop/charttop/search/VisitScore", "byReports", "()Z"⟩ : MethodName)) hown (mvT hZ (hw _ (List.mem_of_getElem? (i := 3) rfl))) (mvT hZ (hw _ (List.mem_of_getElem? (i := 4) rfl))) (notFace_of_selects (args := #[]) (mvT hZ (hw _ (List.mem_of_getElem? (i := 6) rfl)))) (mvT hZ (hw _ (List.mem_of_getElem? (i := 6) rfl))) (mvT hZ (hw _ (List.mem_of_getElem? (i := 5) rfl))) (by decide) (backOf (W := 0) (rm1 l Z a0 hw [] a_EXPSUM a_CONCAT 1 h0 n0 O0 S_CONCAT (Or.inr ⟨ne_EXPSUM, rfl⟩)) hZ (hw _ (List.mem_of_getElem? (i := 7) rfl)) (hw _ (List.mem_of_getElem? (i := 1) rfl)) (by decide) (by decide)) q11a q11c (g := (mkF m 55 #[.val (.int p0), .val (.int (p0 &&& (3 : Int32))), .val (.ref a_EXPSUM), .val (.int (1 : Int32))] [(.ref a_EXPSUM)])) rfl (by rw [hml]; rfl) (Steps.refl _) (argsL := []) (rest := []) (lenOf pd_2829Z rfl) rfl (by show 2 * 0 + _ ≤ _; exact Nat.le_of_eq rfl) (hb hby at_55) (fun _ _ => ⟨rfl, e10, Nat.le_of_ble_eq_true rfl, Nat.le_of_ble_eq_true rfl⟩)
        dsimp only [Pt.U, Pt.locs, Pt.cells, Pt.slots] at X11 l11 y11 z11 st11 hQ11
        subst l11 y11 z11
        obtain ⟨rfl, N11q, e11⟩ := hQ11
        have N11 := Fr.app N0 N11q
        refine OEnds.via (fun _ k => st11.trans k) ?_
        show OEnds p e below s _ _ _ (T11.setTop (mkF m 58 #[.val (.int p0), .val (.int (p0 &&& (3 : Int32))), .val (.ref a_EXPSUM), .val (.int (1 : Int32))] [(.int (1 : Int32))]))
        refine OEnds.via (fun _ k => XS.iloadN X11.here hx rfl (hb hby at_58) rfl k) ?_
        show OEnds p e below s _ _ _ (T11.setTop (mkF m 59 #[.val (.int p0), .val (.int (p0 &&& (3 : Int32))), .val (.ref a_EXPSUM), .val (.int (1 : Int32))] [(.int (1 : Int32)), (.int (1 : Int32))]))
        refine OEnds.via (fun _ k => XS.icmpNo X11.here hx rfl (hb hby at_59) rfl (teq (rfl : (1 : Int32) = (1 : Int32))).2 k) ?_
        show OEnds p e below s _ _ _ (T11.setTop (mkF m 62 #[.val (.int p0), .val (.int (p0 &&& (3 : Int32))), .val (.ref a_EXPSUM), .val (.int (1 : Int32))] []))
        refine OEnds.via (fun _ k => XS.iconst X11.here hx rfl (hb hby at_62) k) ?_
        show OEnds p e below s _ _ _ (T11.setTop (mkF m 63 #[.val (.int p0), .val (.int (p0 &&& (3 : Int32))), .val (.ref a_EXPSUM), .val (.int (1 : Int32))] [(.int (1 : Int32))]))
        refine OEnds.via (fun _ k => XS.goto X11.here hx rfl (pc0 := 63) (pc' := 67) rfl (hb hby at_63) (by decide) (by decide) k) ?_
        show OEnds p e below s _ _ _ (T11.setTop (mkF m 67 #[.val (.int p0), .val (.int (p0 &&& (3 : Int32))), .val (.ref a_EXPSUM), .val (.int (1 : Int32))] [(.int (1 : Int32))]))
        refine OEnds.retN X11 hx hlk (t := .boolean) Bd.returns (by simp) (hb hby at_67) ?_ (by decide) (by decide)
        exact ⟨rfl, N11⟩
set_option maxRecDepth 65536 in
set_option maxHeartbeats 40000000 in
theorem comes_1 {Post : Tables → Env → Array Value → State → Outcome → State → Prop} (hpost : ∀ tb e args s v u, (limb_1_1.after args s (.returned v) u = true ∧ limb_1_2.after args s (.returned v) u = true ∧ True) → FrameEnd s (.returned v) u (Jvm.fieldLocs frame_1_writes args s ++ Jvm.arrayLocs frame_1_arrays args s ++ Jvm.staticLocs frame_1_statics s) 0 0 → Post tb e args s (.returned v) u) :
    ArmFor flags0 classFile x code maxLocals ret World_1 tables_1 room_1 Calls_1 rest_1 Pre_1 Post := by
  intro l hfl _ _ p e ha hc hk s m args below hf hA hF happ hP
  obtain ⟨hcalls, hrest, hpre⟩ := hP
  obtain ⟨-, -, -, hnamed, -, -, -, hat⟩ := (Spec.applies_iff hf).mp happ
  obtain ⟨hg, hn⟩ := and_e (Cond.before_iff.mp (show (Jvm.Cond.and given_1 narrow_1).before args s = true from hpre))
  obtain ⟨g1, g2⟩ := and_e hg
  obtain ⟨w0, rfl⟩ : ∃ w0 : Value, args = #[w0] := by
    have hs : args.size = 1 := by simpa [Cond.value, given_1] using g1
    obtain ⟨L⟩ := args
    match L, hs with
    | [w0], _ => exact ⟨w0, rfl⟩
  have hw := fun d (hd : d ∈ tables_1) => atoms_spec (ws := Jvm.Cond.code x code maxLocals ret :: tables_1) hat d (List.mem_cons_of_mem _ hd)
  have hfit : Fit s := fun {y c} hc i hi => by
    obtain ⟨ha, rfl⟩ := Array.getElem?_eq_some_iff.mp hc
    have q := List.all_eq_true.mp ((Array.all_eq_true_iff_forall_mem.mp hF) _ (Array.getElem_mem ha)) i (List.mem_range.mpr hi)
    simpa [Array.getElem?_eq_getElem hi] using q
  obtain ⟨i0, ei0⟩ := is_v g2
  obtain rfl : w0 = (.int i0) := Option.some.inj ei0
  obtain ⟨g3, g4⟩ := and_e hn
  obtain ⟨g5, g6⟩ := and_e g4
  obtain ⟨g7, g8⟩ := and_e g6
  obtain ⟨g9, g10⟩ := and_e g8
  obtain ⟨g11, g12⟩ := and_e g10
  obtain ⟨g13, g14⟩ := and_e g12
  obtain ⟨g15, g16⟩ := and_e g14
  obtain ⟨a_CONCAT, ev_a_CONCAT⟩ := exa_v g3
  have S_a_CONCAT : Sta s s.heap "com/example/charttop/charttop/search/VisitScore" "CONCAT" "Lcom/example/charttop/charttop/search/VisitScore;" (.ref a_CONCAT) := Sta.start ev_a_CONCAT (Or.inr ⟨(hw _ (List.mem_of_getElem? (i := 1) rfl)), (hw _ (List.mem_of_getElem? (i := 2) rfl))⟩)
  have E_a_CONCAT : Exa s s.heap a_CONCAT "com/example/charttop/charttop/search/VisitScore" := Exa.start ev_a_CONCAT g3
  obtain ⟨a_EXPSUM, ev_a_EXPSUM⟩ := exa_v g5
  have S_a_EXPSUM : Sta s s.heap "com/example/charttop/charttop/search/VisitScore" "EXPSUM" "Lcom/example/charttop/charttop/search/VisitScore;" (.ref a_EXPSUM) := Sta.start ev_a_EXPSUM (Or.inr ⟨(hw _ (List.mem_of_getElem? (i := 1) rfl)), (hw _ (List.mem_of_getElem? (i := 10) rfl))⟩)
  have E_a_EXPSUM : Exa s s.heap a_EXPSUM "com/example/charttop/charttop/search/VisitScore" := Exa.start ev_a_EXPSUM g5
  obtain ⟨a_SUM, ev_a_SUM⟩ := exa_v g11
  have S_a_SUM : Sta s s.heap "com/example/charttop/charttop/search/VisitScore" "SUM" "Lcom/example/charttop/charttop/search/VisitScore;" (.ref a_SUM) := Sta.start ev_a_SUM (Or.inr ⟨(hw _ (List.mem_of_getElem? (i := 1) rfl)), (hw _ (List.mem_of_getElem? (i := 12) rfl))⟩)
  have E_a_SUM : Exa s s.heap a_SUM "com/example/charttop/charttop/search/VisitScore" := Exa.start ev_a_SUM g11
  obtain ⟨a_MAX, ev_a_MAX⟩ := exa_v g15
  have S_a_MAX : Sta s s.heap "com/example/charttop/charttop/search/VisitScore" "MAX" "Lcom/example/charttop/charttop/search/VisitScore;" (.ref a_MAX) := Sta.start ev_a_MAX (Or.inr ⟨(hw _ (List.mem_of_getElem? (i := 1) rfl)), (hw _ (List.mem_of_getElem? (i := 14) rfl))⟩)
  have E_a_MAX : Exa s s.heap a_MAX "com/example/charttop/charttop/search/VisitScore" := Exa.start ev_a_MAX g15
  have F_ordinal_a_EXPSUM : Fld s s.heap a_EXPSUM "java/lang/Enum" "ordinal" "I" (.int (3 : Int32)) := Fld.start ((fld_at ev_a_EXPSUM).symm.trans (own_eqint g7))
  have F_ordinal_a_CONCAT : Fld s s.heap a_CONCAT "java/lang/Enum" "ordinal" "I" (.int (0 : Int32)) := Fld.start ((fld_at ev_a_CONCAT).symm.trans (own_eqint g9))
  have F_ordinal_a_SUM : Fld s s.heap a_SUM "java/lang/Enum" "ordinal" "I" (.int (2 : Int32)) := Fld.start ((fld_at ev_a_SUM).symm.trans (own_eqint g13))
  have F_ordinal_a_MAX : Fld s s.heap a_MAX "java/lang/Enum" "ordinal" "I" (.int (1 : Int32)) := Fld.start ((fld_at ev_a_MAX).symm.trans (own_eqint g16))
  have ne_MAX : a_MAX ≠ a_CONCAT := Fld.ne F_ordinal_a_MAX F_ordinal_a_CONCAT (by decide)
  have ne_SUM : a_SUM ≠ a_CONCAT := Fld.ne F_ordinal_a_SUM F_ordinal_a_CONCAT (by decide)
  have ne_EXPSUM : a_EXPSUM ≠ a_CONCAT := Fld.ne F_ordinal_a_EXPSUM F_ordinal_a_CONCAT (by decide)
  obtain ⟨n, o, h1, h2, h3, _, L, rfl, ⟨rfl, N⟩, hq⟩ := rm0 l s _ hw tables_1 i0 a_CONCAT a_MAX a_SUM a_EXPSUM s.heap s.heap.size (Old.start s) S_a_CONCAT S_a_MAX S_a_SUM S_a_EXPSUM E_a_CONCAT E_a_MAX E_a_SUM E_a_EXPSUM ne_MAX ne_SUM ne_EXPSUM p e ha hc hk s m _ below hf ((Spec.applies_iff_loose hf).mp happ).1 ⟨rfl, State.Warmed39.refl s, rfl⟩ trivial
  refine ⟨n, _, h1, h2, h3, hpost _ _ _ _ _ _ ⟨Cond.after_iff.mpr rfl, Cond.after_iff.mpr (eq_i res_at (Term.int_eval (1)) rfl), trivial⟩ ⟨hq.1, hq.2.1, (hq.2.2.sift fun y hy => Or.inr (N y hy)).mono (by decide) (by decide)⟩⟩
theorem main_1_1 : Claimed_1_1 := comes_1 fun _ _ _ _ _ _ h hF => ⟨h.1, hF⟩
theorem main_1_2 : Claimed_1_2 := comes_1 fun _ _ _ _ _ _ h hF => ⟨h.2.1, hF⟩
end Jvm.Pilot.@@N@@
namespace Jvm.Pilot.@@N@@
open Jvm Jvm.ClassFile Sem Op Lib Jvm.Free Jvm.Stand Jvm.Pilot.@@N@@.Jvm.D
/-! MADE BY PROGRAM (witnessworld.py) out of the Statement's table words and the real class files: 12 classes; the members and pool entries that the words name. The judged class is class 1, her method 1. -/
namespace start1
open Jvm.ClassFile
def u (s : String) : CpInfo := .utf8 (stringToUtf16 s)
/-- a pool by its gaps: so many unusable entries, then the entry; so many at the end -/
def gap : Nat → List CpInfo → List CpInfo
  | 0, r => r
  | n + 1, r => .unusable :: gap n r
def poolList (es : List (Nat × CpInfo)) (last : Nat) : List CpInfo := es.foldr (fun e r => gap e.1 (e.2 :: r)) (gap last [])
def pool (es : List (Nat × CpInfo)) (last : Nat) : Array CpInfo := ⟨poolList es last⟩
def fileOf (pool : Array CpInfo) (this : Nat) (attrs : Array Attribute := #[]) (ms : Array MethodInfo := #[]) (fl : Nat := 33) (sup : Nat := 0) (ifs : Array Nat := #[]) (fds : Array FieldInfo := #[]) : ClassFile where
  minorVersion := 0
  majorVersion := 65
  constantPool := pool
  accessFlags := fl
  thisClass := this
  superClass := sup
  interfaces := ifs
  fields := fds
  methods := ms
  attributes := attrs
def plain (name : String) (sup : Option ClassId) : Class where
  name := name
  kind := .ordinary
  loader := none
  accessFlags := 33
  super := sup
  interfaces := #[]
  cf := none
  fields := #[]
  methods := #[]
  instanceTypes := #[]
  staticTypes := #[]
  resolved := #[]
  callSites := []
  init := .initialized
  statics := none
  mirror := none

def pool0 : Array CpInfo := pool [(5, u "<init>"), (0, u "()V"), (1, .class_ 10), (1, u "java/lang/Object")] 113

def k0m0 : Method := { name := "<init>", desc := "()V", sig := { parameters := [], returnType := none }, accessFlags := 1, code := none }
/-- java/lang/Object -/
def k0 : Class := { plain "java/lang/Object" none with
  accessFlags := 33
  interfaces := #[]
  cf := some (fileOf pool0 8 #[] #[{ accessFlags := 1, nameIndex := 5, descriptorIndex := 6, attributes := #[] }] 33 0 #[] #[])
  fields := #[]
  methods := #[k0m0]
  instanceTypes := #[]
  staticTypes := #[]
  resolved := Array.replicate 124 none
  statics := none }

def pool1 : Array CpInfo := pool [(2, .class_ 4), (1, u "java/lang/Object"), (0, u "<init>"), (0, u "()V"), (0, .fieldref 8 9), (0, .class_ 10), (0, .nameAndType 11 12), (0, u "com/example/charttop/charttop/search/VisitScore"), (0, u "CONCAT"), (0, u "Lcom/example/charttop/charttop/search/VisitScore;"), (0, .fieldref 8 14), (0, .nameAndType 15 12), (0, u "MAX"), (0, .fieldref 8 17), (0, .nameAndType 18 12), (0, u "SUM"), (0, .fieldref 8 20), (0, .nameAndType 21 12), (0, u "EXPSUM"), (0, .methodref 8 23), (0, .nameAndType 24 25), (0, u "byReports"), (0, u "()Z"), (0, .class_ 27), (0, u "com/example/charttop/charttop/search/VisitScoreByReportsPinLaw"), (2, u "law"), (0, u "(I)Z")] 3

def k1m0 : Method := { name := "<init>", desc := "()V", sig := { parameters := [], returnType := none }, accessFlags := 1, code := none }
def k1c1 : Code := { maxStack := 2, maxLocals := 4, code := code, exceptionTable := #[], attributes := #[] }
def k1m1 : Method := { name := "law", desc := "(I)Z", sig := { parameters := [.int], returnType := some .boolean }, accessFlags := 9, code := some k1c1 }
/-- com/example/charttop/charttop/search/VisitScoreByReportsPinLaw -/
def k1 : Class := { plain "com/example/charttop/charttop/search/VisitScoreByReportsPinLaw" (some 0) with
  accessFlags := 49
  interfaces := #[]
  cf := some (fileOf pool1 26 #[] #[{ accessFlags := 1, nameIndex := 5, descriptorIndex := 6, attributes := #[] }, { accessFlags := 9, nameIndex := 30, descriptorIndex := 31, attributes := #[] }] 49 2 #[] #[])
  fields := #[]
  methods := #[k1m0, k1m1]
  instanceTypes := #[]
  staticTypes := #[]
  resolved := Array.replicate 35 none
  statics := none }

def pool2 : Array CpInfo := pool [(1, .class_ 2), (0, u "java/lang/constant/Constable"), (0, .class_ 4), (0, u "java/lang/Object")] 6

/-- java/lang/constant/Constable -/
def k2 : Class := { plain "java/lang/constant/Constable" (some 0) with
  accessFlags := 1537
  interfaces := #[]
  cf := some (fileOf pool2 1 #[] #[] 1537 3 #[] #[])
  fields := #[]
  methods := #[]
  instanceTypes := #[]
  staticTypes := #[]
  resolved := Array.replicate 11 none
  statics := none }

def pool3 : Array CpInfo := pool [(1, .class_ 2), (0, u "java/lang/Comparable"), (0, .class_ 4), (0, u "java/lang/Object")] 7

/-- java/lang/Comparable -/
def k3 : Class := { plain "java/lang/Comparable" (some 0) with
  accessFlags := 1537
  interfaces := #[]
  cf := some (fileOf pool3 1 #[] #[] 1537 3 #[] #[])
  fields := #[]
  methods := #[]
  instanceTypes := #[]
  staticTypes := #[]
  resolved := Array.replicate 12 none
  statics := none }

def pool4 : Array CpInfo := pool [(1, .class_ 2), (0, u "java/io/Serializable"), (0, .class_ 4), (0, u "java/lang/Object")] 2

/-- java/io/Serializable -/
def k4 : Class := { plain "java/io/Serializable" (some 0) with
  accessFlags := 1537
  interfaces := #[]
  cf := some (fileOf pool4 1 #[] #[] 1537 3 #[] #[])
  fields := #[]
  methods := #[]
  instanceTypes := #[]
  staticTypes := #[]
  resolved := Array.replicate 7 none
  statics := none }

def pool5 : Array CpInfo := pool [(2, .class_ 4), (1, u "java/lang/Enum"), (0, u "name"), (0, u "Ljava/lang/String;"), (2, u "ordinal"), (0, u "I"), (1, .class_ 14), (1, u "java/lang/Object"), (4, u "hash"), (86, .class_ 108), (1, u "java/lang/Enum$EnumDesc"), (2, .class_ 112), (0, u "java/lang/constant/Constable"), (0, .class_ 114), (0, u "java/lang/Comparable"), (0, .class_ 116), (0, u "java/io/Serializable")] 87

/-- java/lang/Enum -/
def k5 : Class := { plain "java/lang/Enum" (some 0) with
  accessFlags := 1057
  interfaces := #[2, 3, 4]
  cf := some (fileOf pool5 2 #[.nestMembers #[106]] #[] 1057 12 #[111, 113, 115] #[{ accessFlags := 18, nameIndex := 5, descriptorIndex := 6, attributes := #[] }, { accessFlags := 18, nameIndex := 9, descriptorIndex := 10, attributes := #[] }, { accessFlags := 2, nameIndex := 19, descriptorIndex := 10, attributes := #[] }])
  fields := #[{ name := "name", type := (.object "java/lang/String"), accessFlags := 18, slot := 0, constantValue := 0 }, { name := "ordinal", type := .int, accessFlags := 18, slot := 1, constantValue := 0 }, { name := "hash", type := .int, accessFlags := 2, slot := 2, constantValue := 0 }]
  methods := #[]
  instanceTypes := #[(.object "java/lang/String"), .int, .int]
  staticTypes := #[]
  resolved := Array.replicate 204 none
  statics := none }

def pool6 : Array CpInfo := pool [(1, .class_ 2), (0, u "com/example/charttop/charttop/search/VisitScore"), (0, .fieldref 1 4), (0, .nameAndType 5 6), (0, u "CONCAT"), (0, u "Lcom/example/charttop/charttop/search/VisitScore;"), (2, u "MAX"), (2, u "SUM"), (2, u "EXPSUM"), (2, u "$VALUES"), (0, u "[Lcom/example/charttop/charttop/search/VisitScore;"), (6, .class_ 28), (1, u "java/lang/Enum"), (8, u "label"), (0, u "Ljava/lang/String;"), (35, u "()Z"), (63, u "LARGEST_EXPONENT"), (0, u "D"), (10, u "byReports")] 10

def k6c0 : Code := { maxStack := 2, maxLocals := 1, code := prog_60_method_5_code, exceptionTable := #[], attributes := #[] }
def k6m0 : Method := { name := "byReports", desc := "()Z", sig := { parameters := [], returnType := some .boolean }, accessFlags := 0, code := some k6c0 }
/-- com/example/charttop/charttop/search/VisitScore -/
def k6 : Class := { plain "com/example/charttop/charttop/search/VisitScore" (some 5) with
  accessFlags := 16433
  interfaces := #[]
  cf := some (fileOf pool6 1 #[] #[{ accessFlags := 0, nameIndex := 150, descriptorIndex := 74, attributes := #[] }] 16433 26 #[] #[{ accessFlags := 16409, nameIndex := 5, descriptorIndex := 6, attributes := #[] }, { accessFlags := 16409, nameIndex := 9, descriptorIndex := 6, attributes := #[] }, { accessFlags := 16409, nameIndex := 12, descriptorIndex := 6, attributes := #[] }, { accessFlags := 16409, nameIndex := 15, descriptorIndex := 6, attributes := #[] }, { accessFlags := 26, nameIndex := 138, descriptorIndex := 139, attributes := #[] }, { accessFlags := 18, nameIndex := 37, descriptorIndex := 38, attributes := #[] }, { accessFlags := 4122, nameIndex := 18, descriptorIndex := 19, attributes := #[] }])
  fields := #[{ name := "CONCAT", type := (.object "com/example/charttop/charttop/search/VisitScore"), accessFlags := 16409, slot := 0, constantValue := 0 }, { name := "MAX", type := (.object "com/example/charttop/charttop/search/VisitScore"), accessFlags := 16409, slot := 1, constantValue := 0 }, { name := "SUM", type := (.object "com/example/charttop/charttop/search/VisitScore"), accessFlags := 16409, slot := 2, constantValue := 0 }, { name := "EXPSUM", type := (.object "com/example/charttop/charttop/search/VisitScore"), accessFlags := 16409, slot := 3, constantValue := 0 }, { name := "LARGEST_EXPONENT", type := .double, accessFlags := 26, slot := 4, constantValue := 0 }, { name := "label", type := (.object "java/lang/String"), accessFlags := 18, slot := 3, constantValue := 0 }, { name := "$VALUES", type := (.array (.object "com/example/charttop/charttop/search/VisitScore")), accessFlags := 4122, slot := 5, constantValue := 0 }]
  methods := #[k6m0]
  instanceTypes := #[(.object "java/lang/String"), .int, .int, (.object "java/lang/String")]
  staticTypes := #[(.object "com/example/charttop/charttop/search/VisitScore"), (.object "com/example/charttop/charttop/search/VisitScore"), (.object "com/example/charttop/charttop/search/VisitScore"), (.object "com/example/charttop/charttop/search/VisitScore"), .double, (.array (.object "com/example/charttop/charttop/search/VisitScore"))]
  resolved := Array.replicate 161 none
  statics := some 0 }

def pool7 : Array CpInfo := pool [(1, u "java/lang/Cloneable"), (0, .class_ 1), (0, u "java/lang/Object"), (0, .class_ 3)] 3

/-- java/lang/Cloneable -/
def k7 : Class := { plain "java/lang/Cloneable" (some 0) with
  accessFlags := 1537
  interfaces := #[]
  cf := some (fileOf pool7 2 #[] #[] 1537 4 #[] #[])
  fields := #[]
  methods := #[]
  instanceTypes := #[]
  staticTypes := #[]
  resolved := Array.replicate 8 none
  statics := none }

/-- the primitive byte -/
def k8 : Class := { plain "byte" none with kind := .primitive 'B', accessFlags := 0x411 }
/-- [B -/
def k9 : Class := { plain "[B" (some 0) with kind := .array 8 .byte, interfaces := #[7, 4], accessFlags := 1041 }

/-- the primitive int -/
def k10 : Class := { plain "int" none with kind := .primitive 'I', accessFlags := 0x411 }
/-- [I -/
def k11 : Class := { plain "[I" (some 0) with kind := .array 10 .int, interfaces := #[7, 4], accessFlags := 1041 }

def heap : Heap := #[{ cls := 6, slots := #[.ref 1, .ref 2, .ref 3, .ref 4, .double 0, .null], vm := .statics 6 },
  { cls := 6, slots := #[.null, .int 0, .int 0, .null], vm := .none },
  { cls := 6, slots := #[.null, .int 1, .int 0, .null], vm := .none },
  { cls := 6, slots := #[.null, .int 2, .int 0, .null], vm := .none },
  { cls := 6, slots := #[.null, .int 3, .int 0, .null], vm := .none }]
def classes : Array Class := #[k0, k1, k2, k3, k4, k5, k6, k7, k8, k9, k10, k11]
def interned : List (Array UInt16 × Addr) := []
def slotsUsed : Nat := 22
def theMethod : MethodId := ⟨1, 1⟩
def args0 : Array Value := #[.int 5]
def aboutOver (below : List Frame) : State where
  vm := { classes := classes, interned := interned.toArray }
  heap := heap
  slotsUsed := slotsUsed
  threads := #[{ frames := .invoking theMethod args0 :: below }]
def below0 : List Frame := [.native { method := ⟨0, 0⟩, args := #[] }]
def about1 : State := aboutOver below0
def p0 : Program := .bare "" "" ""
def e0 : Env := launch0.env 0 0 0
theorem w_frames : about1.frames = Frame.invoking theMethod args0 :: below0 := rfl
set_option maxRecDepth 65536 in
theorem w_args : argsFit about1.vm theMethod args0 = true := by decide +kernel
set_option maxRecDepth 65536 in
theorem w_heap : heapFits about1 = true := by decide +kernel
set_option maxRecDepth 65536 in
theorem w_runnable : about1.curStatus? = some .runnable := by decide +kernel
set_option maxRecDepth 65536 in
theorem w_alone : about1.alone = true := by decide +kernel
set_option maxRecDepth 65536 in
theorem w_named : about1.methodNamed? x = some theMethod := by decide +kernel
set_option maxRecDepth 65536 in
theorem w_hears : about1.hears theMethod below0 = true := by decide +kernel
set_option maxRecDepth 65536 in
theorem w_ripe : about1.ripe theMethod args0 below0 = true := by decide +kernel
theorem w_running : about1.status = .running := rfl
set_option maxRecDepth 65536 in
theorem w_room : about1.hasRoom e0.platform room_1 = true :=
  launch0.hasRoom_least _ room_1 (by decide +kernel) (by decide +kernel) (by decide +kernel) (by decide +kernel) (by decide +kernel) (by decide +kernel)
theorem allAtoms_all (ts : List Jvm.Cond) (a : Array Jvm.Value) (st : Jvm.State) : (allAtoms ts).before a st = ts.all (fun c => c.before a st) := by
  induction ts with
  | nil => rfl
  | cons c t ih =>
    show (Jvm.Cond.and c (allAtoms t)).before a st = _
    rw [Jvm.Cond.before_and, ih, List.all_cons]
def words1 : List Jvm.Cond := Jvm.Cond.code x code maxLocals ret :: tables_1
/-- a 'code' word, met by the world's own term for the bytes: nothing is compared byte by byte -/
theorem code_word {y : MethodName} {bytes : ByteArray} {mx : Nat} {rt : Option FieldType} {a : Array Value} {s : State} {m : MethodId} {meth : Method} {c : Code} (h1 : s.methodNamed? y = some m) (h2 : s.vm.method? m = some meth) (h3 : meth.code = some c) (h4 : c.code = bytes)
    (h5 : (c.maxLocals == mx && c.exceptionTable.isEmpty && decide (c.maxStack ≤ mostOperands) && decide (meth.sig.returnType = rt) && !meth.locks && decide (parseMethodDescriptor y.desc = some meth.sig)) = true) : (Jvm.Cond.code y bytes mx rt).before a s = true := by
  simp only [Bool.and_eq_true, beq_iff_eq, Bool.not_eq_true', decide_eq_true_eq] at h5
  obtain ⟨⟨⟨⟨⟨g1, g2⟩, g3⟩, g4⟩, g5⟩, g6⟩ := h5
  simp [Cond.before, Cond.holds, Cond.value, h1, h2, h3, h4, g1, g2, g3, g4, g5, g6]
def isCode : Jvm.Cond → Bool
  | .code _ _ _ _ => true
  | _ => false
theorem all_split {L : List Jvm.Cond} {P : Jvm.Cond → Bool} (h1 : L.all (fun c => isCode c || P c) = true) (h2 : ∀ c ∈ L.filter isCode, P c = true) : L.all P = true := by
  refine List.all_eq_true.mpr fun c hc => ?_
  have h := List.all_eq_true.mp h1 c hc
  rcases Bool.eq_false_or_eq_true (isCode c) with hi | hi
  · exact h2 c (List.mem_filter.mpr ⟨hc, hi⟩)
  · simpa [hi] using h
set_option maxRecDepth 65536 in
theorem w_c0 : (Jvm.Cond.code x code maxLocals ret).before args0 about1 = true := code_word (m := ⟨1, 1⟩) (meth := k1m1) (c := k1c1) (by decide +kernel) rfl rfl rfl (by decide +kernel)
set_option maxRecDepth 65536 in
theorem w_c1 : (Jvm.Cond.code ({ cls := "com/example/charttop/charttop/search/VisitScore", name := "byReports", desc := "()Z" } : Jvm.MethodName) prog_60_method_5_code (1 : Nat) (Option.some Jvm.ClassFile.FieldType.boolean)).before args0 about1 = true := code_word (m := ⟨6, 0⟩) (meth := k6m0) (c := k6c0) (by decide +kernel) rfl rfl rfl (by decide +kernel)
def codes1 : List Jvm.Cond := [Jvm.Cond.code x code maxLocals ret, Jvm.Cond.code ({ cls := "com/example/charttop/charttop/search/VisitScore", name := "byReports", desc := "()Z" } : Jvm.MethodName) prog_60_method_5_code (1 : Nat) (Option.some Jvm.ClassFile.FieldType.boolean)]
set_option maxRecDepth 65536 in
theorem codes_eq : words1.filter isCode = codes1 := rfl
theorem w_codes : ∀ c ∈ words1.filter isCode, c.before args0 about1 = true := by
  rw [codes_eq]
  intro c hc
  simp only [codes1, List.mem_cons, List.not_mem_nil, or_false] at hc
  rcases hc with rfl | rfl
  · exact w_c0
  · exact w_c1
set_option maxRecDepth 65536 in
theorem w_t1 : words1.all (fun c => isCode c || c.before args0 about1) = true := by decide +kernel
theorem w_tables : (allAtoms (Jvm.Cond.code x code maxLocals ret :: tables_1)).before args0 about1 = true := by
  rw [allAtoms_all]
  show words1.all (fun c => c.before args0 about1) = true
  refine all_split ?_ w_codes
  rw [w_t1]
set_option maxRecDepth 65536 in
theorem w_case : (Jvm.Cond.and given_1 narrow_1).before args0 about1 = true := by decide +kernel
theorem w_applies : (headSpec (Jvm.Cond.code x code maxLocals ret :: tables_1) room_1).applies x e0.platform about1 = true :=
  (Spec.applies_iff w_frames).mpr ⟨w_running, w_runnable, w_alone, w_named, w_hears, w_ripe, w_room, w_tables⟩
theorem atStart : AtStart classFile x code maxLocals ret World_1 tables_1 room_1 Calls_1 rest_1 Pre_1 launch0 p0 e0 about1 theMethod args0 below0 :=
  ⟨lists_1, trivial, launch0.admits_env _ _ _, launch0.least_env, fairChoices_fair.cas, fairChoices_fair.clock, w_frames, w_args, w_heap, w_applies, trivial, trivial, w_case⟩
end start1
theorem witness_1 : WitnessClaimed_1 := ⟨start1.p0, start1.e0, start1.about1, start1.theMethod, start1.args0, start1.below0, start1.atStart⟩
end Jvm.Pilot.@@N@@
