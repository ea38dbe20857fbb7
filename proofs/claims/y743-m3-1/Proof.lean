import JvmDerived
import JvmDerived.Pilot.@@N@@Statement
import JvmDerived.Pilot.@@N@@Code
set_option linter.unusedVariables false
set_option linter.unusedSimpArgs false
namespace Jvm.RoadKit
open Sem ClassFile Op Lib Jvm.Stand Jvm.Free Jvm.LawKit
section OwnKit
variable {p : Program} {l : Launch} {e : Env} {R : Room} {s : State} {m : MethodId} {args : Array Value} {below : List Frame} {meth : Method} {c : Code} {T : State} {locs : List Loc} {cells slots : Nat} {rc rs : Nat} {Q : Option Value → Heap → List Loc → Prop} {S S' : State}
/-- from S on the invocation ends, it returns, and Q holds of what it returns, of the heap and of the places written -/
def OEnds (p : Program) (e : Env) (below : List Frame) (s : State) (rc rs : Nat) (Q : Option Value → Heap → List Loc → Prop) (S : State) : Prop :=
  ∃ s₂ o, Steps p.tables e below S s₂ ∧ s₂.status = .running ∧ Ended s₂ below o ∧ ∃ v L, o = .returned v ∧ Q v s₂.heap L ∧ FrameEnd s o s₂ L rc rs
theorem OEnds.via (h : ∀ t, Steps p.tables e below S' t → Steps p.tables e below S t) (k : OEnds p e below s rc rs Q S') : OEnds p e below s rc rs Q S := by
  obtain ⟨t, o, h1, r⟩ := k
  exact ⟨t, o, h _ h1, r⟩
theorem OEnds.retN (X : Stand p l e R s m args below meth c T locs cells slots) (hx : p.tables.exec = Jvm.exec) (hlk : meth.locks = false) {pc : Nat} {Ls : Array Slot} {z : Int32} {t : FieldType} {rest : List Value} (hret : meth.sig.returnType = some t) (ht : t = .boolean ∨ t = .byte ∨ t = .char ∨ t = .short)
    (hd : decode c.code pc = .ok (.ireturn, 1)) (q : Q (some (.int (nar t z))) T.heap locs) (hc : cells ≤ rc) (hs : slots ≤ rs) : OEnds p e below s rc rs Q (T.setTop (mkF m pc Ls (.int z :: rest))) := by
  obtain ⟨fs, hr, hrun, hended, hW, hsame⟩ := X.leave (v := some (.int (nar t z))) (fun h => by rw [hret] at h; cases h) hlk
  exact ⟨_, _, Jvm.RoadKit.retN X hx hret ht hd hr, hrun, hended, _, _, rfl, q, ⟨_, rfl⟩, hW, hsame.mono hc hs⟩
theorem OEnds.retI (X : Stand p l e R s m args below meth c T locs cells slots) (hx : p.tables.exec = Jvm.exec) (hlk : meth.locks = false) {pc : Nat} {Ls : Array Slot} {z : Int32} {rest : List Value} (hret : meth.sig.returnType = some .int)
    (hd : decode c.code pc = .ok (.ireturn, 1)) (q : Q (some (.int z)) T.heap locs) (hc : cells ≤ rc) (hs : slots ≤ rs) : OEnds p e below s rc rs Q (T.setTop (mkF m pc Ls (.int z :: rest))) := by
  obtain ⟨fs, hr, hrun, hended, hW, hsame⟩ := X.leave (v := some (.int z)) (fun h => by rw [hret] at h; cases h) hlk
  exact ⟨_, _, retOut X hx hret rfl (Or.inl ⟨rfl, Or.inl rfl, z, rfl⟩) hd hr, hrun, hended, _, _, rfl, q, ⟨_, rfl⟩, hW, hsame.mono hc hs⟩
theorem OEnds.retJ (X : Stand p l e R s m args below meth c T locs cells slots) (hx : p.tables.exec = Jvm.exec) (hlk : meth.locks = false) {pc : Nat} {Ls : Array Slot} {z : Int64} {rest : List Value} (hret : meth.sig.returnType = some .long)
    (hd : decode c.code pc = .ok (.lreturn, 1)) (q : Q (some (.long z)) T.heap locs) (hc : cells ≤ rc) (hs : slots ≤ rs) : OEnds p e below s rc rs Q (T.setTop (mkF m pc Ls (.long z :: rest))) := by
  obtain ⟨fs, hr, hrun, hended, hW, hsame⟩ := X.leave (v := some (.long z)) (fun h => by rw [hret] at h; cases h) hlk
  exact ⟨_, _, retOut X hx hret rfl (Or.inr (Or.inl ⟨rfl, rfl, z, rfl⟩)) hd hr, hrun, hended, _, _, rfl, q, ⟨_, rfl⟩, hW, hsame.mono hc hs⟩
theorem OEnds.retR (X : Stand p l e R s m args below meth c T locs cells slots) (hx : p.tables.exec = Jvm.exec) (hlk : meth.locks = false) {pc : Nat} {Ls : Array Slot} {w : Value} {t : FieldType} {rest : List Value} (hret : meth.sig.returnType = some t) (ht : t.isReference = true) (hw : w.isRef = true)
    (hd : decode c.code pc = .ok (.areturn, 1)) (q : Q (some w) T.heap locs) (hc : cells ≤ rc) (hs : slots ≤ rs) : OEnds p e below s rc rs Q (T.setTop (mkF m pc Ls (w :: rest))) := by
  obtain ⟨fs, hr, hrun, hended, hW, hsame⟩ := X.leave (v := some w) (fun h => by rw [hret] at h; cases h) hlk
  have hn : narrow t w = w := by rcases ref_cases hw with rfl | ⟨a, rfl⟩ <;> cases t <;> rfl
  exact ⟨_, _, retOut X hx hret hn (Or.inr (Or.inr (Or.inr (Or.inr ⟨rfl, ht, hw⟩)))) hd hr, hrun, hended, _, _, rfl, q, ⟨_, rfl⟩, hW, hsame.mono hc hs⟩
theorem OEnds.retV (X : Stand p l e R s m args below meth c T locs cells slots) (hx : p.tables.exec = Jvm.exec) (hlk : meth.locks = false) {pc : Nat} {Ls : Array Slot} (hret : meth.sig.returnType = none)
    (hd : decode c.code pc = .ok (.return_, 1)) (q : Q none T.heap locs) (hc : cells ≤ rc) (hs : slots ≤ rs) : OEnds p e below s rc rs Q (T.setTop (mkF m pc Ls [])) := by
  obtain ⟨fs, hr, hrun, hended, hW, hsame⟩ := X.leave (v := none) (fun _ => rfl) hlk
  exact ⟨_, _, X.returnOut hx hret hd hr, hrun, hended, _, _, rfl, q, ⟨_, rfl⟩, hW, hsame.mono hc hs⟩
/-- the call answers r, writes nothing that was there, makes nothing -/
def QA (r : Option Value) (h0 : Heap) (n0 : Nat) : Option Value → Heap → List Loc → Prop := fun v h L => v = r ∧ Fr n0 L ∧ h = h0
/-- the law's own answer -/
def QL (n0 : Nat) : Option Value → Heap → List Loc → Prop := fun v _ L => v = some (.int 1) ∧ Fr n0 L
theorem own_lc0 (x : Int64) : lcmpW x x = 0 := by rw [lcW]; exact (lc_eq _ _).mpr rfl
theorem own_lcpos {x y : Int64} (h : y < x) : 0 < lcmpW x y := by rw [lcW]; exact (lc_gt _ _).mpr h
theorem own_lcnpos {x y : Int64} (h : ¬ y < x) : ¬ 0 < lcmpW x y := by rw [lcW]; exact fun q => h ((lc_gt _ _).mp q)
theorem own_narrow {t : String} {w : Value} (h : w.isRef = true) : narrow (.object t) w = w := by rcases ref_cases h with rfl | ⟨_, rfl⟩ <;> rfl
theorem own_fits {t : String} {w : Value} (h : w.isRef = true) : fits (.object t) w = true := by rcases ref_cases h with rfl | ⟨_, rfl⟩ <;> rfl
end OwnKit
section OwnWords
variable {args : Array Value} {s : State} {t u : Term} {a : Addr} {cl : Cell} {ty : FieldType} {j k : Int32}
theorem own_eqint (h : (Jvm.Cond.eq t (.int k)).value args s none s [] = some true) : t.eval args s none [] s = some (.int k) := by
  obtain ⟨x, y, e1, e2, -, k2⟩ := cmp_v (Or.inl h)
  obtain rfl : Value.int k = y := Option.some.inj ((Term.int_eval k).symm.trans e2)
  obtain ⟨z, rfl⟩ : ∃ z, x = .int z := k2
  have q := gotT (Cond.eq_ints e1 (Term.int_eval k)) h
  rw [e1, q]
theorem own_len (h : (Jvm.Cond.eq (.length t) (.int k)).value args s none s [] = some true) (ev : t.eval args s none [] s = some (.ref a)) (A : Arr s s.heap a cl ty) : cl.slots.size < 2 ^ 31 ∧ cl.slots.size.toInt32 = k := by
  have e1 := own_eqint h
  have e2 : s.arrayAt? a = some cl := A.fin (Vm.Alike.refl _)
  have e3 : cl.slots.size < 2 ^ 31 := by
    refine Classical.byContradiction fun q => ?_
    simp [Term.eval, ev, e2, q] at e1
  have e4 := len_f ev e2 e3
  rw [e1] at e4
  exact ⟨e3, (Value.int.inj (Option.some.inj e4)).symm⟩
theorem own_elem (h : (Jvm.Cond.eq (.elem t (.int j)) (.int k)).value args s none s [] = some true) (ev : t.eval args s none [] s = some (.ref a)) (A : Arr s s.heap a cl ty) : cl.slots[j.toNatClampNeg]? = some (.int k) :=
  (elem_in (own_eqint h) ev (Term.int_eval j) A.1).2
theorem own_eqref (h : (Jvm.Cond.eq t u).value args s none s [] = some true) (eu : u.eval args s none [] s = some (.ref a)) : t.eval args s none [] s = some (.ref a) := by
  obtain ⟨x, y, e1, e2, -, k2⟩ := cmp_v (Or.inl h)
  obtain rfl : Value.ref a = y := Option.some.inj (eu.symm.trans e2)
  have hx : x.isRef = true := k2.2
  have q := gotT (eq_R e1 eu hx rfl) h
  rw [e1, q]
theorem own_elemR (h : (Jvm.Cond.eq (.elem t (.int j)) u).value args s none s [] = some true) {b : Addr} (eu : u.eval args s none [] s = some (.ref b)) (ev : t.eval args s none [] s = some (.ref a)) (A : Arr s s.heap a cl ty) : cl.slots[j.toNatClampNeg]? = some (.ref b) :=
  (elem_in (own_eqref h eu) ev (Term.int_eval j) A.1).2
end OwnWords
end Jvm.RoadKit
@@BLOCK:NumsL.lean.txt@@
namespace Jvm.Pilot.@@N@@
open Jvm Jvm.ClassFile Sem Op Lib Jvm.Free Jvm.Stand Jvm.LawKit Jvm.RoadKit Bundle Jvm.Pilot.@@N@@.Jvm.D
def own_pk (s : Int32) : Int32 := if (s &&& (3 : Int32)) = (0 : Int32) then -17 else if (s &&& (3 : Int32)) = (1 : Int32) then -69 else if (s &&& (3 : Int32)) = (2 : Int32) then -65 else nar .byte ((s >>> ((2 : Int32) &&& 31)).toInt8.toInt32)
def own_mm (x y z : Int32) : Int32 := if x = (-17 : Int32) then if y = (-69 : Int32) then if z = (-65 : Int32) then -1 else 2 else 1 else 0
def own_eq (x y z : Int32) : Int32 := if own_mm x y z < (0 : Int32) then 1 else 0
def own_bom (x y z : Int32) : Int32 := if own_eq x y z = (0 : Int32) then 0 else 3
theorem own_o (off : Int32) : ¬ ((off &&& (2147483647 : Int32)) % (7 : Int32)) < (0 : Int32) ∧ ((off &&& (2147483647 : Int32)) % (7 : Int32)).toInt ≤ 6 ∧ 0 ≤ ((off &&& (2147483647 : Int32)) % (7 : Int32)).toInt := by
  have e1 : (off &&& (2147483647 : Int32)).toInt = off.toInt % 2 ^ 31 := Jvm.Kit.i32_mask off _ (k := 31) (by decide) (by decide)
  have e2 : ((off &&& (2147483647 : Int32)) % (7 : Int32)).toInt = (off &&& (2147483647 : Int32)).toInt % (7 : Int32).toInt := Jvm.Kit.i32_rem_nonneg (by omega)
  have e3 : (7 : Int32).toInt = 7 := rfl
  have e4 : (0 : Int32).toInt = 0 := rfl
  rw [Int32.lt_iff_toInt_lt, e4, e2, e3]
  omega
theorem own_sub7 {o : Int32} (h1 : o.toInt ≤ 6) (h2 : 0 ≤ o.toInt) : ((7 : Int32) - o).toInt = 7 - o.toInt := by
  have e3 : (7 : Int32).toInt = 7 := rfl
  rw [Jvm.Kit.i32_sub (by omega) (by omega), e3]
theorem own_n7 {o : Int32} (h1 : o.toInt ≤ 6) (h2 : 0 ≤ o.toInt) : ((7 : Int32) - o) ≠ 0 := fun q => by
  have e := own_sub7 h1 h2
  rw [q, show (0 : Int32).toInt = 0 from rfl] at e
  omega
theorem own_room {o len : Int32} (h1 : o.toInt ≤ 6) (h2 : 0 ≤ o.toInt) (h : ¬ ((len &&& (2147483647 : Int32)) % ((7 : Int32) - o)) < (3 : Int32)) : o.toInt ≤ 3 := by
  have e := own_sub7 h1 h2
  have e1 : (len &&& (2147483647 : Int32)).toInt = len.toInt % 2 ^ 31 := Jvm.Kit.i32_mask len _ (k := 31) (by decide) (by decide)
  have e2 : ((len &&& (2147483647 : Int32)) % ((7 : Int32) - o)).toInt = (len &&& (2147483647 : Int32)).toInt % ((7 : Int32) - o).toInt := Jvm.Kit.i32_rem_nonneg (by omega)
  rw [Int32.lt_iff_toInt_lt, e2, e, show (3 : Int32).toInt = 3 from rfl] at h
  have := Int.emod_lt_of_pos (len &&& (2147483647 : Int32)).toInt (b := 7 - o.toInt) (by omega)
  omega
theorem own_add {o : Int32} (k : Int32) (h1 : o.toInt ≤ 3) (h2 : 0 ≤ o.toInt) (h3 : 0 ≤ k.toInt) (h4 : k.toInt ≤ 3) : (o + k).toInt = o.toInt + k.toInt := Jvm.Kit.i32_add (by omega) (by omega)
theorem own_in {o : Int32} (k : Int32) (h1 : o.toInt ≤ 3) (h2 : 0 ≤ o.toInt) (h3 : 0 ≤ k.toInt) (h4 : k.toInt ≤ 2) : ¬ (o + k) < (0 : Int32) ∧ (o + k) < (6 : Int32) := by
  have e := own_add k h1 h2 h3 (by omega)
  rw [Int32.lt_iff_toInt_lt, Int32.lt_iff_toInt_lt, e, show (0 : Int32).toInt = 0 from rfl, show (6 : Int32).toInt = 6 from rfl]
  omega
theorem own_has {c : Cell} {vs : List Value} {d : Int32} (H : Has c vs (.int d)) (hv : ∀ v ∈ vs, ∃ x, v = .int x) (k : Nat) (hk : k < c.slots.size) : ∃ x, c.slots[k]? = some (.int x) := by
  rw [H k hk, List.getD_eq_getElem?_getD]
  by_cases q : k < vs.length
  · obtain ⟨x, e⟩ := hv _ (List.getElem_mem q)
    exact ⟨x, by rw [List.getElem?_eq_getElem q, Option.getD_some, e]⟩
  · exact ⟨d, by rw [List.getElem?_eq_none (Nat.le_of_not_lt q), Option.getD_none]⟩
theorem own_rc {o : Int32} (h1 : o.toInt ≤ 3) (h2 : 0 ≤ o.toInt) : ¬ (o + (3 : Int32)) < o ∧ ¬ o < (0 : Int32) ∧ ¬ (6 : Int32) < (o + (3 : Int32)) := by
  have e := own_add (3 : Int32) h1 h2 (by decide) (by decide)
  rw [Int32.lt_iff_toInt_lt, Int32.lt_iff_toInt_lt, Int32.lt_iff_toInt_lt, e, show (0 : Int32).toInt = 0 from rfl, show (6 : Int32).toInt = 6 from rfl, show (3 : Int32).toInt = 3 from rfl]
  omega
theorem own_back (o : Int32) : (o + (3 : Int32)) - o = (3 : Int32) := by
  rw [← Int32.toBitVec_inj, Int32.toBitVec_sub, Int32.toBitVec_add]
  rw [BitVec.add_comm]
  exact BitVec.add_sub_cancel _ _
theorem d1_0 : decode method_2_code 0 = .ok (.iload_n 0, 1) := by decide +kernel
theorem d1_1 : decode method_2_code 1 = .ok (.iconst 3, 1) := by decide +kernel
theorem d1_2 : decode method_2_code 2 = .ok (.iand, 1) := by decide +kernel
theorem d1_3 : decode method_2_code 3 = .ok (.istore_n 1, 1) := by decide +kernel
theorem d1_4 : decode method_2_code 4 = .ok (.iload_n 1, 1) := by decide +kernel
theorem d1_5 : decode method_2_code 5 = .ok (.ifCond .ne 6, 3) := by decide +kernel
theorem d1_8 : decode method_2_code 8 = .ok (.bipush (-17), 2) := by decide +kernel
theorem d1_10 : decode method_2_code 10 = .ok (.ireturn, 1) := by decide +kernel
theorem d1_11 : decode method_2_code 11 = .ok (.iload_n 1, 1) := by decide +kernel
theorem d1_12 : decode method_2_code 12 = .ok (.iconst 1, 1) := by decide +kernel
theorem d1_13 : decode method_2_code 13 = .ok (.if_icmp .ne 6, 3) := by decide +kernel
theorem d1_16 : decode method_2_code 16 = .ok (.bipush (-69), 2) := by decide +kernel
theorem d1_18 : decode method_2_code 18 = .ok (.ireturn, 1) := by decide +kernel
theorem d1_19 : decode method_2_code 19 = .ok (.iload_n 1, 1) := by decide +kernel
theorem d1_20 : decode method_2_code 20 = .ok (.iconst 2, 1) := by decide +kernel
theorem d1_21 : decode method_2_code 21 = .ok (.if_icmp .ne 6, 3) := by decide +kernel
theorem d1_24 : decode method_2_code 24 = .ok (.bipush (-65), 2) := by decide +kernel
theorem d1_26 : decode method_2_code 26 = .ok (.ireturn, 1) := by decide +kernel
theorem d1_27 : decode method_2_code 27 = .ok (.iload_n 0, 1) := by decide +kernel
theorem d1_28 : decode method_2_code 28 = .ok (.iconst 2, 1) := by decide +kernel
theorem d1_29 : decode method_2_code 29 = .ok (.ishr, 1) := by decide +kernel
theorem d1_30 : decode method_2_code 30 = .ok (.i2b, 1) := by decide +kernel
theorem d1_31 : decode method_2_code 31 = .ok (.ireturn, 1) := by decide +kernel
theorem pn_com_example_odds3_odds3_engine_Utf8ByteOrderMarkLengthPinLaw : plainName "com/example/odds3/odds3/engine/Utf8ByteOrderMarkLengthPinLaw" = true := by first | (simp [plainName, overriddenIn]; done) | decide +kernel
set_option maxRecDepth 65536 in
set_option maxHeartbeats 40000000 in
theorem rmP (l : Launch) (Z : State) (a0 : Array Value) (hw : ∀ d ∈ tables_1, d.before a0 Z = true) (ws : List Jvm.Cond) (s0 : Int32) (h0 : Heap) (n0 : Nat) (O0 : Old Z n0 h0) :
    MetFree l (⟨"com/example/odds3/odds3/engine/Utf8ByteOrderMarkLengthPinLaw", "pick", "(I)B"⟩ : MethodName) (head1 (Jvm.Cond.code (⟨"com/example/odds3/odds3/engine/Utf8ByteOrderMarkLengthPinLaw", "pick", "(I)B"⟩ : MethodName) method_2_code 2 (some .byte) :: ws) ({ frames := 0, cells := 0, slots := 0, locals := 0 } : Room)) (fun ar' U => ar' = #[(.int s0)] ∧ Z.Warmed39 U.vm ∧ U.heap = h0) (fun _ _ _ _ _ => True) (fun _ U o U' => ∃ v L, o = .returned v ∧ (QA (some (.int (own_pk s0))) h0 n0) v U'.heap L ∧ FrameEnd U o U' L ({ frames := 0, cells := 0, slots := 0, locals := 0 } : Room).cells ({ frames := 0, cells := 0, slots := 0, locals := 0 } : Room).slots) := by
  refine MetFree.of_bodySF (plainFor_of_name pn_com_example_odds3_odds3_engine_Utf8ByteOrderMarkLengthPinLaw) hisR ?_
  intro p e s m args below meth c s₁ Bd hml0 hP hK
  obtain ⟨rfl, hZ, hh⟩ := hP
  have hx := Bd.exec
  have hby := Bd.bytes
  have hlk := BodyLoose.notSynchronized Bd
  have hml : c.maxLocals = 2 := hml0
  have hown : s.vm.findClass "com/example/odds3/odds3/engine/Utf8ByteOrderMarkLengthPinLaw" = some m.cls := findClass_of_methodNamed Bd.named
  have hnm := (name_of_methodNamed Bd.named Bd.method).1
  have X0 : Stand p l e ({ frames := 0, cells := 0, slots := 0, locals := 0 } : Room) s m #[(.int s0)] below meth c s₁ [] 0 0 := Stand.of_body Bd
  have e0 : s₁.heap = h0 := by rw [← hh, Bd.state]; rfl
  have N0 := Fr.nil n0
  have Z0 : n0 ≤ h0.size := O0.1 ▸ O0.2.1
  show OEnds p e below s ({ frames := 0, cells := 0, slots := 0, locals := 0 } : Room).cells ({ frames := 0, cells := 0, slots := 0, locals := 0 } : Room).slots (QA (some (.int (own_pk s0))) h0 n0) (s₁.setTop (entryFrame m #[(.int s0)] 2))
  refine OEnds.via (fun _ k => castTop (show entryFrame m #[(.int s0)] 2 = (mkF m 0 #[.val (.int s0), .unset] []) by first | (simp [entryFrame, mkF, argsToLocals, Value.category, maxLocals]; done) | rfl) k) ?_
  refine OEnds.via (fun _ k => XS.iloadN X0.here hx rfl (hb hby d1_0) rfl k) ?_
  show OEnds p e below s _ _ _ (s₁.setTop (mkF m 1 #[.val (.int s0), .unset] [(.int s0)]))
  refine OEnds.via (fun _ k => XS.iconst X0.here hx rfl (hb hby d1_1) k) ?_
  show OEnds p e below s _ _ _ (s₁.setTop (mkF m 2 #[.val (.int s0), .unset] [(.int (3 : Int32)), (.int s0)]))
  refine OEnds.via (fun _ k => XS.iand X0.here hx rfl (hb hby d1_2) rfl k) ?_
  show OEnds p e below s _ _ _ (s₁.setTop (mkF m 3 #[.val (.int s0), .unset] [(.int (s0 &&& (3 : Int32)))]))
  refine OEnds.via (fun _ k => XS.istoreN X0.here hx rfl (hb hby d1_3) rfl (l' := #[.val (.int s0), .val (.int (s0 &&& (3 : Int32)))]) rfl k) ?_
  show OEnds p e below s _ _ _ (s₁.setTop (mkF m 4 #[.val (.int s0), .val (.int (s0 &&& (3 : Int32)))] []))
  refine OEnds.via (fun _ k => XS.iloadN X0.here hx rfl (hb hby d1_4) rfl k) ?_
  show OEnds p e below s _ _ _ (s₁.setTop (mkF m 5 #[.val (.int s0), .val (.int (s0 &&& (3 : Int32)))] [(.int (s0 &&& (3 : Int32)))]))
  by_cases hc5_0 : (s0 &&& (3 : Int32)) = (0 : Int32)
  · skip
    refine OEnds.via (fun _ k => XS.ifNo X0.here hx rfl (hb hby d1_5) rfl ((if0 _ _).trans (teq hc5_0).2) k) ?_
    show OEnds p e below s _ _ _ (s₁.setTop (mkF m 8 #[.val (.int s0), .val (.int (s0 &&& (3 : Int32)))] []))
    refine OEnds.via (fun _ k => XS.bipush X0.here hx rfl (hb hby d1_8) k) ?_
    show OEnds p e below s _ _ _ (s₁.setTop (mkF m 10 #[.val (.int s0), .val (.int (s0 &&& (3 : Int32)))] [(.int (-17 : Int32))]))
    refine OEnds.retN X0 hx hlk (t := .byte) Bd.returns (by simp) (hb hby d1_10) ?_ (by decide) (by decide)
    exact ⟨by simp only [own_pk, if_pos hc5_0]; first | done | rfl | decide, N0, e0⟩
  · skip
    refine OEnds.via (fun _ k => XS.ifYes X0.here hx rfl (pc0 := 5) (pc' := 11) rfl (hb hby d1_5) rfl ((if0 _ _).trans (feq hc5_0).2) (by decide) (by decide) k) ?_
    show OEnds p e below s _ _ _ (s₁.setTop (mkF m 11 #[.val (.int s0), .val (.int (s0 &&& (3 : Int32)))] []))
    refine OEnds.via (fun _ k => XS.iloadN X0.here hx rfl (hb hby d1_11) rfl k) ?_
    show OEnds p e below s _ _ _ (s₁.setTop (mkF m 12 #[.val (.int s0), .val (.int (s0 &&& (3 : Int32)))] [(.int (s0 &&& (3 : Int32)))]))
    refine OEnds.via (fun _ k => XS.iconst X0.here hx rfl (hb hby d1_12) k) ?_
    show OEnds p e below s _ _ _ (s₁.setTop (mkF m 13 #[.val (.int s0), .val (.int (s0 &&& (3 : Int32)))] [(.int (1 : Int32)), (.int (s0 &&& (3 : Int32)))]))
    by_cases hc13_1 : (s0 &&& (3 : Int32)) = (1 : Int32)
    · skip
      refine OEnds.via (fun _ k => XS.icmpNo X0.here hx rfl (hb hby d1_13) rfl (teq hc13_1).2 k) ?_
      show OEnds p e below s _ _ _ (s₁.setTop (mkF m 16 #[.val (.int s0), .val (.int (s0 &&& (3 : Int32)))] []))
      refine OEnds.via (fun _ k => XS.bipush X0.here hx rfl (hb hby d1_16) k) ?_
      show OEnds p e below s _ _ _ (s₁.setTop (mkF m 18 #[.val (.int s0), .val (.int (s0 &&& (3 : Int32)))] [(.int (-69 : Int32))]))
      refine OEnds.retN X0 hx hlk (t := .byte) Bd.returns (by simp) (hb hby d1_18) ?_ (by decide) (by decide)
      exact ⟨by simp only [own_pk, if_neg hc5_0, if_pos hc13_1]; first | done | rfl | decide, N0, e0⟩
    · skip
      refine OEnds.via (fun _ k => XS.icmpYes X0.here hx rfl (pc0 := 13) (pc' := 19) rfl (hb hby d1_13) rfl (feq hc13_1).2 (by decide) (by decide) k) ?_
      show OEnds p e below s _ _ _ (s₁.setTop (mkF m 19 #[.val (.int s0), .val (.int (s0 &&& (3 : Int32)))] []))
      refine OEnds.via (fun _ k => XS.iloadN X0.here hx rfl (hb hby d1_19) rfl k) ?_
      show OEnds p e below s _ _ _ (s₁.setTop (mkF m 20 #[.val (.int s0), .val (.int (s0 &&& (3 : Int32)))] [(.int (s0 &&& (3 : Int32)))]))
      refine OEnds.via (fun _ k => XS.iconst X0.here hx rfl (hb hby d1_20) k) ?_
      show OEnds p e below s _ _ _ (s₁.setTop (mkF m 21 #[.val (.int s0), .val (.int (s0 &&& (3 : Int32)))] [(.int (2 : Int32)), (.int (s0 &&& (3 : Int32)))]))
      by_cases hc21_2 : (s0 &&& (3 : Int32)) = (2 : Int32)
      · skip
        refine OEnds.via (fun _ k => XS.icmpNo X0.here hx rfl (hb hby d1_21) rfl (teq hc21_2).2 k) ?_
        show OEnds p e below s _ _ _ (s₁.setTop (mkF m 24 #[.val (.int s0), .val (.int (s0 &&& (3 : Int32)))] []))
        refine OEnds.via (fun _ k => XS.bipush X0.here hx rfl (hb hby d1_24) k) ?_
        show OEnds p e below s _ _ _ (s₁.setTop (mkF m 26 #[.val (.int s0), .val (.int (s0 &&& (3 : Int32)))] [(.int (-65 : Int32))]))
        refine OEnds.retN X0 hx hlk (t := .byte) Bd.returns (by simp) (hb hby d1_26) ?_ (by decide) (by decide)
        exact ⟨by simp only [own_pk, if_neg hc5_0, if_neg hc13_1, if_pos hc21_2]; first | done | rfl | decide, N0, e0⟩
      · skip
        refine OEnds.via (fun _ k => XS.icmpYes X0.here hx rfl (pc0 := 21) (pc' := 27) rfl (hb hby d1_21) rfl (feq hc21_2).2 (by decide) (by decide) k) ?_
        show OEnds p e below s _ _ _ (s₁.setTop (mkF m 27 #[.val (.int s0), .val (.int (s0 &&& (3 : Int32)))] []))
        refine OEnds.via (fun _ k => XS.iloadN X0.here hx rfl (hb hby d1_27) rfl k) ?_
        show OEnds p e below s _ _ _ (s₁.setTop (mkF m 28 #[.val (.int s0), .val (.int (s0 &&& (3 : Int32)))] [(.int s0)]))
        refine OEnds.via (fun _ k => XS.iconst X0.here hx rfl (hb hby d1_28) k) ?_
        show OEnds p e below s _ _ _ (s₁.setTop (mkF m 29 #[.val (.int s0), .val (.int (s0 &&& (3 : Int32)))] [(.int (2 : Int32)), (.int s0)]))
        refine OEnds.via (fun _ k => XS.ishr X0.here hx rfl (hb hby d1_29) rfl k) ?_
        show OEnds p e below s _ _ _ (s₁.setTop (mkF m 30 #[.val (.int s0), .val (.int (s0 &&& (3 : Int32)))] [(.int (s0 >>> ((2 : Int32) &&& 31)))]))
        refine OEnds.via (fun _ k => XS.i2b X0.here hx rfl (hb hby d1_30) rfl k) ?_
        show OEnds p e below s _ _ _ (s₁.setTop (mkF m 31 #[.val (.int s0), .val (.int (s0 &&& (3 : Int32)))] [(.int ((s0 >>> ((2 : Int32) &&& 31)).toInt8.toInt32))]))
        refine OEnds.retN X0 hx hlk (t := .byte) Bd.returns (by simp) (hb hby d1_31) ?_ (by decide) (by decide)
        exact ⟨by simp only [own_pk, if_neg hc5_0, if_neg hc13_1, if_neg hc21_2]; first | done | rfl | decide, N0, e0⟩
theorem d4_0 : decode jdk_65_method_30_code 0 = .ok (.iload_n 1, 1) := by decide +kernel
theorem d4_1 : decode jdk_65_method_30_code 1 = .ok (.iload_n 2, 1) := by decide +kernel
theorem d4_2 : decode jdk_65_method_30_code 2 = .ok (.if_icmp .le 44, 3) := by decide +kernel
theorem d4_5 : decode jdk_65_method_30_code 5 = .ok (.new 43, 3) := by decide +kernel
theorem d4_8 : decode jdk_65_method_30_code 8 = .ok (.dup, 1) := by decide +kernel
theorem d4_9 : decode jdk_65_method_30_code 9 = .ok (.new 45, 3) := by decide +kernel
theorem d4_12 : decode jdk_65_method_30_code 12 = .ok (.dup, 1) := by decide +kernel
theorem d4_13 : decode jdk_65_method_30_code 13 = .ok (.invokespecial 47, 3) := by decide +kernel
theorem d4_16 : decode jdk_65_method_30_code 16 = .ok (.ldc 48, 2) := by decide +kernel
theorem d4_18 : decode jdk_65_method_30_code 18 = .ok (.invokevirtual 50, 3) := by decide +kernel
theorem d4_21 : decode jdk_65_method_30_code 21 = .ok (.iload_n 1, 1) := by decide +kernel
theorem d4_22 : decode jdk_65_method_30_code 22 = .ok (.invokevirtual 54, 3) := by decide +kernel
theorem d4_25 : decode jdk_65_method_30_code 25 = .ok (.ldc 57, 2) := by decide +kernel
theorem d4_27 : decode jdk_65_method_30_code 27 = .ok (.invokevirtual 50, 3) := by decide +kernel
theorem d4_30 : decode jdk_65_method_30_code 30 = .ok (.iload_n 2, 1) := by decide +kernel
theorem d4_31 : decode jdk_65_method_30_code 31 = .ok (.invokevirtual 54, 3) := by decide +kernel
theorem d4_34 : decode jdk_65_method_30_code 34 = .ok (.ldc 59, 2) := by decide +kernel
theorem d4_36 : decode jdk_65_method_30_code 36 = .ok (.invokevirtual 50, 3) := by decide +kernel
theorem d4_39 : decode jdk_65_method_30_code 39 = .ok (.invokevirtual 61, 3) := by decide +kernel
theorem d4_42 : decode jdk_65_method_30_code 42 = .ok (.invokespecial 65, 3) := by decide +kernel
theorem d4_45 : decode jdk_65_method_30_code 45 = .ok (.athrow, 1) := by decide +kernel
theorem d4_46 : decode jdk_65_method_30_code 46 = .ok (.iload_n 1, 1) := by decide +kernel
theorem d4_47 : decode jdk_65_method_30_code 47 = .ok (.ifCond .ge 12, 3) := by decide +kernel
theorem d4_50 : decode jdk_65_method_30_code 50 = .ok (.new 68, 3) := by decide +kernel
theorem d4_53 : decode jdk_65_method_30_code 53 = .ok (.dup, 1) := by decide +kernel
theorem d4_54 : decode jdk_65_method_30_code 54 = .ok (.iload_n 1, 1) := by decide +kernel
theorem d4_55 : decode jdk_65_method_30_code 55 = .ok (.invokespecial 70, 3) := by decide +kernel
theorem d4_58 : decode jdk_65_method_30_code 58 = .ok (.athrow, 1) := by decide +kernel
theorem d4_59 : decode jdk_65_method_30_code 59 = .ok (.iload_n 2, 1) := by decide +kernel
theorem d4_60 : decode jdk_65_method_30_code 60 = .ok (.iload_n 0, 1) := by decide +kernel
theorem d4_61 : decode jdk_65_method_30_code 61 = .ok (.if_icmp .le 12, 3) := by decide +kernel
theorem d4_64 : decode jdk_65_method_30_code 64 = .ok (.new 68, 3) := by decide +kernel
theorem d4_67 : decode jdk_65_method_30_code 67 = .ok (.dup, 1) := by decide +kernel
theorem d4_68 : decode jdk_65_method_30_code 68 = .ok (.iload_n 2, 1) := by decide +kernel
theorem d4_69 : decode jdk_65_method_30_code 69 = .ok (.invokespecial 70, 3) := by decide +kernel
theorem d4_72 : decode jdk_65_method_30_code 72 = .ok (.athrow, 1) := by decide +kernel
theorem d4_73 : decode jdk_65_method_30_code 73 = .ok (.return_, 1) := by decide +kernel
theorem pn_java_util_Arrays : plainName "java/util/Arrays" = true := by first | (simp [plainName, overriddenIn]; done) | decide +kernel
set_option maxRecDepth 65536 in
set_option maxHeartbeats 40000000 in
theorem rmR (l : Launch) (Z : State) (a0 : Array Value) (hw : ∀ d ∈ tables_1, d.before a0 Z = true) (ws : List Jvm.Cond) (n : Int32) (a : Int32) (b : Int32) (h0 : Heap) (n0 : Nat) (O0 : Old Z n0 h0) (h1 : ¬ b < a) (h2 : ¬ a < (0 : Int32)) (h3 : ¬ n < b) :
    MetFree l (⟨"java/util/Arrays", "rangeCheck", "(III)V"⟩ : MethodName) (head1 (Jvm.Cond.code (⟨"java/util/Arrays", "rangeCheck", "(III)V"⟩ : MethodName) jdk_65_method_30_code 3 none :: ws) ({ frames := 0, cells := 0, slots := 0, locals := 0 } : Room)) (fun ar' U => ar' = #[(.int n), (.int a), (.int b)] ∧ Z.Warmed39 U.vm ∧ U.heap = h0) (fun _ _ _ _ _ => True) (fun _ U o U' => ∃ v L, o = .returned v ∧ (QA none h0 n0) v U'.heap L ∧ FrameEnd U o U' L ({ frames := 0, cells := 0, slots := 0, locals := 0 } : Room).cells ({ frames := 0, cells := 0, slots := 0, locals := 0 } : Room).slots) := by
  refine MetFree.of_bodySF (plainFor_of_name pn_java_util_Arrays) hisR ?_
  intro p e s m args below meth c s₁ Bd hml0 hP hK
  obtain ⟨rfl, hZ, hh⟩ := hP
  have hx := Bd.exec
  have hby := Bd.bytes
  have hlk := BodyLoose.notSynchronized Bd
  have hml : c.maxLocals = 3 := hml0
  have hown : s.vm.findClass "java/util/Arrays" = some m.cls := findClass_of_methodNamed Bd.named
  have hnm := (name_of_methodNamed Bd.named Bd.method).1
  have X0 : Stand p l e ({ frames := 0, cells := 0, slots := 0, locals := 0 } : Room) s m #[(.int n), (.int a), (.int b)] below meth c s₁ [] 0 0 := Stand.of_body Bd
  have e0 : s₁.heap = h0 := by rw [← hh, Bd.state]; rfl
  have N0 := Fr.nil n0
  have Z0 : n0 ≤ h0.size := O0.1 ▸ O0.2.1
  show OEnds p e below s ({ frames := 0, cells := 0, slots := 0, locals := 0 } : Room).cells ({ frames := 0, cells := 0, slots := 0, locals := 0 } : Room).slots (QA none h0 n0) (s₁.setTop (entryFrame m #[(.int n), (.int a), (.int b)] 3))
  refine OEnds.via (fun _ k => castTop (show entryFrame m #[(.int n), (.int a), (.int b)] 3 = (mkF m 0 #[.val (.int n), .val (.int a), .val (.int b)] []) by first | (simp [entryFrame, mkF, argsToLocals, Value.category, maxLocals]; done) | rfl) k) ?_
  refine OEnds.via (fun _ k => XS.iloadN X0.here hx rfl (hb hby d4_0) rfl k) ?_
  show OEnds p e below s _ _ _ (s₁.setTop (mkF m 1 #[.val (.int n), .val (.int a), .val (.int b)] [(.int a)]))
  refine OEnds.via (fun _ k => XS.iloadN X0.here hx rfl (hb hby d4_1) rfl k) ?_
  show OEnds p e below s _ _ _ (s₁.setTop (mkF m 2 #[.val (.int n), .val (.int a), .val (.int b)] [(.int b), (.int a)]))
  refine OEnds.via (fun _ k => XS.icmpYes X0.here hx rfl (pc0 := 2) (pc' := 46) rfl (hb hby d4_2) rfl (flt h1).2.2.2 (by decide) (by decide) k) ?_
  show OEnds p e below s _ _ _ (s₁.setTop (mkF m 46 #[.val (.int n), .val (.int a), .val (.int b)] []))
  refine OEnds.via (fun _ k => XS.iloadN X0.here hx rfl (hb hby d4_46) rfl k) ?_
  show OEnds p e below s _ _ _ (s₁.setTop (mkF m 47 #[.val (.int n), .val (.int a), .val (.int b)] [(.int a)]))
  refine OEnds.via (fun _ k => XS.ifYes X0.here hx rfl (pc0 := 47) (pc' := 59) rfl (hb hby d4_47) rfl ((if0 _ _).trans (flt h2).2.1) (by decide) (by decide) k) ?_
  show OEnds p e below s _ _ _ (s₁.setTop (mkF m 59 #[.val (.int n), .val (.int a), .val (.int b)] []))
  refine OEnds.via (fun _ k => XS.iloadN X0.here hx rfl (hb hby d4_59) rfl k) ?_
  show OEnds p e below s _ _ _ (s₁.setTop (mkF m 60 #[.val (.int n), .val (.int a), .val (.int b)] [(.int b)]))
  refine OEnds.via (fun _ k => XS.iloadN X0.here hx rfl (hb hby d4_60) rfl k) ?_
  show OEnds p e below s _ _ _ (s₁.setTop (mkF m 61 #[.val (.int n), .val (.int a), .val (.int b)] [(.int n), (.int b)]))
  refine OEnds.via (fun _ k => XS.icmpYes X0.here hx rfl (pc0 := 61) (pc' := 73) rfl (hb hby d4_61) rfl (flt h3).2.2.2 (by decide) (by decide) k) ?_
  show OEnds p e below s _ _ _ (s₁.setTop (mkF m 73 #[.val (.int n), .val (.int a), .val (.int b)] []))
  refine OEnds.retV X0 hx hlk Bd.returns (hb hby d4_73) ?_ (by decide) (by decide)
  exact ⟨rfl, N0, e0⟩
theorem d5_0 : decode jdk_48_method_14_code 0 = .ok (.iconst 0, 1) := by decide +kernel
theorem d5_1 : decode jdk_48_method_14_code 1 = .ok (.istore 5, 2) := by decide +kernel
theorem d5_3 : decode jdk_48_method_14_code 3 = .ok (.iload 4, 2) := by decide +kernel
theorem d5_5 : decode jdk_48_method_14_code 5 = .ok (.bipush 7, 2) := by decide +kernel
theorem d5_7 : decode jdk_48_method_14_code 7 = .ok (.if_icmp .le 63, 3) := by decide +kernel
theorem d5_10 : decode jdk_48_method_14_code 10 = .ok (.aload_n 0, 1) := by decide +kernel
theorem d5_11 : decode jdk_48_method_14_code 11 = .ok (.iload_n 1, 1) := by decide +kernel
theorem d5_12 : decode jdk_48_method_14_code 12 = .ok (.baload, 1) := by decide +kernel
theorem d5_13 : decode jdk_48_method_14_code 13 = .ok (.aload_n 2, 1) := by decide +kernel
theorem d5_14 : decode jdk_48_method_14_code 14 = .ok (.iload_n 3, 1) := by decide +kernel
theorem d5_15 : decode jdk_48_method_14_code 15 = .ok (.baload, 1) := by decide +kernel
theorem d5_16 : decode jdk_48_method_14_code 16 = .ok (.if_icmp .eq 5, 3) := by decide +kernel
theorem d5_19 : decode jdk_48_method_14_code 19 = .ok (.iconst 0, 1) := by decide +kernel
theorem d5_20 : decode jdk_48_method_14_code 20 = .ok (.ireturn, 1) := by decide +kernel
theorem d5_21 : decode jdk_48_method_14_code 21 = .ok (.getstatic 126, 3) := by decide +kernel
theorem d5_24 : decode jdk_48_method_14_code 24 = .ok (.iload_n 1, 1) := by decide +kernel
theorem d5_25 : decode jdk_48_method_14_code 25 = .ok (.iadd, 1) := by decide +kernel
theorem d5_26 : decode jdk_48_method_14_code 26 = .ok (.istore 6, 2) := by decide +kernel
theorem d5_28 : decode jdk_48_method_14_code 28 = .ok (.getstatic 126, 3) := by decide +kernel
theorem d5_31 : decode jdk_48_method_14_code 31 = .ok (.iload_n 3, 1) := by decide +kernel
theorem d5_32 : decode jdk_48_method_14_code 32 = .ok (.iadd, 1) := by decide +kernel
theorem d5_33 : decode jdk_48_method_14_code 33 = .ok (.istore 7, 2) := by decide +kernel
theorem d5_35 : decode jdk_48_method_14_code 35 = .ok (.aload_n 0, 1) := by decide +kernel
theorem d5_36 : decode jdk_48_method_14_code 36 = .ok (.iload 6, 2) := by decide +kernel
theorem d5_38 : decode jdk_48_method_14_code 38 = .ok (.i2l, 1) := by decide +kernel
theorem d5_39 : decode jdk_48_method_14_code 39 = .ok (.aload_n 2, 1) := by decide +kernel
theorem d5_40 : decode jdk_48_method_14_code 40 = .ok (.iload 7, 2) := by decide +kernel
theorem d5_42 : decode jdk_48_method_14_code 42 = .ok (.i2l, 1) := by decide +kernel
theorem d5_43 : decode jdk_48_method_14_code 43 = .ok (.iload 4, 2) := by decide +kernel
theorem d5_45 : decode jdk_48_method_14_code 45 = .ok (.getstatic 129, 3) := by decide +kernel
theorem d5_48 : decode jdk_48_method_14_code 48 = .ok (.invokestatic 122, 3) := by decide +kernel
theorem d5_51 : decode jdk_48_method_14_code 51 = .ok (.istore 5, 2) := by decide +kernel
theorem d5_53 : decode jdk_48_method_14_code 53 = .ok (.iload 5, 2) := by decide +kernel
theorem d5_55 : decode jdk_48_method_14_code 55 = .ok (.ifCond .lt 6, 3) := by decide +kernel
theorem d5_58 : decode jdk_48_method_14_code 58 = .ok (.iload 5, 2) := by decide +kernel
theorem d5_60 : decode jdk_48_method_14_code 60 = .ok (.ireturn, 1) := by decide +kernel
theorem d5_61 : decode jdk_48_method_14_code 61 = .ok (.iload 4, 2) := by decide +kernel
theorem d5_63 : decode jdk_48_method_14_code 63 = .ok (.iload 5, 2) := by decide +kernel
theorem d5_65 : decode jdk_48_method_14_code 65 = .ok (.iconst (-1), 1) := by decide +kernel
theorem d5_66 : decode jdk_48_method_14_code 66 = .ok (.ixor, 1) := by decide +kernel
theorem d5_67 : decode jdk_48_method_14_code 67 = .ok (.isub, 1) := by decide +kernel
theorem d5_68 : decode jdk_48_method_14_code 68 = .ok (.istore 5, 2) := by decide +kernel
theorem d5_70 : decode jdk_48_method_14_code 70 = .ok (.iload 5, 2) := by decide +kernel
theorem d5_72 : decode jdk_48_method_14_code 72 = .ok (.iload 4, 2) := by decide +kernel
theorem d5_74 : decode jdk_48_method_14_code 74 = .ok (.if_icmp .ge 27, 3) := by decide +kernel
theorem d5_77 : decode jdk_48_method_14_code 77 = .ok (.aload_n 0, 1) := by decide +kernel
theorem d5_78 : decode jdk_48_method_14_code 78 = .ok (.iload_n 1, 1) := by decide +kernel
theorem d5_79 : decode jdk_48_method_14_code 79 = .ok (.iload 5, 2) := by decide +kernel
theorem d5_81 : decode jdk_48_method_14_code 81 = .ok (.iadd, 1) := by decide +kernel
theorem d5_82 : decode jdk_48_method_14_code 82 = .ok (.baload, 1) := by decide +kernel
theorem d5_83 : decode jdk_48_method_14_code 83 = .ok (.aload_n 2, 1) := by decide +kernel
theorem d5_84 : decode jdk_48_method_14_code 84 = .ok (.iload_n 3, 1) := by decide +kernel
theorem d5_85 : decode jdk_48_method_14_code 85 = .ok (.iload 5, 2) := by decide +kernel
theorem d5_87 : decode jdk_48_method_14_code 87 = .ok (.iadd, 1) := by decide +kernel
theorem d5_88 : decode jdk_48_method_14_code 88 = .ok (.baload, 1) := by decide +kernel
theorem d5_89 : decode jdk_48_method_14_code 89 = .ok (.if_icmp .eq 6, 3) := by decide +kernel
theorem d5_92 : decode jdk_48_method_14_code 92 = .ok (.iload 5, 2) := by decide +kernel
theorem d5_94 : decode jdk_48_method_14_code 94 = .ok (.ireturn, 1) := by decide +kernel
theorem d5_95 : decode jdk_48_method_14_code 95 = .ok (.iinc 5 1, 3) := by decide +kernel
theorem d5_98 : decode jdk_48_method_14_code 98 = .ok (.goto (-28), 3) := by decide +kernel
theorem d5_101 : decode jdk_48_method_14_code 101 = .ok (.iconst (-1), 1) := by decide +kernel
theorem d5_102 : decode jdk_48_method_14_code 102 = .ok (.ireturn, 1) := by decide +kernel
theorem pn_jdk_internal_util_ArraysSupport : plainName "jdk/internal/util/ArraysSupport" = true := by first | (simp [plainName, overriddenIn]; done) | decide +kernel
set_option maxRecDepth 65536 in
set_option maxHeartbeats 40000000 in
theorem rmM (l : Launch) (Z : State) (a0 : Array Value) (hw : ∀ d ∈ tables_1, d.before a0 Z = true) (ws : List Jvm.Cond) (a : Addr) (o : Int32) (bm : Addr) (cl : Cell) (cb : Cell) (x : Int32) (y : Int32) (z : Int32) (h0 : Heap) (n0 : Nat) (O0 : Old Z n0 h0) (Ar : Arr Z h0 a cl .byte) (Ab : Arr Z Z.heap bm cb .byte) (hi0 : ¬ ((o + (0 : Int32)) < 0 ∨ cl.slots.size ≤ ((o + (0 : Int32))).toNatClampNeg)) (hi1 : ¬ ((o + (1 : Int32)) < 0 ∨ cl.slots.size ≤ ((o + (1 : Int32))).toNatClampNeg)) (hi2 : ¬ ((o + (2 : Int32)) < 0 ∨ cl.slots.size ≤ ((o + (2 : Int32))).toNatClampNeg)) (ha0 : cl.slots[((o + (0 : Int32))).toNatClampNeg]? = some (.int x)) (ha1 : cl.slots[((o + (1 : Int32))).toNatClampNeg]? = some (.int y)) (ha2 : cl.slots[((o + (2 : Int32))).toNatClampNeg]? = some (.int z)) (Sb : cb.slots.size = (3 : Int32).toNatClampNeg) (hb0 : cb.slots[((0 : Int32)).toNatClampNeg]? = some (.int (-17 : Int32))) (hb1 : cb.slots[((1 : Int32)).toNatClampNeg]? = some (.int (-69 : Int32))) (hb2 : cb.slots[((2 : Int32)).toNatClampNeg]? = some (.int (-65 : Int32))) :
    MetFree l (⟨"jdk/internal/util/ArraysSupport", "mismatch", "([BI[BII)I"⟩ : MethodName) (head1 (Jvm.Cond.code (⟨"jdk/internal/util/ArraysSupport", "mismatch", "([BI[BII)I"⟩ : MethodName) jdk_48_method_14_code 8 (some .int) :: ws) ({ frames := 0, cells := 0, slots := 0, locals := 0 } : Room)) (fun ar' U => ar' = #[(.ref a), (.int o), (.ref bm), (.int (0 : Int32)), (.int (3 : Int32))] ∧ Z.Warmed39 U.vm ∧ U.heap = h0) (fun _ _ _ _ _ => True) (fun _ U o U' => ∃ v L, o = .returned v ∧ (QA (some (.int (own_mm x y z))) h0 n0) v U'.heap L ∧ FrameEnd U o U' L ({ frames := 0, cells := 0, slots := 0, locals := 0 } : Room).cells ({ frames := 0, cells := 0, slots := 0, locals := 0 } : Room).slots) := by
  refine MetFree.of_bodySF (plainFor_of_name pn_jdk_internal_util_ArraysSupport) hisR ?_
  intro p e s m args below meth c s₁ Bd hml0 hP hK
  obtain ⟨rfl, hZ, hh⟩ := hP
  have hx := Bd.exec
  have hby := Bd.bytes
  have hlk := BodyLoose.notSynchronized Bd
  have hml : c.maxLocals = 8 := hml0
  have hown : s.vm.findClass "jdk/internal/util/ArraysSupport" = some m.cls := findClass_of_methodNamed Bd.named
  have hnm := (name_of_methodNamed Bd.named Bd.method).1
  have X0 : Stand p l e ({ frames := 0, cells := 0, slots := 0, locals := 0 } : Room) s m #[(.ref a), (.int o), (.ref bm), (.int (0 : Int32)), (.int (3 : Int32))] below meth c s₁ [] 0 0 := Stand.of_body Bd
  have e0 : s₁.heap = h0 := by rw [← hh, Bd.state]; rfl
  have N0 := Fr.nil n0
  have Z0 : n0 ≤ h0.size := O0.1 ▸ O0.2.1
  show OEnds p e below s ({ frames := 0, cells := 0, slots := 0, locals := 0 } : Room).cells ({ frames := 0, cells := 0, slots := 0, locals := 0 } : Room).slots (QA (some (.int (own_mm x y z))) h0 n0) (s₁.setTop (entryFrame m #[(.ref a), (.int o), (.ref bm), (.int (0 : Int32)), (.int (3 : Int32))] 8))
  refine OEnds.via (fun _ k => castTop (show entryFrame m #[(.ref a), (.int o), (.ref bm), (.int (0 : Int32)), (.int (3 : Int32))] 8 = (mkF m 0 #[.val (.ref a), .val (.int o), .val (.ref bm), .val (.int (0 : Int32)), .val (.int (3 : Int32)), .unset, .unset, .unset] []) by first | (simp [entryFrame, mkF, argsToLocals, Value.category, maxLocals]; done) | rfl) k) ?_
  refine OEnds.via (fun _ k => XS.iconst X0.here hx rfl (hb hby d5_0) k) ?_
  show OEnds p e below s _ _ _ (s₁.setTop (mkF m 1 #[.val (.ref a), .val (.int o), .val (.ref bm), .val (.int (0 : Int32)), .val (.int (3 : Int32)), .unset, .unset, .unset] [(.int (0 : Int32))]))
  refine OEnds.via (fun _ k => XS.istore X0.here hx rfl (hb hby d5_1) rfl (l' := #[.val (.ref a), .val (.int o), .val (.ref bm), .val (.int (0 : Int32)), .val (.int (3 : Int32)), .val (.int (0 : Int32)), .unset, .unset]) rfl k) ?_
  show OEnds p e below s _ _ _ (s₁.setTop (mkF m 3 #[.val (.ref a), .val (.int o), .val (.ref bm), .val (.int (0 : Int32)), .val (.int (3 : Int32)), .val (.int (0 : Int32)), .unset, .unset] []))
  refine OEnds.via (fun _ k => XS.iload X0.here hx rfl (hb hby d5_3) rfl k) ?_
  show OEnds p e below s _ _ _ (s₁.setTop (mkF m 5 #[.val (.ref a), .val (.int o), .val (.ref bm), .val (.int (0 : Int32)), .val (.int (3 : Int32)), .val (.int (0 : Int32)), .unset, .unset] [(.int (3 : Int32))]))
  refine OEnds.via (fun _ k => XS.bipush X0.here hx rfl (hb hby d5_5) k) ?_
  show OEnds p e below s _ _ _ (s₁.setTop (mkF m 7 #[.val (.ref a), .val (.int o), .val (.ref bm), .val (.int (0 : Int32)), .val (.int (3 : Int32)), .val (.int (0 : Int32)), .unset, .unset] [(.int (7 : Int32)), (.int (3 : Int32))]))
  refine OEnds.via (fun _ k => XS.icmpYes X0.here hx rfl (pc0 := 7) (pc' := 70) rfl (hb hby d5_7) rfl (flt (by decide : ¬ ((7 : Int32) < (3 : Int32)))).2.2.2 (by decide) (by decide) k) ?_
  show OEnds p e below s _ _ _ (s₁.setTop (mkF m 70 #[.val (.ref a), .val (.int o), .val (.ref bm), .val (.int (0 : Int32)), .val (.int (3 : Int32)), .val (.int (0 : Int32)), .unset, .unset] []))
  refine OEnds.via (fun _ k => XS.iload X0.here hx rfl (hb hby d5_70) rfl k) ?_
  show OEnds p e below s _ _ _ (s₁.setTop (mkF m 72 #[.val (.ref a), .val (.int o), .val (.ref bm), .val (.int (0 : Int32)), .val (.int (3 : Int32)), .val (.int (0 : Int32)), .unset, .unset] [(.int (0 : Int32))]))
  refine OEnds.via (fun _ k => XS.iload X0.here hx rfl (hb hby d5_72) rfl k) ?_
  show OEnds p e below s _ _ _ (s₁.setTop (mkF m 74 #[.val (.ref a), .val (.int o), .val (.ref bm), .val (.int (0 : Int32)), .val (.int (3 : Int32)), .val (.int (0 : Int32)), .unset, .unset] [(.int (3 : Int32)), (.int (0 : Int32))]))
  refine OEnds.via (fun _ k => XS.icmpNo X0.here hx rfl (hb hby d5_74) rfl (tlt (by decide : (0 : Int32) < (3 : Int32))).2.1 k) ?_
  show OEnds p e below s _ _ _ (s₁.setTop (mkF m 77 #[.val (.ref a), .val (.int o), .val (.ref bm), .val (.int (0 : Int32)), .val (.int (3 : Int32)), .val (.int (0 : Int32)), .unset, .unset] []))
  refine OEnds.via (fun _ k => XS.aloadN X0.here hx rfl (hb hby d5_77) rfl rfl k) ?_
  show OEnds p e below s _ _ _ (s₁.setTop (mkF m 78 #[.val (.ref a), .val (.int o), .val (.ref bm), .val (.int (0 : Int32)), .val (.int (3 : Int32)), .val (.int (0 : Int32)), .unset, .unset] [(.ref a)]))
  refine OEnds.via (fun _ k => XS.iloadN X0.here hx rfl (hb hby d5_78) rfl k) ?_
  show OEnds p e below s _ _ _ (s₁.setTop (mkF m 79 #[.val (.ref a), .val (.int o), .val (.ref bm), .val (.int (0 : Int32)), .val (.int (3 : Int32)), .val (.int (0 : Int32)), .unset, .unset] [(.int o), (.ref a)]))
  refine OEnds.via (fun _ k => XS.iload X0.here hx rfl (hb hby d5_79) rfl k) ?_
  show OEnds p e below s _ _ _ (s₁.setTop (mkF m 81 #[.val (.ref a), .val (.int o), .val (.ref bm), .val (.int (0 : Int32)), .val (.int (3 : Int32)), .val (.int (0 : Int32)), .unset, .unset] [(.int (0 : Int32)), (.int o), (.ref a)]))
  refine OEnds.via (fun _ k => XS.iadd X0.here hx rfl (hb hby d5_81) rfl k) ?_
  show OEnds p e below s _ _ _ (s₁.setTop (mkF m 82 #[.val (.ref a), .val (.int o), .val (.ref bm), .val (.int (0 : Int32)), .val (.int (3 : Int32)), .val (.int (0 : Int32)), .unset, .unset] [(.int (o + (0 : Int32))), (.ref a)]))
  refine OEnds.via (fun _ k => X0.baloadBytes hx (j := (o + (0 : Int32))) (v := (.int x)) (by rw [e0]; exact Ar.1) (State.isArrayOf_alike hZ.alike Ar.2.1) Ar.2.2 hi0 ha0 (g := (mkF m 82 #[.val (.ref a), .val (.int o), .val (.ref bm), .val (.int (0 : Int32)), .val (.int (3 : Int32)), .val (.int (0 : Int32)), .unset, .unset] [(.int (o + (0 : Int32))), (.ref a)])) rfl rfl (hb hby d5_82) _ k) ?_
  show OEnds p e below s _ _ _ (s₁.setTop (mkF m 83 #[.val (.ref a), .val (.int o), .val (.ref bm), .val (.int (0 : Int32)), .val (.int (3 : Int32)), .val (.int (0 : Int32)), .unset, .unset] [(.int x)]))
  refine OEnds.via (fun _ k => XS.aloadN X0.here hx rfl (hb hby d5_83) rfl rfl k) ?_
  show OEnds p e below s _ _ _ (s₁.setTop (mkF m 84 #[.val (.ref a), .val (.int o), .val (.ref bm), .val (.int (0 : Int32)), .val (.int (3 : Int32)), .val (.int (0 : Int32)), .unset, .unset] [(.ref bm), (.int x)]))
  refine OEnds.via (fun _ k => XS.iloadN X0.here hx rfl (hb hby d5_84) rfl k) ?_
  show OEnds p e below s _ _ _ (s₁.setTop (mkF m 85 #[.val (.ref a), .val (.int o), .val (.ref bm), .val (.int (0 : Int32)), .val (.int (3 : Int32)), .val (.int (0 : Int32)), .unset, .unset] [(.int (0 : Int32)), (.ref bm), (.int x)]))
  refine OEnds.via (fun _ k => XS.iload X0.here hx rfl (hb hby d5_85) rfl k) ?_
  show OEnds p e below s _ _ _ (s₁.setTop (mkF m 87 #[.val (.ref a), .val (.int o), .val (.ref bm), .val (.int (0 : Int32)), .val (.int (3 : Int32)), .val (.int (0 : Int32)), .unset, .unset] [(.int (0 : Int32)), (.int (0 : Int32)), (.ref bm), (.int x)]))
  refine OEnds.via (fun _ k => XS.iadd X0.here hx rfl (hb hby d5_87) rfl k) ?_
  show OEnds p e below s _ _ _ (s₁.setTop (mkF m 88 #[.val (.ref a), .val (.int o), .val (.ref bm), .val (.int (0 : Int32)), .val (.int (3 : Int32)), .val (.int (0 : Int32)), .unset, .unset] [(.int (0 : Int32)), (.ref bm), (.int x)]))
  refine OEnds.via (fun _ k => X0.baloadBytes hx (j := (0 : Int32)) (v := (.int (-17 : Int32))) (by rw [e0]; exact (Arr.ext O0.2 Ab).1) (State.isArrayOf_alike hZ.alike (Arr.ext O0.2 Ab).2.1) (Arr.ext O0.2 Ab).2.2 (inb_of Sb ⟨by decide, by decide⟩) hb0 (g := (mkF m 88 #[.val (.ref a), .val (.int o), .val (.ref bm), .val (.int (0 : Int32)), .val (.int (3 : Int32)), .val (.int (0 : Int32)), .unset, .unset] [(.int (0 : Int32)), (.ref bm), (.int x)])) rfl rfl (hb hby d5_88) _ k) ?_
  show OEnds p e below s _ _ _ (s₁.setTop (mkF m 89 #[.val (.ref a), .val (.int o), .val (.ref bm), .val (.int (0 : Int32)), .val (.int (3 : Int32)), .val (.int (0 : Int32)), .unset, .unset] [(.int (-17 : Int32)), (.int x)]))
  by_cases hc89_0 : x = (-17 : Int32)
  · skip
    refine OEnds.via (fun _ k => XS.icmpYes X0.here hx rfl (pc0 := 89) (pc' := 95) rfl (hb hby d5_89) rfl (teq hc89_0).1 (by decide) (by decide) k) ?_
    show OEnds p e below s _ _ _ (s₁.setTop (mkF m 95 #[.val (.ref a), .val (.int o), .val (.ref bm), .val (.int (0 : Int32)), .val (.int (3 : Int32)), .val (.int (0 : Int32)), .unset, .unset] []))
    refine OEnds.via (fun _ k => XS.iinc X0.here hx rfl (hb hby d5_95) rfl (l' := #[.val (.ref a), .val (.int o), .val (.ref bm), .val (.int (0 : Int32)), .val (.int (3 : Int32)), .val (.int (1 : Int32)), .unset, .unset]) rfl k) ?_
    show OEnds p e below s _ _ _ (s₁.setTop (mkF m 98 #[.val (.ref a), .val (.int o), .val (.ref bm), .val (.int (0 : Int32)), .val (.int (3 : Int32)), .val (.int (1 : Int32)), .unset, .unset] []))
    refine OEnds.via (fun _ k => XS.goto X0.here hx rfl (pc0 := 98) (pc' := 70) rfl (hb hby d5_98) (by decide) (by decide) k) ?_
    show OEnds p e below s _ _ _ (s₁.setTop (mkF m 70 #[.val (.ref a), .val (.int o), .val (.ref bm), .val (.int (0 : Int32)), .val (.int (3 : Int32)), .val (.int (1 : Int32)), .unset, .unset] []))
    refine OEnds.via (fun _ k => XS.iload X0.here hx rfl (hb hby d5_70) rfl k) ?_
    show OEnds p e below s _ _ _ (s₁.setTop (mkF m 72 #[.val (.ref a), .val (.int o), .val (.ref bm), .val (.int (0 : Int32)), .val (.int (3 : Int32)), .val (.int (1 : Int32)), .unset, .unset] [(.int (1 : Int32))]))
    refine OEnds.via (fun _ k => XS.iload X0.here hx rfl (hb hby d5_72) rfl k) ?_
    show OEnds p e below s _ _ _ (s₁.setTop (mkF m 74 #[.val (.ref a), .val (.int o), .val (.ref bm), .val (.int (0 : Int32)), .val (.int (3 : Int32)), .val (.int (1 : Int32)), .unset, .unset] [(.int (3 : Int32)), (.int (1 : Int32))]))
    refine OEnds.via (fun _ k => XS.icmpNo X0.here hx rfl (hb hby d5_74) rfl (tlt (by decide : (1 : Int32) < (3 : Int32))).2.1 k) ?_
    show OEnds p e below s _ _ _ (s₁.setTop (mkF m 77 #[.val (.ref a), .val (.int o), .val (.ref bm), .val (.int (0 : Int32)), .val (.int (3 : Int32)), .val (.int (1 : Int32)), .unset, .unset] []))
    refine OEnds.via (fun _ k => XS.aloadN X0.here hx rfl (hb hby d5_77) rfl rfl k) ?_
    show OEnds p e below s _ _ _ (s₁.setTop (mkF m 78 #[.val (.ref a), .val (.int o), .val (.ref bm), .val (.int (0 : Int32)), .val (.int (3 : Int32)), .val (.int (1 : Int32)), .unset, .unset] [(.ref a)]))
    refine OEnds.via (fun _ k => XS.iloadN X0.here hx rfl (hb hby d5_78) rfl k) ?_
    show OEnds p e below s _ _ _ (s₁.setTop (mkF m 79 #[.val (.ref a), .val (.int o), .val (.ref bm), .val (.int (0 : Int32)), .val (.int (3 : Int32)), .val (.int (1 : Int32)), .unset, .unset] [(.int o), (.ref a)]))
    refine OEnds.via (fun _ k => XS.iload X0.here hx rfl (hb hby d5_79) rfl k) ?_
    show OEnds p e below s _ _ _ (s₁.setTop (mkF m 81 #[.val (.ref a), .val (.int o), .val (.ref bm), .val (.int (0 : Int32)), .val (.int (3 : Int32)), .val (.int (1 : Int32)), .unset, .unset] [(.int (1 : Int32)), (.int o), (.ref a)]))
    refine OEnds.via (fun _ k => XS.iadd X0.here hx rfl (hb hby d5_81) rfl k) ?_
    show OEnds p e below s _ _ _ (s₁.setTop (mkF m 82 #[.val (.ref a), .val (.int o), .val (.ref bm), .val (.int (0 : Int32)), .val (.int (3 : Int32)), .val (.int (1 : Int32)), .unset, .unset] [(.int (o + (1 : Int32))), (.ref a)]))
    refine OEnds.via (fun _ k => X0.baloadBytes hx (j := (o + (1 : Int32))) (v := (.int y)) (by rw [e0]; exact Ar.1) (State.isArrayOf_alike hZ.alike Ar.2.1) Ar.2.2 hi1 ha1 (g := (mkF m 82 #[.val (.ref a), .val (.int o), .val (.ref bm), .val (.int (0 : Int32)), .val (.int (3 : Int32)), .val (.int (1 : Int32)), .unset, .unset] [(.int (o + (1 : Int32))), (.ref a)])) rfl rfl (hb hby d5_82) _ k) ?_
    show OEnds p e below s _ _ _ (s₁.setTop (mkF m 83 #[.val (.ref a), .val (.int o), .val (.ref bm), .val (.int (0 : Int32)), .val (.int (3 : Int32)), .val (.int (1 : Int32)), .unset, .unset] [(.int y)]))
    refine OEnds.via (fun _ k => XS.aloadN X0.here hx rfl (hb hby d5_83) rfl rfl k) ?_
    show OEnds p e below s _ _ _ (s₁.setTop (mkF m 84 #[.val (.ref a), .val (.int o), .val (.ref bm), .val (.int (0 : Int32)), .val (.int (3 : Int32)), .val (.int (1 : Int32)), .unset, .unset] [(.ref bm), (.int y)]))
    refine OEnds.via (fun _ k => XS.iloadN X0.here hx rfl (hb hby d5_84) rfl k) ?_
    show OEnds p e below s _ _ _ (s₁.setTop (mkF m 85 #[.val (.ref a), .val (.int o), .val (.ref bm), .val (.int (0 : Int32)), .val (.int (3 : Int32)), .val (.int (1 : Int32)), .unset, .unset] [(.int (0 : Int32)), (.ref bm), (.int y)]))
    refine OEnds.via (fun _ k => XS.iload X0.here hx rfl (hb hby d5_85) rfl k) ?_
    show OEnds p e below s _ _ _ (s₁.setTop (mkF m 87 #[.val (.ref a), .val (.int o), .val (.ref bm), .val (.int (0 : Int32)), .val (.int (3 : Int32)), .val (.int (1 : Int32)), .unset, .unset] [(.int (1 : Int32)), (.int (0 : Int32)), (.ref bm), (.int y)]))
    refine OEnds.via (fun _ k => XS.iadd X0.here hx rfl (hb hby d5_87) rfl k) ?_
    show OEnds p e below s _ _ _ (s₁.setTop (mkF m 88 #[.val (.ref a), .val (.int o), .val (.ref bm), .val (.int (0 : Int32)), .val (.int (3 : Int32)), .val (.int (1 : Int32)), .unset, .unset] [(.int (1 : Int32)), (.ref bm), (.int y)]))
    refine OEnds.via (fun _ k => X0.baloadBytes hx (j := (1 : Int32)) (v := (.int (-69 : Int32))) (by rw [e0]; exact (Arr.ext O0.2 Ab).1) (State.isArrayOf_alike hZ.alike (Arr.ext O0.2 Ab).2.1) (Arr.ext O0.2 Ab).2.2 (inb_of Sb ⟨by decide, by decide⟩) hb1 (g := (mkF m 88 #[.val (.ref a), .val (.int o), .val (.ref bm), .val (.int (0 : Int32)), .val (.int (3 : Int32)), .val (.int (1 : Int32)), .unset, .unset] [(.int (1 : Int32)), (.ref bm), (.int y)])) rfl rfl (hb hby d5_88) _ k) ?_
    show OEnds p e below s _ _ _ (s₁.setTop (mkF m 89 #[.val (.ref a), .val (.int o), .val (.ref bm), .val (.int (0 : Int32)), .val (.int (3 : Int32)), .val (.int (1 : Int32)), .unset, .unset] [(.int (-69 : Int32)), (.int y)]))
    by_cases hc89_1 : y = (-69 : Int32)
    · skip
      refine OEnds.via (fun _ k => XS.icmpYes X0.here hx rfl (pc0 := 89) (pc' := 95) rfl (hb hby d5_89) rfl (teq hc89_1).1 (by decide) (by decide) k) ?_
      show OEnds p e below s _ _ _ (s₁.setTop (mkF m 95 #[.val (.ref a), .val (.int o), .val (.ref bm), .val (.int (0 : Int32)), .val (.int (3 : Int32)), .val (.int (1 : Int32)), .unset, .unset] []))
      refine OEnds.via (fun _ k => XS.iinc X0.here hx rfl (hb hby d5_95) rfl (l' := #[.val (.ref a), .val (.int o), .val (.ref bm), .val (.int (0 : Int32)), .val (.int (3 : Int32)), .val (.int (2 : Int32)), .unset, .unset]) rfl k) ?_
      show OEnds p e below s _ _ _ (s₁.setTop (mkF m 98 #[.val (.ref a), .val (.int o), .val (.ref bm), .val (.int (0 : Int32)), .val (.int (3 : Int32)), .val (.int (2 : Int32)), .unset, .unset] []))
      refine OEnds.via (fun _ k => XS.goto X0.here hx rfl (pc0 := 98) (pc' := 70) rfl (hb hby d5_98) (by decide) (by decide) k) ?_
      show OEnds p e below s _ _ _ (s₁.setTop (mkF m 70 #[.val (.ref a), .val (.int o), .val (.ref bm), .val (.int (0 : Int32)), .val (.int (3 : Int32)), .val (.int (2 : Int32)), .unset, .unset] []))
      refine OEnds.via (fun _ k => XS.iload X0.here hx rfl (hb hby d5_70) rfl k) ?_
      show OEnds p e below s _ _ _ (s₁.setTop (mkF m 72 #[.val (.ref a), .val (.int o), .val (.ref bm), .val (.int (0 : Int32)), .val (.int (3 : Int32)), .val (.int (2 : Int32)), .unset, .unset] [(.int (2 : Int32))]))
      refine OEnds.via (fun _ k => XS.iload X0.here hx rfl (hb hby d5_72) rfl k) ?_
      show OEnds p e below s _ _ _ (s₁.setTop (mkF m 74 #[.val (.ref a), .val (.int o), .val (.ref bm), .val (.int (0 : Int32)), .val (.int (3 : Int32)), .val (.int (2 : Int32)), .unset, .unset] [(.int (3 : Int32)), (.int (2 : Int32))]))
      refine OEnds.via (fun _ k => XS.icmpNo X0.here hx rfl (hb hby d5_74) rfl (tlt (by decide : (2 : Int32) < (3 : Int32))).2.1 k) ?_
      show OEnds p e below s _ _ _ (s₁.setTop (mkF m 77 #[.val (.ref a), .val (.int o), .val (.ref bm), .val (.int (0 : Int32)), .val (.int (3 : Int32)), .val (.int (2 : Int32)), .unset, .unset] []))
      refine OEnds.via (fun _ k => XS.aloadN X0.here hx rfl (hb hby d5_77) rfl rfl k) ?_
      show OEnds p e below s _ _ _ (s₁.setTop (mkF m 78 #[.val (.ref a), .val (.int o), .val (.ref bm), .val (.int (0 : Int32)), .val (.int (3 : Int32)), .val (.int (2 : Int32)), .unset, .unset] [(.ref a)]))
      refine OEnds.via (fun _ k => XS.iloadN X0.here hx rfl (hb hby d5_78) rfl k) ?_
      show OEnds p e below s _ _ _ (s₁.setTop (mkF m 79 #[.val (.ref a), .val (.int o), .val (.ref bm), .val (.int (0 : Int32)), .val (.int (3 : Int32)), .val (.int (2 : Int32)), .unset, .unset] [(.int o), (.ref a)]))
      refine OEnds.via (fun _ k => XS.iload X0.here hx rfl (hb hby d5_79) rfl k) ?_
      show OEnds p e below s _ _ _ (s₁.setTop (mkF m 81 #[.val (.ref a), .val (.int o), .val (.ref bm), .val (.int (0 : Int32)), .val (.int (3 : Int32)), .val (.int (2 : Int32)), .unset, .unset] [(.int (2 : Int32)), (.int o), (.ref a)]))
      refine OEnds.via (fun _ k => XS.iadd X0.here hx rfl (hb hby d5_81) rfl k) ?_
      show OEnds p e below s _ _ _ (s₁.setTop (mkF m 82 #[.val (.ref a), .val (.int o), .val (.ref bm), .val (.int (0 : Int32)), .val (.int (3 : Int32)), .val (.int (2 : Int32)), .unset, .unset] [(.int (o + (2 : Int32))), (.ref a)]))
      refine OEnds.via (fun _ k => X0.baloadBytes hx (j := (o + (2 : Int32))) (v := (.int z)) (by rw [e0]; exact Ar.1) (State.isArrayOf_alike hZ.alike Ar.2.1) Ar.2.2 hi2 ha2 (g := (mkF m 82 #[.val (.ref a), .val (.int o), .val (.ref bm), .val (.int (0 : Int32)), .val (.int (3 : Int32)), .val (.int (2 : Int32)), .unset, .unset] [(.int (o + (2 : Int32))), (.ref a)])) rfl rfl (hb hby d5_82) _ k) ?_
      show OEnds p e below s _ _ _ (s₁.setTop (mkF m 83 #[.val (.ref a), .val (.int o), .val (.ref bm), .val (.int (0 : Int32)), .val (.int (3 : Int32)), .val (.int (2 : Int32)), .unset, .unset] [(.int z)]))
      refine OEnds.via (fun _ k => XS.aloadN X0.here hx rfl (hb hby d5_83) rfl rfl k) ?_
      show OEnds p e below s _ _ _ (s₁.setTop (mkF m 84 #[.val (.ref a), .val (.int o), .val (.ref bm), .val (.int (0 : Int32)), .val (.int (3 : Int32)), .val (.int (2 : Int32)), .unset, .unset] [(.ref bm), (.int z)]))
      refine OEnds.via (fun _ k => XS.iloadN X0.here hx rfl (hb hby d5_84) rfl k) ?_
      show OEnds p e below s _ _ _ (s₁.setTop (mkF m 85 #[.val (.ref a), .val (.int o), .val (.ref bm), .val (.int (0 : Int32)), .val (.int (3 : Int32)), .val (.int (2 : Int32)), .unset, .unset] [(.int (0 : Int32)), (.ref bm), (.int z)]))
      refine OEnds.via (fun _ k => XS.iload X0.here hx rfl (hb hby d5_85) rfl k) ?_
      show OEnds p e below s _ _ _ (s₁.setTop (mkF m 87 #[.val (.ref a), .val (.int o), .val (.ref bm), .val (.int (0 : Int32)), .val (.int (3 : Int32)), .val (.int (2 : Int32)), .unset, .unset] [(.int (2 : Int32)), (.int (0 : Int32)), (.ref bm), (.int z)]))
      refine OEnds.via (fun _ k => XS.iadd X0.here hx rfl (hb hby d5_87) rfl k) ?_
      show OEnds p e below s _ _ _ (s₁.setTop (mkF m 88 #[.val (.ref a), .val (.int o), .val (.ref bm), .val (.int (0 : Int32)), .val (.int (3 : Int32)), .val (.int (2 : Int32)), .unset, .unset] [(.int (2 : Int32)), (.ref bm), (.int z)]))
      refine OEnds.via (fun _ k => X0.baloadBytes hx (j := (2 : Int32)) (v := (.int (-65 : Int32))) (by rw [e0]; exact (Arr.ext O0.2 Ab).1) (State.isArrayOf_alike hZ.alike (Arr.ext O0.2 Ab).2.1) (Arr.ext O0.2 Ab).2.2 (inb_of Sb ⟨by decide, by decide⟩) hb2 (g := (mkF m 88 #[.val (.ref a), .val (.int o), .val (.ref bm), .val (.int (0 : Int32)), .val (.int (3 : Int32)), .val (.int (2 : Int32)), .unset, .unset] [(.int (2 : Int32)), (.ref bm), (.int z)])) rfl rfl (hb hby d5_88) _ k) ?_
      show OEnds p e below s _ _ _ (s₁.setTop (mkF m 89 #[.val (.ref a), .val (.int o), .val (.ref bm), .val (.int (0 : Int32)), .val (.int (3 : Int32)), .val (.int (2 : Int32)), .unset, .unset] [(.int (-65 : Int32)), (.int z)]))
      by_cases hc89_2 : z = (-65 : Int32)
      · skip
        refine OEnds.via (fun _ k => XS.icmpYes X0.here hx rfl (pc0 := 89) (pc' := 95) rfl (hb hby d5_89) rfl (teq hc89_2).1 (by decide) (by decide) k) ?_
        show OEnds p e below s _ _ _ (s₁.setTop (mkF m 95 #[.val (.ref a), .val (.int o), .val (.ref bm), .val (.int (0 : Int32)), .val (.int (3 : Int32)), .val (.int (2 : Int32)), .unset, .unset] []))
        refine OEnds.via (fun _ k => XS.iinc X0.here hx rfl (hb hby d5_95) rfl (l' := #[.val (.ref a), .val (.int o), .val (.ref bm), .val (.int (0 : Int32)), .val (.int (3 : Int32)), .val (.int (3 : Int32)), .unset, .unset]) rfl k) ?_
        show OEnds p e below s _ _ _ (s₁.setTop (mkF m 98 #[.val (.ref a), .val (.int o), .val (.ref bm), .val (.int (0 : Int32)), .val (.int (3 : Int32)), .val (.int (3 : Int32)), .unset, .unset] []))
        refine OEnds.via (fun _ k => XS.goto X0.here hx rfl (pc0 := 98) (pc' := 70) rfl (hb hby d5_98) (by decide) (by decide) k) ?_
        show OEnds p e below s _ _ _ (s₁.setTop (mkF m 70 #[.val (.ref a), .val (.int o), .val (.ref bm), .val (.int (0 : Int32)), .val (.int (3 : Int32)), .val (.int (3 : Int32)), .unset, .unset] []))
        refine OEnds.via (fun _ k => XS.iload X0.here hx rfl (hb hby d5_70) rfl k) ?_
        show OEnds p e below s _ _ _ (s₁.setTop (mkF m 72 #[.val (.ref a), .val (.int o), .val (.ref bm), .val (.int (0 : Int32)), .val (.int (3 : Int32)), .val (.int (3 : Int32)), .unset, .unset] [(.int (3 : Int32))]))
        refine OEnds.via (fun _ k => XS.iload X0.here hx rfl (hb hby d5_72) rfl k) ?_
        show OEnds p e below s _ _ _ (s₁.setTop (mkF m 74 #[.val (.ref a), .val (.int o), .val (.ref bm), .val (.int (0 : Int32)), .val (.int (3 : Int32)), .val (.int (3 : Int32)), .unset, .unset] [(.int (3 : Int32)), (.int (3 : Int32))]))
        refine OEnds.via (fun _ k => XS.icmpYes X0.here hx rfl (pc0 := 74) (pc' := 101) rfl (hb hby d5_74) rfl (flt (by decide : ¬ ((3 : Int32) < (3 : Int32)))).2.1 (by decide) (by decide) k) ?_
        show OEnds p e below s _ _ _ (s₁.setTop (mkF m 101 #[.val (.ref a), .val (.int o), .val (.ref bm), .val (.int (0 : Int32)), .val (.int (3 : Int32)), .val (.int (3 : Int32)), .unset, .unset] []))
        refine OEnds.via (fun _ k => XS.iconst X0.here hx rfl (hb hby d5_101) k) ?_
        show OEnds p e below s _ _ _ (s₁.setTop (mkF m 102 #[.val (.ref a), .val (.int o), .val (.ref bm), .val (.int (0 : Int32)), .val (.int (3 : Int32)), .val (.int (3 : Int32)), .unset, .unset] [(.int (-1 : Int32))]))
        refine OEnds.retI X0 hx hlk Bd.returns (hb hby d5_102) ?_ (by decide) (by decide)
        exact ⟨by simp only [own_mm, if_pos hc89_0, if_pos hc89_1, if_pos hc89_2]; first | done | rfl, N0, e0⟩
      · skip
        refine OEnds.via (fun _ k => XS.icmpNo X0.here hx rfl (hb hby d5_89) rfl (feq hc89_2).1 k) ?_
        show OEnds p e below s _ _ _ (s₁.setTop (mkF m 92 #[.val (.ref a), .val (.int o), .val (.ref bm), .val (.int (0 : Int32)), .val (.int (3 : Int32)), .val (.int (2 : Int32)), .unset, .unset] []))
        refine OEnds.via (fun _ k => XS.iload X0.here hx rfl (hb hby d5_92) rfl k) ?_
        show OEnds p e below s _ _ _ (s₁.setTop (mkF m 94 #[.val (.ref a), .val (.int o), .val (.ref bm), .val (.int (0 : Int32)), .val (.int (3 : Int32)), .val (.int (2 : Int32)), .unset, .unset] [(.int (2 : Int32))]))
        refine OEnds.retI X0 hx hlk Bd.returns (hb hby d5_94) ?_ (by decide) (by decide)
        exact ⟨by simp only [own_mm, if_pos hc89_0, if_pos hc89_1, if_neg hc89_2]; first | done | rfl, N0, e0⟩
    · skip
      refine OEnds.via (fun _ k => XS.icmpNo X0.here hx rfl (hb hby d5_89) rfl (feq hc89_1).1 k) ?_
      show OEnds p e below s _ _ _ (s₁.setTop (mkF m 92 #[.val (.ref a), .val (.int o), .val (.ref bm), .val (.int (0 : Int32)), .val (.int (3 : Int32)), .val (.int (1 : Int32)), .unset, .unset] []))
      refine OEnds.via (fun _ k => XS.iload X0.here hx rfl (hb hby d5_92) rfl k) ?_
      show OEnds p e below s _ _ _ (s₁.setTop (mkF m 94 #[.val (.ref a), .val (.int o), .val (.ref bm), .val (.int (0 : Int32)), .val (.int (3 : Int32)), .val (.int (1 : Int32)), .unset, .unset] [(.int (1 : Int32))]))
      refine OEnds.retI X0 hx hlk Bd.returns (hb hby d5_94) ?_ (by decide) (by decide)
      exact ⟨by simp only [own_mm, if_pos hc89_0, if_neg hc89_1]; first | done | rfl, N0, e0⟩
  · skip
    refine OEnds.via (fun _ k => XS.icmpNo X0.here hx rfl (hb hby d5_89) rfl (feq hc89_0).1 k) ?_
    show OEnds p e below s _ _ _ (s₁.setTop (mkF m 92 #[.val (.ref a), .val (.int o), .val (.ref bm), .val (.int (0 : Int32)), .val (.int (3 : Int32)), .val (.int (0 : Int32)), .unset, .unset] []))
    refine OEnds.via (fun _ k => XS.iload X0.here hx rfl (hb hby d5_92) rfl k) ?_
    show OEnds p e below s _ _ _ (s₁.setTop (mkF m 94 #[.val (.ref a), .val (.int o), .val (.ref bm), .val (.int (0 : Int32)), .val (.int (3 : Int32)), .val (.int (0 : Int32)), .unset, .unset] [(.int (0 : Int32))]))
    refine OEnds.retI X0 hx hlk Bd.returns (hb hby d5_94) ?_ (by decide) (by decide)
    exact ⟨by simp only [own_mm, if_neg hc89_0]; first | done | rfl, N0, e0⟩
theorem d3_0 : decode jdk_65_method_90_code 0 = .ok (.aload_n 0, 1) := by decide +kernel
theorem d3_1 : decode jdk_65_method_90_code 1 = .ok (.arraylength, 1) := by decide +kernel
theorem d3_2 : decode jdk_65_method_90_code 2 = .ok (.iload_n 1, 1) := by decide +kernel
theorem d3_3 : decode jdk_65_method_90_code 3 = .ok (.iload_n 2, 1) := by decide +kernel
theorem d3_4 : decode jdk_65_method_90_code 4 = .ok (.invokestatic 13, 3) := by decide +kernel
theorem d3_7 : decode jdk_65_method_90_code 7 = .ok (.aload_n 3, 1) := by decide +kernel
theorem d3_8 : decode jdk_65_method_90_code 8 = .ok (.arraylength, 1) := by decide +kernel
theorem d3_9 : decode jdk_65_method_90_code 9 = .ok (.iload 4, 2) := by decide +kernel
theorem d3_11 : decode jdk_65_method_90_code 11 = .ok (.iload 5, 2) := by decide +kernel
theorem d3_13 : decode jdk_65_method_90_code 13 = .ok (.invokestatic 13, 3) := by decide +kernel
theorem d3_16 : decode jdk_65_method_90_code 16 = .ok (.iload_n 2, 1) := by decide +kernel
theorem d3_17 : decode jdk_65_method_90_code 17 = .ok (.iload_n 1, 1) := by decide +kernel
theorem d3_18 : decode jdk_65_method_90_code 18 = .ok (.isub, 1) := by decide +kernel
theorem d3_19 : decode jdk_65_method_90_code 19 = .ok (.istore 6, 2) := by decide +kernel
theorem d3_21 : decode jdk_65_method_90_code 21 = .ok (.iload 5, 2) := by decide +kernel
theorem d3_23 : decode jdk_65_method_90_code 23 = .ok (.iload 4, 2) := by decide +kernel
theorem d3_25 : decode jdk_65_method_90_code 25 = .ok (.isub, 1) := by decide +kernel
theorem d3_26 : decode jdk_65_method_90_code 26 = .ok (.istore 7, 2) := by decide +kernel
theorem d3_28 : decode jdk_65_method_90_code 28 = .ok (.iload 6, 2) := by decide +kernel
theorem d3_30 : decode jdk_65_method_90_code 30 = .ok (.iload 7, 2) := by decide +kernel
theorem d3_32 : decode jdk_65_method_90_code 32 = .ok (.if_icmp .eq 5, 3) := by decide +kernel
theorem d3_35 : decode jdk_65_method_90_code 35 = .ok (.iconst 0, 1) := by decide +kernel
theorem d3_36 : decode jdk_65_method_90_code 36 = .ok (.ireturn, 1) := by decide +kernel
theorem d3_37 : decode jdk_65_method_90_code 37 = .ok (.aload_n 0, 1) := by decide +kernel
theorem d3_38 : decode jdk_65_method_90_code 38 = .ok (.iload_n 1, 1) := by decide +kernel
theorem d3_39 : decode jdk_65_method_90_code 39 = .ok (.aload_n 3, 1) := by decide +kernel
theorem d3_40 : decode jdk_65_method_90_code 40 = .ok (.iload 4, 2) := by decide +kernel
theorem d3_42 : decode jdk_65_method_90_code 42 = .ok (.iload 6, 2) := by decide +kernel
theorem d3_44 : decode jdk_65_method_90_code 44 = .ok (.invokestatic 275, 3) := by decide +kernel
theorem d3_47 : decode jdk_65_method_90_code 47 = .ok (.ifCond .ge 7, 3) := by decide +kernel
theorem d3_50 : decode jdk_65_method_90_code 50 = .ok (.iconst 1, 1) := by decide +kernel
theorem d3_51 : decode jdk_65_method_90_code 51 = .ok (.goto 4, 3) := by decide +kernel
theorem d3_54 : decode jdk_65_method_90_code 54 = .ok (.iconst 0, 1) := by decide +kernel
theorem d3_55 : decode jdk_65_method_90_code 55 = .ok (.ireturn, 1) := by decide +kernel
theorem pd_28III29V : parseMethodDescriptor "(III)V" = some ⟨[.int, .int, .int], none⟩ := by decide +kernel
theorem pd_285bBI5bBII29I : parseMethodDescriptor "([BI[BII)I" = some ⟨[(.array .byte), .int, (.array .byte), .int, .int], some .int⟩ := by decide +kernel
set_option maxRecDepth 65536 in
set_option maxHeartbeats 40000000 in
theorem rmE (l : Launch) (Z : State) (a0 : Array Value) (hw : ∀ d ∈ tables_1, d.before a0 Z = true) (ws : List Jvm.Cond) (a : Addr) (o : Int32) (bm : Addr) (cl : Cell) (cb : Cell) (x : Int32) (y : Int32) (z : Int32) (h0 : Heap) (n0 : Nat) (O0 : Old Z n0 h0) (Ar : Arr Z h0 a cl .byte) (Ab : Arr Z Z.heap bm cb .byte) (hi0 : ¬ ((o + (0 : Int32)) < 0 ∨ cl.slots.size ≤ ((o + (0 : Int32))).toNatClampNeg)) (hi1 : ¬ ((o + (1 : Int32)) < 0 ∨ cl.slots.size ≤ ((o + (1 : Int32))).toNatClampNeg)) (hi2 : ¬ ((o + (2 : Int32)) < 0 ∨ cl.slots.size ≤ ((o + (2 : Int32))).toNatClampNeg)) (ha0 : cl.slots[((o + (0 : Int32))).toNatClampNeg]? = some (.int x)) (ha1 : cl.slots[((o + (1 : Int32))).toNatClampNeg]? = some (.int y)) (ha2 : cl.slots[((o + (2 : Int32))).toNatClampNeg]? = some (.int z)) (Sb : cb.slots.size = (3 : Int32).toNatClampNeg) (hb0 : cb.slots[((0 : Int32)).toNatClampNeg]? = some (.int (-17 : Int32))) (hb1 : cb.slots[((1 : Int32)).toNatClampNeg]? = some (.int (-69 : Int32))) (hb2 : cb.slots[((2 : Int32)).toNatClampNeg]? = some (.int (-65 : Int32))) (hol : o.toInt ≤ 3) (hog : 0 ≤ o.toInt) (Sa : cl.slots.size = (6 : Int32).toNatClampNeg) :
    MetFree l (⟨"java/util/Arrays", "equals", "([BII[BII)Z"⟩ : MethodName) (head1 (Jvm.Cond.code (⟨"java/util/Arrays", "equals", "([BII[BII)Z"⟩ : MethodName) jdk_65_method_90_code 8 (some .boolean) :: ws) ({ frames := 1, cells := 0, slots := 0, locals := 60 } : Room)) (fun ar' U => ar' = #[(.ref a), (.int o), (.int (o + (3 : Int32))), (.ref bm), (.int (0 : Int32)), (.int (3 : Int32))] ∧ Z.Warmed39 U.vm ∧ U.heap = h0) (fun _ _ _ _ _ => True) (fun _ U o U' => ∃ v L, o = .returned v ∧ (QA (some (.int (own_eq x y z))) h0 n0) v U'.heap L ∧ FrameEnd U o U' L ({ frames := 1, cells := 0, slots := 0, locals := 60 } : Room).cells ({ frames := 1, cells := 0, slots := 0, locals := 60 } : Room).slots) := by
  refine MetFree.of_bodySF (plainFor_of_name pn_java_util_Arrays) hisR ?_
  intro p e s m args below meth c s₁ Bd hml0 hP hK
  obtain ⟨rfl, hZ, hh⟩ := hP
  have hx := Bd.exec
  have hby := Bd.bytes
  have hlk := BodyLoose.notSynchronized Bd
  have hml : c.maxLocals = 8 := hml0
  have hown : s.vm.findClass "java/util/Arrays" = some m.cls := findClass_of_methodNamed Bd.named
  have hnm := (name_of_methodNamed Bd.named Bd.method).1
  have X0 : Stand p l e ({ frames := 1, cells := 0, slots := 0, locals := 60 } : Room) s m #[(.ref a), (.int o), (.int (o + (3 : Int32))), (.ref bm), (.int (0 : Int32)), (.int (3 : Int32))] below meth c s₁ [] 0 0 := Stand.of_body Bd
  have e0 : s₁.heap = h0 := by rw [← hh, Bd.state]; rfl
  have N0 := Fr.nil n0
  have Z0 : n0 ≤ h0.size := O0.1 ▸ O0.2.1
  show OEnds p e below s ({ frames := 1, cells := 0, slots := 0, locals := 60 } : Room).cells ({ frames := 1, cells := 0, slots := 0, locals := 60 } : Room).slots (QA (some (.int (own_eq x y z))) h0 n0) (s₁.setTop (entryFrame m #[(.ref a), (.int o), (.int (o + (3 : Int32))), (.ref bm), (.int (0 : Int32)), (.int (3 : Int32))] 8))
  refine OEnds.via (fun _ k => castTop (show entryFrame m #[(.ref a), (.int o), (.int (o + (3 : Int32))), (.ref bm), (.int (0 : Int32)), (.int (3 : Int32))] 8 = (mkF m 0 #[.val (.ref a), .val (.int o), .val (.int (o + (3 : Int32))), .val (.ref bm), .val (.int (0 : Int32)), .val (.int (3 : Int32)), .unset, .unset] []) by first | (simp [entryFrame, mkF, argsToLocals, Value.category, maxLocals]; done) | rfl) k) ?_
  refine OEnds.via (fun _ k => XS.aloadN X0.here hx rfl (hb hby d3_0) rfl rfl k) ?_
  show OEnds p e below s _ _ _ (s₁.setTop (mkF m 1 #[.val (.ref a), .val (.int o), .val (.int (o + (3 : Int32))), .val (.ref bm), .val (.int (0 : Int32)), .val (.int (3 : Int32)), .unset, .unset] [(.ref a)]))
  refine OEnds.via (fun _ k => X0.arraylength hx (by rw [e0]; exact Ar.1) (State.isArrayOf_alike hZ.alike Ar.2.1) (g := (mkF m 1 #[.val (.ref a), .val (.int o), .val (.int (o + (3 : Int32))), .val (.ref bm), .val (.int (0 : Int32)), .val (.int (3 : Int32)), .unset, .unset] [(.ref a)])) rfl rfl (hb hby d3_1) _ k) ?_
  rw [len_of Sa (by decide : ¬ (6 : Int32) < 0)]
  show OEnds p e below s _ _ _ (s₁.setTop (mkF m 2 #[.val (.ref a), .val (.int o), .val (.int (o + (3 : Int32))), .val (.ref bm), .val (.int (0 : Int32)), .val (.int (3 : Int32)), .unset, .unset] [(.int (6 : Int32))]))
  refine OEnds.via (fun _ k => XS.iloadN X0.here hx rfl (hb hby d3_2) rfl k) ?_
  show OEnds p e below s _ _ _ (s₁.setTop (mkF m 3 #[.val (.ref a), .val (.int o), .val (.int (o + (3 : Int32))), .val (.ref bm), .val (.int (0 : Int32)), .val (.int (3 : Int32)), .unset, .unset] [(.int o), (.int (6 : Int32))]))
  refine OEnds.via (fun _ k => XS.iloadN X0.here hx rfl (hb hby d3_3) rfl k) ?_
  show OEnds p e below s _ _ _ (s₁.setTop (mkF m 4 #[.val (.ref a), .val (.int o), .val (.int (o + (3 : Int32))), .val (.ref bm), .val (.int (0 : Int32)), .val (.int (3 : Int32)), .unset, .unset] [(.int (o + (3 : Int32))), (.int o), (.int (6 : Int32))]))
  obtain ⟨_, _, ⟨T1, L1, k1, n1⟩, -, X1, ⟨Lc1, hQ1, l1, y1, z1⟩, st1⟩ := Jvm.LawKit.callS X0 hx (y := (⟨"java/util/Arrays", "rangeCheck", "(III)V"⟩ : MethodName)) hown (mvT hZ (hw _ (List.mem_of_getElem? (i := 17) rfl))) (mvT hZ (hw _ (List.mem_of_getElem? (i := 18) rfl))) (mvT hZ (hw _ (List.mem_of_getElem? (i := 15) rfl))) (mvT hZ (hw _ (List.mem_of_getElem? (i := 19) rfl))) (by decide) (backOf (W := 0) (rmR l Z a0 hw [] (6 : Int32) o (o + (3 : Int32)) h0 n0 O0 (own_rc hol hog).1 (own_rc hol hog).2.1 (own_rc hol hog).2.2) hZ (hw _ (List.mem_of_getElem? (i := 19) rfl)) (hw _ (List.mem_of_getElem? (i := 15) rfl)) (by decide) (by decide)) (g := (mkF m 4 #[.val (.ref a), .val (.int o), .val (.int (o + (3 : Int32))), .val (.ref bm), .val (.int (0 : Int32)), .val (.int (3 : Int32)), .unset, .unset] [(.int (o + (3 : Int32))), (.int o), (.int (6 : Int32))])) rfl (by rw [hml]; rfl) (argsL := [(.int (6 : Int32)), (.int o), (.int (o + (3 : Int32)))]) (rest := []) (lenOf pd_28III29V rfl) rfl (by show 2 * 0 + _ ≤ _; exact Nat.le_of_eq rfl) (hb hby d3_4) (fun _ _ => ⟨rfl, e0, Nat.le_of_ble_eq_true rfl, Nat.le_of_ble_eq_true rfl⟩)
  dsimp only [Pt.U, Pt.locs, Pt.cells, Pt.slots] at X1 l1 y1 z1 st1 hQ1
  subst l1 y1 z1
  obtain ⟨rfl, N1q, e1⟩ := hQ1
  have N1 := Fr.app N0 N1q
  refine OEnds.via (fun _ k => st1 _ k) ?_
  show OEnds p e below s _ _ _ (T1.setTop (mkF m 7 #[.val (.ref a), .val (.int o), .val (.int (o + (3 : Int32))), .val (.ref bm), .val (.int (0 : Int32)), .val (.int (3 : Int32)), .unset, .unset] []))
  refine OEnds.via (fun _ k => XS.aloadN X1.here hx rfl (hb hby d3_7) rfl rfl k) ?_
  show OEnds p e below s _ _ _ (T1.setTop (mkF m 8 #[.val (.ref a), .val (.int o), .val (.int (o + (3 : Int32))), .val (.ref bm), .val (.int (0 : Int32)), .val (.int (3 : Int32)), .unset, .unset] [(.ref bm)]))
  refine OEnds.via (fun _ k => X1.arraylength hx (by rw [e1]; exact (Arr.ext O0.2 Ab).1) (State.isArrayOf_alike hZ.alike (Arr.ext O0.2 Ab).2.1) (g := (mkF m 8 #[.val (.ref a), .val (.int o), .val (.int (o + (3 : Int32))), .val (.ref bm), .val (.int (0 : Int32)), .val (.int (3 : Int32)), .unset, .unset] [(.ref bm)])) rfl rfl (hb hby d3_8) _ k) ?_
  rw [len_of Sb (by decide : ¬ (3 : Int32) < 0)]
  show OEnds p e below s _ _ _ (T1.setTop (mkF m 9 #[.val (.ref a), .val (.int o), .val (.int (o + (3 : Int32))), .val (.ref bm), .val (.int (0 : Int32)), .val (.int (3 : Int32)), .unset, .unset] [(.int (3 : Int32))]))
  refine OEnds.via (fun _ k => XS.iload X1.here hx rfl (hb hby d3_9) rfl k) ?_
  show OEnds p e below s _ _ _ (T1.setTop (mkF m 11 #[.val (.ref a), .val (.int o), .val (.int (o + (3 : Int32))), .val (.ref bm), .val (.int (0 : Int32)), .val (.int (3 : Int32)), .unset, .unset] [(.int (0 : Int32)), (.int (3 : Int32))]))
  refine OEnds.via (fun _ k => XS.iload X1.here hx rfl (hb hby d3_11) rfl k) ?_
  show OEnds p e below s _ _ _ (T1.setTop (mkF m 13 #[.val (.ref a), .val (.int o), .val (.int (o + (3 : Int32))), .val (.ref bm), .val (.int (0 : Int32)), .val (.int (3 : Int32)), .unset, .unset] [(.int (3 : Int32)), (.int (0 : Int32)), (.int (3 : Int32))]))
  obtain ⟨_, _, ⟨T2, L2, k2, n2⟩, -, X2, ⟨Lc2, hQ2, l2, y2, z2⟩, st2⟩ := Jvm.LawKit.callS X1 hx (y := (⟨"java/util/Arrays", "rangeCheck", "(III)V"⟩ : MethodName)) hown (mvT hZ (hw _ (List.mem_of_getElem? (i := 17) rfl))) (mvT hZ (hw _ (List.mem_of_getElem? (i := 18) rfl))) (mvT hZ (hw _ (List.mem_of_getElem? (i := 15) rfl))) (mvT hZ (hw _ (List.mem_of_getElem? (i := 19) rfl))) (by decide) (backOf (W := 0) (rmR l Z a0 hw [] (3 : Int32) (0 : Int32) (3 : Int32) h0 n0 O0 (by decide) (by decide) (by decide)) hZ (hw _ (List.mem_of_getElem? (i := 19) rfl)) (hw _ (List.mem_of_getElem? (i := 15) rfl)) (by decide) (by decide)) (g := (mkF m 13 #[.val (.ref a), .val (.int o), .val (.int (o + (3 : Int32))), .val (.ref bm), .val (.int (0 : Int32)), .val (.int (3 : Int32)), .unset, .unset] [(.int (3 : Int32)), (.int (0 : Int32)), (.int (3 : Int32))])) rfl (by rw [hml]; rfl) (argsL := [(.int (3 : Int32)), (.int (0 : Int32)), (.int (3 : Int32))]) (rest := []) (lenOf pd_28III29V rfl) rfl (by show 2 * 0 + _ ≤ _; exact Nat.le_of_eq rfl) (hb hby d3_13) (fun _ _ => ⟨rfl, e1, Nat.le_of_ble_eq_true rfl, Nat.le_of_ble_eq_true rfl⟩)
  dsimp only [Pt.U, Pt.locs, Pt.cells, Pt.slots] at X2 l2 y2 z2 st2 hQ2
  subst l2 y2 z2
  obtain ⟨rfl, N2q, e2⟩ := hQ2
  have N2 := Fr.app N1 N2q
  refine OEnds.via (fun _ k => st2 _ k) ?_
  show OEnds p e below s _ _ _ (T2.setTop (mkF m 16 #[.val (.ref a), .val (.int o), .val (.int (o + (3 : Int32))), .val (.ref bm), .val (.int (0 : Int32)), .val (.int (3 : Int32)), .unset, .unset] []))
  refine OEnds.via (fun _ k => XS.iloadN X2.here hx rfl (hb hby d3_16) rfl k) ?_
  show OEnds p e below s _ _ _ (T2.setTop (mkF m 17 #[.val (.ref a), .val (.int o), .val (.int (o + (3 : Int32))), .val (.ref bm), .val (.int (0 : Int32)), .val (.int (3 : Int32)), .unset, .unset] [(.int (o + (3 : Int32)))]))
  refine OEnds.via (fun _ k => XS.iloadN X2.here hx rfl (hb hby d3_17) rfl k) ?_
  show OEnds p e below s _ _ _ (T2.setTop (mkF m 18 #[.val (.ref a), .val (.int o), .val (.int (o + (3 : Int32))), .val (.ref bm), .val (.int (0 : Int32)), .val (.int (3 : Int32)), .unset, .unset] [(.int o), (.int (o + (3 : Int32)))]))
  refine OEnds.via (fun _ k => XS.isub X2.here hx rfl (hb hby d3_18) rfl k) ?_
  show OEnds p e below s _ _ _ (T2.setTop (mkF m 19 #[.val (.ref a), .val (.int o), .val (.int (o + (3 : Int32))), .val (.ref bm), .val (.int (0 : Int32)), .val (.int (3 : Int32)), .unset, .unset] [(.int ((o + (3 : Int32)) - o))]))
  rw [own_back o]
  show OEnds p e below s _ _ _ (T2.setTop (mkF m 19 #[.val (.ref a), .val (.int o), .val (.int (o + (3 : Int32))), .val (.ref bm), .val (.int (0 : Int32)), .val (.int (3 : Int32)), .unset, .unset] [(.int (3 : Int32))]))
  refine OEnds.via (fun _ k => XS.istore X2.here hx rfl (hb hby d3_19) rfl (l' := #[.val (.ref a), .val (.int o), .val (.int (o + (3 : Int32))), .val (.ref bm), .val (.int (0 : Int32)), .val (.int (3 : Int32)), .val (.int (3 : Int32)), .unset]) rfl k) ?_
  show OEnds p e below s _ _ _ (T2.setTop (mkF m 21 #[.val (.ref a), .val (.int o), .val (.int (o + (3 : Int32))), .val (.ref bm), .val (.int (0 : Int32)), .val (.int (3 : Int32)), .val (.int (3 : Int32)), .unset] []))
  refine OEnds.via (fun _ k => XS.iload X2.here hx rfl (hb hby d3_21) rfl k) ?_
  show OEnds p e below s _ _ _ (T2.setTop (mkF m 23 #[.val (.ref a), .val (.int o), .val (.int (o + (3 : Int32))), .val (.ref bm), .val (.int (0 : Int32)), .val (.int (3 : Int32)), .val (.int (3 : Int32)), .unset] [(.int (3 : Int32))]))
  refine OEnds.via (fun _ k => XS.iload X2.here hx rfl (hb hby d3_23) rfl k) ?_
  show OEnds p e below s _ _ _ (T2.setTop (mkF m 25 #[.val (.ref a), .val (.int o), .val (.int (o + (3 : Int32))), .val (.ref bm), .val (.int (0 : Int32)), .val (.int (3 : Int32)), .val (.int (3 : Int32)), .unset] [(.int (0 : Int32)), (.int (3 : Int32))]))
  refine OEnds.via (fun _ k => XS.isub X2.here hx rfl (hb hby d3_25) rfl k) ?_
  show OEnds p e below s _ _ _ (T2.setTop (mkF m 26 #[.val (.ref a), .val (.int o), .val (.int (o + (3 : Int32))), .val (.ref bm), .val (.int (0 : Int32)), .val (.int (3 : Int32)), .val (.int (3 : Int32)), .unset] [(.int (3 : Int32))]))
  refine OEnds.via (fun _ k => XS.istore X2.here hx rfl (hb hby d3_26) rfl (l' := #[.val (.ref a), .val (.int o), .val (.int (o + (3 : Int32))), .val (.ref bm), .val (.int (0 : Int32)), .val (.int (3 : Int32)), .val (.int (3 : Int32)), .val (.int (3 : Int32))]) rfl k) ?_
  show OEnds p e below s _ _ _ (T2.setTop (mkF m 28 #[.val (.ref a), .val (.int o), .val (.int (o + (3 : Int32))), .val (.ref bm), .val (.int (0 : Int32)), .val (.int (3 : Int32)), .val (.int (3 : Int32)), .val (.int (3 : Int32))] []))
  refine OEnds.via (fun _ k => XS.iload X2.here hx rfl (hb hby d3_28) rfl k) ?_
  show OEnds p e below s _ _ _ (T2.setTop (mkF m 30 #[.val (.ref a), .val (.int o), .val (.int (o + (3 : Int32))), .val (.ref bm), .val (.int (0 : Int32)), .val (.int (3 : Int32)), .val (.int (3 : Int32)), .val (.int (3 : Int32))] [(.int (3 : Int32))]))
  refine OEnds.via (fun _ k => XS.iload X2.here hx rfl (hb hby d3_30) rfl k) ?_
  show OEnds p e below s _ _ _ (T2.setTop (mkF m 32 #[.val (.ref a), .val (.int o), .val (.int (o + (3 : Int32))), .val (.ref bm), .val (.int (0 : Int32)), .val (.int (3 : Int32)), .val (.int (3 : Int32)), .val (.int (3 : Int32))] [(.int (3 : Int32)), (.int (3 : Int32))]))
  refine OEnds.via (fun _ k => XS.icmpYes X2.here hx rfl (pc0 := 32) (pc' := 37) rfl (hb hby d3_32) rfl (teq (by decide : (3 : Int32) = (3 : Int32))).1 (by decide) (by decide) k) ?_
  show OEnds p e below s _ _ _ (T2.setTop (mkF m 37 #[.val (.ref a), .val (.int o), .val (.int (o + (3 : Int32))), .val (.ref bm), .val (.int (0 : Int32)), .val (.int (3 : Int32)), .val (.int (3 : Int32)), .val (.int (3 : Int32))] []))
  refine OEnds.via (fun _ k => XS.aloadN X2.here hx rfl (hb hby d3_37) rfl rfl k) ?_
  show OEnds p e below s _ _ _ (T2.setTop (mkF m 38 #[.val (.ref a), .val (.int o), .val (.int (o + (3 : Int32))), .val (.ref bm), .val (.int (0 : Int32)), .val (.int (3 : Int32)), .val (.int (3 : Int32)), .val (.int (3 : Int32))] [(.ref a)]))
  refine OEnds.via (fun _ k => XS.iloadN X2.here hx rfl (hb hby d3_38) rfl k) ?_
  show OEnds p e below s _ _ _ (T2.setTop (mkF m 39 #[.val (.ref a), .val (.int o), .val (.int (o + (3 : Int32))), .val (.ref bm), .val (.int (0 : Int32)), .val (.int (3 : Int32)), .val (.int (3 : Int32)), .val (.int (3 : Int32))] [(.int o), (.ref a)]))
  refine OEnds.via (fun _ k => XS.aloadN X2.here hx rfl (hb hby d3_39) rfl rfl k) ?_
  show OEnds p e below s _ _ _ (T2.setTop (mkF m 40 #[.val (.ref a), .val (.int o), .val (.int (o + (3 : Int32))), .val (.ref bm), .val (.int (0 : Int32)), .val (.int (3 : Int32)), .val (.int (3 : Int32)), .val (.int (3 : Int32))] [(.ref bm), (.int o), (.ref a)]))
  refine OEnds.via (fun _ k => XS.iload X2.here hx rfl (hb hby d3_40) rfl k) ?_
  show OEnds p e below s _ _ _ (T2.setTop (mkF m 42 #[.val (.ref a), .val (.int o), .val (.int (o + (3 : Int32))), .val (.ref bm), .val (.int (0 : Int32)), .val (.int (3 : Int32)), .val (.int (3 : Int32)), .val (.int (3 : Int32))] [(.int (0 : Int32)), (.ref bm), (.int o), (.ref a)]))
  refine OEnds.via (fun _ k => XS.iload X2.here hx rfl (hb hby d3_42) rfl k) ?_
  show OEnds p e below s _ _ _ (T2.setTop (mkF m 44 #[.val (.ref a), .val (.int o), .val (.int (o + (3 : Int32))), .val (.ref bm), .val (.int (0 : Int32)), .val (.int (3 : Int32)), .val (.int (3 : Int32)), .val (.int (3 : Int32))] [(.int (3 : Int32)), (.int (0 : Int32)), (.ref bm), (.int o), (.ref a)]))
  obtain ⟨_, _, ⟨T3, L3, k3, n3⟩, -, X3, ⟨Lc3, hQ3, l3, y3, z3⟩, st3⟩ := Jvm.LawKit.callS X2 hx (y := (⟨"jdk/internal/util/ArraysSupport", "mismatch", "([BI[BII)I"⟩ : MethodName)) hown (mvT hZ (hw _ (List.mem_of_getElem? (i := 20) rfl))) (mvT hZ (hw _ (List.mem_of_getElem? (i := 21) rfl))) (mvT hZ (hw _ (List.mem_of_getElem? (i := 22) rfl))) (mvT hZ (hw _ (List.mem_of_getElem? (i := 23) rfl))) (by decide) (backOf (W := 0) (rmM l Z a0 hw [] a o bm cl cb x y z h0 n0 O0 Ar Ab hi0 hi1 hi2 ha0 ha1 ha2 Sb hb0 hb1 hb2) hZ (hw _ (List.mem_of_getElem? (i := 23) rfl)) (hw _ (List.mem_of_getElem? (i := 22) rfl)) (by decide) (by decide)) (g := (mkF m 44 #[.val (.ref a), .val (.int o), .val (.int (o + (3 : Int32))), .val (.ref bm), .val (.int (0 : Int32)), .val (.int (3 : Int32)), .val (.int (3 : Int32)), .val (.int (3 : Int32))] [(.int (3 : Int32)), (.int (0 : Int32)), (.ref bm), (.int o), (.ref a)])) rfl (by rw [hml]; rfl) (argsL := [(.ref a), (.int o), (.ref bm), (.int (0 : Int32)), (.int (3 : Int32))]) (rest := []) (lenOf pd_285bBI5bBII29I rfl) rfl (by show 2 * 0 + _ ≤ _; exact Nat.le_of_eq rfl) (hb hby d3_44) (fun _ _ => ⟨rfl, e2, Nat.le_of_ble_eq_true rfl, Nat.le_of_ble_eq_true rfl⟩)
  dsimp only [Pt.U, Pt.locs, Pt.cells, Pt.slots] at X3 l3 y3 z3 st3 hQ3
  subst l3 y3 z3
  obtain ⟨rfl, N3q, e3⟩ := hQ3
  have N3 := Fr.app N2 N3q
  refine OEnds.via (fun _ k => st3 _ k) ?_
  show OEnds p e below s _ _ _ (T3.setTop (mkF m 47 #[.val (.ref a), .val (.int o), .val (.int (o + (3 : Int32))), .val (.ref bm), .val (.int (0 : Int32)), .val (.int (3 : Int32)), .val (.int (3 : Int32)), .val (.int (3 : Int32))] [(.int (own_mm x y z))]))
  by_cases hc47_3 : (own_mm x y z) < (0 : Int32)
  · skip
    refine OEnds.via (fun _ k => XS.ifNo X3.here hx rfl (hb hby d3_47) rfl ((if0 _ _).trans (tlt hc47_3).2.1) k) ?_
    show OEnds p e below s _ _ _ (T3.setTop (mkF m 50 #[.val (.ref a), .val (.int o), .val (.int (o + (3 : Int32))), .val (.ref bm), .val (.int (0 : Int32)), .val (.int (3 : Int32)), .val (.int (3 : Int32)), .val (.int (3 : Int32))] []))
    refine OEnds.via (fun _ k => XS.iconst X3.here hx rfl (hb hby d3_50) k) ?_
    show OEnds p e below s _ _ _ (T3.setTop (mkF m 51 #[.val (.ref a), .val (.int o), .val (.int (o + (3 : Int32))), .val (.ref bm), .val (.int (0 : Int32)), .val (.int (3 : Int32)), .val (.int (3 : Int32)), .val (.int (3 : Int32))] [(.int (1 : Int32))]))
    refine OEnds.via (fun _ k => XS.goto X3.here hx rfl (pc0 := 51) (pc' := 55) rfl (hb hby d3_51) (by decide) (by decide) k) ?_
    show OEnds p e below s _ _ _ (T3.setTop (mkF m 55 #[.val (.ref a), .val (.int o), .val (.int (o + (3 : Int32))), .val (.ref bm), .val (.int (0 : Int32)), .val (.int (3 : Int32)), .val (.int (3 : Int32)), .val (.int (3 : Int32))] [(.int (1 : Int32))]))
    refine OEnds.retN X3 hx hlk (t := .boolean) Bd.returns (by simp) (hb hby d3_55) ?_ (by decide) (by decide)
    exact ⟨by simp only [own_eq, if_pos hc47_3]; first | done | rfl, N3, e3⟩
  · skip
    refine OEnds.via (fun _ k => XS.ifYes X3.here hx rfl (pc0 := 47) (pc' := 54) rfl (hb hby d3_47) rfl ((if0 _ _).trans (flt hc47_3).2.1) (by decide) (by decide) k) ?_
    show OEnds p e below s _ _ _ (T3.setTop (mkF m 54 #[.val (.ref a), .val (.int o), .val (.int (o + (3 : Int32))), .val (.ref bm), .val (.int (0 : Int32)), .val (.int (3 : Int32)), .val (.int (3 : Int32)), .val (.int (3 : Int32))] []))
    refine OEnds.via (fun _ k => XS.iconst X3.here hx rfl (hb hby d3_54) k) ?_
    show OEnds p e below s _ _ _ (T3.setTop (mkF m 55 #[.val (.ref a), .val (.int o), .val (.int (o + (3 : Int32))), .val (.ref bm), .val (.int (0 : Int32)), .val (.int (3 : Int32)), .val (.int (3 : Int32)), .val (.int (3 : Int32))] [(.int (0 : Int32))]))
    refine OEnds.retN X3 hx hlk (t := .boolean) Bd.returns (by simp) (hb hby d3_55) ?_ (by decide) (by decide)
    exact ⟨by simp only [own_eq, if_neg hc47_3]; first | done | rfl, N3, e3⟩
theorem d2_0 : decode prog_7_method_2_code 0 = .ok (.iload_n 2, 1) := by decide +kernel
theorem d2_1 : decode prog_7_method_2_code 1 = .ok (.getstatic 7, 3) := by decide +kernel
theorem d2_4 : decode prog_7_method_2_code 4 = .ok (.arraylength, 1) := by decide +kernel
theorem d2_5 : decode prog_7_method_2_code 5 = .ok (.if_icmp .lt 29, 3) := by decide +kernel
theorem d2_8 : decode prog_7_method_2_code 8 = .ok (.aload_n 0, 1) := by decide +kernel
theorem d2_9 : decode prog_7_method_2_code 9 = .ok (.iload_n 1, 1) := by decide +kernel
theorem d2_10 : decode prog_7_method_2_code 10 = .ok (.iload_n 1, 1) := by decide +kernel
theorem d2_11 : decode prog_7_method_2_code 11 = .ok (.getstatic 7, 3) := by decide +kernel
theorem d2_14 : decode prog_7_method_2_code 14 = .ok (.arraylength, 1) := by decide +kernel
theorem d2_15 : decode prog_7_method_2_code 15 = .ok (.iadd, 1) := by decide +kernel
theorem d2_16 : decode prog_7_method_2_code 16 = .ok (.getstatic 7, 3) := by decide +kernel
theorem d2_19 : decode prog_7_method_2_code 19 = .ok (.iconst 0, 1) := by decide +kernel
theorem d2_20 : decode prog_7_method_2_code 20 = .ok (.getstatic 7, 3) := by decide +kernel
theorem d2_23 : decode prog_7_method_2_code 23 = .ok (.arraylength, 1) := by decide +kernel
theorem d2_24 : decode prog_7_method_2_code 24 = .ok (.invokestatic 13, 3) := by decide +kernel
theorem d2_27 : decode prog_7_method_2_code 27 = .ok (.ifCond .eq 7, 3) := by decide +kernel
theorem d2_30 : decode prog_7_method_2_code 30 = .ok (.iconst 1, 1) := by decide +kernel
theorem d2_31 : decode prog_7_method_2_code 31 = .ok (.goto 4, 3) := by decide +kernel
theorem d2_34 : decode prog_7_method_2_code 34 = .ok (.iconst 0, 1) := by decide +kernel
theorem d2_35 : decode prog_7_method_2_code 35 = .ok (.istore_n 3, 1) := by decide +kernel
theorem d2_36 : decode prog_7_method_2_code 36 = .ok (.iload_n 3, 1) := by decide +kernel
theorem d2_37 : decode prog_7_method_2_code 37 = .ok (.ifCond .eq 10, 3) := by decide +kernel
theorem d2_40 : decode prog_7_method_2_code 40 = .ok (.getstatic 7, 3) := by decide +kernel
theorem d2_43 : decode prog_7_method_2_code 43 = .ok (.arraylength, 1) := by decide +kernel
theorem d2_44 : decode prog_7_method_2_code 44 = .ok (.goto 4, 3) := by decide +kernel
theorem d2_47 : decode prog_7_method_2_code 47 = .ok (.iconst 0, 1) := by decide +kernel
theorem d2_48 : decode prog_7_method_2_code 48 = .ok (.ireturn, 1) := by decide +kernel
theorem pn_com_example_odds3_odds3_engine_Utf8 : plainName "com/example/odds3/odds3/engine/Utf8" = true := by first | (simp [plainName, overriddenIn]; done) | decide +kernel
theorem pd_285bBII5bBII29Z : parseMethodDescriptor "([BII[BII)Z" = some ⟨[(.array .byte), .int, .int, (.array .byte), .int, .int], some .boolean⟩ := by decide +kernel
set_option maxRecDepth 65536 in
set_option maxHeartbeats 40000000 in
theorem rmA (l : Launch) (Z : State) (a0 : Array Value) (hw : ∀ d ∈ tables_1, d.before a0 Z = true) (ws : List Jvm.Cond) (a : Addr) (o : Int32) (n : Int32) (bm : Addr) (cb : Cell) (h0 : Heap) (n0 : Nat) (O0 : Old Z n0 h0) (S_b : Sta Z Z.heap "com/example/odds3/odds3/engine/Utf8" "BYTE_ORDER_MARK" "[B" (.ref bm)) (Ab : Arr Z Z.heap bm cb .byte) (Sb : cb.slots.size = (3 : Int32).toNatClampNeg) (hn : n < (3 : Int32)) :
    MetFree l (⟨"com/example/odds3/odds3/engine/Utf8", "byteOrderMarkLength", "([BII)I"⟩ : MethodName) (head1 (Jvm.Cond.code (⟨"com/example/odds3/odds3/engine/Utf8", "byteOrderMarkLength", "([BII)I"⟩ : MethodName) prog_7_method_2_code 4 (some .int) :: ws) ({ frames := 3, cells := 0, slots := 0, locals := 110 } : Room)) (fun ar' U => ar' = #[(.ref a), (.int o), (.int n)] ∧ Z.Warmed39 U.vm ∧ U.heap = h0) (fun _ _ _ _ _ => True) (fun _ U o U' => ∃ v L, o = .returned v ∧ (QA (some (.int 0)) h0 n0) v U'.heap L ∧ FrameEnd U o U' L ({ frames := 3, cells := 0, slots := 0, locals := 110 } : Room).cells ({ frames := 3, cells := 0, slots := 0, locals := 110 } : Room).slots) := by
  refine MetFree.of_bodySF (plainFor_of_name pn_com_example_odds3_odds3_engine_Utf8) hisR ?_
  intro p e s m args below meth c s₁ Bd hml0 hP hK
  obtain ⟨rfl, hZ, hh⟩ := hP
  have hx := Bd.exec
  have hby := Bd.bytes
  have hlk := BodyLoose.notSynchronized Bd
  have hml : c.maxLocals = 4 := hml0
  have hown : s.vm.findClass "com/example/odds3/odds3/engine/Utf8" = some m.cls := findClass_of_methodNamed Bd.named
  have hnm := (name_of_methodNamed Bd.named Bd.method).1
  have X0 : Stand p l e ({ frames := 3, cells := 0, slots := 0, locals := 110 } : Room) s m #[(.ref a), (.int o), (.int n)] below meth c s₁ [] 0 0 := Stand.of_body Bd
  have e0 : s₁.heap = h0 := by rw [← hh, Bd.state]; rfl
  have N0 := Fr.nil n0
  have Z0 : n0 ≤ h0.size := O0.1 ▸ O0.2.1
  show OEnds p e below s ({ frames := 3, cells := 0, slots := 0, locals := 110 } : Room).cells ({ frames := 3, cells := 0, slots := 0, locals := 110 } : Room).slots (QA (some (.int 0)) h0 n0) (s₁.setTop (entryFrame m #[(.ref a), (.int o), (.int n)] 4))
  refine OEnds.via (fun _ k => castTop (show entryFrame m #[(.ref a), (.int o), (.int n)] 4 = (mkF m 0 #[.val (.ref a), .val (.int o), .val (.int n), .unset] []) by first | (simp [entryFrame, mkF, argsToLocals, Value.category, maxLocals]; done) | rfl) k) ?_
  refine OEnds.via (fun _ k => XS.iloadN X0.here hx rfl (hb hby d2_0) rfl k) ?_
  show OEnds p e below s _ _ _ (s₁.setTop (mkF m 1 #[.val (.ref a), .val (.int o), .val (.int n), .unset] [(.int n)]))
  obtain ⟨T1, X1, e1, st1⟩ := getS2 X0 hx hZ hown (host := "") (Or.inl (hw _ (List.mem_of_getElem? (i := 11) rfl))) Via.refl e0 (Sta.ext O0.2 S_b) (g := (mkF m 1 #[.val (.ref a), .val (.int o), .val (.int n), .unset] [(.int n)])) rfl (hb hby d2_1)
  refine OEnds.via (fun _ k => st1 _ k) ?_
  show OEnds p e below s _ _ _ (T1.setTop (mkF m 4 #[.val (.ref a), .val (.int o), .val (.int n), .unset] [(.ref bm), (.int n)]))
  refine OEnds.via (fun _ k => X1.arraylength hx (by rw [e1]; exact (Arr.ext O0.2 Ab).1) (State.isArrayOf_alike hZ.alike (Arr.ext O0.2 Ab).2.1) (g := (mkF m 4 #[.val (.ref a), .val (.int o), .val (.int n), .unset] [(.ref bm), (.int n)])) rfl rfl (hb hby d2_4) _ k) ?_
  rw [len_of Sb (by decide : ¬ (3 : Int32) < 0)]
  show OEnds p e below s _ _ _ (T1.setTop (mkF m 5 #[.val (.ref a), .val (.int o), .val (.int n), .unset] [(.int (3 : Int32)), (.int n)]))
  refine OEnds.via (fun _ k => XS.icmpYes X1.here hx rfl (pc0 := 5) (pc' := 34) rfl (hb hby d2_5) rfl (tlt hn).1 (by decide) (by decide) k) ?_
  show OEnds p e below s _ _ _ (T1.setTop (mkF m 34 #[.val (.ref a), .val (.int o), .val (.int n), .unset] []))
  refine OEnds.via (fun _ k => XS.iconst X1.here hx rfl (hb hby d2_34) k) ?_
  show OEnds p e below s _ _ _ (T1.setTop (mkF m 35 #[.val (.ref a), .val (.int o), .val (.int n), .unset] [(.int (0 : Int32))]))
  refine OEnds.via (fun _ k => XS.istoreN X1.here hx rfl (hb hby d2_35) rfl (l' := #[.val (.ref a), .val (.int o), .val (.int n), .val (.int (0 : Int32))]) rfl k) ?_
  show OEnds p e below s _ _ _ (T1.setTop (mkF m 36 #[.val (.ref a), .val (.int o), .val (.int n), .val (.int (0 : Int32))] []))
  refine OEnds.via (fun _ k => XS.iloadN X1.here hx rfl (hb hby d2_36) rfl k) ?_
  show OEnds p e below s _ _ _ (T1.setTop (mkF m 37 #[.val (.ref a), .val (.int o), .val (.int n), .val (.int (0 : Int32))] [(.int (0 : Int32))]))
  refine OEnds.via (fun _ k => XS.ifYes X1.here hx rfl (pc0 := 37) (pc' := 47) rfl (hb hby d2_37) rfl ((if0 _ _).trans (teq (by decide : (0 : Int32) = (0 : Int32))).1) (by decide) (by decide) k) ?_
  show OEnds p e below s _ _ _ (T1.setTop (mkF m 47 #[.val (.ref a), .val (.int o), .val (.int n), .val (.int (0 : Int32))] []))
  refine OEnds.via (fun _ k => XS.iconst X1.here hx rfl (hb hby d2_47) k) ?_
  show OEnds p e below s _ _ _ (T1.setTop (mkF m 48 #[.val (.ref a), .val (.int o), .val (.int n), .val (.int (0 : Int32))] [(.int (0 : Int32))]))
  refine OEnds.retI X1 hx hlk Bd.returns (hb hby d2_48) ?_ (by decide) (by decide)
  exact ⟨rfl, N0, e1⟩
set_option maxRecDepth 65536 in
set_option maxHeartbeats 40000000 in
theorem rmB (l : Launch) (Z : State) (a0 : Array Value) (hw : ∀ d ∈ tables_1, d.before a0 Z = true) (ws : List Jvm.Cond) (a : Addr) (o : Int32) (n : Int32) (bm : Addr) (cl : Cell) (cb : Cell) (x : Int32) (y : Int32) (z : Int32) (h0 : Heap) (n0 : Nat) (O0 : Old Z n0 h0) (S_b : Sta Z Z.heap "com/example/odds3/odds3/engine/Utf8" "BYTE_ORDER_MARK" "[B" (.ref bm)) (Ar : Arr Z h0 a cl .byte) (Ab : Arr Z Z.heap bm cb .byte) (hi0 : ¬ ((o + (0 : Int32)) < 0 ∨ cl.slots.size ≤ ((o + (0 : Int32))).toNatClampNeg)) (hi1 : ¬ ((o + (1 : Int32)) < 0 ∨ cl.slots.size ≤ ((o + (1 : Int32))).toNatClampNeg)) (hi2 : ¬ ((o + (2 : Int32)) < 0 ∨ cl.slots.size ≤ ((o + (2 : Int32))).toNatClampNeg)) (ha0 : cl.slots[((o + (0 : Int32))).toNatClampNeg]? = some (.int x)) (ha1 : cl.slots[((o + (1 : Int32))).toNatClampNeg]? = some (.int y)) (ha2 : cl.slots[((o + (2 : Int32))).toNatClampNeg]? = some (.int z)) (Sb : cb.slots.size = (3 : Int32).toNatClampNeg) (hb0 : cb.slots[((0 : Int32)).toNatClampNeg]? = some (.int (-17 : Int32))) (hb1 : cb.slots[((1 : Int32)).toNatClampNeg]? = some (.int (-69 : Int32))) (hb2 : cb.slots[((2 : Int32)).toNatClampNeg]? = some (.int (-65 : Int32))) (hol : o.toInt ≤ 3) (hog : 0 ≤ o.toInt) (Sa : cl.slots.size = (6 : Int32).toNatClampNeg) (hn : ¬ n < (3 : Int32)) :
    MetFree l (⟨"com/example/odds3/odds3/engine/Utf8", "byteOrderMarkLength", "([BII)I"⟩ : MethodName) (head1 (Jvm.Cond.code (⟨"com/example/odds3/odds3/engine/Utf8", "byteOrderMarkLength", "([BII)I"⟩ : MethodName) prog_7_method_2_code 4 (some .int) :: ws) ({ frames := 3, cells := 0, slots := 0, locals := 110 } : Room)) (fun ar' U => ar' = #[(.ref a), (.int o), (.int n)] ∧ Z.Warmed39 U.vm ∧ U.heap = h0) (fun _ _ _ _ _ => True) (fun _ U o U' => ∃ v L, o = .returned v ∧ (QA (some (.int (own_bom x y z))) h0 n0) v U'.heap L ∧ FrameEnd U o U' L ({ frames := 3, cells := 0, slots := 0, locals := 110 } : Room).cells ({ frames := 3, cells := 0, slots := 0, locals := 110 } : Room).slots) := by
  refine MetFree.of_bodySF (plainFor_of_name pn_com_example_odds3_odds3_engine_Utf8) hisR ?_
  intro p e s m args below meth c s₁ Bd hml0 hP hK
  obtain ⟨rfl, hZ, hh⟩ := hP
  have hx := Bd.exec
  have hby := Bd.bytes
  have hlk := BodyLoose.notSynchronized Bd
  have hml : c.maxLocals = 4 := hml0
  have hown : s.vm.findClass "com/example/odds3/odds3/engine/Utf8" = some m.cls := findClass_of_methodNamed Bd.named
  have hnm := (name_of_methodNamed Bd.named Bd.method).1
  have X0 : Stand p l e ({ frames := 3, cells := 0, slots := 0, locals := 110 } : Room) s m #[(.ref a), (.int o), (.int n)] below meth c s₁ [] 0 0 := Stand.of_body Bd
  have e0 : s₁.heap = h0 := by rw [← hh, Bd.state]; rfl
  have N0 := Fr.nil n0
  have Z0 : n0 ≤ h0.size := O0.1 ▸ O0.2.1
  show OEnds p e below s ({ frames := 3, cells := 0, slots := 0, locals := 110 } : Room).cells ({ frames := 3, cells := 0, slots := 0, locals := 110 } : Room).slots (QA (some (.int (own_bom x y z))) h0 n0) (s₁.setTop (entryFrame m #[(.ref a), (.int o), (.int n)] 4))
  refine OEnds.via (fun _ k => castTop (show entryFrame m #[(.ref a), (.int o), (.int n)] 4 = (mkF m 0 #[.val (.ref a), .val (.int o), .val (.int n), .unset] []) by first | (simp [entryFrame, mkF, argsToLocals, Value.category, maxLocals]; done) | rfl) k) ?_
  refine OEnds.via (fun _ k => XS.iloadN X0.here hx rfl (hb hby d2_0) rfl k) ?_
  show OEnds p e below s _ _ _ (s₁.setTop (mkF m 1 #[.val (.ref a), .val (.int o), .val (.int n), .unset] [(.int n)]))
  obtain ⟨T1, X1, e1, st1⟩ := getS2 X0 hx hZ hown (host := "") (Or.inl (hw _ (List.mem_of_getElem? (i := 11) rfl))) Via.refl e0 (Sta.ext O0.2 S_b) (g := (mkF m 1 #[.val (.ref a), .val (.int o), .val (.int n), .unset] [(.int n)])) rfl (hb hby d2_1)
  refine OEnds.via (fun _ k => st1 _ k) ?_
  show OEnds p e below s _ _ _ (T1.setTop (mkF m 4 #[.val (.ref a), .val (.int o), .val (.int n), .unset] [(.ref bm), (.int n)]))
  refine OEnds.via (fun _ k => X1.arraylength hx (by rw [e1]; exact (Arr.ext O0.2 Ab).1) (State.isArrayOf_alike hZ.alike (Arr.ext O0.2 Ab).2.1) (g := (mkF m 4 #[.val (.ref a), .val (.int o), .val (.int n), .unset] [(.ref bm), (.int n)])) rfl rfl (hb hby d2_4) _ k) ?_
  rw [len_of Sb (by decide : ¬ (3 : Int32) < 0)]
  show OEnds p e below s _ _ _ (T1.setTop (mkF m 5 #[.val (.ref a), .val (.int o), .val (.int n), .unset] [(.int (3 : Int32)), (.int n)]))
  refine OEnds.via (fun _ k => XS.icmpNo X1.here hx rfl (hb hby d2_5) rfl (flt hn).1 k) ?_
  show OEnds p e below s _ _ _ (T1.setTop (mkF m 8 #[.val (.ref a), .val (.int o), .val (.int n), .unset] []))
  refine OEnds.via (fun _ k => XS.aloadN X1.here hx rfl (hb hby d2_8) rfl rfl k) ?_
  show OEnds p e below s _ _ _ (T1.setTop (mkF m 9 #[.val (.ref a), .val (.int o), .val (.int n), .unset] [(.ref a)]))
  refine OEnds.via (fun _ k => XS.iloadN X1.here hx rfl (hb hby d2_9) rfl k) ?_
  show OEnds p e below s _ _ _ (T1.setTop (mkF m 10 #[.val (.ref a), .val (.int o), .val (.int n), .unset] [(.int o), (.ref a)]))
  refine OEnds.via (fun _ k => XS.iloadN X1.here hx rfl (hb hby d2_10) rfl k) ?_
  show OEnds p e below s _ _ _ (T1.setTop (mkF m 11 #[.val (.ref a), .val (.int o), .val (.int n), .unset] [(.int o), (.int o), (.ref a)]))
  obtain ⟨T2, X2, e2, st2⟩ := getS2 X1 hx hZ hown (host := "") (Or.inl (hw _ (List.mem_of_getElem? (i := 11) rfl))) Via.refl e1 (Sta.ext O0.2 S_b) (g := (mkF m 11 #[.val (.ref a), .val (.int o), .val (.int n), .unset] [(.int o), (.int o), (.ref a)])) rfl (hb hby d2_11)
  refine OEnds.via (fun _ k => st2 _ k) ?_
  show OEnds p e below s _ _ _ (T2.setTop (mkF m 14 #[.val (.ref a), .val (.int o), .val (.int n), .unset] [(.ref bm), (.int o), (.int o), (.ref a)]))
  refine OEnds.via (fun _ k => X2.arraylength hx (by rw [e2]; exact (Arr.ext O0.2 Ab).1) (State.isArrayOf_alike hZ.alike (Arr.ext O0.2 Ab).2.1) (g := (mkF m 14 #[.val (.ref a), .val (.int o), .val (.int n), .unset] [(.ref bm), (.int o), (.int o), (.ref a)])) rfl rfl (hb hby d2_14) _ k) ?_
  rw [len_of Sb (by decide : ¬ (3 : Int32) < 0)]
  show OEnds p e below s _ _ _ (T2.setTop (mkF m 15 #[.val (.ref a), .val (.int o), .val (.int n), .unset] [(.int (3 : Int32)), (.int o), (.int o), (.ref a)]))
  refine OEnds.via (fun _ k => XS.iadd X2.here hx rfl (hb hby d2_15) rfl k) ?_
  show OEnds p e below s _ _ _ (T2.setTop (mkF m 16 #[.val (.ref a), .val (.int o), .val (.int n), .unset] [(.int (o + (3 : Int32))), (.int o), (.ref a)]))
  obtain ⟨T3, X3, e3, st3⟩ := getS2 X2 hx hZ hown (host := "") (Or.inl (hw _ (List.mem_of_getElem? (i := 11) rfl))) Via.refl e2 (Sta.ext O0.2 S_b) (g := (mkF m 16 #[.val (.ref a), .val (.int o), .val (.int n), .unset] [(.int (o + (3 : Int32))), (.int o), (.ref a)])) rfl (hb hby d2_16)
  refine OEnds.via (fun _ k => st3 _ k) ?_
  show OEnds p e below s _ _ _ (T3.setTop (mkF m 19 #[.val (.ref a), .val (.int o), .val (.int n), .unset] [(.ref bm), (.int (o + (3 : Int32))), (.int o), (.ref a)]))
  refine OEnds.via (fun _ k => XS.iconst X3.here hx rfl (hb hby d2_19) k) ?_
  show OEnds p e below s _ _ _ (T3.setTop (mkF m 20 #[.val (.ref a), .val (.int o), .val (.int n), .unset] [(.int (0 : Int32)), (.ref bm), (.int (o + (3 : Int32))), (.int o), (.ref a)]))
  obtain ⟨T4, X4, e4, st4⟩ := getS2 X3 hx hZ hown (host := "") (Or.inl (hw _ (List.mem_of_getElem? (i := 11) rfl))) Via.refl e3 (Sta.ext O0.2 S_b) (g := (mkF m 20 #[.val (.ref a), .val (.int o), .val (.int n), .unset] [(.int (0 : Int32)), (.ref bm), (.int (o + (3 : Int32))), (.int o), (.ref a)])) rfl (hb hby d2_20)
  refine OEnds.via (fun _ k => st4 _ k) ?_
  show OEnds p e below s _ _ _ (T4.setTop (mkF m 23 #[.val (.ref a), .val (.int o), .val (.int n), .unset] [(.ref bm), (.int (0 : Int32)), (.ref bm), (.int (o + (3 : Int32))), (.int o), (.ref a)]))
  refine OEnds.via (fun _ k => X4.arraylength hx (by rw [e4]; exact (Arr.ext O0.2 Ab).1) (State.isArrayOf_alike hZ.alike (Arr.ext O0.2 Ab).2.1) (g := (mkF m 23 #[.val (.ref a), .val (.int o), .val (.int n), .unset] [(.ref bm), (.int (0 : Int32)), (.ref bm), (.int (o + (3 : Int32))), (.int o), (.ref a)])) rfl rfl (hb hby d2_23) _ k) ?_
  rw [len_of Sb (by decide : ¬ (3 : Int32) < 0)]
  show OEnds p e below s _ _ _ (T4.setTop (mkF m 24 #[.val (.ref a), .val (.int o), .val (.int n), .unset] [(.int (3 : Int32)), (.int (0 : Int32)), (.ref bm), (.int (o + (3 : Int32))), (.int o), (.ref a)]))
  obtain ⟨_, _, ⟨T5, L5, k5, n5⟩, -, X5, ⟨Lc5, hQ5, l5, y5, z5⟩, st5⟩ := Jvm.LawKit.callS X4 hx (y := (⟨"java/util/Arrays", "equals", "([BII[BII)Z"⟩ : MethodName)) hown (mvT hZ (hw _ (List.mem_of_getElem? (i := 13) rfl))) (mvT hZ (hw _ (List.mem_of_getElem? (i := 14) rfl))) (mvT hZ (hw _ (List.mem_of_getElem? (i := 15) rfl))) (mvT hZ (hw _ (List.mem_of_getElem? (i := 16) rfl))) (by decide) (backOf (W := 0) (rmE l Z a0 hw [] a o bm cl cb x y z h0 n0 O0 Ar Ab hi0 hi1 hi2 ha0 ha1 ha2 Sb hb0 hb1 hb2 hol hog Sa) hZ (hw _ (List.mem_of_getElem? (i := 16) rfl)) (hw _ (List.mem_of_getElem? (i := 15) rfl)) (by decide) (by decide)) (g := (mkF m 24 #[.val (.ref a), .val (.int o), .val (.int n), .unset] [(.int (3 : Int32)), (.int (0 : Int32)), (.ref bm), (.int (o + (3 : Int32))), (.int o), (.ref a)])) rfl (by rw [hml]; rfl) (argsL := [(.ref a), (.int o), (.int (o + (3 : Int32))), (.ref bm), (.int (0 : Int32)), (.int (3 : Int32))]) (rest := []) (lenOf pd_285bBII5bBII29Z rfl) rfl (by show 2 * 0 + _ ≤ _; exact Nat.le_of_eq rfl) (hb hby d2_24) (fun _ _ => ⟨rfl, e4, Nat.le_of_ble_eq_true rfl, Nat.le_of_ble_eq_true rfl⟩)
  dsimp only [Pt.U, Pt.locs, Pt.cells, Pt.slots] at X5 l5 y5 z5 st5 hQ5
  subst l5 y5 z5
  obtain ⟨rfl, N5q, e5⟩ := hQ5
  have N5 := Fr.app N0 N5q
  refine OEnds.via (fun _ k => st5 _ k) ?_
  show OEnds p e below s _ _ _ (T5.setTop (mkF m 27 #[.val (.ref a), .val (.int o), .val (.int n), .unset] [(.int (own_eq x y z))]))
  by_cases hc27_5 : (own_eq x y z) = (0 : Int32)
  · skip
    refine OEnds.via (fun _ k => XS.ifYes X5.here hx rfl (pc0 := 27) (pc' := 34) rfl (hb hby d2_27) rfl ((if0 _ _).trans (teq hc27_5).1) (by decide) (by decide) k) ?_
    show OEnds p e below s _ _ _ (T5.setTop (mkF m 34 #[.val (.ref a), .val (.int o), .val (.int n), .unset] []))
    refine OEnds.via (fun _ k => XS.iconst X5.here hx rfl (hb hby d2_34) k) ?_
    show OEnds p e below s _ _ _ (T5.setTop (mkF m 35 #[.val (.ref a), .val (.int o), .val (.int n), .unset] [(.int (0 : Int32))]))
    refine OEnds.via (fun _ k => XS.istoreN X5.here hx rfl (hb hby d2_35) rfl (l' := #[.val (.ref a), .val (.int o), .val (.int n), .val (.int (0 : Int32))]) rfl k) ?_
    show OEnds p e below s _ _ _ (T5.setTop (mkF m 36 #[.val (.ref a), .val (.int o), .val (.int n), .val (.int (0 : Int32))] []))
    refine OEnds.via (fun _ k => XS.iloadN X5.here hx rfl (hb hby d2_36) rfl k) ?_
    show OEnds p e below s _ _ _ (T5.setTop (mkF m 37 #[.val (.ref a), .val (.int o), .val (.int n), .val (.int (0 : Int32))] [(.int (0 : Int32))]))
    refine OEnds.via (fun _ k => XS.ifYes X5.here hx rfl (pc0 := 37) (pc' := 47) rfl (hb hby d2_37) rfl ((if0 _ _).trans (teq (by decide : (0 : Int32) = (0 : Int32))).1) (by decide) (by decide) k) ?_
    show OEnds p e below s _ _ _ (T5.setTop (mkF m 47 #[.val (.ref a), .val (.int o), .val (.int n), .val (.int (0 : Int32))] []))
    refine OEnds.via (fun _ k => XS.iconst X5.here hx rfl (hb hby d2_47) k) ?_
    show OEnds p e below s _ _ _ (T5.setTop (mkF m 48 #[.val (.ref a), .val (.int o), .val (.int n), .val (.int (0 : Int32))] [(.int (0 : Int32))]))
    refine OEnds.retI X5 hx hlk Bd.returns (hb hby d2_48) ?_ (by decide) (by decide)
    exact ⟨by simp only [own_bom, if_pos hc27_5]; first | done | rfl, N5, e5⟩
  · skip
    refine OEnds.via (fun _ k => XS.ifNo X5.here hx rfl (hb hby d2_27) rfl ((if0 _ _).trans (feq hc27_5).1) k) ?_
    show OEnds p e below s _ _ _ (T5.setTop (mkF m 30 #[.val (.ref a), .val (.int o), .val (.int n), .unset] []))
    refine OEnds.via (fun _ k => XS.iconst X5.here hx rfl (hb hby d2_30) k) ?_
    show OEnds p e below s _ _ _ (T5.setTop (mkF m 31 #[.val (.ref a), .val (.int o), .val (.int n), .unset] [(.int (1 : Int32))]))
    refine OEnds.via (fun _ k => XS.goto X5.here hx rfl (pc0 := 31) (pc' := 35) rfl (hb hby d2_31) (by decide) (by decide) k) ?_
    show OEnds p e below s _ _ _ (T5.setTop (mkF m 35 #[.val (.ref a), .val (.int o), .val (.int n), .unset] [(.int (1 : Int32))]))
    refine OEnds.via (fun _ k => XS.istoreN X5.here hx rfl (hb hby d2_35) rfl (l' := #[.val (.ref a), .val (.int o), .val (.int n), .val (.int (1 : Int32))]) rfl k) ?_
    show OEnds p e below s _ _ _ (T5.setTop (mkF m 36 #[.val (.ref a), .val (.int o), .val (.int n), .val (.int (1 : Int32))] []))
    refine OEnds.via (fun _ k => XS.iloadN X5.here hx rfl (hb hby d2_36) rfl k) ?_
    show OEnds p e below s _ _ _ (T5.setTop (mkF m 37 #[.val (.ref a), .val (.int o), .val (.int n), .val (.int (1 : Int32))] [(.int (1 : Int32))]))
    refine OEnds.via (fun _ k => XS.ifNo X5.here hx rfl (hb hby d2_37) rfl ((if0 _ _).trans (feq (by decide : ¬ ((1 : Int32) = (0 : Int32)))).1) k) ?_
    show OEnds p e below s _ _ _ (T5.setTop (mkF m 40 #[.val (.ref a), .val (.int o), .val (.int n), .val (.int (1 : Int32))] []))
    obtain ⟨T7, X7, e7, st7⟩ := getS2 X5 hx hZ hown (host := "") (Or.inl (hw _ (List.mem_of_getElem? (i := 11) rfl))) Via.refl e5 (Sta.ext O0.2 S_b) (g := (mkF m 40 #[.val (.ref a), .val (.int o), .val (.int n), .val (.int (1 : Int32))] [])) rfl (hb hby d2_40)
    refine OEnds.via (fun _ k => st7 _ k) ?_
    show OEnds p e below s _ _ _ (T7.setTop (mkF m 43 #[.val (.ref a), .val (.int o), .val (.int n), .val (.int (1 : Int32))] [(.ref bm)]))
    refine OEnds.via (fun _ k => X7.arraylength hx (by rw [e7]; exact (Arr.ext O0.2 Ab).1) (State.isArrayOf_alike hZ.alike (Arr.ext O0.2 Ab).2.1) (g := (mkF m 43 #[.val (.ref a), .val (.int o), .val (.int n), .val (.int (1 : Int32))] [(.ref bm)])) rfl rfl (hb hby d2_43) _ k) ?_
    rw [len_of Sb (by decide : ¬ (3 : Int32) < 0)]
    show OEnds p e below s _ _ _ (T7.setTop (mkF m 44 #[.val (.ref a), .val (.int o), .val (.int n), .val (.int (1 : Int32))] [(.int (3 : Int32))]))
    refine OEnds.via (fun _ k => XS.goto X7.here hx rfl (pc0 := 44) (pc' := 48) rfl (hb hby d2_44) (by decide) (by decide) k) ?_
    show OEnds p e below s _ _ _ (T7.setTop (mkF m 48 #[.val (.ref a), .val (.int o), .val (.int n), .val (.int (1 : Int32))] [(.int (3 : Int32))]))
    refine OEnds.retI X7 hx hlk Bd.returns (hb hby d2_48) ?_ (by decide) (by decide)
    exact ⟨by simp only [own_bom, if_neg hc27_5]; first | done | rfl, N5, e7⟩
theorem pd_28I29B : parseMethodDescriptor "(I)B" = some ⟨[.int], some .byte⟩ := by decide +kernel
theorem pd_285bBII29I : parseMethodDescriptor "([BII)I" = some ⟨[(.array .byte), .int, .int], some .int⟩ := by decide +kernel
set_option maxRecDepth 65536 in
set_option maxHeartbeats 40000000 in
theorem rm0 (l : Launch) (Z : State) (a0 : Array Value) (hw : ∀ d ∈ tables_1, d.before a0 Z = true) (ws : List Jvm.Cond) (p0 : Int32) (p1 : Int32) (p2 : Int32) (p3 : Int32) (p4 : Int32) (bm : Addr) (cb : Cell) (h0 : Heap) (n0 : Nat) (O0 : Old Z n0 h0) (S_b : Sta Z Z.heap "com/example/odds3/odds3/engine/Utf8" "BYTE_ORDER_MARK" "[B" (.ref bm)) (Ab : Arr Z Z.heap bm cb .byte) (Sb : cb.slots.size = (3 : Int32).toNatClampNeg) (hb0 : cb.slots[((0 : Int32)).toNatClampNeg]? = some (.int (-17 : Int32))) (hb1 : cb.slots[((1 : Int32)).toNatClampNeg]? = some (.int (-69 : Int32))) (hb2 : cb.slots[((2 : Int32)).toNatClampNeg]? = some (.int (-65 : Int32))) :
    MetFree l x (head1 (Jvm.Cond.code x code maxLocals ret :: ws) room_1) (fun ar' U => ar' = #[(.int p0), (.int p1), (.int p2), (.int p3), (.int p4)] ∧ Z.Warmed39 U.vm ∧ U.heap = h0) (fun _ _ _ _ _ => True) (fun _ U o U' => ∃ v L, o = .returned v ∧ (QL n0) v U'.heap L ∧ FrameEnd U o U' L 16 128) := by
  refine MetFree.of_bodySF (plainFor_of_name pn_com_example_odds3_odds3_engine_Utf8ByteOrderMarkLengthPinLaw) hisR ?_
  intro p e s m args below meth c s₁ Bd hml0 hP hK
  obtain ⟨rfl, hZ, hh⟩ := hP
  have hx := Bd.exec
  have hby := Bd.bytes
  have hlk := BodyLoose.notSynchronized Bd
  have hml : c.maxLocals = 10 := hml0
  have hown : s.vm.findClass "com/example/odds3/odds3/engine/Utf8ByteOrderMarkLengthPinLaw" = some m.cls := findClass_of_methodNamed Bd.named
  have hnm := (name_of_methodNamed Bd.named Bd.method).1
  have X0 : Stand p l e room_1 s m #[(.int p0), (.int p1), (.int p2), (.int p3), (.int p4)] below meth c s₁ [] 0 0 := Stand.of_body Bd
  have e0 : s₁.heap = h0 := by rw [← hh, Bd.state]; rfl
  have N0 := Fr.nil n0
  have Z0 : n0 ≤ h0.size := O0.1 ▸ O0.2.1
  show OEnds p e below s 16 128 (QL n0) (s₁.setTop (entryFrame m #[(.int p0), (.int p1), (.int p2), (.int p3), (.int p4)] maxLocals))
  refine OEnds.via (fun _ k => castTop (show entryFrame m #[(.int p0), (.int p1), (.int p2), (.int p3), (.int p4)] maxLocals = (mkF m 0 #[.val (.int p0), .val (.int p1), .val (.int p2), .val (.int p3), .val (.int p4), .unset, .unset, .unset, .unset, .unset] []) by first | (simp [entryFrame, mkF, argsToLocals, Value.category, maxLocals]; done) | rfl) k) ?_
  have Od := O0
  show OEnds p e below s _ _ _ (s₁.setTop (mkF m 0 #[.val (.int p0), .val (.int p1), .val (.int p2), .val (.int p3), .val (.int p4), .unset, .unset, .unset, .unset, .unset] []))
  refine OEnds.via (fun _ k => XS.bipush X0.here hx rfl (hb hby at_0) k) ?_
  show OEnds p e below s _ _ _ (s₁.setTop (mkF m 2 #[.val (.int p0), .val (.int p1), .val (.int p2), .val (.int p3), .val (.int p4), .unset, .unset, .unset, .unset, .unset] [(.int (6 : Int32))]))
  obtain ⟨T1, h1, k1, X1, e1, E1, A1, st1⟩ := newP X0 hx hZ (hw _ (List.mem_of_getElem? (i := 0) rfl)) e0 (g := (mkF m 2 #[.val (.int p0), .val (.int p1), .val (.int p2), .val (.int p3), .val (.int p4), .unset, .unset, .unset, .unset, .unset] [(.int (6 : Int32))])) rfl (hb hby at_2) rfl (by decide) (cap := 6) (by decide) (by decide) (by decide) (by decide)
  obtain ⟨b1, g1⟩ : ∃ z, z = h0.size := ⟨_, rfl⟩
  have ge_b1 : n0 ≤ b1 := Nat.le_trans (Od.1 ▸ Od.2.1) (Nat.le_of_eq g1.symm)
  rw [← g1] at A1 st1
  replace Od := Od.ext E1
  have V_b1 : Arv Z h1 b1 k1 .byte (6 : Int32) [(.int (0 : Int32)), (.int (0 : Int32)), (.int (0 : Int32)), (.int (0 : Int32)), (.int (0 : Int32)), (.int (0 : Int32))] (.int (0 : Int32)) := (Arv.new A1 (by decide)).pad (pad_rep [] (.int (0 : Int32)) 6)
  refine OEnds.via (fun _ k => st1 _ k) ?_
  show OEnds p e below s _ _ _ (T1.setTop (mkF m 4 #[.val (.int p0), .val (.int p1), .val (.int p2), .val (.int p3), .val (.int p4), .unset, .unset, .unset, .unset, .unset] [(.ref b1)]))
  refine OEnds.via (fun _ k => XS.astore X1.here hx rfl (hb hby at_4) rfl rfl (l' := #[.val (.int p0), .val (.int p1), .val (.int p2), .val (.int p3), .val (.int p4), .val (.ref b1), .unset, .unset, .unset, .unset]) rfl k) ?_
  show OEnds p e below s _ _ _ (T1.setTop (mkF m 6 #[.val (.int p0), .val (.int p1), .val (.int p2), .val (.int p3), .val (.int p4), .val (.ref b1), .unset, .unset, .unset, .unset] []))
  refine OEnds.via (fun _ k => XS.aload X1.here hx rfl (hb hby at_6) rfl rfl k) ?_
  show OEnds p e below s _ _ _ (T1.setTop (mkF m 8 #[.val (.int p0), .val (.int p1), .val (.int p2), .val (.int p3), .val (.int p4), .val (.ref b1), .unset, .unset, .unset, .unset] [(.ref b1)]))
  refine OEnds.via (fun _ k => XS.iconst X1.here hx rfl (hb hby at_8) k) ?_
  show OEnds p e below s _ _ _ (T1.setTop (mkF m 9 #[.val (.int p0), .val (.int p1), .val (.int p2), .val (.int p3), .val (.int p4), .val (.ref b1), .unset, .unset, .unset, .unset] [(.int (0 : Int32)), (.ref b1)]))
  refine OEnds.via (fun _ k => XS.iloadN X1.here hx rfl (hb hby at_9) rfl k) ?_
  show OEnds p e below s _ _ _ (T1.setTop (mkF m 10 #[.val (.int p0), .val (.int p1), .val (.int p2), .val (.int p3), .val (.int p4), .val (.ref b1), .unset, .unset, .unset, .unset] [(.int p0), (.int (0 : Int32)), (.ref b1)]))
  refine OEnds.via (fun _ k => X1.ldcInt hx hown (mvT hZ (hw _ (List.mem_of_getElem? (i := 1) rfl))) (g := (mkF m 10 #[.val (.int p0), .val (.int p1), .val (.int p2), .val (.int p3), .val (.int p4), .val (.ref b1), .unset, .unset, .unset, .unset] [(.int p0), (.int (0 : Int32)), (.ref b1)])) rfl (hb hby at_10) _ k) ?_
  show OEnds p e below s _ _ _ (T1.setTop (mkF m 12 #[.val (.int p0), .val (.int p1), .val (.int p2), .val (.int p3), .val (.int p4), .val (.ref b1), .unset, .unset, .unset, .unset] [(.int (65535 : Int32)), (.int p0), (.int (0 : Int32)), (.ref b1)]))
  refine OEnds.via (fun _ k => XS.iand X1.here hx rfl (hb hby at_12) rfl k) ?_
  show OEnds p e below s _ _ _ (T1.setTop (mkF m 13 #[.val (.int p0), .val (.int p1), .val (.int p2), .val (.int p3), .val (.int p4), .val (.ref b1), .unset, .unset, .unset, .unset] [(.int (p0 &&& (65535 : Int32))), (.int (0 : Int32)), (.ref b1)]))
  obtain ⟨_, _, ⟨T2, L2, k2, n2⟩, -, X2, ⟨Lc2, hQ2, l2, y2, z2⟩, st2⟩ := Jvm.LawKit.callS X1 hx (y := (⟨"com/example/odds3/odds3/engine/Utf8ByteOrderMarkLengthPinLaw", "pick", "(I)B"⟩ : MethodName)) hown (mvT hZ (hw _ (List.mem_of_getElem? (i := 2) rfl))) (mvT hZ (hw _ (List.mem_of_getElem? (i := 3) rfl))) (mvT hZ (hw _ (List.mem_of_getElem? (i := 4) rfl))) (mvT hZ (hw _ (List.mem_of_getElem? (i := 5) rfl))) (by decide) (backOf (W := 2) (rmP l Z a0 hw [] (p0 &&& (65535 : Int32)) h1 n0 Od ) hZ (hw _ (List.mem_of_getElem? (i := 5) rfl)) (hw _ (List.mem_of_getElem? (i := 4) rfl)) (by decide) (by decide)) (g := (mkF m 13 #[.val (.int p0), .val (.int p1), .val (.int p2), .val (.int p3), .val (.int p4), .val (.ref b1), .unset, .unset, .unset, .unset] [(.int (p0 &&& (65535 : Int32))), (.int (0 : Int32)), (.ref b1)])) rfl (by rw [hml]; rfl) (argsL := [(.int (p0 &&& (65535 : Int32)))]) (rest := [(.int (0 : Int32)), (.ref b1)]) (lenOf pd_28I29B rfl) rfl (by show 2 * 0 + _ ≤ _; exact Nat.le_of_eq rfl) (hb hby at_13) (fun _ _ => ⟨rfl, e1, Nat.le_of_ble_eq_true rfl, Nat.le_of_ble_eq_true rfl⟩)
  dsimp only [Pt.U, Pt.locs, Pt.cells, Pt.slots] at X2 l2 y2 z2 st2 hQ2
  subst l2 y2 z2
  obtain ⟨rfl, N2q, e2⟩ := hQ2
  have N2 := Fr.app N0 N2q
  refine OEnds.via (fun _ k => st2 _ k) ?_
  show OEnds p e below s _ _ _ (T2.setTop (mkF m 16 #[.val (.int p0), .val (.int p1), .val (.int p2), .val (.int p3), .val (.int p4), .val (.ref b1), .unset, .unset, .unset, .unset] [(.int (own_pk (p0 &&& (65535 : Int32)))), (.int (0 : Int32)), (.ref b1)]))
  obtain ⟨cl3, Ar3, q3, S3, M3, H3, G3⟩ := V_b1
  obtain ⟨T3, h3, X3, e3, W3, st3⟩ := stB X2 hx hZ e2 Ar3 (j := (0 : Int32)) (inb_of S3 ⟨by decide, by decide⟩) (g := (mkF m 16 #[.val (.int p0), .val (.int p1), .val (.int p2), .val (.int p3), .val (.int p4), .val (.ref b1), .unset, .unset, .unset, .unset] [(.int (own_pk (p0 &&& (65535 : Int32)))), (.int (0 : Int32)), (.ref b1)])) rfl rfl (hb hby at_16)
  have V_b1 : Arv Z h3 b1 k1 .byte (6 : Int32) [(.int (nar .byte (own_pk (p0 &&& (65535 : Int32))))), (.int (0 : Int32)), (.int (0 : Int32)), (.int (0 : Int32)), (.int (0 : Int32)), (.int (0 : Int32))] (.int (0 : Int32)) := Arv.set Ar3 q3 S3 M3 H3 G3 (fits_nar_byte _) W3 0 rfl (Nat.le_of_ble_eq_true rfl)
  have N3 := Fr.snoc X3 N2 ge_b1
  replace Od := Od.wr W3 ge_b1
  refine OEnds.via (fun _ k => st3 _ k) ?_
  show OEnds p e below s _ _ _ (T3.setTop (mkF m 17 #[.val (.int p0), .val (.int p1), .val (.int p2), .val (.int p3), .val (.int p4), .val (.ref b1), .unset, .unset, .unset, .unset] []))
  refine OEnds.via (fun _ k => XS.aload X3.here hx rfl (hb hby at_17) rfl rfl k) ?_
  show OEnds p e below s _ _ _ (T3.setTop (mkF m 19 #[.val (.int p0), .val (.int p1), .val (.int p2), .val (.int p3), .val (.int p4), .val (.ref b1), .unset, .unset, .unset, .unset] [(.ref b1)]))
  refine OEnds.via (fun _ k => XS.iconst X3.here hx rfl (hb hby at_19) k) ?_
  show OEnds p e below s _ _ _ (T3.setTop (mkF m 20 #[.val (.int p0), .val (.int p1), .val (.int p2), .val (.int p3), .val (.int p4), .val (.ref b1), .unset, .unset, .unset, .unset] [(.int (1 : Int32)), (.ref b1)]))
  refine OEnds.via (fun _ k => XS.iloadN X3.here hx rfl (hb hby at_20) rfl k) ?_
  show OEnds p e below s _ _ _ (T3.setTop (mkF m 21 #[.val (.int p0), .val (.int p1), .val (.int p2), .val (.int p3), .val (.int p4), .val (.ref b1), .unset, .unset, .unset, .unset] [(.int p0), (.int (1 : Int32)), (.ref b1)]))
  refine OEnds.via (fun _ k => XS.bipush X3.here hx rfl (hb hby at_21) k) ?_
  show OEnds p e below s _ _ _ (T3.setTop (mkF m 23 #[.val (.int p0), .val (.int p1), .val (.int p2), .val (.int p3), .val (.int p4), .val (.ref b1), .unset, .unset, .unset, .unset] [(.int (16 : Int32)), (.int p0), (.int (1 : Int32)), (.ref b1)]))
  refine OEnds.via (fun _ k => XS.iushr X3.here hx rfl (hb hby at_23) rfl k) ?_
  show OEnds p e below s _ _ _ (T3.setTop (mkF m 24 #[.val (.int p0), .val (.int p1), .val (.int p2), .val (.int p3), .val (.int p4), .val (.ref b1), .unset, .unset, .unset, .unset] [(.int ((p0.toUInt32 >>> ((16 : Int32) &&& 31).toUInt32).toInt32)), (.int (1 : Int32)), (.ref b1)]))
  obtain ⟨_, _, ⟨T4, L4, k4, n4⟩, -, X4, ⟨Lc4, hQ4, l4, y4, z4⟩, st4⟩ := Jvm.LawKit.callS X3 hx (y := (⟨"com/example/odds3/odds3/engine/Utf8ByteOrderMarkLengthPinLaw", "pick", "(I)B"⟩ : MethodName)) hown (mvT hZ (hw _ (List.mem_of_getElem? (i := 2) rfl))) (mvT hZ (hw _ (List.mem_of_getElem? (i := 3) rfl))) (mvT hZ (hw _ (List.mem_of_getElem? (i := 4) rfl))) (mvT hZ (hw _ (List.mem_of_getElem? (i := 5) rfl))) (by decide) (backOf (W := 2) (rmP l Z a0 hw [] ((p0.toUInt32 >>> ((16 : Int32) &&& 31).toUInt32).toInt32) h3 n0 Od ) hZ (hw _ (List.mem_of_getElem? (i := 5) rfl)) (hw _ (List.mem_of_getElem? (i := 4) rfl)) (by decide) (by decide)) (g := (mkF m 24 #[.val (.int p0), .val (.int p1), .val (.int p2), .val (.int p3), .val (.int p4), .val (.ref b1), .unset, .unset, .unset, .unset] [(.int ((p0.toUInt32 >>> ((16 : Int32) &&& 31).toUInt32).toInt32)), (.int (1 : Int32)), (.ref b1)])) rfl (by rw [hml]; rfl) (argsL := [(.int ((p0.toUInt32 >>> ((16 : Int32) &&& 31).toUInt32).toInt32))]) (rest := [(.int (1 : Int32)), (.ref b1)]) (lenOf pd_28I29B rfl) rfl (by show 2 * 0 + _ ≤ _; exact Nat.le_of_eq rfl) (hb hby at_24) (fun _ _ => ⟨rfl, e3, Nat.le_of_ble_eq_true rfl, Nat.le_of_ble_eq_true rfl⟩)
  dsimp only [Pt.U, Pt.locs, Pt.cells, Pt.slots] at X4 l4 y4 z4 st4 hQ4
  subst l4 y4 z4
  obtain ⟨rfl, N4q, e4⟩ := hQ4
  have N4 := Fr.app N3 N4q
  refine OEnds.via (fun _ k => st4 _ k) ?_
  show OEnds p e below s _ _ _ (T4.setTop (mkF m 27 #[.val (.int p0), .val (.int p1), .val (.int p2), .val (.int p3), .val (.int p4), .val (.ref b1), .unset, .unset, .unset, .unset] [(.int (own_pk ((p0.toUInt32 >>> ((16 : Int32) &&& 31).toUInt32).toInt32))), (.int (1 : Int32)), (.ref b1)]))
  obtain ⟨cl5, Ar5, q5, S5, M5, H5, G5⟩ := V_b1
  obtain ⟨T5, h5, X5, e5, W5, st5⟩ := stB X4 hx hZ e4 Ar5 (j := (1 : Int32)) (inb_of S5 ⟨by decide, by decide⟩) (g := (mkF m 27 #[.val (.int p0), .val (.int p1), .val (.int p2), .val (.int p3), .val (.int p4), .val (.ref b1), .unset, .unset, .unset, .unset] [(.int (own_pk ((p0.toUInt32 >>> ((16 : Int32) &&& 31).toUInt32).toInt32))), (.int (1 : Int32)), (.ref b1)])) rfl rfl (hb hby at_27)
  have V_b1 : Arv Z h5 b1 k1 .byte (6 : Int32) [(.int (nar .byte (own_pk (p0 &&& (65535 : Int32))))), (.int (nar .byte (own_pk ((p0.toUInt32 >>> ((16 : Int32) &&& 31).toUInt32).toInt32)))), (.int (0 : Int32)), (.int (0 : Int32)), (.int (0 : Int32)), (.int (0 : Int32))] (.int (0 : Int32)) := Arv.set Ar5 q5 S5 M5 H5 G5 (fits_nar_byte _) W5 1 rfl (Nat.le_of_ble_eq_true rfl)
  have N5 := Fr.snoc X5 N4 ge_b1
  replace Od := Od.wr W5 ge_b1
  refine OEnds.via (fun _ k => st5 _ k) ?_
  show OEnds p e below s _ _ _ (T5.setTop (mkF m 28 #[.val (.int p0), .val (.int p1), .val (.int p2), .val (.int p3), .val (.int p4), .val (.ref b1), .unset, .unset, .unset, .unset] []))
  refine OEnds.via (fun _ k => XS.aload X5.here hx rfl (hb hby at_28) rfl rfl k) ?_
  show OEnds p e below s _ _ _ (T5.setTop (mkF m 30 #[.val (.int p0), .val (.int p1), .val (.int p2), .val (.int p3), .val (.int p4), .val (.ref b1), .unset, .unset, .unset, .unset] [(.ref b1)]))
  refine OEnds.via (fun _ k => XS.iconst X5.here hx rfl (hb hby at_30) k) ?_
  show OEnds p e below s _ _ _ (T5.setTop (mkF m 31 #[.val (.int p0), .val (.int p1), .val (.int p2), .val (.int p3), .val (.int p4), .val (.ref b1), .unset, .unset, .unset, .unset] [(.int (2 : Int32)), (.ref b1)]))
  refine OEnds.via (fun _ k => XS.iloadN X5.here hx rfl (hb hby at_31) rfl k) ?_
  show OEnds p e below s _ _ _ (T5.setTop (mkF m 32 #[.val (.int p0), .val (.int p1), .val (.int p2), .val (.int p3), .val (.int p4), .val (.ref b1), .unset, .unset, .unset, .unset] [(.int p1), (.int (2 : Int32)), (.ref b1)]))
  refine OEnds.via (fun _ k => X5.ldcInt hx hown (mvT hZ (hw _ (List.mem_of_getElem? (i := 1) rfl))) (g := (mkF m 32 #[.val (.int p0), .val (.int p1), .val (.int p2), .val (.int p3), .val (.int p4), .val (.ref b1), .unset, .unset, .unset, .unset] [(.int p1), (.int (2 : Int32)), (.ref b1)])) rfl (hb hby at_32) _ k) ?_
  show OEnds p e below s _ _ _ (T5.setTop (mkF m 34 #[.val (.int p0), .val (.int p1), .val (.int p2), .val (.int p3), .val (.int p4), .val (.ref b1), .unset, .unset, .unset, .unset] [(.int (65535 : Int32)), (.int p1), (.int (2 : Int32)), (.ref b1)]))
  refine OEnds.via (fun _ k => XS.iand X5.here hx rfl (hb hby at_34) rfl k) ?_
  show OEnds p e below s _ _ _ (T5.setTop (mkF m 35 #[.val (.int p0), .val (.int p1), .val (.int p2), .val (.int p3), .val (.int p4), .val (.ref b1), .unset, .unset, .unset, .unset] [(.int (p1 &&& (65535 : Int32))), (.int (2 : Int32)), (.ref b1)]))
  obtain ⟨_, _, ⟨T6, L6, k6, n6⟩, -, X6, ⟨Lc6, hQ6, l6, y6, z6⟩, st6⟩ := Jvm.LawKit.callS X5 hx (y := (⟨"com/example/odds3/odds3/engine/Utf8ByteOrderMarkLengthPinLaw", "pick", "(I)B"⟩ : MethodName)) hown (mvT hZ (hw _ (List.mem_of_getElem? (i := 2) rfl))) (mvT hZ (hw _ (List.mem_of_getElem? (i := 3) rfl))) (mvT hZ (hw _ (List.mem_of_getElem? (i := 4) rfl))) (mvT hZ (hw _ (List.mem_of_getElem? (i := 5) rfl))) (by decide) (backOf (W := 2) (rmP l Z a0 hw [] (p1 &&& (65535 : Int32)) h5 n0 Od ) hZ (hw _ (List.mem_of_getElem? (i := 5) rfl)) (hw _ (List.mem_of_getElem? (i := 4) rfl)) (by decide) (by decide)) (g := (mkF m 35 #[.val (.int p0), .val (.int p1), .val (.int p2), .val (.int p3), .val (.int p4), .val (.ref b1), .unset, .unset, .unset, .unset] [(.int (p1 &&& (65535 : Int32))), (.int (2 : Int32)), (.ref b1)])) rfl (by rw [hml]; rfl) (argsL := [(.int (p1 &&& (65535 : Int32)))]) (rest := [(.int (2 : Int32)), (.ref b1)]) (lenOf pd_28I29B rfl) rfl (by show 2 * 0 + _ ≤ _; exact Nat.le_of_eq rfl) (hb hby at_35) (fun _ _ => ⟨rfl, e5, Nat.le_of_ble_eq_true rfl, Nat.le_of_ble_eq_true rfl⟩)
  dsimp only [Pt.U, Pt.locs, Pt.cells, Pt.slots] at X6 l6 y6 z6 st6 hQ6
  subst l6 y6 z6
  obtain ⟨rfl, N6q, e6⟩ := hQ6
  have N6 := Fr.app N5 N6q
  refine OEnds.via (fun _ k => st6 _ k) ?_
  show OEnds p e below s _ _ _ (T6.setTop (mkF m 38 #[.val (.int p0), .val (.int p1), .val (.int p2), .val (.int p3), .val (.int p4), .val (.ref b1), .unset, .unset, .unset, .unset] [(.int (own_pk (p1 &&& (65535 : Int32)))), (.int (2 : Int32)), (.ref b1)]))
  obtain ⟨cl7, Ar7, q7, S7, M7, H7, G7⟩ := V_b1
  obtain ⟨T7, h7, X7, e7, W7, st7⟩ := stB X6 hx hZ e6 Ar7 (j := (2 : Int32)) (inb_of S7 ⟨by decide, by decide⟩) (g := (mkF m 38 #[.val (.int p0), .val (.int p1), .val (.int p2), .val (.int p3), .val (.int p4), .val (.ref b1), .unset, .unset, .unset, .unset] [(.int (own_pk (p1 &&& (65535 : Int32)))), (.int (2 : Int32)), (.ref b1)])) rfl rfl (hb hby at_38)
  have V_b1 : Arv Z h7 b1 k1 .byte (6 : Int32) [(.int (nar .byte (own_pk (p0 &&& (65535 : Int32))))), (.int (nar .byte (own_pk ((p0.toUInt32 >>> ((16 : Int32) &&& 31).toUInt32).toInt32)))), (.int (nar .byte (own_pk (p1 &&& (65535 : Int32))))), (.int (0 : Int32)), (.int (0 : Int32)), (.int (0 : Int32))] (.int (0 : Int32)) := Arv.set Ar7 q7 S7 M7 H7 G7 (fits_nar_byte _) W7 2 rfl (Nat.le_of_ble_eq_true rfl)
  have N7 := Fr.snoc X7 N6 ge_b1
  replace Od := Od.wr W7 ge_b1
  refine OEnds.via (fun _ k => st7 _ k) ?_
  show OEnds p e below s _ _ _ (T7.setTop (mkF m 39 #[.val (.int p0), .val (.int p1), .val (.int p2), .val (.int p3), .val (.int p4), .val (.ref b1), .unset, .unset, .unset, .unset] []))
  refine OEnds.via (fun _ k => XS.aload X7.here hx rfl (hb hby at_39) rfl rfl k) ?_
  show OEnds p e below s _ _ _ (T7.setTop (mkF m 41 #[.val (.int p0), .val (.int p1), .val (.int p2), .val (.int p3), .val (.int p4), .val (.ref b1), .unset, .unset, .unset, .unset] [(.ref b1)]))
  refine OEnds.via (fun _ k => XS.iconst X7.here hx rfl (hb hby at_41) k) ?_
  show OEnds p e below s _ _ _ (T7.setTop (mkF m 42 #[.val (.int p0), .val (.int p1), .val (.int p2), .val (.int p3), .val (.int p4), .val (.ref b1), .unset, .unset, .unset, .unset] [(.int (3 : Int32)), (.ref b1)]))
  refine OEnds.via (fun _ k => XS.iloadN X7.here hx rfl (hb hby at_42) rfl k) ?_
  show OEnds p e below s _ _ _ (T7.setTop (mkF m 43 #[.val (.int p0), .val (.int p1), .val (.int p2), .val (.int p3), .val (.int p4), .val (.ref b1), .unset, .unset, .unset, .unset] [(.int p1), (.int (3 : Int32)), (.ref b1)]))
  refine OEnds.via (fun _ k => XS.bipush X7.here hx rfl (hb hby at_43) k) ?_
  show OEnds p e below s _ _ _ (T7.setTop (mkF m 45 #[.val (.int p0), .val (.int p1), .val (.int p2), .val (.int p3), .val (.int p4), .val (.ref b1), .unset, .unset, .unset, .unset] [(.int (16 : Int32)), (.int p1), (.int (3 : Int32)), (.ref b1)]))
  refine OEnds.via (fun _ k => XS.iushr X7.here hx rfl (hb hby at_45) rfl k) ?_
  show OEnds p e below s _ _ _ (T7.setTop (mkF m 46 #[.val (.int p0), .val (.int p1), .val (.int p2), .val (.int p3), .val (.int p4), .val (.ref b1), .unset, .unset, .unset, .unset] [(.int ((p1.toUInt32 >>> ((16 : Int32) &&& 31).toUInt32).toInt32)), (.int (3 : Int32)), (.ref b1)]))
  obtain ⟨_, _, ⟨T8, L8, k8, n8⟩, -, X8, ⟨Lc8, hQ8, l8, y8, z8⟩, st8⟩ := Jvm.LawKit.callS X7 hx (y := (⟨"com/example/odds3/odds3/engine/Utf8ByteOrderMarkLengthPinLaw", "pick", "(I)B"⟩ : MethodName)) hown (mvT hZ (hw _ (List.mem_of_getElem? (i := 2) rfl))) (mvT hZ (hw _ (List.mem_of_getElem? (i := 3) rfl))) (mvT hZ (hw _ (List.mem_of_getElem? (i := 4) rfl))) (mvT hZ (hw _ (List.mem_of_getElem? (i := 5) rfl))) (by decide) (backOf (W := 2) (rmP l Z a0 hw [] ((p1.toUInt32 >>> ((16 : Int32) &&& 31).toUInt32).toInt32) h7 n0 Od ) hZ (hw _ (List.mem_of_getElem? (i := 5) rfl)) (hw _ (List.mem_of_getElem? (i := 4) rfl)) (by decide) (by decide)) (g := (mkF m 46 #[.val (.int p0), .val (.int p1), .val (.int p2), .val (.int p3), .val (.int p4), .val (.ref b1), .unset, .unset, .unset, .unset] [(.int ((p1.toUInt32 >>> ((16 : Int32) &&& 31).toUInt32).toInt32)), (.int (3 : Int32)), (.ref b1)])) rfl (by rw [hml]; rfl) (argsL := [(.int ((p1.toUInt32 >>> ((16 : Int32) &&& 31).toUInt32).toInt32))]) (rest := [(.int (3 : Int32)), (.ref b1)]) (lenOf pd_28I29B rfl) rfl (by show 2 * 0 + _ ≤ _; exact Nat.le_of_eq rfl) (hb hby at_46) (fun _ _ => ⟨rfl, e7, Nat.le_of_ble_eq_true rfl, Nat.le_of_ble_eq_true rfl⟩)
  dsimp only [Pt.U, Pt.locs, Pt.cells, Pt.slots] at X8 l8 y8 z8 st8 hQ8
  subst l8 y8 z8
  obtain ⟨rfl, N8q, e8⟩ := hQ8
  have N8 := Fr.app N7 N8q
  refine OEnds.via (fun _ k => st8 _ k) ?_
  show OEnds p e below s _ _ _ (T8.setTop (mkF m 49 #[.val (.int p0), .val (.int p1), .val (.int p2), .val (.int p3), .val (.int p4), .val (.ref b1), .unset, .unset, .unset, .unset] [(.int (own_pk ((p1.toUInt32 >>> ((16 : Int32) &&& 31).toUInt32).toInt32))), (.int (3 : Int32)), (.ref b1)]))
  obtain ⟨cl9, Ar9, q9, S9, M9, H9, G9⟩ := V_b1
  obtain ⟨T9, h9, X9, e9, W9, st9⟩ := stB X8 hx hZ e8 Ar9 (j := (3 : Int32)) (inb_of S9 ⟨by decide, by decide⟩) (g := (mkF m 49 #[.val (.int p0), .val (.int p1), .val (.int p2), .val (.int p3), .val (.int p4), .val (.ref b1), .unset, .unset, .unset, .unset] [(.int (own_pk ((p1.toUInt32 >>> ((16 : Int32) &&& 31).toUInt32).toInt32))), (.int (3 : Int32)), (.ref b1)])) rfl rfl (hb hby at_49)
  have V_b1 : Arv Z h9 b1 k1 .byte (6 : Int32) [(.int (nar .byte (own_pk (p0 &&& (65535 : Int32))))), (.int (nar .byte (own_pk ((p0.toUInt32 >>> ((16 : Int32) &&& 31).toUInt32).toInt32)))), (.int (nar .byte (own_pk (p1 &&& (65535 : Int32))))), (.int (nar .byte (own_pk ((p1.toUInt32 >>> ((16 : Int32) &&& 31).toUInt32).toInt32)))), (.int (0 : Int32)), (.int (0 : Int32))] (.int (0 : Int32)) := Arv.set Ar9 q9 S9 M9 H9 G9 (fits_nar_byte _) W9 3 rfl (Nat.le_of_ble_eq_true rfl)
  have N9 := Fr.snoc X9 N8 ge_b1
  replace Od := Od.wr W9 ge_b1
  refine OEnds.via (fun _ k => st9 _ k) ?_
  show OEnds p e below s _ _ _ (T9.setTop (mkF m 50 #[.val (.int p0), .val (.int p1), .val (.int p2), .val (.int p3), .val (.int p4), .val (.ref b1), .unset, .unset, .unset, .unset] []))
  refine OEnds.via (fun _ k => XS.aload X9.here hx rfl (hb hby at_50) rfl rfl k) ?_
  show OEnds p e below s _ _ _ (T9.setTop (mkF m 52 #[.val (.int p0), .val (.int p1), .val (.int p2), .val (.int p3), .val (.int p4), .val (.ref b1), .unset, .unset, .unset, .unset] [(.ref b1)]))
  refine OEnds.via (fun _ k => XS.iconst X9.here hx rfl (hb hby at_52) k) ?_
  show OEnds p e below s _ _ _ (T9.setTop (mkF m 53 #[.val (.int p0), .val (.int p1), .val (.int p2), .val (.int p3), .val (.int p4), .val (.ref b1), .unset, .unset, .unset, .unset] [(.int (4 : Int32)), (.ref b1)]))
  refine OEnds.via (fun _ k => XS.iloadN X9.here hx rfl (hb hby at_53) rfl k) ?_
  show OEnds p e below s _ _ _ (T9.setTop (mkF m 54 #[.val (.int p0), .val (.int p1), .val (.int p2), .val (.int p3), .val (.int p4), .val (.ref b1), .unset, .unset, .unset, .unset] [(.int p2), (.int (4 : Int32)), (.ref b1)]))
  refine OEnds.via (fun _ k => X9.ldcInt hx hown (mvT hZ (hw _ (List.mem_of_getElem? (i := 1) rfl))) (g := (mkF m 54 #[.val (.int p0), .val (.int p1), .val (.int p2), .val (.int p3), .val (.int p4), .val (.ref b1), .unset, .unset, .unset, .unset] [(.int p2), (.int (4 : Int32)), (.ref b1)])) rfl (hb hby at_54) _ k) ?_
  show OEnds p e below s _ _ _ (T9.setTop (mkF m 56 #[.val (.int p0), .val (.int p1), .val (.int p2), .val (.int p3), .val (.int p4), .val (.ref b1), .unset, .unset, .unset, .unset] [(.int (65535 : Int32)), (.int p2), (.int (4 : Int32)), (.ref b1)]))
  refine OEnds.via (fun _ k => XS.iand X9.here hx rfl (hb hby at_56) rfl k) ?_
  show OEnds p e below s _ _ _ (T9.setTop (mkF m 57 #[.val (.int p0), .val (.int p1), .val (.int p2), .val (.int p3), .val (.int p4), .val (.ref b1), .unset, .unset, .unset, .unset] [(.int (p2 &&& (65535 : Int32))), (.int (4 : Int32)), (.ref b1)]))
  obtain ⟨_, _, ⟨T10, L10, k10, n10⟩, -, X10, ⟨Lc10, hQ10, l10, y10, z10⟩, st10⟩ := Jvm.LawKit.callS X9 hx (y := (⟨"com/example/odds3/odds3/engine/Utf8ByteOrderMarkLengthPinLaw", "pick", "(I)B"⟩ : MethodName)) hown (mvT hZ (hw _ (List.mem_of_getElem? (i := 2) rfl))) (mvT hZ (hw _ (List.mem_of_getElem? (i := 3) rfl))) (mvT hZ (hw _ (List.mem_of_getElem? (i := 4) rfl))) (mvT hZ (hw _ (List.mem_of_getElem? (i := 5) rfl))) (by decide) (backOf (W := 2) (rmP l Z a0 hw [] (p2 &&& (65535 : Int32)) h9 n0 Od ) hZ (hw _ (List.mem_of_getElem? (i := 5) rfl)) (hw _ (List.mem_of_getElem? (i := 4) rfl)) (by decide) (by decide)) (g := (mkF m 57 #[.val (.int p0), .val (.int p1), .val (.int p2), .val (.int p3), .val (.int p4), .val (.ref b1), .unset, .unset, .unset, .unset] [(.int (p2 &&& (65535 : Int32))), (.int (4 : Int32)), (.ref b1)])) rfl (by rw [hml]; rfl) (argsL := [(.int (p2 &&& (65535 : Int32)))]) (rest := [(.int (4 : Int32)), (.ref b1)]) (lenOf pd_28I29B rfl) rfl (by show 2 * 0 + _ ≤ _; exact Nat.le_of_eq rfl) (hb hby at_57) (fun _ _ => ⟨rfl, e9, Nat.le_of_ble_eq_true rfl, Nat.le_of_ble_eq_true rfl⟩)
  dsimp only [Pt.U, Pt.locs, Pt.cells, Pt.slots] at X10 l10 y10 z10 st10 hQ10
  subst l10 y10 z10
  obtain ⟨rfl, N10q, e10⟩ := hQ10
  have N10 := Fr.app N9 N10q
  refine OEnds.via (fun _ k => st10 _ k) ?_
  show OEnds p e below s _ _ _ (T10.setTop (mkF m 60 #[.val (.int p0), .val (.int p1), .val (.int p2), .val (.int p3), .val (.int p4), .val (.ref b1), .unset, .unset, .unset, .unset] [(.int (own_pk (p2 &&& (65535 : Int32)))), (.int (4 : Int32)), (.ref b1)]))
  obtain ⟨cl11, Ar11, q11, S11, M11, H11, G11⟩ := V_b1
  obtain ⟨T11, h11, X11, e11, W11, st11⟩ := stB X10 hx hZ e10 Ar11 (j := (4 : Int32)) (inb_of S11 ⟨by decide, by decide⟩) (g := (mkF m 60 #[.val (.int p0), .val (.int p1), .val (.int p2), .val (.int p3), .val (.int p4), .val (.ref b1), .unset, .unset, .unset, .unset] [(.int (own_pk (p2 &&& (65535 : Int32)))), (.int (4 : Int32)), (.ref b1)])) rfl rfl (hb hby at_60)
  have V_b1 : Arv Z h11 b1 k1 .byte (6 : Int32) [(.int (nar .byte (own_pk (p0 &&& (65535 : Int32))))), (.int (nar .byte (own_pk ((p0.toUInt32 >>> ((16 : Int32) &&& 31).toUInt32).toInt32)))), (.int (nar .byte (own_pk (p1 &&& (65535 : Int32))))), (.int (nar .byte (own_pk ((p1.toUInt32 >>> ((16 : Int32) &&& 31).toUInt32).toInt32)))), (.int (nar .byte (own_pk (p2 &&& (65535 : Int32))))), (.int (0 : Int32))] (.int (0 : Int32)) := Arv.set Ar11 q11 S11 M11 H11 G11 (fits_nar_byte _) W11 4 rfl (Nat.le_of_ble_eq_true rfl)
  have N11 := Fr.snoc X11 N10 ge_b1
  replace Od := Od.wr W11 ge_b1
  refine OEnds.via (fun _ k => st11 _ k) ?_
  show OEnds p e below s _ _ _ (T11.setTop (mkF m 61 #[.val (.int p0), .val (.int p1), .val (.int p2), .val (.int p3), .val (.int p4), .val (.ref b1), .unset, .unset, .unset, .unset] []))
  refine OEnds.via (fun _ k => XS.aload X11.here hx rfl (hb hby at_61) rfl rfl k) ?_
  show OEnds p e below s _ _ _ (T11.setTop (mkF m 63 #[.val (.int p0), .val (.int p1), .val (.int p2), .val (.int p3), .val (.int p4), .val (.ref b1), .unset, .unset, .unset, .unset] [(.ref b1)]))
  refine OEnds.via (fun _ k => XS.iconst X11.here hx rfl (hb hby at_63) k) ?_
  show OEnds p e below s _ _ _ (T11.setTop (mkF m 64 #[.val (.int p0), .val (.int p1), .val (.int p2), .val (.int p3), .val (.int p4), .val (.ref b1), .unset, .unset, .unset, .unset] [(.int (5 : Int32)), (.ref b1)]))
  refine OEnds.via (fun _ k => XS.iloadN X11.here hx rfl (hb hby at_64) rfl k) ?_
  show OEnds p e below s _ _ _ (T11.setTop (mkF m 65 #[.val (.int p0), .val (.int p1), .val (.int p2), .val (.int p3), .val (.int p4), .val (.ref b1), .unset, .unset, .unset, .unset] [(.int p2), (.int (5 : Int32)), (.ref b1)]))
  refine OEnds.via (fun _ k => XS.bipush X11.here hx rfl (hb hby at_65) k) ?_
  show OEnds p e below s _ _ _ (T11.setTop (mkF m 67 #[.val (.int p0), .val (.int p1), .val (.int p2), .val (.int p3), .val (.int p4), .val (.ref b1), .unset, .unset, .unset, .unset] [(.int (16 : Int32)), (.int p2), (.int (5 : Int32)), (.ref b1)]))
  refine OEnds.via (fun _ k => XS.iushr X11.here hx rfl (hb hby at_67) rfl k) ?_
  show OEnds p e below s _ _ _ (T11.setTop (mkF m 68 #[.val (.int p0), .val (.int p1), .val (.int p2), .val (.int p3), .val (.int p4), .val (.ref b1), .unset, .unset, .unset, .unset] [(.int ((p2.toUInt32 >>> ((16 : Int32) &&& 31).toUInt32).toInt32)), (.int (5 : Int32)), (.ref b1)]))
  obtain ⟨_, _, ⟨T12, L12, k12, n12⟩, -, X12, ⟨Lc12, hQ12, l12, y12, z12⟩, st12⟩ := Jvm.LawKit.callS X11 hx (y := (⟨"com/example/odds3/odds3/engine/Utf8ByteOrderMarkLengthPinLaw", "pick", "(I)B"⟩ : MethodName)) hown (mvT hZ (hw _ (List.mem_of_getElem? (i := 2) rfl))) (mvT hZ (hw _ (List.mem_of_getElem? (i := 3) rfl))) (mvT hZ (hw _ (List.mem_of_getElem? (i := 4) rfl))) (mvT hZ (hw _ (List.mem_of_getElem? (i := 5) rfl))) (by decide) (backOf (W := 2) (rmP l Z a0 hw [] ((p2.toUInt32 >>> ((16 : Int32) &&& 31).toUInt32).toInt32) h11 n0 Od ) hZ (hw _ (List.mem_of_getElem? (i := 5) rfl)) (hw _ (List.mem_of_getElem? (i := 4) rfl)) (by decide) (by decide)) (g := (mkF m 68 #[.val (.int p0), .val (.int p1), .val (.int p2), .val (.int p3), .val (.int p4), .val (.ref b1), .unset, .unset, .unset, .unset] [(.int ((p2.toUInt32 >>> ((16 : Int32) &&& 31).toUInt32).toInt32)), (.int (5 : Int32)), (.ref b1)])) rfl (by rw [hml]; rfl) (argsL := [(.int ((p2.toUInt32 >>> ((16 : Int32) &&& 31).toUInt32).toInt32))]) (rest := [(.int (5 : Int32)), (.ref b1)]) (lenOf pd_28I29B rfl) rfl (by show 2 * 0 + _ ≤ _; exact Nat.le_of_eq rfl) (hb hby at_68) (fun _ _ => ⟨rfl, e11, Nat.le_of_ble_eq_true rfl, Nat.le_of_ble_eq_true rfl⟩)
  dsimp only [Pt.U, Pt.locs, Pt.cells, Pt.slots] at X12 l12 y12 z12 st12 hQ12
  subst l12 y12 z12
  obtain ⟨rfl, N12q, e12⟩ := hQ12
  have N12 := Fr.app N11 N12q
  refine OEnds.via (fun _ k => st12 _ k) ?_
  show OEnds p e below s _ _ _ (T12.setTop (mkF m 71 #[.val (.int p0), .val (.int p1), .val (.int p2), .val (.int p3), .val (.int p4), .val (.ref b1), .unset, .unset, .unset, .unset] [(.int (own_pk ((p2.toUInt32 >>> ((16 : Int32) &&& 31).toUInt32).toInt32))), (.int (5 : Int32)), (.ref b1)]))
  obtain ⟨cl13, Ar13, q13, S13, M13, H13, G13⟩ := V_b1
  obtain ⟨T13, h13, X13, e13, W13, st13⟩ := stB X12 hx hZ e12 Ar13 (j := (5 : Int32)) (inb_of S13 ⟨by decide, by decide⟩) (g := (mkF m 71 #[.val (.int p0), .val (.int p1), .val (.int p2), .val (.int p3), .val (.int p4), .val (.ref b1), .unset, .unset, .unset, .unset] [(.int (own_pk ((p2.toUInt32 >>> ((16 : Int32) &&& 31).toUInt32).toInt32))), (.int (5 : Int32)), (.ref b1)])) rfl rfl (hb hby at_71)
  have V_b1 : Arv Z h13 b1 k1 .byte (6 : Int32) [(.int (nar .byte (own_pk (p0 &&& (65535 : Int32))))), (.int (nar .byte (own_pk ((p0.toUInt32 >>> ((16 : Int32) &&& 31).toUInt32).toInt32)))), (.int (nar .byte (own_pk (p1 &&& (65535 : Int32))))), (.int (nar .byte (own_pk ((p1.toUInt32 >>> ((16 : Int32) &&& 31).toUInt32).toInt32)))), (.int (nar .byte (own_pk (p2 &&& (65535 : Int32))))), (.int (nar .byte (own_pk ((p2.toUInt32 >>> ((16 : Int32) &&& 31).toUInt32).toInt32))))] (.int (0 : Int32)) := Arv.set Ar13 q13 S13 M13 H13 G13 (fits_nar_byte _) W13 5 rfl (Nat.le_of_ble_eq_true rfl)
  have N13 := Fr.snoc X13 N12 ge_b1
  replace Od := Od.wr W13 ge_b1
  refine OEnds.via (fun _ k => st13 _ k) ?_
  show OEnds p e below s _ _ _ (T13.setTop (mkF m 72 #[.val (.int p0), .val (.int p1), .val (.int p2), .val (.int p3), .val (.int p4), .val (.ref b1), .unset, .unset, .unset, .unset] []))
  refine OEnds.via (fun _ k => XS.iloadN X13.here hx rfl (hb hby at_72) rfl k) ?_
  show OEnds p e below s _ _ _ (T13.setTop (mkF m 73 #[.val (.int p0), .val (.int p1), .val (.int p2), .val (.int p3), .val (.int p4), .val (.ref b1), .unset, .unset, .unset, .unset] [(.int p3)]))
  refine OEnds.via (fun _ k => X13.ldcInt hx hown (mvT hZ (hw _ (List.mem_of_getElem? (i := 6) rfl))) (g := (mkF m 73 #[.val (.int p0), .val (.int p1), .val (.int p2), .val (.int p3), .val (.int p4), .val (.ref b1), .unset, .unset, .unset, .unset] [(.int p3)])) rfl (hb hby at_73) _ k) ?_
  show OEnds p e below s _ _ _ (T13.setTop (mkF m 75 #[.val (.int p0), .val (.int p1), .val (.int p2), .val (.int p3), .val (.int p4), .val (.ref b1), .unset, .unset, .unset, .unset] [(.int (2147483647 : Int32)), (.int p3)]))
  refine OEnds.via (fun _ k => XS.iand X13.here hx rfl (hb hby at_75) rfl k) ?_
  show OEnds p e below s _ _ _ (T13.setTop (mkF m 76 #[.val (.int p0), .val (.int p1), .val (.int p2), .val (.int p3), .val (.int p4), .val (.ref b1), .unset, .unset, .unset, .unset] [(.int (p3 &&& (2147483647 : Int32)))]))
  refine OEnds.via (fun _ k => XS.bipush X13.here hx rfl (hb hby at_76) k) ?_
  show OEnds p e below s _ _ _ (T13.setTop (mkF m 78 #[.val (.int p0), .val (.int p1), .val (.int p2), .val (.int p3), .val (.int p4), .val (.ref b1), .unset, .unset, .unset, .unset] [(.int (7 : Int32)), (.int (p3 &&& (2147483647 : Int32)))]))
  refine OEnds.via (fun _ k => iremM X13 hx rfl (hb hby at_78) rfl (by decide) k) ?_
  show OEnds p e below s _ _ _ (T13.setTop (mkF m 79 #[.val (.int p0), .val (.int p1), .val (.int p2), .val (.int p3), .val (.int p4), .val (.ref b1), .unset, .unset, .unset, .unset] [(.int ((p3 &&& (2147483647 : Int32)) % (7 : Int32)))]))
  refine OEnds.via (fun _ k => XS.istore X13.here hx rfl (hb hby at_79) rfl (l' := #[.val (.int p0), .val (.int p1), .val (.int p2), .val (.int p3), .val (.int p4), .val (.ref b1), .val (.int ((p3 &&& (2147483647 : Int32)) % (7 : Int32))), .unset, .unset, .unset]) rfl k) ?_
  show OEnds p e below s _ _ _ (T13.setTop (mkF m 81 #[.val (.int p0), .val (.int p1), .val (.int p2), .val (.int p3), .val (.int p4), .val (.ref b1), .val (.int ((p3 &&& (2147483647 : Int32)) % (7 : Int32))), .unset, .unset, .unset] []))
  have hog := own_o p3
  generalize ((p3 &&& (2147483647 : Int32)) % (7 : Int32)) = o at hog ⊢
  show OEnds p e below s _ _ _ (T13.setTop (mkF m 81 #[.val (.int p0), .val (.int p1), .val (.int p2), .val (.int p3), .val (.int p4), .val (.ref b1), .val (.int o), .unset, .unset, .unset] []))
  refine OEnds.via (fun _ k => XS.iload X13.here hx rfl (hb hby at_81) rfl k) ?_
  show OEnds p e below s _ _ _ (T13.setTop (mkF m 83 #[.val (.int p0), .val (.int p1), .val (.int p2), .val (.int p3), .val (.int p4), .val (.ref b1), .val (.int o), .unset, .unset, .unset] [(.int p4)]))
  refine OEnds.via (fun _ k => X13.ldcInt hx hown (mvT hZ (hw _ (List.mem_of_getElem? (i := 6) rfl))) (g := (mkF m 83 #[.val (.int p0), .val (.int p1), .val (.int p2), .val (.int p3), .val (.int p4), .val (.ref b1), .val (.int o), .unset, .unset, .unset] [(.int p4)])) rfl (hb hby at_83) _ k) ?_
  show OEnds p e below s _ _ _ (T13.setTop (mkF m 85 #[.val (.int p0), .val (.int p1), .val (.int p2), .val (.int p3), .val (.int p4), .val (.ref b1), .val (.int o), .unset, .unset, .unset] [(.int (2147483647 : Int32)), (.int p4)]))
  refine OEnds.via (fun _ k => XS.iand X13.here hx rfl (hb hby at_85) rfl k) ?_
  show OEnds p e below s _ _ _ (T13.setTop (mkF m 86 #[.val (.int p0), .val (.int p1), .val (.int p2), .val (.int p3), .val (.int p4), .val (.ref b1), .val (.int o), .unset, .unset, .unset] [(.int (p4 &&& (2147483647 : Int32)))]))
  refine OEnds.via (fun _ k => XS.bipush X13.here hx rfl (hb hby at_86) k) ?_
  show OEnds p e below s _ _ _ (T13.setTop (mkF m 88 #[.val (.int p0), .val (.int p1), .val (.int p2), .val (.int p3), .val (.int p4), .val (.ref b1), .val (.int o), .unset, .unset, .unset] [(.int (7 : Int32)), (.int (p4 &&& (2147483647 : Int32)))]))
  refine OEnds.via (fun _ k => XS.iload X13.here hx rfl (hb hby at_88) rfl k) ?_
  show OEnds p e below s _ _ _ (T13.setTop (mkF m 90 #[.val (.int p0), .val (.int p1), .val (.int p2), .val (.int p3), .val (.int p4), .val (.ref b1), .val (.int o), .unset, .unset, .unset] [(.int o), (.int (7 : Int32)), (.int (p4 &&& (2147483647 : Int32)))]))
  refine OEnds.via (fun _ k => XS.isub X13.here hx rfl (hb hby at_90) rfl k) ?_
  show OEnds p e below s _ _ _ (T13.setTop (mkF m 91 #[.val (.int p0), .val (.int p1), .val (.int p2), .val (.int p3), .val (.int p4), .val (.ref b1), .val (.int o), .unset, .unset, .unset] [(.int ((7 : Int32) - o)), (.int (p4 &&& (2147483647 : Int32)))]))
  refine OEnds.via (fun _ k => iremM X13 hx rfl (hb hby at_91) rfl (own_n7 hog.2.1 hog.2.2) k) ?_
  show OEnds p e below s _ _ _ (T13.setTop (mkF m 92 #[.val (.int p0), .val (.int p1), .val (.int p2), .val (.int p3), .val (.int p4), .val (.ref b1), .val (.int o), .unset, .unset, .unset] [(.int ((p4 &&& (2147483647 : Int32)) % ((7 : Int32) - o)))]))
  refine OEnds.via (fun _ k => XS.istore X13.here hx rfl (hb hby at_92) rfl (l' := #[.val (.int p0), .val (.int p1), .val (.int p2), .val (.int p3), .val (.int p4), .val (.ref b1), .val (.int o), .val (.int ((p4 &&& (2147483647 : Int32)) % ((7 : Int32) - o))), .unset, .unset]) rfl k) ?_
  show OEnds p e below s _ _ _ (T13.setTop (mkF m 94 #[.val (.int p0), .val (.int p1), .val (.int p2), .val (.int p3), .val (.int p4), .val (.ref b1), .val (.int o), .val (.int ((p4 &&& (2147483647 : Int32)) % ((7 : Int32) - o))), .unset, .unset] []))
  refine OEnds.via (fun _ k => XS.iconst X13.here hx rfl (hb hby at_94) k) ?_
  show OEnds p e below s _ _ _ (T13.setTop (mkF m 95 #[.val (.int p0), .val (.int p1), .val (.int p2), .val (.int p3), .val (.int p4), .val (.ref b1), .val (.int o), .val (.int ((p4 &&& (2147483647 : Int32)) % ((7 : Int32) - o))), .unset, .unset] [(.int (0 : Int32))]))
  refine OEnds.via (fun _ k => XS.istore X13.here hx rfl (hb hby at_95) rfl (l' := #[.val (.int p0), .val (.int p1), .val (.int p2), .val (.int p3), .val (.int p4), .val (.ref b1), .val (.int o), .val (.int ((p4 &&& (2147483647 : Int32)) % ((7 : Int32) - o))), .val (.int (0 : Int32)), .unset]) rfl k) ?_
  show OEnds p e below s _ _ _ (T13.setTop (mkF m 97 #[.val (.int p0), .val (.int p1), .val (.int p2), .val (.int p3), .val (.int p4), .val (.ref b1), .val (.int o), .val (.int ((p4 &&& (2147483647 : Int32)) % ((7 : Int32) - o))), .val (.int (0 : Int32)), .unset] []))
  refine OEnds.via (fun _ k => XS.iload X13.here hx rfl (hb hby at_97) rfl k) ?_
  show OEnds p e below s _ _ _ (T13.setTop (mkF m 99 #[.val (.int p0), .val (.int p1), .val (.int p2), .val (.int p3), .val (.int p4), .val (.ref b1), .val (.int o), .val (.int ((p4 &&& (2147483647 : Int32)) % ((7 : Int32) - o))), .val (.int (0 : Int32)), .unset] [(.int ((p4 &&& (2147483647 : Int32)) % ((7 : Int32) - o)))]))
  refine OEnds.via (fun _ k => XS.iconst X13.here hx rfl (hb hby at_99) k) ?_
  show OEnds p e below s _ _ _ (T13.setTop (mkF m 100 #[.val (.int p0), .val (.int p1), .val (.int p2), .val (.int p3), .val (.int p4), .val (.ref b1), .val (.int o), .val (.int ((p4 &&& (2147483647 : Int32)) % ((7 : Int32) - o))), .val (.int (0 : Int32)), .unset] [(.int (3 : Int32)), (.int ((p4 &&& (2147483647 : Int32)) % ((7 : Int32) - o)))]))
  by_cases hc100_13 : ((p4 &&& (2147483647 : Int32)) % ((7 : Int32) - o)) < (3 : Int32)
  · skip
    refine OEnds.via (fun _ k => XS.icmpYes X13.here hx rfl (pc0 := 100) (pc' := 140) rfl (hb hby at_100) rfl (tlt hc100_13).1 (by decide) (by decide) k) ?_
    show OEnds p e below s _ _ _ (T13.setTop (mkF m 140 #[.val (.int p0), .val (.int p1), .val (.int p2), .val (.int p3), .val (.int p4), .val (.ref b1), .val (.int o), .val (.int ((p4 &&& (2147483647 : Int32)) % ((7 : Int32) - o))), .val (.int (0 : Int32)), .unset] []))
    refine OEnds.via (fun _ k => XS.aload X13.here hx rfl (hb hby at_140) rfl rfl k) ?_
    show OEnds p e below s _ _ _ (T13.setTop (mkF m 142 #[.val (.int p0), .val (.int p1), .val (.int p2), .val (.int p3), .val (.int p4), .val (.ref b1), .val (.int o), .val (.int ((p4 &&& (2147483647 : Int32)) % ((7 : Int32) - o))), .val (.int (0 : Int32)), .unset] [(.ref b1)]))
    refine OEnds.via (fun _ k => XS.iload X13.here hx rfl (hb hby at_142) rfl k) ?_
    show OEnds p e below s _ _ _ (T13.setTop (mkF m 144 #[.val (.int p0), .val (.int p1), .val (.int p2), .val (.int p3), .val (.int p4), .val (.ref b1), .val (.int o), .val (.int ((p4 &&& (2147483647 : Int32)) % ((7 : Int32) - o))), .val (.int (0 : Int32)), .unset] [(.int o), (.ref b1)]))
    refine OEnds.via (fun _ k => XS.iload X13.here hx rfl (hb hby at_144) rfl k) ?_
    show OEnds p e below s _ _ _ (T13.setTop (mkF m 146 #[.val (.int p0), .val (.int p1), .val (.int p2), .val (.int p3), .val (.int p4), .val (.ref b1), .val (.int o), .val (.int ((p4 &&& (2147483647 : Int32)) % ((7 : Int32) - o))), .val (.int (0 : Int32)), .unset] [(.int ((p4 &&& (2147483647 : Int32)) % ((7 : Int32) - o))), (.int o), (.ref b1)]))
    obtain ⟨_, _, ⟨T15, L15, k15, n15⟩, -, X15, ⟨Lc15, hQ15, l15, y15, z15⟩, st15⟩ := Jvm.LawKit.callS X13 hx (y := (⟨"com/example/odds3/odds3/engine/Utf8", "byteOrderMarkLength", "([BII)I"⟩ : MethodName)) hown (mvT hZ (hw _ (List.mem_of_getElem? (i := 7) rfl))) (mvT hZ (hw _ (List.mem_of_getElem? (i := 8) rfl))) (mvT hZ (hw _ (List.mem_of_getElem? (i := 9) rfl))) (mvT hZ (hw _ (List.mem_of_getElem? (i := 10) rfl))) (by decide) (backOf (W := 0) (rmA l Z a0 hw [] b1 o ((p4 &&& (2147483647 : Int32)) % ((7 : Int32) - o)) bm cb h13 n0 Od S_b Ab Sb hc100_13) hZ (hw _ (List.mem_of_getElem? (i := 10) rfl)) (hw _ (List.mem_of_getElem? (i := 9) rfl)) (by decide) (by decide)) (g := (mkF m 146 #[.val (.int p0), .val (.int p1), .val (.int p2), .val (.int p3), .val (.int p4), .val (.ref b1), .val (.int o), .val (.int ((p4 &&& (2147483647 : Int32)) % ((7 : Int32) - o))), .val (.int (0 : Int32)), .unset] [(.int ((p4 &&& (2147483647 : Int32)) % ((7 : Int32) - o))), (.int o), (.ref b1)])) rfl (by rw [hml]; rfl) (argsL := [(.ref b1), (.int o), (.int ((p4 &&& (2147483647 : Int32)) % ((7 : Int32) - o)))]) (rest := []) (lenOf pd_285bBII29I rfl) rfl (by show 2 * 0 + _ ≤ _; exact Nat.le_of_eq rfl) (hb hby at_146) (fun _ _ => ⟨rfl, e13, Nat.le_of_ble_eq_true rfl, Nat.le_of_ble_eq_true rfl⟩)
    dsimp only [Pt.U, Pt.locs, Pt.cells, Pt.slots] at X15 l15 y15 z15 st15 hQ15
    subst l15 y15 z15
    obtain ⟨rfl, N15q, e15⟩ := hQ15
    have N15 := Fr.app N13 N15q
    refine OEnds.via (fun _ k => st15 _ k) ?_
    show OEnds p e below s _ _ _ (T15.setTop (mkF m 149 #[.val (.int p0), .val (.int p1), .val (.int p2), .val (.int p3), .val (.int p4), .val (.ref b1), .val (.int o), .val (.int ((p4 &&& (2147483647 : Int32)) % ((7 : Int32) - o))), .val (.int (0 : Int32)), .unset] [(.int (0 : Int32))]))
    refine OEnds.via (fun _ k => XS.istore X15.here hx rfl (hb hby at_149) rfl (l' := #[.val (.int p0), .val (.int p1), .val (.int p2), .val (.int p3), .val (.int p4), .val (.ref b1), .val (.int o), .val (.int ((p4 &&& (2147483647 : Int32)) % ((7 : Int32) - o))), .val (.int (0 : Int32)), .val (.int (0 : Int32))]) rfl k) ?_
    show OEnds p e below s _ _ _ (T15.setTop (mkF m 151 #[.val (.int p0), .val (.int p1), .val (.int p2), .val (.int p3), .val (.int p4), .val (.ref b1), .val (.int o), .val (.int ((p4 &&& (2147483647 : Int32)) % ((7 : Int32) - o))), .val (.int (0 : Int32)), .val (.int (0 : Int32))] []))
    refine OEnds.via (fun _ k => XS.iload X15.here hx rfl (hb hby at_151) rfl k) ?_
    show OEnds p e below s _ _ _ (T15.setTop (mkF m 153 #[.val (.int p0), .val (.int p1), .val (.int p2), .val (.int p3), .val (.int p4), .val (.ref b1), .val (.int o), .val (.int ((p4 &&& (2147483647 : Int32)) % ((7 : Int32) - o))), .val (.int (0 : Int32)), .val (.int (0 : Int32))] [(.int (0 : Int32))]))
    refine OEnds.via (fun _ k => XS.iload X15.here hx rfl (hb hby at_153) rfl k) ?_
    show OEnds p e below s _ _ _ (T15.setTop (mkF m 155 #[.val (.int p0), .val (.int p1), .val (.int p2), .val (.int p3), .val (.int p4), .val (.ref b1), .val (.int o), .val (.int ((p4 &&& (2147483647 : Int32)) % ((7 : Int32) - o))), .val (.int (0 : Int32)), .val (.int (0 : Int32))] [(.int (0 : Int32)), (.int (0 : Int32))]))
    refine OEnds.via (fun _ k => XS.icmpNo X15.here hx rfl (hb hby at_155) rfl (teq (by decide : (0 : Int32) = (0 : Int32))).2 k) ?_
    show OEnds p e below s _ _ _ (T15.setTop (mkF m 158 #[.val (.int p0), .val (.int p1), .val (.int p2), .val (.int p3), .val (.int p4), .val (.ref b1), .val (.int o), .val (.int ((p4 &&& (2147483647 : Int32)) % ((7 : Int32) - o))), .val (.int (0 : Int32)), .val (.int (0 : Int32))] []))
    refine OEnds.via (fun _ k => XS.iconst X15.here hx rfl (hb hby at_158) k) ?_
    show OEnds p e below s _ _ _ (T15.setTop (mkF m 159 #[.val (.int p0), .val (.int p1), .val (.int p2), .val (.int p3), .val (.int p4), .val (.ref b1), .val (.int o), .val (.int ((p4 &&& (2147483647 : Int32)) % ((7 : Int32) - o))), .val (.int (0 : Int32)), .val (.int (0 : Int32))] [(.int (1 : Int32))]))
    refine OEnds.via (fun _ k => XS.goto X15.here hx rfl (pc0 := 159) (pc' := 163) rfl (hb hby at_159) (by decide) (by decide) k) ?_
    show OEnds p e below s _ _ _ (T15.setTop (mkF m 163 #[.val (.int p0), .val (.int p1), .val (.int p2), .val (.int p3), .val (.int p4), .val (.ref b1), .val (.int o), .val (.int ((p4 &&& (2147483647 : Int32)) % ((7 : Int32) - o))), .val (.int (0 : Int32)), .val (.int (0 : Int32))] [(.int (1 : Int32))]))
    refine OEnds.retN X15 hx hlk (t := .boolean) Bd.returns (by simp) (hb hby at_163) ?_ (by decide) (by decide)
    exact ⟨rfl, N15⟩
  · skip
    refine OEnds.via (fun _ k => XS.icmpNo X13.here hx rfl (hb hby at_100) rfl (flt hc100_13).1 k) ?_
    show OEnds p e below s _ _ _ (T13.setTop (mkF m 103 #[.val (.int p0), .val (.int p1), .val (.int p2), .val (.int p3), .val (.int p4), .val (.ref b1), .val (.int o), .val (.int ((p4 &&& (2147483647 : Int32)) % ((7 : Int32) - o))), .val (.int (0 : Int32)), .unset] []))
    have hol := own_room hog.2.1 hog.2.2 hc100_13
    obtain ⟨cl, Ar, qA, Sa, MA, HA, GA⟩ := V_b1
    have hv := own_has HA (by simp)
    have hi0 : ¬ (o < 0 ∨ cl.slots.size ≤ (o).toNatClampNeg) := inb_of Sa (by simpa using own_in (0 : Int32) hol hog.2.2 (by decide) (by decide))
    obtain ⟨x, ha0⟩ := hv (o).toNatClampNeg (Nat.lt_of_not_le fun y => hi0 (Or.inr y))
    have hi1 : ¬ ((o + (1 : Int32)) < 0 ∨ cl.slots.size ≤ ((o + (1 : Int32))).toNatClampNeg) := inb_of Sa (by exact own_in (1 : Int32) hol hog.2.2 (by decide) (by decide))
    obtain ⟨y, ha1⟩ := hv ((o + (1 : Int32))).toNatClampNeg (Nat.lt_of_not_le fun y => hi1 (Or.inr y))
    have hi2 : ¬ ((o + (2 : Int32)) < 0 ∨ cl.slots.size ≤ ((o + (2 : Int32))).toNatClampNeg) := inb_of Sa (by exact own_in (2 : Int32) hol hog.2.2 (by decide) (by decide))
    obtain ⟨z, ha2⟩ := hv ((o + (2 : Int32))).toNatClampNeg (Nat.lt_of_not_le fun y => hi2 (Or.inr y))
    refine OEnds.via (fun _ k => XS.aload X13.here hx rfl (hb hby at_103) rfl rfl k) ?_
    show OEnds p e below s _ _ _ (T13.setTop (mkF m 105 #[.val (.int p0), .val (.int p1), .val (.int p2), .val (.int p3), .val (.int p4), .val (.ref b1), .val (.int o), .val (.int ((p4 &&& (2147483647 : Int32)) % ((7 : Int32) - o))), .val (.int (0 : Int32)), .unset] [(.ref b1)]))
    refine OEnds.via (fun _ k => XS.iload X13.here hx rfl (hb hby at_105) rfl k) ?_
    show OEnds p e below s _ _ _ (T13.setTop (mkF m 107 #[.val (.int p0), .val (.int p1), .val (.int p2), .val (.int p3), .val (.int p4), .val (.ref b1), .val (.int o), .val (.int ((p4 &&& (2147483647 : Int32)) % ((7 : Int32) - o))), .val (.int (0 : Int32)), .unset] [(.int o), (.ref b1)]))
    refine OEnds.via (fun _ k => X13.baloadBytes hx (j := o) (v := (.int x)) (by rw [e13]; exact Ar.1) (State.isArrayOf_alike hZ.alike Ar.2.1) Ar.2.2 hi0 ha0 (g := (mkF m 107 #[.val (.int p0), .val (.int p1), .val (.int p2), .val (.int p3), .val (.int p4), .val (.ref b1), .val (.int o), .val (.int ((p4 &&& (2147483647 : Int32)) % ((7 : Int32) - o))), .val (.int (0 : Int32)), .unset] [(.int o), (.ref b1)])) rfl rfl (hb hby at_107) _ k) ?_
    show OEnds p e below s _ _ _ (T13.setTop (mkF m 108 #[.val (.int p0), .val (.int p1), .val (.int p2), .val (.int p3), .val (.int p4), .val (.ref b1), .val (.int o), .val (.int ((p4 &&& (2147483647 : Int32)) % ((7 : Int32) - o))), .val (.int (0 : Int32)), .unset] [(.int x)]))
    refine OEnds.via (fun _ k => XS.bipush X13.here hx rfl (hb hby at_108) k) ?_
    show OEnds p e below s _ _ _ (T13.setTop (mkF m 110 #[.val (.int p0), .val (.int p1), .val (.int p2), .val (.int p3), .val (.int p4), .val (.ref b1), .val (.int o), .val (.int ((p4 &&& (2147483647 : Int32)) % ((7 : Int32) - o))), .val (.int (0 : Int32)), .unset] [(.int (-17 : Int32)), (.int x)]))
    by_cases hc110_15 : x = (-17 : Int32)
    · skip
      refine OEnds.via (fun _ k => XS.icmpNo X13.here hx rfl (hb hby at_110) rfl (teq hc110_15).2 k) ?_
      show OEnds p e below s _ _ _ (T13.setTop (mkF m 113 #[.val (.int p0), .val (.int p1), .val (.int p2), .val (.int p3), .val (.int p4), .val (.ref b1), .val (.int o), .val (.int ((p4 &&& (2147483647 : Int32)) % ((7 : Int32) - o))), .val (.int (0 : Int32)), .unset] []))
      refine OEnds.via (fun _ k => XS.aload X13.here hx rfl (hb hby at_113) rfl rfl k) ?_
      show OEnds p e below s _ _ _ (T13.setTop (mkF m 115 #[.val (.int p0), .val (.int p1), .val (.int p2), .val (.int p3), .val (.int p4), .val (.ref b1), .val (.int o), .val (.int ((p4 &&& (2147483647 : Int32)) % ((7 : Int32) - o))), .val (.int (0 : Int32)), .unset] [(.ref b1)]))
      refine OEnds.via (fun _ k => XS.iload X13.here hx rfl (hb hby at_115) rfl k) ?_
      show OEnds p e below s _ _ _ (T13.setTop (mkF m 117 #[.val (.int p0), .val (.int p1), .val (.int p2), .val (.int p3), .val (.int p4), .val (.ref b1), .val (.int o), .val (.int ((p4 &&& (2147483647 : Int32)) % ((7 : Int32) - o))), .val (.int (0 : Int32)), .unset] [(.int o), (.ref b1)]))
      refine OEnds.via (fun _ k => XS.iconst X13.here hx rfl (hb hby at_117) k) ?_
      show OEnds p e below s _ _ _ (T13.setTop (mkF m 118 #[.val (.int p0), .val (.int p1), .val (.int p2), .val (.int p3), .val (.int p4), .val (.ref b1), .val (.int o), .val (.int ((p4 &&& (2147483647 : Int32)) % ((7 : Int32) - o))), .val (.int (0 : Int32)), .unset] [(.int (1 : Int32)), (.int o), (.ref b1)]))
      refine OEnds.via (fun _ k => XS.iadd X13.here hx rfl (hb hby at_118) rfl k) ?_
      show OEnds p e below s _ _ _ (T13.setTop (mkF m 119 #[.val (.int p0), .val (.int p1), .val (.int p2), .val (.int p3), .val (.int p4), .val (.ref b1), .val (.int o), .val (.int ((p4 &&& (2147483647 : Int32)) % ((7 : Int32) - o))), .val (.int (0 : Int32)), .unset] [(.int (o + (1 : Int32))), (.ref b1)]))
      refine OEnds.via (fun _ k => X13.baloadBytes hx (j := (o + (1 : Int32))) (v := (.int y)) (by rw [e13]; exact Ar.1) (State.isArrayOf_alike hZ.alike Ar.2.1) Ar.2.2 hi1 ha1 (g := (mkF m 119 #[.val (.int p0), .val (.int p1), .val (.int p2), .val (.int p3), .val (.int p4), .val (.ref b1), .val (.int o), .val (.int ((p4 &&& (2147483647 : Int32)) % ((7 : Int32) - o))), .val (.int (0 : Int32)), .unset] [(.int (o + (1 : Int32))), (.ref b1)])) rfl rfl (hb hby at_119) _ k) ?_
      show OEnds p e below s _ _ _ (T13.setTop (mkF m 120 #[.val (.int p0), .val (.int p1), .val (.int p2), .val (.int p3), .val (.int p4), .val (.ref b1), .val (.int o), .val (.int ((p4 &&& (2147483647 : Int32)) % ((7 : Int32) - o))), .val (.int (0 : Int32)), .unset] [(.int y)]))
      refine OEnds.via (fun _ k => XS.bipush X13.here hx rfl (hb hby at_120) k) ?_
      show OEnds p e below s _ _ _ (T13.setTop (mkF m 122 #[.val (.int p0), .val (.int p1), .val (.int p2), .val (.int p3), .val (.int p4), .val (.ref b1), .val (.int o), .val (.int ((p4 &&& (2147483647 : Int32)) % ((7 : Int32) - o))), .val (.int (0 : Int32)), .unset] [(.int (-69 : Int32)), (.int y)]))
      by_cases hc122_16 : y = (-69 : Int32)
      · skip
        refine OEnds.via (fun _ k => XS.icmpNo X13.here hx rfl (hb hby at_122) rfl (teq hc122_16).2 k) ?_
        show OEnds p e below s _ _ _ (T13.setTop (mkF m 125 #[.val (.int p0), .val (.int p1), .val (.int p2), .val (.int p3), .val (.int p4), .val (.ref b1), .val (.int o), .val (.int ((p4 &&& (2147483647 : Int32)) % ((7 : Int32) - o))), .val (.int (0 : Int32)), .unset] []))
        refine OEnds.via (fun _ k => XS.aload X13.here hx rfl (hb hby at_125) rfl rfl k) ?_
        show OEnds p e below s _ _ _ (T13.setTop (mkF m 127 #[.val (.int p0), .val (.int p1), .val (.int p2), .val (.int p3), .val (.int p4), .val (.ref b1), .val (.int o), .val (.int ((p4 &&& (2147483647 : Int32)) % ((7 : Int32) - o))), .val (.int (0 : Int32)), .unset] [(.ref b1)]))
        refine OEnds.via (fun _ k => XS.iload X13.here hx rfl (hb hby at_127) rfl k) ?_
        show OEnds p e below s _ _ _ (T13.setTop (mkF m 129 #[.val (.int p0), .val (.int p1), .val (.int p2), .val (.int p3), .val (.int p4), .val (.ref b1), .val (.int o), .val (.int ((p4 &&& (2147483647 : Int32)) % ((7 : Int32) - o))), .val (.int (0 : Int32)), .unset] [(.int o), (.ref b1)]))
        refine OEnds.via (fun _ k => XS.iconst X13.here hx rfl (hb hby at_129) k) ?_
        show OEnds p e below s _ _ _ (T13.setTop (mkF m 130 #[.val (.int p0), .val (.int p1), .val (.int p2), .val (.int p3), .val (.int p4), .val (.ref b1), .val (.int o), .val (.int ((p4 &&& (2147483647 : Int32)) % ((7 : Int32) - o))), .val (.int (0 : Int32)), .unset] [(.int (2 : Int32)), (.int o), (.ref b1)]))
        refine OEnds.via (fun _ k => XS.iadd X13.here hx rfl (hb hby at_130) rfl k) ?_
        show OEnds p e below s _ _ _ (T13.setTop (mkF m 131 #[.val (.int p0), .val (.int p1), .val (.int p2), .val (.int p3), .val (.int p4), .val (.ref b1), .val (.int o), .val (.int ((p4 &&& (2147483647 : Int32)) % ((7 : Int32) - o))), .val (.int (0 : Int32)), .unset] [(.int (o + (2 : Int32))), (.ref b1)]))
        refine OEnds.via (fun _ k => X13.baloadBytes hx (j := (o + (2 : Int32))) (v := (.int z)) (by rw [e13]; exact Ar.1) (State.isArrayOf_alike hZ.alike Ar.2.1) Ar.2.2 hi2 ha2 (g := (mkF m 131 #[.val (.int p0), .val (.int p1), .val (.int p2), .val (.int p3), .val (.int p4), .val (.ref b1), .val (.int o), .val (.int ((p4 &&& (2147483647 : Int32)) % ((7 : Int32) - o))), .val (.int (0 : Int32)), .unset] [(.int (o + (2 : Int32))), (.ref b1)])) rfl rfl (hb hby at_131) _ k) ?_
        show OEnds p e below s _ _ _ (T13.setTop (mkF m 132 #[.val (.int p0), .val (.int p1), .val (.int p2), .val (.int p3), .val (.int p4), .val (.ref b1), .val (.int o), .val (.int ((p4 &&& (2147483647 : Int32)) % ((7 : Int32) - o))), .val (.int (0 : Int32)), .unset] [(.int z)]))
        refine OEnds.via (fun _ k => XS.bipush X13.here hx rfl (hb hby at_132) k) ?_
        show OEnds p e below s _ _ _ (T13.setTop (mkF m 134 #[.val (.int p0), .val (.int p1), .val (.int p2), .val (.int p3), .val (.int p4), .val (.ref b1), .val (.int o), .val (.int ((p4 &&& (2147483647 : Int32)) % ((7 : Int32) - o))), .val (.int (0 : Int32)), .unset] [(.int (-65 : Int32)), (.int z)]))
        by_cases hc134_17 : z = (-65 : Int32)
        · skip
          refine OEnds.via (fun _ k => XS.icmpNo X13.here hx rfl (hb hby at_134) rfl (teq hc134_17).2 k) ?_
          show OEnds p e below s _ _ _ (T13.setTop (mkF m 137 #[.val (.int p0), .val (.int p1), .val (.int p2), .val (.int p3), .val (.int p4), .val (.ref b1), .val (.int o), .val (.int ((p4 &&& (2147483647 : Int32)) % ((7 : Int32) - o))), .val (.int (0 : Int32)), .unset] []))
          refine OEnds.via (fun _ k => XS.iconst X13.here hx rfl (hb hby at_137) k) ?_
          show OEnds p e below s _ _ _ (T13.setTop (mkF m 138 #[.val (.int p0), .val (.int p1), .val (.int p2), .val (.int p3), .val (.int p4), .val (.ref b1), .val (.int o), .val (.int ((p4 &&& (2147483647 : Int32)) % ((7 : Int32) - o))), .val (.int (0 : Int32)), .unset] [(.int (3 : Int32))]))
          refine OEnds.via (fun _ k => XS.istore X13.here hx rfl (hb hby at_138) rfl (l' := #[.val (.int p0), .val (.int p1), .val (.int p2), .val (.int p3), .val (.int p4), .val (.ref b1), .val (.int o), .val (.int ((p4 &&& (2147483647 : Int32)) % ((7 : Int32) - o))), .val (.int (3 : Int32)), .unset]) rfl k) ?_
          show OEnds p e below s _ _ _ (T13.setTop (mkF m 140 #[.val (.int p0), .val (.int p1), .val (.int p2), .val (.int p3), .val (.int p4), .val (.ref b1), .val (.int o), .val (.int ((p4 &&& (2147483647 : Int32)) % ((7 : Int32) - o))), .val (.int (3 : Int32)), .unset] []))
          refine OEnds.via (fun _ k => XS.aload X13.here hx rfl (hb hby at_140) rfl rfl k) ?_
          show OEnds p e below s _ _ _ (T13.setTop (mkF m 142 #[.val (.int p0), .val (.int p1), .val (.int p2), .val (.int p3), .val (.int p4), .val (.ref b1), .val (.int o), .val (.int ((p4 &&& (2147483647 : Int32)) % ((7 : Int32) - o))), .val (.int (3 : Int32)), .unset] [(.ref b1)]))
          refine OEnds.via (fun _ k => XS.iload X13.here hx rfl (hb hby at_142) rfl k) ?_
          show OEnds p e below s _ _ _ (T13.setTop (mkF m 144 #[.val (.int p0), .val (.int p1), .val (.int p2), .val (.int p3), .val (.int p4), .val (.ref b1), .val (.int o), .val (.int ((p4 &&& (2147483647 : Int32)) % ((7 : Int32) - o))), .val (.int (3 : Int32)), .unset] [(.int o), (.ref b1)]))
          refine OEnds.via (fun _ k => XS.iload X13.here hx rfl (hb hby at_144) rfl k) ?_
          show OEnds p e below s _ _ _ (T13.setTop (mkF m 146 #[.val (.int p0), .val (.int p1), .val (.int p2), .val (.int p3), .val (.int p4), .val (.ref b1), .val (.int o), .val (.int ((p4 &&& (2147483647 : Int32)) % ((7 : Int32) - o))), .val (.int (3 : Int32)), .unset] [(.int ((p4 &&& (2147483647 : Int32)) % ((7 : Int32) - o))), (.int o), (.ref b1)]))
          obtain ⟨_, _, ⟨T19, L19, k19, n19⟩, -, X19, ⟨Lc19, hQ19, l19, y19, z19⟩, st19⟩ := Jvm.LawKit.callS X13 hx (y := (⟨"com/example/odds3/odds3/engine/Utf8", "byteOrderMarkLength", "([BII)I"⟩ : MethodName)) hown (mvT hZ (hw _ (List.mem_of_getElem? (i := 7) rfl))) (mvT hZ (hw _ (List.mem_of_getElem? (i := 8) rfl))) (mvT hZ (hw _ (List.mem_of_getElem? (i := 9) rfl))) (mvT hZ (hw _ (List.mem_of_getElem? (i := 10) rfl))) (by decide) (backOf (W := 0) (rmB l Z a0 hw [] b1 o ((p4 &&& (2147483647 : Int32)) % ((7 : Int32) - o)) bm cl cb x y z h13 n0 Od S_b Ar Ab (by simpa using hi0) hi1 hi2 (by simpa using ha0) ha1 ha2 Sb hb0 hb1 hb2 hol hog.2.2 Sa hc100_13) hZ (hw _ (List.mem_of_getElem? (i := 10) rfl)) (hw _ (List.mem_of_getElem? (i := 9) rfl)) (by decide) (by decide)) (g := (mkF m 146 #[.val (.int p0), .val (.int p1), .val (.int p2), .val (.int p3), .val (.int p4), .val (.ref b1), .val (.int o), .val (.int ((p4 &&& (2147483647 : Int32)) % ((7 : Int32) - o))), .val (.int (3 : Int32)), .unset] [(.int ((p4 &&& (2147483647 : Int32)) % ((7 : Int32) - o))), (.int o), (.ref b1)])) rfl (by rw [hml]; rfl) (argsL := [(.ref b1), (.int o), (.int ((p4 &&& (2147483647 : Int32)) % ((7 : Int32) - o)))]) (rest := []) (lenOf pd_285bBII29I rfl) rfl (by show 2 * 0 + _ ≤ _; exact Nat.le_of_eq rfl) (hb hby at_146) (fun _ _ => ⟨rfl, e13, Nat.le_of_ble_eq_true rfl, Nat.le_of_ble_eq_true rfl⟩)
          dsimp only [Pt.U, Pt.locs, Pt.cells, Pt.slots] at X19 l19 y19 z19 st19 hQ19
          subst l19 y19 z19
          obtain ⟨rfl, N19q, e19⟩ := hQ19
          have N19 := Fr.app N13 N19q
          refine OEnds.via (fun _ k => st19 _ k) ?_
          show OEnds p e below s _ _ _ (T19.setTop (mkF m 149 #[.val (.int p0), .val (.int p1), .val (.int p2), .val (.int p3), .val (.int p4), .val (.ref b1), .val (.int o), .val (.int ((p4 &&& (2147483647 : Int32)) % ((7 : Int32) - o))), .val (.int (3 : Int32)), .unset] [(.int (own_bom x y z))]))
          refine OEnds.via (fun _ k => XS.istore X19.here hx rfl (hb hby at_149) rfl (l' := #[.val (.int p0), .val (.int p1), .val (.int p2), .val (.int p3), .val (.int p4), .val (.ref b1), .val (.int o), .val (.int ((p4 &&& (2147483647 : Int32)) % ((7 : Int32) - o))), .val (.int (3 : Int32)), .val (.int (own_bom x y z))]) rfl k) ?_
          show OEnds p e below s _ _ _ (T19.setTop (mkF m 151 #[.val (.int p0), .val (.int p1), .val (.int p2), .val (.int p3), .val (.int p4), .val (.ref b1), .val (.int o), .val (.int ((p4 &&& (2147483647 : Int32)) % ((7 : Int32) - o))), .val (.int (3 : Int32)), .val (.int (own_bom x y z))] []))
          refine OEnds.via (fun _ k => XS.iload X19.here hx rfl (hb hby at_151) rfl k) ?_
          show OEnds p e below s _ _ _ (T19.setTop (mkF m 153 #[.val (.int p0), .val (.int p1), .val (.int p2), .val (.int p3), .val (.int p4), .val (.ref b1), .val (.int o), .val (.int ((p4 &&& (2147483647 : Int32)) % ((7 : Int32) - o))), .val (.int (3 : Int32)), .val (.int (own_bom x y z))] [(.int (own_bom x y z))]))
          refine OEnds.via (fun _ k => XS.iload X19.here hx rfl (hb hby at_153) rfl k) ?_
          show OEnds p e below s _ _ _ (T19.setTop (mkF m 155 #[.val (.int p0), .val (.int p1), .val (.int p2), .val (.int p3), .val (.int p4), .val (.ref b1), .val (.int o), .val (.int ((p4 &&& (2147483647 : Int32)) % ((7 : Int32) - o))), .val (.int (3 : Int32)), .val (.int (own_bom x y z))] [(.int (3 : Int32)), (.int (own_bom x y z))]))
          refine OEnds.via (fun _ k => XS.icmpNo X19.here hx rfl (hb hby at_155) rfl (teq (by simp [own_bom, own_eq, own_mm, hc110_15, hc122_16, hc134_17] : (own_bom x y z) = (3 : Int32))).2 k) ?_
          show OEnds p e below s _ _ _ (T19.setTop (mkF m 158 #[.val (.int p0), .val (.int p1), .val (.int p2), .val (.int p3), .val (.int p4), .val (.ref b1), .val (.int o), .val (.int ((p4 &&& (2147483647 : Int32)) % ((7 : Int32) - o))), .val (.int (3 : Int32)), .val (.int (own_bom x y z))] []))
          refine OEnds.via (fun _ k => XS.iconst X19.here hx rfl (hb hby at_158) k) ?_
          show OEnds p e below s _ _ _ (T19.setTop (mkF m 159 #[.val (.int p0), .val (.int p1), .val (.int p2), .val (.int p3), .val (.int p4), .val (.ref b1), .val (.int o), .val (.int ((p4 &&& (2147483647 : Int32)) % ((7 : Int32) - o))), .val (.int (3 : Int32)), .val (.int (own_bom x y z))] [(.int (1 : Int32))]))
          refine OEnds.via (fun _ k => XS.goto X19.here hx rfl (pc0 := 159) (pc' := 163) rfl (hb hby at_159) (by decide) (by decide) k) ?_
          show OEnds p e below s _ _ _ (T19.setTop (mkF m 163 #[.val (.int p0), .val (.int p1), .val (.int p2), .val (.int p3), .val (.int p4), .val (.ref b1), .val (.int o), .val (.int ((p4 &&& (2147483647 : Int32)) % ((7 : Int32) - o))), .val (.int (3 : Int32)), .val (.int (own_bom x y z))] [(.int (1 : Int32))]))
          refine OEnds.retN X19 hx hlk (t := .boolean) Bd.returns (by simp) (hb hby at_163) ?_ (by decide) (by decide)
          exact ⟨rfl, N19⟩
        · skip
          refine OEnds.via (fun _ k => XS.icmpYes X13.here hx rfl (pc0 := 134) (pc' := 140) rfl (hb hby at_134) rfl (feq hc134_17).2 (by decide) (by decide) k) ?_
          show OEnds p e below s _ _ _ (T13.setTop (mkF m 140 #[.val (.int p0), .val (.int p1), .val (.int p2), .val (.int p3), .val (.int p4), .val (.ref b1), .val (.int o), .val (.int ((p4 &&& (2147483647 : Int32)) % ((7 : Int32) - o))), .val (.int (0 : Int32)), .unset] []))
          refine OEnds.via (fun _ k => XS.aload X13.here hx rfl (hb hby at_140) rfl rfl k) ?_
          show OEnds p e below s _ _ _ (T13.setTop (mkF m 142 #[.val (.int p0), .val (.int p1), .val (.int p2), .val (.int p3), .val (.int p4), .val (.ref b1), .val (.int o), .val (.int ((p4 &&& (2147483647 : Int32)) % ((7 : Int32) - o))), .val (.int (0 : Int32)), .unset] [(.ref b1)]))
          refine OEnds.via (fun _ k => XS.iload X13.here hx rfl (hb hby at_142) rfl k) ?_
          show OEnds p e below s _ _ _ (T13.setTop (mkF m 144 #[.val (.int p0), .val (.int p1), .val (.int p2), .val (.int p3), .val (.int p4), .val (.ref b1), .val (.int o), .val (.int ((p4 &&& (2147483647 : Int32)) % ((7 : Int32) - o))), .val (.int (0 : Int32)), .unset] [(.int o), (.ref b1)]))
          refine OEnds.via (fun _ k => XS.iload X13.here hx rfl (hb hby at_144) rfl k) ?_
          show OEnds p e below s _ _ _ (T13.setTop (mkF m 146 #[.val (.int p0), .val (.int p1), .val (.int p2), .val (.int p3), .val (.int p4), .val (.ref b1), .val (.int o), .val (.int ((p4 &&& (2147483647 : Int32)) % ((7 : Int32) - o))), .val (.int (0 : Int32)), .unset] [(.int ((p4 &&& (2147483647 : Int32)) % ((7 : Int32) - o))), (.int o), (.ref b1)]))
          obtain ⟨_, _, ⟨T20, L20, k20, n20⟩, -, X20, ⟨Lc20, hQ20, l20, y20, z20⟩, st20⟩ := Jvm.LawKit.callS X13 hx (y := (⟨"com/example/odds3/odds3/engine/Utf8", "byteOrderMarkLength", "([BII)I"⟩ : MethodName)) hown (mvT hZ (hw _ (List.mem_of_getElem? (i := 7) rfl))) (mvT hZ (hw _ (List.mem_of_getElem? (i := 8) rfl))) (mvT hZ (hw _ (List.mem_of_getElem? (i := 9) rfl))) (mvT hZ (hw _ (List.mem_of_getElem? (i := 10) rfl))) (by decide) (backOf (W := 0) (rmB l Z a0 hw [] b1 o ((p4 &&& (2147483647 : Int32)) % ((7 : Int32) - o)) bm cl cb x y z h13 n0 Od S_b Ar Ab (by simpa using hi0) hi1 hi2 (by simpa using ha0) ha1 ha2 Sb hb0 hb1 hb2 hol hog.2.2 Sa hc100_13) hZ (hw _ (List.mem_of_getElem? (i := 10) rfl)) (hw _ (List.mem_of_getElem? (i := 9) rfl)) (by decide) (by decide)) (g := (mkF m 146 #[.val (.int p0), .val (.int p1), .val (.int p2), .val (.int p3), .val (.int p4), .val (.ref b1), .val (.int o), .val (.int ((p4 &&& (2147483647 : Int32)) % ((7 : Int32) - o))), .val (.int (0 : Int32)), .unset] [(.int ((p4 &&& (2147483647 : Int32)) % ((7 : Int32) - o))), (.int o), (.ref b1)])) rfl (by rw [hml]; rfl) (argsL := [(.ref b1), (.int o), (.int ((p4 &&& (2147483647 : Int32)) % ((7 : Int32) - o)))]) (rest := []) (lenOf pd_285bBII29I rfl) rfl (by show 2 * 0 + _ ≤ _; exact Nat.le_of_eq rfl) (hb hby at_146) (fun _ _ => ⟨rfl, e13, Nat.le_of_ble_eq_true rfl, Nat.le_of_ble_eq_true rfl⟩)
          dsimp only [Pt.U, Pt.locs, Pt.cells, Pt.slots] at X20 l20 y20 z20 st20 hQ20
          subst l20 y20 z20
          obtain ⟨rfl, N20q, e20⟩ := hQ20
          have N20 := Fr.app N13 N20q
          refine OEnds.via (fun _ k => st20 _ k) ?_
          show OEnds p e below s _ _ _ (T20.setTop (mkF m 149 #[.val (.int p0), .val (.int p1), .val (.int p2), .val (.int p3), .val (.int p4), .val (.ref b1), .val (.int o), .val (.int ((p4 &&& (2147483647 : Int32)) % ((7 : Int32) - o))), .val (.int (0 : Int32)), .unset] [(.int (own_bom x y z))]))
          refine OEnds.via (fun _ k => XS.istore X20.here hx rfl (hb hby at_149) rfl (l' := #[.val (.int p0), .val (.int p1), .val (.int p2), .val (.int p3), .val (.int p4), .val (.ref b1), .val (.int o), .val (.int ((p4 &&& (2147483647 : Int32)) % ((7 : Int32) - o))), .val (.int (0 : Int32)), .val (.int (own_bom x y z))]) rfl k) ?_
          show OEnds p e below s _ _ _ (T20.setTop (mkF m 151 #[.val (.int p0), .val (.int p1), .val (.int p2), .val (.int p3), .val (.int p4), .val (.ref b1), .val (.int o), .val (.int ((p4 &&& (2147483647 : Int32)) % ((7 : Int32) - o))), .val (.int (0 : Int32)), .val (.int (own_bom x y z))] []))
          refine OEnds.via (fun _ k => XS.iload X20.here hx rfl (hb hby at_151) rfl k) ?_
          show OEnds p e below s _ _ _ (T20.setTop (mkF m 153 #[.val (.int p0), .val (.int p1), .val (.int p2), .val (.int p3), .val (.int p4), .val (.ref b1), .val (.int o), .val (.int ((p4 &&& (2147483647 : Int32)) % ((7 : Int32) - o))), .val (.int (0 : Int32)), .val (.int (own_bom x y z))] [(.int (own_bom x y z))]))
          refine OEnds.via (fun _ k => XS.iload X20.here hx rfl (hb hby at_153) rfl k) ?_
          show OEnds p e below s _ _ _ (T20.setTop (mkF m 155 #[.val (.int p0), .val (.int p1), .val (.int p2), .val (.int p3), .val (.int p4), .val (.ref b1), .val (.int o), .val (.int ((p4 &&& (2147483647 : Int32)) % ((7 : Int32) - o))), .val (.int (0 : Int32)), .val (.int (own_bom x y z))] [(.int (0 : Int32)), (.int (own_bom x y z))]))
          refine OEnds.via (fun _ k => XS.icmpNo X20.here hx rfl (hb hby at_155) rfl (teq (by simp [own_bom, own_eq, own_mm, hc110_15, hc122_16, hc134_17] : (own_bom x y z) = (0 : Int32))).2 k) ?_
          show OEnds p e below s _ _ _ (T20.setTop (mkF m 158 #[.val (.int p0), .val (.int p1), .val (.int p2), .val (.int p3), .val (.int p4), .val (.ref b1), .val (.int o), .val (.int ((p4 &&& (2147483647 : Int32)) % ((7 : Int32) - o))), .val (.int (0 : Int32)), .val (.int (own_bom x y z))] []))
          refine OEnds.via (fun _ k => XS.iconst X20.here hx rfl (hb hby at_158) k) ?_
          show OEnds p e below s _ _ _ (T20.setTop (mkF m 159 #[.val (.int p0), .val (.int p1), .val (.int p2), .val (.int p3), .val (.int p4), .val (.ref b1), .val (.int o), .val (.int ((p4 &&& (2147483647 : Int32)) % ((7 : Int32) - o))), .val (.int (0 : Int32)), .val (.int (own_bom x y z))] [(.int (1 : Int32))]))
          refine OEnds.via (fun _ k => XS.goto X20.here hx rfl (pc0 := 159) (pc' := 163) rfl (hb hby at_159) (by decide) (by decide) k) ?_
          show OEnds p e below s _ _ _ (T20.setTop (mkF m 163 #[.val (.int p0), .val (.int p1), .val (.int p2), .val (.int p3), .val (.int p4), .val (.ref b1), .val (.int o), .val (.int ((p4 &&& (2147483647 : Int32)) % ((7 : Int32) - o))), .val (.int (0 : Int32)), .val (.int (own_bom x y z))] [(.int (1 : Int32))]))
          refine OEnds.retN X20 hx hlk (t := .boolean) Bd.returns (by simp) (hb hby at_163) ?_ (by decide) (by decide)
          exact ⟨rfl, N20⟩
      · skip
        refine OEnds.via (fun _ k => XS.icmpYes X13.here hx rfl (pc0 := 122) (pc' := 140) rfl (hb hby at_122) rfl (feq hc122_16).2 (by decide) (by decide) k) ?_
        show OEnds p e below s _ _ _ (T13.setTop (mkF m 140 #[.val (.int p0), .val (.int p1), .val (.int p2), .val (.int p3), .val (.int p4), .val (.ref b1), .val (.int o), .val (.int ((p4 &&& (2147483647 : Int32)) % ((7 : Int32) - o))), .val (.int (0 : Int32)), .unset] []))
        refine OEnds.via (fun _ k => XS.aload X13.here hx rfl (hb hby at_140) rfl rfl k) ?_
        show OEnds p e below s _ _ _ (T13.setTop (mkF m 142 #[.val (.int p0), .val (.int p1), .val (.int p2), .val (.int p3), .val (.int p4), .val (.ref b1), .val (.int o), .val (.int ((p4 &&& (2147483647 : Int32)) % ((7 : Int32) - o))), .val (.int (0 : Int32)), .unset] [(.ref b1)]))
        refine OEnds.via (fun _ k => XS.iload X13.here hx rfl (hb hby at_142) rfl k) ?_
        show OEnds p e below s _ _ _ (T13.setTop (mkF m 144 #[.val (.int p0), .val (.int p1), .val (.int p2), .val (.int p3), .val (.int p4), .val (.ref b1), .val (.int o), .val (.int ((p4 &&& (2147483647 : Int32)) % ((7 : Int32) - o))), .val (.int (0 : Int32)), .unset] [(.int o), (.ref b1)]))
        refine OEnds.via (fun _ k => XS.iload X13.here hx rfl (hb hby at_144) rfl k) ?_
        show OEnds p e below s _ _ _ (T13.setTop (mkF m 146 #[.val (.int p0), .val (.int p1), .val (.int p2), .val (.int p3), .val (.int p4), .val (.ref b1), .val (.int o), .val (.int ((p4 &&& (2147483647 : Int32)) % ((7 : Int32) - o))), .val (.int (0 : Int32)), .unset] [(.int ((p4 &&& (2147483647 : Int32)) % ((7 : Int32) - o))), (.int o), (.ref b1)]))
        obtain ⟨_, _, ⟨T21, L21, k21, n21⟩, -, X21, ⟨Lc21, hQ21, l21, y21, z21⟩, st21⟩ := Jvm.LawKit.callS X13 hx (y := (⟨"com/example/odds3/odds3/engine/Utf8", "byteOrderMarkLength", "([BII)I"⟩ : MethodName)) hown (mvT hZ (hw _ (List.mem_of_getElem? (i := 7) rfl))) (mvT hZ (hw _ (List.mem_of_getElem? (i := 8) rfl))) (mvT hZ (hw _ (List.mem_of_getElem? (i := 9) rfl))) (mvT hZ (hw _ (List.mem_of_getElem? (i := 10) rfl))) (by decide) (backOf (W := 0) (rmB l Z a0 hw [] b1 o ((p4 &&& (2147483647 : Int32)) % ((7 : Int32) - o)) bm cl cb x y z h13 n0 Od S_b Ar Ab (by simpa using hi0) hi1 hi2 (by simpa using ha0) ha1 ha2 Sb hb0 hb1 hb2 hol hog.2.2 Sa hc100_13) hZ (hw _ (List.mem_of_getElem? (i := 10) rfl)) (hw _ (List.mem_of_getElem? (i := 9) rfl)) (by decide) (by decide)) (g := (mkF m 146 #[.val (.int p0), .val (.int p1), .val (.int p2), .val (.int p3), .val (.int p4), .val (.ref b1), .val (.int o), .val (.int ((p4 &&& (2147483647 : Int32)) % ((7 : Int32) - o))), .val (.int (0 : Int32)), .unset] [(.int ((p4 &&& (2147483647 : Int32)) % ((7 : Int32) - o))), (.int o), (.ref b1)])) rfl (by rw [hml]; rfl) (argsL := [(.ref b1), (.int o), (.int ((p4 &&& (2147483647 : Int32)) % ((7 : Int32) - o)))]) (rest := []) (lenOf pd_285bBII29I rfl) rfl (by show 2 * 0 + _ ≤ _; exact Nat.le_of_eq rfl) (hb hby at_146) (fun _ _ => ⟨rfl, e13, Nat.le_of_ble_eq_true rfl, Nat.le_of_ble_eq_true rfl⟩)
        dsimp only [Pt.U, Pt.locs, Pt.cells, Pt.slots] at X21 l21 y21 z21 st21 hQ21
        subst l21 y21 z21
        obtain ⟨rfl, N21q, e21⟩ := hQ21
        have N21 := Fr.app N13 N21q
        refine OEnds.via (fun _ k => st21 _ k) ?_
        show OEnds p e below s _ _ _ (T21.setTop (mkF m 149 #[.val (.int p0), .val (.int p1), .val (.int p2), .val (.int p3), .val (.int p4), .val (.ref b1), .val (.int o), .val (.int ((p4 &&& (2147483647 : Int32)) % ((7 : Int32) - o))), .val (.int (0 : Int32)), .unset] [(.int (own_bom x y z))]))
        refine OEnds.via (fun _ k => XS.istore X21.here hx rfl (hb hby at_149) rfl (l' := #[.val (.int p0), .val (.int p1), .val (.int p2), .val (.int p3), .val (.int p4), .val (.ref b1), .val (.int o), .val (.int ((p4 &&& (2147483647 : Int32)) % ((7 : Int32) - o))), .val (.int (0 : Int32)), .val (.int (own_bom x y z))]) rfl k) ?_
        show OEnds p e below s _ _ _ (T21.setTop (mkF m 151 #[.val (.int p0), .val (.int p1), .val (.int p2), .val (.int p3), .val (.int p4), .val (.ref b1), .val (.int o), .val (.int ((p4 &&& (2147483647 : Int32)) % ((7 : Int32) - o))), .val (.int (0 : Int32)), .val (.int (own_bom x y z))] []))
        refine OEnds.via (fun _ k => XS.iload X21.here hx rfl (hb hby at_151) rfl k) ?_
        show OEnds p e below s _ _ _ (T21.setTop (mkF m 153 #[.val (.int p0), .val (.int p1), .val (.int p2), .val (.int p3), .val (.int p4), .val (.ref b1), .val (.int o), .val (.int ((p4 &&& (2147483647 : Int32)) % ((7 : Int32) - o))), .val (.int (0 : Int32)), .val (.int (own_bom x y z))] [(.int (own_bom x y z))]))
        refine OEnds.via (fun _ k => XS.iload X21.here hx rfl (hb hby at_153) rfl k) ?_
        show OEnds p e below s _ _ _ (T21.setTop (mkF m 155 #[.val (.int p0), .val (.int p1), .val (.int p2), .val (.int p3), .val (.int p4), .val (.ref b1), .val (.int o), .val (.int ((p4 &&& (2147483647 : Int32)) % ((7 : Int32) - o))), .val (.int (0 : Int32)), .val (.int (own_bom x y z))] [(.int (0 : Int32)), (.int (own_bom x y z))]))
        refine OEnds.via (fun _ k => XS.icmpNo X21.here hx rfl (hb hby at_155) rfl (teq (by simp [own_bom, own_eq, own_mm, hc110_15, hc122_16] : (own_bom x y z) = (0 : Int32))).2 k) ?_
        show OEnds p e below s _ _ _ (T21.setTop (mkF m 158 #[.val (.int p0), .val (.int p1), .val (.int p2), .val (.int p3), .val (.int p4), .val (.ref b1), .val (.int o), .val (.int ((p4 &&& (2147483647 : Int32)) % ((7 : Int32) - o))), .val (.int (0 : Int32)), .val (.int (own_bom x y z))] []))
        refine OEnds.via (fun _ k => XS.iconst X21.here hx rfl (hb hby at_158) k) ?_
        show OEnds p e below s _ _ _ (T21.setTop (mkF m 159 #[.val (.int p0), .val (.int p1), .val (.int p2), .val (.int p3), .val (.int p4), .val (.ref b1), .val (.int o), .val (.int ((p4 &&& (2147483647 : Int32)) % ((7 : Int32) - o))), .val (.int (0 : Int32)), .val (.int (own_bom x y z))] [(.int (1 : Int32))]))
        refine OEnds.via (fun _ k => XS.goto X21.here hx rfl (pc0 := 159) (pc' := 163) rfl (hb hby at_159) (by decide) (by decide) k) ?_
        show OEnds p e below s _ _ _ (T21.setTop (mkF m 163 #[.val (.int p0), .val (.int p1), .val (.int p2), .val (.int p3), .val (.int p4), .val (.ref b1), .val (.int o), .val (.int ((p4 &&& (2147483647 : Int32)) % ((7 : Int32) - o))), .val (.int (0 : Int32)), .val (.int (own_bom x y z))] [(.int (1 : Int32))]))
        refine OEnds.retN X21 hx hlk (t := .boolean) Bd.returns (by simp) (hb hby at_163) ?_ (by decide) (by decide)
        exact ⟨rfl, N21⟩
    · skip
      refine OEnds.via (fun _ k => XS.icmpYes X13.here hx rfl (pc0 := 110) (pc' := 140) rfl (hb hby at_110) rfl (feq hc110_15).2 (by decide) (by decide) k) ?_
      show OEnds p e below s _ _ _ (T13.setTop (mkF m 140 #[.val (.int p0), .val (.int p1), .val (.int p2), .val (.int p3), .val (.int p4), .val (.ref b1), .val (.int o), .val (.int ((p4 &&& (2147483647 : Int32)) % ((7 : Int32) - o))), .val (.int (0 : Int32)), .unset] []))
      refine OEnds.via (fun _ k => XS.aload X13.here hx rfl (hb hby at_140) rfl rfl k) ?_
      show OEnds p e below s _ _ _ (T13.setTop (mkF m 142 #[.val (.int p0), .val (.int p1), .val (.int p2), .val (.int p3), .val (.int p4), .val (.ref b1), .val (.int o), .val (.int ((p4 &&& (2147483647 : Int32)) % ((7 : Int32) - o))), .val (.int (0 : Int32)), .unset] [(.ref b1)]))
      refine OEnds.via (fun _ k => XS.iload X13.here hx rfl (hb hby at_142) rfl k) ?_
      show OEnds p e below s _ _ _ (T13.setTop (mkF m 144 #[.val (.int p0), .val (.int p1), .val (.int p2), .val (.int p3), .val (.int p4), .val (.ref b1), .val (.int o), .val (.int ((p4 &&& (2147483647 : Int32)) % ((7 : Int32) - o))), .val (.int (0 : Int32)), .unset] [(.int o), (.ref b1)]))
      refine OEnds.via (fun _ k => XS.iload X13.here hx rfl (hb hby at_144) rfl k) ?_
      show OEnds p e below s _ _ _ (T13.setTop (mkF m 146 #[.val (.int p0), .val (.int p1), .val (.int p2), .val (.int p3), .val (.int p4), .val (.ref b1), .val (.int o), .val (.int ((p4 &&& (2147483647 : Int32)) % ((7 : Int32) - o))), .val (.int (0 : Int32)), .unset] [(.int ((p4 &&& (2147483647 : Int32)) % ((7 : Int32) - o))), (.int o), (.ref b1)]))
      obtain ⟨_, _, ⟨T22, L22, k22, n22⟩, -, X22, ⟨Lc22, hQ22, l22, y22, z22⟩, st22⟩ := Jvm.LawKit.callS X13 hx (y := (⟨"com/example/odds3/odds3/engine/Utf8", "byteOrderMarkLength", "([BII)I"⟩ : MethodName)) hown (mvT hZ (hw _ (List.mem_of_getElem? (i := 7) rfl))) (mvT hZ (hw _ (List.mem_of_getElem? (i := 8) rfl))) (mvT hZ (hw _ (List.mem_of_getElem? (i := 9) rfl))) (mvT hZ (hw _ (List.mem_of_getElem? (i := 10) rfl))) (by decide) (backOf (W := 0) (rmB l Z a0 hw [] b1 o ((p4 &&& (2147483647 : Int32)) % ((7 : Int32) - o)) bm cl cb x y z h13 n0 Od S_b Ar Ab (by simpa using hi0) hi1 hi2 (by simpa using ha0) ha1 ha2 Sb hb0 hb1 hb2 hol hog.2.2 Sa hc100_13) hZ (hw _ (List.mem_of_getElem? (i := 10) rfl)) (hw _ (List.mem_of_getElem? (i := 9) rfl)) (by decide) (by decide)) (g := (mkF m 146 #[.val (.int p0), .val (.int p1), .val (.int p2), .val (.int p3), .val (.int p4), .val (.ref b1), .val (.int o), .val (.int ((p4 &&& (2147483647 : Int32)) % ((7 : Int32) - o))), .val (.int (0 : Int32)), .unset] [(.int ((p4 &&& (2147483647 : Int32)) % ((7 : Int32) - o))), (.int o), (.ref b1)])) rfl (by rw [hml]; rfl) (argsL := [(.ref b1), (.int o), (.int ((p4 &&& (2147483647 : Int32)) % ((7 : Int32) - o)))]) (rest := []) (lenOf pd_285bBII29I rfl) rfl (by show 2 * 0 + _ ≤ _; exact Nat.le_of_eq rfl) (hb hby at_146) (fun _ _ => ⟨rfl, e13, Nat.le_of_ble_eq_true rfl, Nat.le_of_ble_eq_true rfl⟩)
      dsimp only [Pt.U, Pt.locs, Pt.cells, Pt.slots] at X22 l22 y22 z22 st22 hQ22
      subst l22 y22 z22
      obtain ⟨rfl, N22q, e22⟩ := hQ22
      have N22 := Fr.app N13 N22q
      refine OEnds.via (fun _ k => st22 _ k) ?_
      show OEnds p e below s _ _ _ (T22.setTop (mkF m 149 #[.val (.int p0), .val (.int p1), .val (.int p2), .val (.int p3), .val (.int p4), .val (.ref b1), .val (.int o), .val (.int ((p4 &&& (2147483647 : Int32)) % ((7 : Int32) - o))), .val (.int (0 : Int32)), .unset] [(.int (own_bom x y z))]))
      refine OEnds.via (fun _ k => XS.istore X22.here hx rfl (hb hby at_149) rfl (l' := #[.val (.int p0), .val (.int p1), .val (.int p2), .val (.int p3), .val (.int p4), .val (.ref b1), .val (.int o), .val (.int ((p4 &&& (2147483647 : Int32)) % ((7 : Int32) - o))), .val (.int (0 : Int32)), .val (.int (own_bom x y z))]) rfl k) ?_
      show OEnds p e below s _ _ _ (T22.setTop (mkF m 151 #[.val (.int p0), .val (.int p1), .val (.int p2), .val (.int p3), .val (.int p4), .val (.ref b1), .val (.int o), .val (.int ((p4 &&& (2147483647 : Int32)) % ((7 : Int32) - o))), .val (.int (0 : Int32)), .val (.int (own_bom x y z))] []))
      refine OEnds.via (fun _ k => XS.iload X22.here hx rfl (hb hby at_151) rfl k) ?_
      show OEnds p e below s _ _ _ (T22.setTop (mkF m 153 #[.val (.int p0), .val (.int p1), .val (.int p2), .val (.int p3), .val (.int p4), .val (.ref b1), .val (.int o), .val (.int ((p4 &&& (2147483647 : Int32)) % ((7 : Int32) - o))), .val (.int (0 : Int32)), .val (.int (own_bom x y z))] [(.int (own_bom x y z))]))
      refine OEnds.via (fun _ k => XS.iload X22.here hx rfl (hb hby at_153) rfl k) ?_
      show OEnds p e below s _ _ _ (T22.setTop (mkF m 155 #[.val (.int p0), .val (.int p1), .val (.int p2), .val (.int p3), .val (.int p4), .val (.ref b1), .val (.int o), .val (.int ((p4 &&& (2147483647 : Int32)) % ((7 : Int32) - o))), .val (.int (0 : Int32)), .val (.int (own_bom x y z))] [(.int (0 : Int32)), (.int (own_bom x y z))]))
      refine OEnds.via (fun _ k => XS.icmpNo X22.here hx rfl (hb hby at_155) rfl (teq (by simp [own_bom, own_eq, own_mm, hc110_15] : (own_bom x y z) = (0 : Int32))).2 k) ?_
      show OEnds p e below s _ _ _ (T22.setTop (mkF m 158 #[.val (.int p0), .val (.int p1), .val (.int p2), .val (.int p3), .val (.int p4), .val (.ref b1), .val (.int o), .val (.int ((p4 &&& (2147483647 : Int32)) % ((7 : Int32) - o))), .val (.int (0 : Int32)), .val (.int (own_bom x y z))] []))
      refine OEnds.via (fun _ k => XS.iconst X22.here hx rfl (hb hby at_158) k) ?_
      show OEnds p e below s _ _ _ (T22.setTop (mkF m 159 #[.val (.int p0), .val (.int p1), .val (.int p2), .val (.int p3), .val (.int p4), .val (.ref b1), .val (.int o), .val (.int ((p4 &&& (2147483647 : Int32)) % ((7 : Int32) - o))), .val (.int (0 : Int32)), .val (.int (own_bom x y z))] [(.int (1 : Int32))]))
      refine OEnds.via (fun _ k => XS.goto X22.here hx rfl (pc0 := 159) (pc' := 163) rfl (hb hby at_159) (by decide) (by decide) k) ?_
      show OEnds p e below s _ _ _ (T22.setTop (mkF m 163 #[.val (.int p0), .val (.int p1), .val (.int p2), .val (.int p3), .val (.int p4), .val (.ref b1), .val (.int o), .val (.int ((p4 &&& (2147483647 : Int32)) % ((7 : Int32) - o))), .val (.int (0 : Int32)), .val (.int (own_bom x y z))] [(.int (1 : Int32))]))
      refine OEnds.retN X22 hx hlk (t := .boolean) Bd.returns (by simp) (hb hby at_163) ?_ (by decide) (by decide)
      exact ⟨rfl, N22⟩
set_option maxRecDepth 65536 in
set_option maxHeartbeats 40000000 in
theorem comes_1 {Post : Tables → Env → Array Value → State → Outcome → State → Prop} (hpost : ∀ tb e args s v u, (limb_1_1.after args s (.returned v) u = true ∧ limb_1_2.after args s (.returned v) u = true ∧ True) → FrameEnd s (.returned v) u (Jvm.fieldLocs frame_1_writes args s ++ Jvm.arrayLocs frame_1_arrays args s ++ Jvm.staticLocs frame_1_statics s) 16 128 → Post tb e args s (.returned v) u) :
    ArmFor flags0 classFile x code maxLocals ret World_1 tables_1 room_1 Calls_1 rest_1 Pre_1 Post := by
  intro l hfl _ _ p e ha hc hk s m args below hf hA hF happ hP
  obtain ⟨hcalls, hrest, hpre⟩ := hP
  obtain ⟨-, -, -, hnamed, -, -, -, hat⟩ := (Spec.applies_iff hf).mp happ
  obtain ⟨hg, hn⟩ := and_e (Cond.before_iff.mp (show (Jvm.Cond.and given_1 narrow_1).before args s = true from hpre))
  obtain ⟨g1, g2⟩ := and_e hg
  obtain ⟨g3, g4⟩ := and_e g2
  obtain ⟨g5, g6⟩ := and_e g4
  obtain ⟨g7, g8⟩ := and_e g6
  obtain ⟨g9, g10⟩ := and_e g8
  obtain ⟨w0, w1, w2, w3, w4, rfl⟩ : ∃ w0 w1 w2 w3 w4 : Value, args = #[w0, w1, w2, w3, w4] := by
    have hs : args.size = 5 := by simpa [Cond.value, given_1] using g1
    obtain ⟨L⟩ := args
    match L, hs with
    | [w0, w1, w2, w3, w4], _ => exact ⟨w0, w1, w2, w3, w4, rfl⟩
  have hw := fun d (hd : d ∈ tables_1) => atoms_spec (ws := Jvm.Cond.code x code maxLocals ret :: tables_1) hat d (List.mem_cons_of_mem _ hd)
  have hfit : Fit s := fun {y c} hc i hi => by
    obtain ⟨ha, rfl⟩ := Array.getElem?_eq_some_iff.mp hc
    have q := List.all_eq_true.mp ((Array.all_eq_true_iff_forall_mem.mp hF) _ (Array.getElem_mem ha)) i (List.mem_range.mpr hi)
    simpa [Array.getElem?_eq_getElem hi] using q
  obtain ⟨i0, ei0⟩ := is_v g3
  obtain rfl : w0 = (.int i0) := Option.some.inj ei0
  obtain ⟨i1, ei1⟩ := is_v g5
  obtain rfl : w1 = (.int i1) := Option.some.inj ei1
  obtain ⟨i2, ei2⟩ := is_v g7
  obtain rfl : w2 = (.int i2) := Option.some.inj ei2
  obtain ⟨i3, ei3⟩ := is_v g9
  obtain rfl : w3 = (.int i3) := Option.some.inj ei3
  obtain ⟨i4, ei4⟩ := is_v g10
  obtain rfl : w4 = (.int i4) := Option.some.inj ei4
  obtain ⟨g11, g12⟩ := and_e hn
  obtain ⟨g13, g14⟩ := and_e g12
  obtain ⟨g15, g16⟩ := and_e g14
  obtain ⟨g17, g18⟩ := and_e g16
  obtain ⟨a_BYTE_ORDER_MARK, ev_a_BYTE_ORDER_MARK⟩ := arr_v g11
  have S_a_BYTE_ORDER_MARK : Sta s s.heap "com/example/odds3/odds3/engine/Utf8" "BYTE_ORDER_MARK" "[B" (.ref a_BYTE_ORDER_MARK) := Sta.start ev_a_BYTE_ORDER_MARK (Or.inr ⟨(hw _ (List.mem_of_getElem? (i := 9) rfl)), (hw _ (List.mem_of_getElem? (i := 12) rfl))⟩)
  obtain ⟨cl_a_BYTE_ORDER_MARK, Ar_a_BYTE_ORDER_MARK⟩ := Arr.start ev_a_BYTE_ORDER_MARK g11
  obtain ⟨L31_a_BYTE_ORDER_MARK, L_a_BYTE_ORDER_MARK⟩ := own_len g13 ev_a_BYTE_ORDER_MARK Ar_a_BYTE_ORDER_MARK
  have el_a_BYTE_ORDER_MARK_0 := own_elem g15 ev_a_BYTE_ORDER_MARK Ar_a_BYTE_ORDER_MARK
  have el_a_BYTE_ORDER_MARK_1 := own_elem g17 ev_a_BYTE_ORDER_MARK Ar_a_BYTE_ORDER_MARK
  have el_a_BYTE_ORDER_MARK_2 := own_elem g18 ev_a_BYTE_ORDER_MARK Ar_a_BYTE_ORDER_MARK
  have Sb : cl_a_BYTE_ORDER_MARK.slots.size = (3 : Int32).toNatClampNeg := by rw [← L_a_BYTE_ORDER_MARK]; exact (clamp_of rfl L31_a_BYTE_ORDER_MARK).symm
  obtain ⟨n, o, h1, h2, h3, _, L, rfl, ⟨rfl, N⟩, hq⟩ := rm0 l s _ hw tables_1 i0 i1 i2 i3 i4 a_BYTE_ORDER_MARK cl_a_BYTE_ORDER_MARK s.heap s.heap.size (Old.start s) S_a_BYTE_ORDER_MARK Ar_a_BYTE_ORDER_MARK Sb el_a_BYTE_ORDER_MARK_0 el_a_BYTE_ORDER_MARK_1 el_a_BYTE_ORDER_MARK_2 p e ha hc hk s m _ below hf ((Spec.applies_iff_loose hf).mp happ).1 ⟨rfl, State.Warmed39.refl s, rfl⟩ trivial
  refine ⟨n, _, h1, h2, h3, hpost _ _ _ _ _ _ ⟨Cond.after_iff.mpr rfl, Cond.after_iff.mpr (eq_i res_at (Term.int_eval (1)) rfl), trivial⟩ ⟨hq.1, hq.2.1, (hq.2.2.sift fun y hy => Or.inr (N y hy)).mono (by decide) (by decide)⟩⟩
theorem main_1_1 : Claimed_1_1 := comes_1 fun _ _ _ _ _ _ h hF => ⟨h.1, hF⟩
theorem main_1_2 : Claimed_1_2 := comes_1 fun _ _ _ _ _ _ h hF => ⟨h.2.1, hF⟩
end Jvm.Pilot.@@N@@
namespace Jvm.Pilot.@@N@@
open Jvm Jvm.ClassFile Sem Op Lib Jvm.Free Jvm.Stand Jvm.Pilot.@@N@@.Jvm.D
/-! MADE BY PROGRAM (witnessworld.py) out of the Statement's table words and the real class files: 11 classes; the members and pool entries that the words name. The judged class is class 1, her method 2. -/
namespace start1
open Jvm.ClassFile
def u (s : String) : CpInfo := .utf8 (stringToUtf16 s)
/-- a pool by its gaps: so many unusable entries, then the entry; so many at the end -/
def gap : Nat → List CpInfo → List CpInfo
  | 0, r => r
  | n + 1, r => .unusable :: gap n r
def poolList (es : List (Nat × CpInfo)) (last : Nat) : List CpInfo := es.foldr (fun e r => gap e.1 (e.2 :: r)) (gap last [])
def pool (es : List (Nat × CpInfo)) (last : Nat) : Array CpInfo := ⟨poolList es last⟩
def fileOf (pool : Array CpInfo) (this : Nat) (attrs : Array Attribute := #[]) (ms : Array MethodInfo := #[]) (fl : Nat := 33) (sup : Nat := 0) (ifs : Array Nat := #[]) (fds : Array FieldInfo := #[]) : ClassFile where
  minorVersion := 0
  majorVersion := 65
  constantPool := pool
  accessFlags := fl
  thisClass := this
  superClass := sup
  interfaces := ifs
  fields := fds
  methods := ms
  attributes := attrs
def plain (name : String) (sup : Option ClassId) : Class where
  name := name
  kind := .ordinary
  loader := none
  accessFlags := 33
  super := sup
  interfaces := #[]
  cf := none
  fields := #[]
  methods := #[]
  instanceTypes := #[]
  staticTypes := #[]
  resolved := #[]
  callSites := []
  init := .initialized
  statics := none
  mirror := none

def pool0 : Array CpInfo := pool [(5, u "<init>"), (0, u "()V"), (1, .class_ 10), (1, u "java/lang/Object")] 113

def k0m0 : Method := { name := "<init>", desc := "()V", sig := { parameters := [], returnType := none }, accessFlags := 1, code := none }
/-- java/lang/Object -/
def k0 : Class := { plain "java/lang/Object" none with
  accessFlags := 33
  interfaces := #[]
  cf := some (fileOf pool0 8 #[] #[{ accessFlags := 1, nameIndex := 5, descriptorIndex := 6, attributes := #[] }] 33 0 #[] #[])
  fields := #[]
  methods := #[k0m0]
  instanceTypes := #[]
  staticTypes := #[]
  resolved := Array.replicate 124 none
  statics := none }

def pool1 : Array CpInfo := pool [(2, .class_ 4), (1, u "java/lang/Object"), (0, u "<init>"), (0, u "()V"), (0, .integer 65535), (0, .methodref 9 10), (0, .class_ 11), (0, .nameAndType 12 13), (0, u "com/example/odds3/odds3/engine/Utf8ByteOrderMarkLengthPinLaw"), (0, u "pick"), (0, u "(I)B"), (0, .integer 2147483647), (0, .methodref 16 17), (0, .class_ 18), (0, .nameAndType 19 20), (0, u "com/example/odds3/odds3/engine/Utf8"), (0, u "byteOrderMarkLength"), (0, u "([BII)I"), (3, u "law"), (0, u "(IIIII)Z")] 4

def k1m0 : Method := { name := "<init>", desc := "()V", sig := { parameters := [], returnType := none }, accessFlags := 2, code := none }
def k1c1 : Code := { maxStack := 2, maxLocals := 2, code := method_2_code, exceptionTable := #[], attributes := #[] }
def k1m1 : Method := { name := "pick", desc := "(I)B", sig := { parameters := [.int], returnType := some .byte }, accessFlags := 10, code := some k1c1 }
def k1c2 : Code := { maxStack := 4, maxLocals := 10, code := code, exceptionTable := #[], attributes := #[] }
def k1m2 : Method := { name := "law", desc := "(IIIII)Z", sig := { parameters := [.int, .int, .int, .int, .int], returnType := some .boolean }, accessFlags := 9, code := some k1c2 }
/-- com/example/odds3/odds3/engine/Utf8ByteOrderMarkLengthPinLaw -/
def k1 : Class := { plain "com/example/odds3/odds3/engine/Utf8ByteOrderMarkLengthPinLaw" (some 0) with
  accessFlags := 49
  interfaces := #[]
  cf := some (fileOf pool1 9 #[] #[{ accessFlags := 2, nameIndex := 5, descriptorIndex := 6, attributes := #[] }, { accessFlags := 10, nameIndex := 12, descriptorIndex := 13, attributes := #[] }, { accessFlags := 9, nameIndex := 24, descriptorIndex := 25, attributes := #[] }] 49 2 #[] #[])
  fields := #[]
  methods := #[k1m0, k1m1, k1m2]
  instanceTypes := #[]
  staticTypes := #[]
  resolved := Array.replicate 30 none
  statics := none }

def pool2 : Array CpInfo := pool [(2, .class_ 4), (1, u "java/lang/Object"), (0, u "<init>"), (0, u "()V"), (0, .fieldref 8 9), (0, .class_ 10), (0, .nameAndType 11 12), (0, u "com/example/odds3/odds3/engine/Utf8"), (0, u "BYTE_ORDER_MARK"), (0, u "[B"), (0, .methodref 14 15), (0, .class_ 16), (0, .nameAndType 17 18), (0, u "java/util/Arrays"), (0, u "equals"), (0, u "([BII[BII)Z"), (48, .class_ 68), (0, u "com/example/odds3/odds3/engine/Utf8$NotUtf8"), (21, u "byteOrderMarkLength"), (0, u "([BII)I")] 11

def k2m0 : Method := { name := "<init>", desc := "()V", sig := { parameters := [], returnType := none }, accessFlags := 2, code := none }
def k2c1 : Code := { maxStack := 6, maxLocals := 4, code := prog_7_method_2_code, exceptionTable := #[], attributes := #[] }
def k2m1 : Method := { name := "byteOrderMarkLength", desc := "([BII)I", sig := { parameters := [(.array .byte), .int, .int], returnType := some .int }, accessFlags := 9, code := some k2c1 }
/-- com/example/odds3/odds3/engine/Utf8 -/
def k2 : Class := { plain "com/example/odds3/odds3/engine/Utf8" (some 0) with
  accessFlags := 33
  interfaces := #[]
  cf := some (fileOf pool2 8 #[.nestMembers #[67]] #[{ accessFlags := 2, nameIndex := 5, descriptorIndex := 6, attributes := #[] }, { accessFlags := 9, nameIndex := 90, descriptorIndex := 91, attributes := #[] }] 33 2 #[] #[{ accessFlags := 26, nameIndex := 11, descriptorIndex := 12, attributes := #[] }])
  fields := #[{ name := "BYTE_ORDER_MARK", type := (.array .byte), accessFlags := 26, slot := 0, constantValue := 0 }]
  methods := #[k2m0, k2m1]
  instanceTypes := #[]
  staticTypes := #[(.array .byte)]
  resolved := Array.replicate 103 none
  statics := some 0 }

def pool3 : Array CpInfo := pool [(2, .class_ 4), (1, u "java/lang/Object"), (0, u "<init>"), (0, u "()V"), (6, .methodref 14 15), (0, .class_ 16), (0, .nameAndType 17 18), (0, u "java/util/Arrays"), (0, u "rangeCheck"), (0, u "(III)V"), (55, .class_ 76), (1, u "java/util/Arrays$NaturalOrder"), (36, .class_ 115), (1, u "java/util/Arrays$LegacyMergeSort"), (1, u "Z"), (128, .class_ 248), (1, u "jdk/internal/util/ArraysSupport"), (0, u "mismatch"), (25, .methodref 246 276), (0, .nameAndType 249 277), (0, u "([BI[BII)I"), (20, u "equals"), (76, .class_ 376), (0, u "java/util/Arrays$ArrayList"), (68, u "$assertionsDisabled"), (269, u "MIN_ARRAY_SORT_GRAN"), (0, u "I"), (2, u "INSERTIONSORT_THRESHOLD"), (111, u "([BII[BII)Z"), (143, .class_ 976), (0, u "java/util/Arrays$ArrayItr")] 52

def k3m0 : Method := { name := "<init>", desc := "()V", sig := { parameters := [], returnType := none }, accessFlags := 2, code := none }
def k3c1 : Code := { maxStack := 4, maxLocals := 3, code := jdk_65_method_30_code, exceptionTable := #[], attributes := #[] }
def k3m1 : Method := { name := "rangeCheck", desc := "(III)V", sig := { parameters := [.int, .int, .int], returnType := none }, accessFlags := 8, code := some k3c1 }
def k3c2 : Code := { maxStack := 5, maxLocals := 8, code := jdk_65_method_90_code, exceptionTable := #[], attributes := #[] }
def k3m2 : Method := { name := "equals", desc := "([BII[BII)Z", sig := { parameters := [(.array .byte), .int, .int, (.array .byte), .int, .int], returnType := some .boolean }, accessFlags := 9, code := some k3c2 }
/-- java/util/Arrays -/
def k3 : Class := { plain "java/util/Arrays" (some 0) with
  accessFlags := 49
  interfaces := #[]
  cf := some (fileOf pool3 14 #[.nestMembers #[975, 375, 113, 74]] #[{ accessFlags := 2, nameIndex := 5, descriptorIndex := 6, attributes := #[] }, { accessFlags := 8, nameIndex := 17, descriptorIndex := 18, attributes := #[] }, { accessFlags := 9, nameIndex := 298, descriptorIndex := 831, attributes := #[] }] 49 2 #[] #[{ accessFlags := 26, nameIndex := 715, descriptorIndex := 716, attributes := #[] }, { accessFlags := 26, nameIndex := 719, descriptorIndex := 716, attributes := #[] }, { accessFlags := 4120, nameIndex := 445, descriptorIndex := 117, attributes := #[] }])
  fields := #[{ name := "MIN_ARRAY_SORT_GRAN", type := .int, accessFlags := 26, slot := 0, constantValue := 0 }, { name := "INSERTIONSORT_THRESHOLD", type := .int, accessFlags := 26, slot := 1, constantValue := 0 }, { name := "$assertionsDisabled", type := .boolean, accessFlags := 4120, slot := 2, constantValue := 0 }]
  methods := #[k3m0, k3m1, k3m2]
  instanceTypes := #[]
  staticTypes := #[.int, .int, .boolean]
  resolved := Array.replicate 1029 none
  statics := none }

def pool4 : Array CpInfo := pool [(9, u "<init>"), (6, .class_ 18), (1, u "java/lang/Object"), (0, u "()V"), (1, .class_ 23), (1, u "jdk/internal/util/ArraysSupport"), (0, u "LOG2_ARRAY_LONG_INDEX_SCALE"), (0, u "I"), (2, u "U"), (0, u "Ljdk/internal/misc/Unsafe;"), (8, u "BIG_ENDIAN"), (0, u "Z"), (8, u "LOG2_BYTE_BIT_SIZE"), (4, u "LOG2_ARRAY_INT_INDEX_SCALE"), (54, u "JLA"), (0, u "Ljdk/internal/access/JavaLangAccess;"), (11, u "LOG2_ARRAY_BOOLEAN_INDEX_SCALE"), (9, u "LOG2_ARRAY_BYTE_INDEX_SCALE"), (5, u "LOG2_ARRAY_CHAR_INDEX_SCALE"), (5, u "LOG2_ARRAY_SHORT_INDEX_SCALE"), (5, u "mismatch"), (12, u "LOG2_ARRAY_FLOAT_INDEX_SCALE"), (24, u "LOG2_ARRAY_DOUBLE_INDEX_SCALE"), (89, u "T_BOOLEAN"), (2, u "T_CHAR"), (1, u "T_FLOAT"), (1, u "T_DOUBLE"), (1, u "T_BYTE"), (1, u "T_SHORT"), (1, u "T_INT"), (1, u "T_LONG"), (1, u "SOFT_MAX_ARRAY_LENGTH"), (42, u "([BI[BII)I")] 40

def k4m0 : Method := { name := "<init>", desc := "()V", sig := { parameters := [], returnType := none }, accessFlags := 2, code := none }
def k4c1 : Code := { maxStack := 8, maxLocals := 8, code := jdk_48_method_14_code, exceptionTable := #[], attributes := #[] }
def k4m1 : Method := { name := "mismatch", desc := "([BI[BII)I", sig := { parameters := [(.array .byte), .int, (.array .byte), .int, .int], returnType := some .int }, accessFlags := 9, code := some k4c1 }
/-- jdk/internal/util/ArraysSupport -/
def k4 : Class := { plain "jdk/internal/util/ArraysSupport" (some 0) with
  accessFlags := 33
  interfaces := #[]
  cf := some (fileOf pool4 21 #[] #[{ accessFlags := 2, nameIndex := 9, descriptorIndex := 19, attributes := #[] }, { accessFlags := 9, nameIndex := 149, descriptorIndex := 337, attributes := #[] }] 33 16 #[] #[{ accessFlags := 24, nameIndex := 28, descriptorIndex := 29, attributes := #[] }, { accessFlags := 26, nameIndex := 38, descriptorIndex := 39, attributes := #[] }, { accessFlags := 25, nameIndex := 121, descriptorIndex := 25, attributes := #[] }, { accessFlags := 25, nameIndex := 131, descriptorIndex := 25, attributes := #[] }, { accessFlags := 25, nameIndex := 137, descriptorIndex := 25, attributes := #[] }, { accessFlags := 25, nameIndex := 143, descriptorIndex := 25, attributes := #[] }, { accessFlags := 25, nameIndex := 53, descriptorIndex := 25, attributes := #[] }, { accessFlags := 25, nameIndex := 24, descriptorIndex := 25, attributes := #[] }, { accessFlags := 25, nameIndex := 162, descriptorIndex := 25, attributes := #[] }, { accessFlags := 25, nameIndex := 187, descriptorIndex := 25, attributes := #[] }, { accessFlags := 26, nameIndex := 48, descriptorIndex := 25, attributes := #[] }, { accessFlags := 25, nameIndex := 277, descriptorIndex := 25, attributes := #[] }, { accessFlags := 25, nameIndex := 280, descriptorIndex := 25, attributes := #[] }, { accessFlags := 25, nameIndex := 282, descriptorIndex := 25, attributes := #[] }, { accessFlags := 25, nameIndex := 284, descriptorIndex := 25, attributes := #[] }, { accessFlags := 25, nameIndex := 286, descriptorIndex := 25, attributes := #[] }, { accessFlags := 25, nameIndex := 288, descriptorIndex := 25, attributes := #[] }, { accessFlags := 25, nameIndex := 290, descriptorIndex := 25, attributes := #[] }, { accessFlags := 25, nameIndex := 292, descriptorIndex := 25, attributes := #[] }, { accessFlags := 26, nameIndex := 108, descriptorIndex := 109, attributes := #[] }, { accessFlags := 25, nameIndex := 294, descriptorIndex := 25, attributes := #[] }])
  fields := #[{ name := "U", type := (.object "jdk/internal/misc/Unsafe"), accessFlags := 24, slot := 0, constantValue := 0 }, { name := "BIG_ENDIAN", type := .boolean, accessFlags := 26, slot := 1, constantValue := 0 }, { name := "LOG2_ARRAY_BOOLEAN_INDEX_SCALE", type := .int, accessFlags := 25, slot := 2, constantValue := 0 }, { name := "LOG2_ARRAY_BYTE_INDEX_SCALE", type := .int, accessFlags := 25, slot := 3, constantValue := 0 }, { name := "LOG2_ARRAY_CHAR_INDEX_SCALE", type := .int, accessFlags := 25, slot := 4, constantValue := 0 }, { name := "LOG2_ARRAY_SHORT_INDEX_SCALE", type := .int, accessFlags := 25, slot := 5, constantValue := 0 }, { name := "LOG2_ARRAY_INT_INDEX_SCALE", type := .int, accessFlags := 25, slot := 6, constantValue := 0 }, { name := "LOG2_ARRAY_LONG_INDEX_SCALE", type := .int, accessFlags := 25, slot := 7, constantValue := 0 }, { name := "LOG2_ARRAY_FLOAT_INDEX_SCALE", type := .int, accessFlags := 25, slot := 8, constantValue := 0 }, { name := "LOG2_ARRAY_DOUBLE_INDEX_SCALE", type := .int, accessFlags := 25, slot := 9, constantValue := 0 }, { name := "LOG2_BYTE_BIT_SIZE", type := .int, accessFlags := 26, slot := 10, constantValue := 0 }, { name := "T_BOOLEAN", type := .int, accessFlags := 25, slot := 11, constantValue := 0 }, { name := "T_CHAR", type := .int, accessFlags := 25, slot := 12, constantValue := 0 }, { name := "T_FLOAT", type := .int, accessFlags := 25, slot := 13, constantValue := 0 }, { name := "T_DOUBLE", type := .int, accessFlags := 25, slot := 14, constantValue := 0 }, { name := "T_BYTE", type := .int, accessFlags := 25, slot := 15, constantValue := 0 }, { name := "T_SHORT", type := .int, accessFlags := 25, slot := 16, constantValue := 0 }, { name := "T_INT", type := .int, accessFlags := 25, slot := 17, constantValue := 0 }, { name := "T_LONG", type := .int, accessFlags := 25, slot := 18, constantValue := 0 }, { name := "JLA", type := (.object "jdk/internal/access/JavaLangAccess"), accessFlags := 26, slot := 19, constantValue := 0 }, { name := "SOFT_MAX_ARRAY_LENGTH", type := .int, accessFlags := 25, slot := 20, constantValue := 0 }]
  methods := #[k4m0, k4m1]
  instanceTypes := #[]
  staticTypes := #[(.object "jdk/internal/misc/Unsafe"), .boolean, .int, .int, .int, .int, .int, .int, .int, .int, .int, .int, .int, .int, .int, .int, .int, .int, .int, (.object "jdk/internal/access/JavaLangAccess"), .int]
  resolved := Array.replicate 378 none
  statics := none }

def pool5 : Array CpInfo := pool [(1, u "java/lang/Cloneable"), (0, .class_ 1), (0, u "java/lang/Object"), (0, .class_ 3)] 3

/-- java/lang/Cloneable -/
def k5 : Class := { plain "java/lang/Cloneable" (some 0) with
  accessFlags := 1537
  interfaces := #[]
  cf := some (fileOf pool5 2 #[] #[] 1537 4 #[] #[])
  fields := #[]
  methods := #[]
  instanceTypes := #[]
  staticTypes := #[]
  resolved := Array.replicate 8 none
  statics := none }

def pool6 : Array CpInfo := pool [(1, u "java/io/Serializable"), (0, .class_ 1), (0, u "java/lang/Object"), (0, .class_ 3)] 3

/-- java/io/Serializable -/
def k6 : Class := { plain "java/io/Serializable" (some 0) with
  accessFlags := 1537
  interfaces := #[]
  cf := some (fileOf pool6 2 #[] #[] 1537 4 #[] #[])
  fields := #[]
  methods := #[]
  instanceTypes := #[]
  staticTypes := #[]
  resolved := Array.replicate 8 none
  statics := none }

/-- the primitive byte -/
def k7 : Class := { plain "byte" none with kind := .primitive 'B', accessFlags := 0x411 }
/-- [B -/
def k8 : Class := { plain "[B" (some 0) with kind := .array 7 .byte, interfaces := #[5, 6], accessFlags := 1041 }

/-- the primitive int -/
def k9 : Class := { plain "int" none with kind := .primitive 'I', accessFlags := 0x411 }
/-- [I -/
def k10 : Class := { plain "[I" (some 0) with kind := .array 9 .int, interfaces := #[5, 6], accessFlags := 1041 }

def heap : Heap := #[{ cls := 2, slots := #[.ref 1], vm := .statics 2 },
  { cls := 8, slots := #[.int (-17), .int (-69), .int (-65)], vm := .none }]
def classes : Array Class := #[k0, k1, k2, k3, k4, k5, k6, k7, k8, k9, k10]
def interned : List (Array UInt16 × Addr) := []
def slotsUsed : Nat := 4
def theMethod : MethodId := ⟨1, 2⟩
def args0 : Array Value := #[.int 5, .int 6, .int 7, .int 8, .int 9]
def aboutOver (below : List Frame) : State where
  vm := { classes := classes, interned := interned.toArray }
  heap := heap
  slotsUsed := slotsUsed
  threads := #[{ frames := .invoking theMethod args0 :: below }]
def below0 : List Frame := [.native { method := ⟨0, 0⟩, args := #[] }]
def about1 : State := aboutOver below0
def p0 : Program := .bare "" "" ""
def e0 : Env := launch0.env 0 0 0
theorem w_frames : about1.frames = Frame.invoking theMethod args0 :: below0 := rfl
set_option maxRecDepth 65536 in
theorem w_args : argsFit about1.vm theMethod args0 = true := by decide +kernel
set_option maxRecDepth 65536 in
theorem w_heap : heapFits about1 = true := by decide +kernel
set_option maxRecDepth 65536 in
theorem w_runnable : about1.curStatus? = some .runnable := by decide +kernel
set_option maxRecDepth 65536 in
theorem w_alone : about1.alone = true := by decide +kernel
set_option maxRecDepth 65536 in
theorem w_named : about1.methodNamed? x = some theMethod := by decide +kernel
set_option maxRecDepth 65536 in
theorem w_hears : about1.hears theMethod below0 = true := by decide +kernel
set_option maxRecDepth 65536 in
theorem w_ripe : about1.ripe theMethod args0 below0 = true := by decide +kernel
theorem w_running : about1.status = .running := rfl
set_option maxRecDepth 65536 in
theorem w_room : about1.hasRoom e0.platform room_1 = true :=
  launch0.hasRoom_least _ room_1 (by decide +kernel) (by decide +kernel) (by decide +kernel) (by decide +kernel) (by decide +kernel) (by decide +kernel)
theorem allAtoms_all (ts : List Jvm.Cond) (a : Array Jvm.Value) (st : Jvm.State) : (allAtoms ts).before a st = ts.all (fun c => c.before a st) := by
  induction ts with
  | nil => rfl
  | cons c t ih =>
    show (Jvm.Cond.and c (allAtoms t)).before a st = _
    rw [Jvm.Cond.before_and, ih, List.all_cons]
def words1 : List Jvm.Cond := Jvm.Cond.code x code maxLocals ret :: tables_1
/-- a 'code' word, met by the world's own term for the bytes: nothing is compared byte by byte -/
theorem code_word {y : MethodName} {bytes : ByteArray} {mx : Nat} {rt : Option FieldType} {a : Array Value} {s : State} {m : MethodId} {meth : Method} {c : Code} (h1 : s.methodNamed? y = some m) (h2 : s.vm.method? m = some meth) (h3 : meth.code = some c) (h4 : c.code = bytes)
    (h5 : (c.maxLocals == mx && c.exceptionTable.isEmpty && decide (c.maxStack ≤ mostOperands) && decide (meth.sig.returnType = rt) && !meth.locks && decide (parseMethodDescriptor y.desc = some meth.sig)) = true) : (Jvm.Cond.code y bytes mx rt).before a s = true := by
  simp only [Bool.and_eq_true, beq_iff_eq, Bool.not_eq_true', decide_eq_true_eq] at h5
  obtain ⟨⟨⟨⟨⟨g1, g2⟩, g3⟩, g4⟩, g5⟩, g6⟩ := h5
  simp [Cond.before, Cond.holds, Cond.value, h1, h2, h3, h4, g1, g2, g3, g4, g5, g6]
def isCode : Jvm.Cond → Bool
  | .code _ _ _ _ => true
  | _ => false
theorem all_split {L : List Jvm.Cond} {P : Jvm.Cond → Bool} (h1 : L.all (fun c => isCode c || P c) = true) (h2 : ∀ c ∈ L.filter isCode, P c = true) : L.all P = true := by
  refine List.all_eq_true.mpr fun c hc => ?_
  have h := List.all_eq_true.mp h1 c hc
  rcases Bool.eq_false_or_eq_true (isCode c) with hi | hi
  · exact h2 c (List.mem_filter.mpr ⟨hc, hi⟩)
  · simpa [hi] using h
set_option maxRecDepth 65536 in
theorem w_c0 : (Jvm.Cond.code x code maxLocals ret).before args0 about1 = true := code_word (m := ⟨1, 2⟩) (meth := k1m2) (c := k1c2) (by decide +kernel) rfl rfl rfl (by decide +kernel)
set_option maxRecDepth 65536 in
theorem w_c1 : (Jvm.Cond.code ({ cls := "com/example/odds3/odds3/engine/Utf8ByteOrderMarkLengthPinLaw", name := "pick", desc := "(I)B" } : Jvm.MethodName) method_2_code (2 : Nat) (Option.some Jvm.ClassFile.FieldType.byte)).before args0 about1 = true := code_word (m := ⟨1, 1⟩) (meth := k1m1) (c := k1c1) (by decide +kernel) rfl rfl rfl (by decide +kernel)
set_option maxRecDepth 65536 in
theorem w_c2 : (Jvm.Cond.code ({ cls := "com/example/odds3/odds3/engine/Utf8", name := "byteOrderMarkLength", desc := "([BII)I" } : Jvm.MethodName) prog_7_method_2_code (4 : Nat) (Option.some Jvm.ClassFile.FieldType.int)).before args0 about1 = true := code_word (m := ⟨2, 1⟩) (meth := k2m1) (c := k2c1) (by decide +kernel) rfl rfl rfl (by decide +kernel)
set_option maxRecDepth 65536 in
theorem w_c3 : (Jvm.Cond.code ({ cls := "java/util/Arrays", name := "equals", desc := "([BII[BII)Z" } : Jvm.MethodName) jdk_65_method_90_code (8 : Nat) (Option.some Jvm.ClassFile.FieldType.boolean)).before args0 about1 = true := code_word (m := ⟨3, 2⟩) (meth := k3m2) (c := k3c2) (by decide +kernel) rfl rfl rfl (by decide +kernel)
set_option maxRecDepth 65536 in
theorem w_c4 : (Jvm.Cond.code ({ cls := "java/util/Arrays", name := "rangeCheck", desc := "(III)V" } : Jvm.MethodName) jdk_65_method_30_code (3 : Nat) (Option.none : Option Jvm.ClassFile.FieldType)).before args0 about1 = true := code_word (m := ⟨3, 1⟩) (meth := k3m1) (c := k3c1) (by decide +kernel) rfl rfl rfl (by decide +kernel)
set_option maxRecDepth 65536 in
theorem w_c5 : (Jvm.Cond.code ({ cls := "jdk/internal/util/ArraysSupport", name := "mismatch", desc := "([BI[BII)I" } : Jvm.MethodName) jdk_48_method_14_code (8 : Nat) (Option.some Jvm.ClassFile.FieldType.int)).before args0 about1 = true := code_word (m := ⟨4, 1⟩) (meth := k4m1) (c := k4c1) (by decide +kernel) rfl rfl rfl (by decide +kernel)
def codes1 : List Jvm.Cond := [Jvm.Cond.code x code maxLocals ret, Jvm.Cond.code ({ cls := "com/example/odds3/odds3/engine/Utf8ByteOrderMarkLengthPinLaw", name := "pick", desc := "(I)B" } : Jvm.MethodName) method_2_code (2 : Nat) (Option.some Jvm.ClassFile.FieldType.byte), Jvm.Cond.code ({ cls := "com/example/odds3/odds3/engine/Utf8", name := "byteOrderMarkLength", desc := "([BII)I" } : Jvm.MethodName) prog_7_method_2_code (4 : Nat) (Option.some Jvm.ClassFile.FieldType.int), Jvm.Cond.code ({ cls := "java/util/Arrays", name := "equals", desc := "([BII[BII)Z" } : Jvm.MethodName) jdk_65_method_90_code (8 : Nat) (Option.some Jvm.ClassFile.FieldType.boolean), Jvm.Cond.code ({ cls := "java/util/Arrays", name := "rangeCheck", desc := "(III)V" } : Jvm.MethodName) jdk_65_method_30_code (3 : Nat) (Option.none : Option Jvm.ClassFile.FieldType), Jvm.Cond.code ({ cls := "jdk/internal/util/ArraysSupport", name := "mismatch", desc := "([BI[BII)I" } : Jvm.MethodName) jdk_48_method_14_code (8 : Nat) (Option.some Jvm.ClassFile.FieldType.int)]
set_option maxRecDepth 65536 in
theorem codes_eq : words1.filter isCode = codes1 := rfl
theorem w_codes : ∀ c ∈ words1.filter isCode, c.before args0 about1 = true := by
  rw [codes_eq]
  intro c hc
  simp only [codes1, List.mem_cons, List.not_mem_nil, or_false] at hc
  rcases hc with rfl | rfl | rfl | rfl | rfl | rfl
  · exact w_c0
  · exact w_c1
  · exact w_c2
  · exact w_c3
  · exact w_c4
  · exact w_c5
set_option maxRecDepth 65536 in
theorem w_t1 : (words1.take 24).all (fun c => isCode c || c.before args0 about1) = true := by decide +kernel
set_option maxRecDepth 65536 in
theorem w_t2 : (words1.drop 24).all (fun c => isCode c || c.before args0 about1) = true := by decide +kernel
theorem w_tables : (allAtoms (Jvm.Cond.code x code maxLocals ret :: tables_1)).before args0 about1 = true := by
  rw [allAtoms_all]
  show words1.all (fun c => c.before args0 about1) = true
  refine all_split ?_ w_codes
  rw [← List.take_append_drop 24 words1, List.all_append, w_t1, w_t2]
  rfl
set_option maxRecDepth 65536 in
theorem w_case : (Jvm.Cond.and given_1 narrow_1).before args0 about1 = true := by decide +kernel
theorem w_applies : (headSpec (Jvm.Cond.code x code maxLocals ret :: tables_1) room_1).applies x e0.platform about1 = true :=
  (Spec.applies_iff w_frames).mpr ⟨w_running, w_runnable, w_alone, w_named, w_hears, w_ripe, w_room, w_tables⟩
theorem atStart : AtStart classFile x code maxLocals ret World_1 tables_1 room_1 Calls_1 rest_1 Pre_1 launch0 p0 e0 about1 theMethod args0 below0 :=
  ⟨lists_1, trivial, launch0.admits_env _ _ _, launch0.least_env, fairChoices_fair.cas, fairChoices_fair.clock, w_frames, w_args, w_heap, w_applies, trivial, trivial, w_case⟩
end start1
theorem witness_1 : WitnessClaimed_1 := ⟨start1.p0, start1.e0, start1.about1, start1.theMethod, start1.args0, start1.below0, start1.atStart⟩
end Jvm.Pilot.@@N@@
