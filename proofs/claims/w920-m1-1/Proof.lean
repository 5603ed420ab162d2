import JvmDerived
import JvmDerived.Pilot.@@N@@Statement
import JvmDerived.Pilot.@@N@@Code
set_option linter.unusedVariables false
set_option linter.unusedSimpArgs false
@@BLOCK:NumsL.lean.txt@@
namespace Jvm.Pilot.@@N@@
open Jvm Jvm.ClassFile Sem Op Lib Jvm.Free Jvm.Stand Jvm.LawKit Jvm.RoadKit Bundle Jvm.Pilot.@@N@@.Jvm.D
/-- from the state A the run comes to a return of which Q holds -/
def Go (tb : Tables) (e : Env) (below : List Frame) (s : State) (C S : Nat) (Q : Option Value → Heap → List Loc → Prop) (A : State) : Prop :=
  ∃ s₂ o, Steps tb e below A s₂ ∧ s₂.status = .running ∧ Ended s₂ below o ∧ ∃ v L, o = .returned v ∧ Q v s₂.heap L ∧ FrameEnd s o s₂ L C S
theorem go {tb : Tables} {e : Env} {below : List Frame} {s A B : State} {C S : Nat} {Q : Option Value → Heap → List Loc → Prop} (st : ∀ t, Steps tb e below B t → Steps tb e below A t) (h : Go tb e below s C S Q B) : Go tb e below s C S Q A := by
  obtain ⟨s₂, o, h1, h2⟩ := h
  exact ⟨s₂, o, st _ h1, h2⟩
section Rets
variable {p : Program} {l : Launch} {e : Env} {R : Room} {s : State} {m : MethodId} {args : Array Value} {below : List Frame} {meth : Method} {c : Code} {T : State} {locs : List Loc} {cells slots : Nat} {C S : Nat} {Q : Option Value → Heap → List Loc → Prop} {pc : Nat} {Ls : Array Slot} {rest : List Value}
theorem goRetI (X : Stand p l e R s m args below meth c T locs cells slots) (hx : p.tables.exec = Jvm.exec) {z : Int32} (hret : meth.sig.returnType = some .int) (hlk : meth.locks = false) (hd : decode c.code pc = .ok (.ireturn, 1)) (hQ : Q (some (.int z)) T.heap locs) (hc : cells ≤ C) (hs : slots ≤ S) : Go p.tables e below s C S Q (T.setTop (mkF m pc Ls (.int z :: rest))) := by
  obtain ⟨fs, hr, hrun, hended, hW, hsame⟩ := X.leave (v := some (.int z)) (fun h => by rw [hret] at h; cases h) hlk
  exact ⟨_, _, retOut X hx hret rfl (Or.inl ⟨rfl, Or.inl rfl, z, rfl⟩) hd hr, hrun, hended, _, _, rfl, hQ, ⟨_, rfl⟩, hW, hsame.mono hc hs⟩
theorem goRetN (X : Stand p l e R s m args below meth c T locs cells slots) (hx : p.tables.exec = Jvm.exec) {z : Int32} {t : FieldType} (hret : meth.sig.returnType = some t) (ht : t = .boolean ∨ t = .byte ∨ t = .char ∨ t = .short) (hlk : meth.locks = false) (hd : decode c.code pc = .ok (.ireturn, 1)) (hQ : Q (some (.int (nar t z))) T.heap locs) (hc : cells ≤ C) (hs : slots ≤ S) : Go p.tables e below s C S Q (T.setTop (mkF m pc Ls (.int z :: rest))) := by
  obtain ⟨fs, hr, hrun, hended, hW, hsame⟩ := X.leave (v := some (.int (nar t z))) (fun h => by rw [hret] at h; cases h) hlk
  exact ⟨_, _, retN X hx hret ht hd hr, hrun, hended, _, _, rfl, hQ, ⟨_, rfl⟩, hW, hsame.mono hc hs⟩
theorem goRetL (X : Stand p l e R s m args below meth c T locs cells slots) (hx : p.tables.exec = Jvm.exec) {z : Int64} (hret : meth.sig.returnType = some .long) (hlk : meth.locks = false) (hd : decode c.code pc = .ok (.lreturn, 1)) (hQ : Q (some (.long z)) T.heap locs) (hc : cells ≤ C) (hs : slots ≤ S) : Go p.tables e below s C S Q (T.setTop (mkF m pc Ls (.long z :: rest))) := by
  obtain ⟨fs, hr, hrun, hended, hW, hsame⟩ := X.leave (v := some (.long z)) (fun h => by rw [hret] at h; cases h) hlk
  exact ⟨_, _, retOut X hx hret rfl (Or.inr (Or.inl ⟨rfl, rfl, z, rfl⟩)) hd hr, hrun, hended, _, _, rfl, hQ, ⟨_, rfl⟩, hW, hsame.mono hc hs⟩
theorem goRetR (X : Stand p l e R s m args below meth c T locs cells slots) (hx : p.tables.exec = Jvm.exec) {a : Addr} {t : FieldType} (hret : meth.sig.returnType = some t) (ht : t.isReference = true) (hlk : meth.locks = false) (hd : decode c.code pc = .ok (.areturn, 1)) (hQ : Q (some (.ref a)) T.heap locs) (hc : cells ≤ C) (hs : slots ≤ S) : Go p.tables e below s C S Q (T.setTop (mkF m pc Ls (.ref a :: rest))) := by
  obtain ⟨fs, hr, hrun, hended, hW, hsame⟩ := X.leave (v := some (.ref a)) (fun h => by rw [hret] at h; cases h) hlk
  exact ⟨_, _, retOut X hx hret (by cases t <;> first | rfl | cases ht) (Or.inr (Or.inr (Or.inr (Or.inr ⟨rfl, ht, rfl⟩)))) hd hr, hrun, hended, _, _, rfl, hQ, ⟨_, rfl⟩, hW, hsame.mono hc hs⟩
theorem goRetV (X : Stand p l e R s m args below meth c T locs cells slots) (hx : p.tables.exec = Jvm.exec) (hret : meth.sig.returnType = none) (hlk : meth.locks = false) (hd : decode c.code pc = .ok (.return_, 1)) (hQ : Q none T.heap locs) (hc : cells ≤ C) (hs : slots ≤ S) : Go p.tables e below s C S Q (T.setTop (mkF m pc Ls [])) := by
  obtain ⟨fs, hr, hrun, hended, hW, hsame⟩ := X.leave (v := none) (fun _ => rfl) hlk
  exact ⟨_, _, X.returnOut hx hret hd hr, hrun, hended, _, _, rfl, hQ, ⟨_, rfl⟩, hW, hsame.mono hc hs⟩
end Rets
theorem lc_lt_yes {x y : Int64} (h : x < y) : ifCond.holds .lt (lcmpW x y) = true := by
  have h1 : ¬ y < x := by rw [Int64.lt_iff_toInt_lt] at h ⊢; omega
  have h2 : ¬ x = y := fun q => by subst q; rw [Int64.lt_iff_toInt_lt] at h; omega
  simp [lcmpW, h1, h2]; decide
theorem lc_lt_no {x y : Int64} (h : ¬ x < y) : ifCond.holds .lt (lcmpW x y) = false := by
  by_cases h1 : y < x
  · simp [lcmpW, h1]; decide
  · have h2 : x = y := by rw [← Int64.toInt_inj]; rw [Int64.lt_iff_toInt_lt] at h h1; omega
    simp [lcmpW, h1, h2]; decide
theorem lc_ge_no {x y : Int64} (h : x < y) : ifCond.holds .ge (lcmpW x y) = false := by
  have h1 : ¬ y < x := by rw [Int64.lt_iff_toInt_lt] at h ⊢; omega
  have h2 : ¬ x = y := fun q => by subst q; rw [Int64.lt_iff_toInt_lt] at h; omega
  simp [lcmpW, h1, h2]; decide
theorem lc_ge_yes {x y : Int64} (h : ¬ x < y) : ifCond.holds .ge (lcmpW x y) = true := by
  by_cases h1 : y < x
  · simp [lcmpW, h1]; decide
  · have h2 : x = y := by rw [← Int64.toInt_inj]; rw [Int64.lt_iff_toInt_lt] at h h1; omega
    simp [lcmpW, h1, h2]; decide
theorem lc_gt_yes {x y : Int64} (h : y < x) : ifCond.holds .gt (lcmpW x y) = true := by
  simp [lcmpW, h]; decide
theorem lc_gt_no {x y : Int64} (h : ¬ y < x) : ifCond.holds .gt (lcmpW x y) = false := by
  by_cases h2 : x = y <;> simp [lcmpW, h, h2] <;> decide
theorem lc_le_no {x y : Int64} (h : y < x) : ifCond.holds .le (lcmpW x y) = false := by
  simp [lcmpW, h]; decide
theorem lc_le_yes {x y : Int64} (h : ¬ y < x) : ifCond.holds .le (lcmpW x y) = true := by
  by_cases h2 : x = y <;> simp [lcmpW, h, h2] <;> decide
theorem lc_eq_yes {x y : Int64} (h : x = y) : ifCond.holds .eq (lcmpW x y) = true := by
  subst h; simp [lcmpW]; decide
theorem lc_eq_no {x y : Int64} (h : ¬ x = y) : ifCond.holds .eq (lcmpW x y) = false := by
  by_cases h1 : y < x <;> simp [lcmpW, h, h1] <;> decide
theorem lc_ne_no {x y : Int64} (h : x = y) : ifCond.holds .ne (lcmpW x y) = false := by
  subst h; simp [lcmpW]; decide
theorem lc_ne_yes {x y : Int64} (h : ¬ x = y) : ifCond.holds .ne (lcmpW x y) = true := by
  by_cases h1 : y < x <;> simp [lcmpW, h, h1] <;> decide
def mx (a b : Int32) : Int32 := if a < b then b else a
theorem mx_int (a b : Int32) : ((mx a b).toInt = b.toInt ∧ a.toInt < b.toInt) ∨ ((mx a b).toInt = a.toInt ∧ ¬ a.toInt < b.toInt) := by
  unfold mx
  by_cases h : a < b
  · rw [if_pos h]; exact Or.inl ⟨rfl, Int32.lt_iff_toInt_lt.mp h⟩
  · rw [if_neg h]; exact Or.inr ⟨rfl, fun q => h (Int32.lt_iff_toInt_lt.mpr q)⟩
/-- a RecordValues at r: its three arrays, its size, the arrays' lengths, and what was added last -/
def RV (Z : State) (h : Heap) (n0 : Nat) (r t e d : Addr) (sz nt ne nd x : Int32) : Prop :=
  Exa Z h r "com/example/zonecast/zonecast/RecordValues" ∧ Fld Z h r "com/example/zonecast/zonecast/RecordValues" "text" "[C" (.ref t) ∧ Fld Z h r "com/example/zonecast/zonecast/RecordValues" "ends" "[I" (.ref e) ∧ Fld Z h r "com/example/zonecast/zonecast/RecordValues" "digits" "[C" (.ref d) ∧ Fld Z h r "com/example/zonecast/zonecast/RecordValues" "size" "I" (.int sz) ∧
  (∃ k vs, Arv Z h t k .char nt vs (.int 0)) ∧ (∃ k vs, Arv Z h e k .int ne vs (.int 0) ∧ (¬ sz = 0 → vs.getD (sz - 1).toNatClampNeg (.int 0) = .int x)) ∧ (∃ k vs, Arv Z h d k .char nd vs (.int 0)) ∧
  n0 ≤ r ∧ n0 ≤ e ∧ t ≠ r ∧ e ≠ r ∧ d ≠ r ∧ t ≠ e ∧ d ≠ e ∧ n0 ≤ h.size
theorem arv_put {Z : State} {h h' : Heap} {a : Addr} {k : ClassId} {ty : FieldType} {z j : Int32} {vs : List Value} {dv v : Value} (F : Arv Z h a k ty z vs dv) (hv : fits ty v = true) (W : Wr h h' a j.toNatClampNeg v) : ∃ vs', Arv Z h' a k ty z vs' dv ∧ vs'.getD j.toNatClampNeg dv = v := by
  obtain ⟨c, A, q1, S, N, H, G⟩ := F.pad (pad_rep vs dv (j.toNatClampNeg + 1))
  have hl : j.toNatClampNeg < (vs ++ List.replicate (j.toNatClampNeg + 1) dv).length := by rw [List.length_append, List.length_replicate]; omega
  refine ⟨_, Arv.set A q1 S N H G hv W j.toNatClampNeg rfl hl, ?_⟩
  rw [List.getD_eq_getElem?_getD, List.getElem?_set_self hl]; rfl
theorem ncl {n : Int32} {k : Nat} (h : n.toInt ≤ (k : Int)) : n.toNatClampNeg ≤ k := by
  show n.toInt.toNat ≤ k
  omega
theorem nneg {n : Int32} (h : 0 ≤ n.toInt) : ¬ n < 0 := fun q => by
  rw [Int32.lt_iff_toInt_lt] at q
  have c0 : (0 : Int32).toInt = 0 := by decide
  omega
theorem idx_ok {s n : Int32} (h0 : 0 ≤ s.toInt) (h1 : s.toInt ≤ n.toInt) (h2 : ¬ s = 0) : ¬ (s - 1) < 0 ∧ (s - 1) < n := by
  have c0 : (0 : Int32).toInt = 0 := by decide
  have c1 : (1 : Int32).toInt = 1 := by decide
  have h3 : s.toInt ≠ 0 := fun q => h2 (Int32.toInt_inj.mp (q.trans c0.symm))
  have b := s.toInt_lt
  have e1 : (s - 1).toInt = s.toInt - 1 := by rw [Jvm.Kit.i32_sub] <;> rw [c1] <;> omega
  rw [Int32.lt_iff_toInt_lt, Int32.lt_iff_toInt_lt, c0]
  omega
def fNext (s x : Int32) : Int32 := if s = 0 then 0 else x
theorem add_one_ne {s n : Int32} (h0 : 0 ≤ s.toInt) (h1 : s.toInt < n.toInt) : s + 1 - 1 = s := by
  simp
theorem pn_com_example_zonecast_zonecast_RecordValues : plainName "com/example/zonecast/zonecast/RecordValues" = true := by first | (simp [plainName, overriddenIn]; done) | decide +kernel
theorem ef_rm1 (m : MethodId) (a1 : Addr) : entryFrame m #[(.ref a1)] 1 = mkF m 0 #[.val (.ref a1)] [] := by first | (simp [entryFrame, mkF, argsToLocals, Value.category]; done) | rfl
def Q1 (Z : State) (a1 : Addr) (h0 : Heap) (n0 : Nat) (v : Option Value) (h : Heap) (L : List Loc) : Prop := v = none ∧ Fr n0 L ∧ ∃ t e d x, RV Z h n0 a1 t e d 0 0 0 0 x
theorem d1_0 : decode prog_90_method_1_code 0 = .ok (.aload_n 0, 1) := by decide +kernel
theorem d1_1 : decode prog_90_method_1_code 1 = .ok (.invokespecial 1, 3) := by decide +kernel
theorem d1_4 : decode prog_90_method_1_code 4 = .ok (.aload_n 0, 1) := by decide +kernel
theorem d1_5 : decode prog_90_method_1_code 5 = .ok (.iconst 0, 1) := by decide +kernel
theorem d1_6 : decode prog_90_method_1_code 6 = .ok (.newarray .char, 2) := by decide +kernel
theorem d1_8 : decode prog_90_method_1_code 8 = .ok (.putfield 7, 3) := by decide +kernel
theorem d1_11 : decode prog_90_method_1_code 11 = .ok (.aload_n 0, 1) := by decide +kernel
theorem d1_12 : decode prog_90_method_1_code 12 = .ok (.iconst 0, 1) := by decide +kernel
theorem d1_13 : decode prog_90_method_1_code 13 = .ok (.newarray .int, 2) := by decide +kernel
theorem d1_15 : decode prog_90_method_1_code 15 = .ok (.putfield 13, 3) := by decide +kernel
theorem d1_18 : decode prog_90_method_1_code 18 = .ok (.aload_n 0, 1) := by decide +kernel
theorem d1_19 : decode prog_90_method_1_code 19 = .ok (.iconst 0, 1) := by decide +kernel
theorem d1_20 : decode prog_90_method_1_code 20 = .ok (.newarray .char, 2) := by decide +kernel
theorem d1_22 : decode prog_90_method_1_code 22 = .ok (.putfield 17, 3) := by decide +kernel
theorem d1_25 : decode prog_90_method_1_code 25 = .ok (.return_, 1) := by decide +kernel
set_option maxRecDepth 65536 in
set_option maxHeartbeats 40000000 in
theorem rm1 (l : Launch) (Z : State) (a0 : Array Value) (hw : ∀ d ∈ tables_1, d.before a0 Z = true) (ws : List Jvm.Cond) (a1 : Addr) (h0 : Heap) (n0 : Nat) (Z0 : n0 ≤ h0.size) (E_a1 : Exa Z h0 a1 "com/example/zonecast/zonecast/RecordValues") (F_text : Fld Z h0 a1 "com/example/zonecast/zonecast/RecordValues" "text" "[C" .null) (F_ends : Fld Z h0 a1 "com/example/zonecast/zonecast/RecordValues" "ends" "[I" .null) (F_digits : Fld Z h0 a1 "com/example/zonecast/zonecast/RecordValues" "digits" "[C" .null) (F_size : Fld Z h0 a1 "com/example/zonecast/zonecast/RecordValues" "size" "I" (.int 0)) (g_a1 : n0 ≤ a1) :
    MetFree l (⟨"com/example/zonecast/zonecast/RecordValues", "<init>", "()V"⟩ : MethodName) (head1 (Jvm.Cond.code (⟨"com/example/zonecast/zonecast/RecordValues", "<init>", "()V"⟩ : MethodName) prog_90_method_1_code 1 none :: ws) ({ frames := 1, cells := 3, slots := 0, locals := 12 } : Room)) (fun a U => a = #[(.ref a1)] ∧ Z.Warmed39 U.vm ∧ U.heap = h0) (fun _ _ _ _ _ => True) (fun _ U o U' => ∃ v L, o = .returned v ∧ Q1 Z a1 h0 n0 v U'.heap L ∧ FrameEnd U o U' L ({ frames := 1, cells := 3, slots := 0, locals := 12 } : Room).cells ({ frames := 1, cells := 3, slots := 0, locals := 12 } : Room).slots) := by
  refine MetFree.of_bodySF (plainFor_of_name pn_com_example_zonecast_zonecast_RecordValues) hisR ?_
  intro p e s m args below meth c s₁ Bd hml0 hP hK
  obtain ⟨rfl, hZ, hh⟩ := hP
  have hx := Bd.exec
  have hby := Bd.bytes
  have hml : c.maxLocals = 1 := hml0
  have hown : s.vm.findClass "com/example/zonecast/zonecast/RecordValues" = some m.cls := findClass_of_methodNamed Bd.named
  have hnm := (name_of_methodNamed Bd.named Bd.method).1
  have hlk := Bd.notSynchronized
  have X0 : Stand p l e ({ frames := 1, cells := 3, slots := 0, locals := 12 } : Room) s m #[(.ref a1)] below meth c s₁ [] 0 0 := Stand.of_body Bd
  have e0 : s₁.heap = h0 := by rw [← hh, Bd.state]; rfl
  have N0 := Fr.nil n0
  show Go p.tables e below s ({ frames := 1, cells := 3, slots := 0, locals := 12 } : Room).cells ({ frames := 1, cells := 3, slots := 0, locals := 12 } : Room).slots (Q1 Z a1 h0 n0) _
  refine go (fun t k => castTop (ef_rm1 m a1) k) ?_
  refine go (B := s₁.setTop (mkF m 1 #[.val (.ref a1)] [(.ref a1)])) (fun _ k => XS.aloadN X0.here hx rfl (hb hby d1_0) rfl rfl k) ?_
  obtain ⟨T1, X1, e1, st1⟩ := initO X0 hx hZ hown (hw _ (List.mem_of_getElem? (i := 6) rfl)) (hw _ (List.mem_of_getElem? (i := 7) rfl)) (hw _ (List.mem_of_getElem? (i := 8) rfl)) e0 (g := (mkF m 1 #[.val (.ref a1)] [(.ref a1)])) rfl (by rw [hml]; rfl) rfl (hb hby d1_1) (by decide) (W := 0) (by show 2 * 0 + _ ≤ _; exact Nat.le_of_eq rfl) (by decide)
  refine go (B := T1.setTop (mkF m 4 #[.val (.ref a1)] [])) (fun _ k => st1 _ k) ?_
  refine go (B := T1.setTop (mkF m 5 #[.val (.ref a1)] [(.ref a1)])) (fun _ k => XS.aloadN X1.here hx rfl (hb hby d1_4) rfl rfl k) ?_
  refine go (B := T1.setTop (mkF m 6 #[.val (.ref a1)] [(.int (0 : Int32)), (.ref a1)])) (fun _ k => XS.iconst X1.here hx rfl (hb hby d1_5) k) ?_
  obtain ⟨T2, h2, k2, X2, e2, E2, A2, st2⟩ := newP X1 hx hZ (hw _ (List.mem_of_getElem? (i := 9) rfl)) e1 (g := (mkF m 6 #[.val (.ref a1)] [(.int (0 : Int32)), (.ref a1)])) rfl (hb hby d1_6) rfl (by decide) (cap := 0) (by decide) (by decide) (by decide) (by decide)
  obtain ⟨b2, g2⟩ : ∃ z, z = Array.size (h0) := ⟨_, rfl⟩
  rw [← g2] at A2 st2
  have ne_a1_b2 : a1 ≠ b2 := Nat.ne_of_lt (Nat.lt_of_lt_of_le E_a1.lt (Nat.le_of_eq g2.symm))
  replace E_a1 := E_a1.ext E2
  replace F_text := F_text.ext E2
  replace F_ends := F_ends.ext E2
  replace F_digits := F_digits.ext E2
  replace F_size := F_size.ext E2
  have g_b2 : n0 ≤ b2 := Nat.le_trans Z0 (Nat.le_of_eq g2.symm)
  have Z2 : n0 ≤ h2.size := Nat.le_trans Z0 E2.1
  have V_b2 := Arv.new A2 (by decide)
  refine go (B := T2.setTop (mkF m 8 #[.val (.ref a1)] [(.ref b2), (.ref a1)])) (fun _ k => st2 _ k) ?_
  obtain ⟨T3, h3, X3, e3, W3, st3⟩ := putF X2 hx hZ hown (host := "") (Or.inl (hw _ (List.mem_of_getElem? (i := 10) rfl))) Via.refl e2 F_text E_a1 (Or.inl (hw _ (List.mem_of_getElem? (i := 11) rfl))) (hw _ (List.mem_of_getElem? (i := 1) rfl)) (ty := (.array .char)) (by decide) rfl rfl (g := (mkF m 8 #[.val (.ref a1)] [(.ref b2), (.ref a1)])) rfl rfl (hb hby d1_8)
  replace E_a1 := E_a1.wr W3
  replace F_text := F_text.same W3
  replace F_ends := F_ends.other W3 (Or.inr (slot_ne (Or.inl (hw _ (List.mem_of_getElem? (i := 14) rfl))) (Or.inl (hw _ (List.mem_of_getElem? (i := 11) rfl))) (by decide) (t := (.array .int)) (t' := (.array .char)) (by decide) (by decide)))
  replace F_digits := F_digits.other W3 (Or.inr (slot_ne (Or.inl (hw _ (List.mem_of_getElem? (i := 16) rfl))) (Or.inl (hw _ (List.mem_of_getElem? (i := 11) rfl))) (by decide) (t := (.array .char)) (t' := (.array .char)) (by decide) (by decide)))
  replace F_size := F_size.other W3 (Or.inr (slot_ne (Or.inl (hw _ (List.mem_of_getElem? (i := 23) rfl))) (Or.inl (hw _ (List.mem_of_getElem? (i := 11) rfl))) (by decide) (t := .int) (t' := (.array .char)) (by decide) (by decide)))
  replace V_b2 := V_b2.other W3 (Ne.symm ne_a1_b2)
  have N3 := Fr.snoc X3 N0 g_a1
  have Z3 : n0 ≤ h3.size := Nat.le_trans Z2 (Keep.of_wr W3).1
  refine go (B := T3.setTop (mkF m 11 #[.val (.ref a1)] [])) (fun _ k => st3 _ k) ?_
  refine go (B := T3.setTop (mkF m 12 #[.val (.ref a1)] [(.ref a1)])) (fun _ k => XS.aloadN X3.here hx rfl (hb hby d1_11) rfl rfl k) ?_
  refine go (B := T3.setTop (mkF m 13 #[.val (.ref a1)] [(.int (0 : Int32)), (.ref a1)])) (fun _ k => XS.iconst X3.here hx rfl (hb hby d1_12) k) ?_
  obtain ⟨T4, h4, k4, X4, e4, E4, A4, st4⟩ := newP X3 hx hZ (hw _ (List.mem_of_getElem? (i := 12) rfl)) e3 (g := (mkF m 13 #[.val (.ref a1)] [(.int (0 : Int32)), (.ref a1)])) rfl (hb hby d1_13) rfl (by decide) (cap := 0) (by decide) (by decide) (by decide) (by decide)
  obtain ⟨b4, g4⟩ : ∃ z, z = Array.size (h3) := ⟨_, rfl⟩
  rw [← g4] at A4 st4
  have ne_a1_b4 : a1 ≠ b4 := Nat.ne_of_lt (Nat.lt_of_lt_of_le E_a1.lt (Nat.le_of_eq g4.symm))
  have ne_b2_b4 : b2 ≠ b4 := Nat.ne_of_lt (Nat.lt_of_lt_of_le V_b2.lt (Nat.le_of_eq g4.symm))
  replace E_a1 := E_a1.ext E4
  replace F_text := F_text.ext E4
  replace F_ends := F_ends.ext E4
  replace F_digits := F_digits.ext E4
  replace F_size := F_size.ext E4
  replace V_b2 := V_b2.ext E4
  have g_b4 : n0 ≤ b4 := Nat.le_trans Z3 (Nat.le_of_eq g4.symm)
  have Z4 : n0 ≤ h4.size := Nat.le_trans Z3 E4.1
  have V_b4 := Arv.new A4 (by decide)
  refine go (B := T4.setTop (mkF m 15 #[.val (.ref a1)] [(.ref b4), (.ref a1)])) (fun _ k => st4 _ k) ?_
  obtain ⟨T5, h5, X5, e5, W5, st5⟩ := putF X4 hx hZ hown (host := "") (Or.inl (hw _ (List.mem_of_getElem? (i := 13) rfl))) Via.refl e4 F_ends E_a1 (Or.inl (hw _ (List.mem_of_getElem? (i := 14) rfl))) (hw _ (List.mem_of_getElem? (i := 1) rfl)) (ty := (.array .int)) (by decide) rfl rfl (g := (mkF m 15 #[.val (.ref a1)] [(.ref b4), (.ref a1)])) rfl rfl (hb hby d1_15)
  replace E_a1 := E_a1.wr W5
  replace F_text := F_text.other W5 (Or.inr (slot_ne (Or.inl (hw _ (List.mem_of_getElem? (i := 11) rfl))) (Or.inl (hw _ (List.mem_of_getElem? (i := 14) rfl))) (by decide) (t := (.array .char)) (t' := (.array .int)) (by decide) (by decide)))
  replace F_ends := F_ends.same W5
  replace F_digits := F_digits.other W5 (Or.inr (slot_ne (Or.inl (hw _ (List.mem_of_getElem? (i := 16) rfl))) (Or.inl (hw _ (List.mem_of_getElem? (i := 14) rfl))) (by decide) (t := (.array .char)) (t' := (.array .int)) (by decide) (by decide)))
  replace F_size := F_size.other W5 (Or.inr (slot_ne (Or.inl (hw _ (List.mem_of_getElem? (i := 23) rfl))) (Or.inl (hw _ (List.mem_of_getElem? (i := 14) rfl))) (by decide) (t := .int) (t' := (.array .int)) (by decide) (by decide)))
  replace V_b2 := V_b2.other W5 (Ne.symm ne_a1_b2)
  replace V_b4 := V_b4.other W5 (Ne.symm ne_a1_b4)
  have N5 := Fr.snoc X5 N3 g_a1
  have Z5 : n0 ≤ h5.size := Nat.le_trans Z4 (Keep.of_wr W5).1
  refine go (B := T5.setTop (mkF m 18 #[.val (.ref a1)] [])) (fun _ k => st5 _ k) ?_
  refine go (B := T5.setTop (mkF m 19 #[.val (.ref a1)] [(.ref a1)])) (fun _ k => XS.aloadN X5.here hx rfl (hb hby d1_18) rfl rfl k) ?_
  refine go (B := T5.setTop (mkF m 20 #[.val (.ref a1)] [(.int (0 : Int32)), (.ref a1)])) (fun _ k => XS.iconst X5.here hx rfl (hb hby d1_19) k) ?_
  obtain ⟨T6, h6, k6, X6, e6, E6, A6, st6⟩ := newP X5 hx hZ (hw _ (List.mem_of_getElem? (i := 9) rfl)) e5 (g := (mkF m 20 #[.val (.ref a1)] [(.int (0 : Int32)), (.ref a1)])) rfl (hb hby d1_20) rfl (by decide) (cap := 0) (by decide) (by decide) (by decide) (by decide)
  obtain ⟨b6, g6⟩ : ∃ z, z = Array.size (h5) := ⟨_, rfl⟩
  rw [← g6] at A6 st6
  have ne_a1_b6 : a1 ≠ b6 := Nat.ne_of_lt (Nat.lt_of_lt_of_le E_a1.lt (Nat.le_of_eq g6.symm))
  have ne_b2_b6 : b2 ≠ b6 := Nat.ne_of_lt (Nat.lt_of_lt_of_le V_b2.lt (Nat.le_of_eq g6.symm))
  have ne_b4_b6 : b4 ≠ b6 := Nat.ne_of_lt (Nat.lt_of_lt_of_le V_b4.lt (Nat.le_of_eq g6.symm))
  replace E_a1 := E_a1.ext E6
  replace F_text := F_text.ext E6
  replace F_ends := F_ends.ext E6
  replace F_digits := F_digits.ext E6
  replace F_size := F_size.ext E6
  replace V_b2 := V_b2.ext E6
  replace V_b4 := V_b4.ext E6
  have g_b6 : n0 ≤ b6 := Nat.le_trans Z5 (Nat.le_of_eq g6.symm)
  have Z6 : n0 ≤ h6.size := Nat.le_trans Z5 E6.1
  have V_b6 := Arv.new A6 (by decide)
  refine go (B := T6.setTop (mkF m 22 #[.val (.ref a1)] [(.ref b6), (.ref a1)])) (fun _ k => st6 _ k) ?_
  obtain ⟨T7, h7, X7, e7, W7, st7⟩ := putF X6 hx hZ hown (host := "") (Or.inl (hw _ (List.mem_of_getElem? (i := 15) rfl))) Via.refl e6 F_digits E_a1 (Or.inl (hw _ (List.mem_of_getElem? (i := 16) rfl))) (hw _ (List.mem_of_getElem? (i := 1) rfl)) (ty := (.array .char)) (by decide) rfl rfl (g := (mkF m 22 #[.val (.ref a1)] [(.ref b6), (.ref a1)])) rfl rfl (hb hby d1_22)
  replace E_a1 := E_a1.wr W7
  replace F_text := F_text.other W7 (Or.inr (slot_ne (Or.inl (hw _ (List.mem_of_getElem? (i := 11) rfl))) (Or.inl (hw _ (List.mem_of_getElem? (i := 16) rfl))) (by decide) (t := (.array .char)) (t' := (.array .char)) (by decide) (by decide)))
  replace F_ends := F_ends.other W7 (Or.inr (slot_ne (Or.inl (hw _ (List.mem_of_getElem? (i := 14) rfl))) (Or.inl (hw _ (List.mem_of_getElem? (i := 16) rfl))) (by decide) (t := (.array .int)) (t' := (.array .char)) (by decide) (by decide)))
  replace F_digits := F_digits.same W7
  replace F_size := F_size.other W7 (Or.inr (slot_ne (Or.inl (hw _ (List.mem_of_getElem? (i := 23) rfl))) (Or.inl (hw _ (List.mem_of_getElem? (i := 16) rfl))) (by decide) (t := .int) (t' := (.array .char)) (by decide) (by decide)))
  replace V_b2 := V_b2.other W7 (Ne.symm ne_a1_b2)
  replace V_b4 := V_b4.other W7 (Ne.symm ne_a1_b4)
  replace V_b6 := V_b6.other W7 (Ne.symm ne_a1_b6)
  have N7 := Fr.snoc X7 N5 g_a1
  have Z7 : n0 ≤ h7.size := Nat.le_trans Z6 (Keep.of_wr W7).1
  refine go (B := T7.setTop (mkF m 25 #[.val (.ref a1)] [])) (fun _ k => st7 _ k) ?_
  refine goRetV X7 hx Bd.returns hlk (hb hby d1_25) ?_ (by decide) (by decide)
  rw [e7]
  exact ⟨rfl, N7, _, _, _, 0, E_a1, F_text, F_ends, F_digits, F_size, ⟨_, _, V_b2⟩, ⟨_, _, V_b4, fun q => absurd rfl q⟩, ⟨_, _, V_b6⟩, g_a1, g_b4, (Ne.symm ne_a1_b2), (Ne.symm ne_a1_b4), (Ne.symm ne_a1_b6), ne_b2_b4, (Ne.symm ne_b4_b6), Z7⟩
theorem ef_rm7 (m : MethodId) (a1 : Addr) : entryFrame m #[(.ref a1)] 1 = mkF m 0 #[.val (.ref a1)] [] := by first | (simp [entryFrame, mkF, argsToLocals, Value.category]; done) | rfl
def Q7 (Z : State) (a1 : Addr) (t : Addr) (e' : Addr) (d : Addr) (sz : Int32) (nt : Int32) (ne : Int32) (nd : Int32) (x : Int32) (h0 : Heap) (n0 : Nat) (v : Option Value) (h : Heap) (L : List Loc) : Prop := v = some (.int (fNext sz x)) ∧ Fr n0 L ∧ h = h0
theorem d7_0 : decode prog_90_method_4_code 0 = .ok (.aload_n 0, 1) := by decide +kernel
theorem d7_1 : decode prog_90_method_4_code 1 = .ok (.getfield 20, 3) := by decide +kernel
theorem d7_4 : decode prog_90_method_4_code 4 = .ok (.ifCond .ne 7, 3) := by decide +kernel
theorem d7_7 : decode prog_90_method_4_code 7 = .ok (.iconst 0, 1) := by decide +kernel
theorem d7_8 : decode prog_90_method_4_code 8 = .ok (.goto 14, 3) := by decide +kernel
theorem d7_22 : decode prog_90_method_4_code 22 = .ok (.ireturn, 1) := by decide +kernel
theorem d7_11 : decode prog_90_method_4_code 11 = .ok (.aload_n 0, 1) := by decide +kernel
theorem d7_12 : decode prog_90_method_4_code 12 = .ok (.getfield 13, 3) := by decide +kernel
theorem d7_15 : decode prog_90_method_4_code 15 = .ok (.aload_n 0, 1) := by decide +kernel
theorem d7_16 : decode prog_90_method_4_code 16 = .ok (.getfield 20, 3) := by decide +kernel
theorem d7_19 : decode prog_90_method_4_code 19 = .ok (.iconst 1, 1) := by decide +kernel
theorem d7_20 : decode prog_90_method_4_code 20 = .ok (.isub, 1) := by decide +kernel
theorem d7_21 : decode prog_90_method_4_code 21 = .ok (.iaload, 1) := by decide +kernel
set_option maxRecDepth 65536 in
set_option maxHeartbeats 40000000 in
theorem rm7 (l : Launch) (Z : State) (a0 : Array Value) (hw : ∀ d ∈ tables_1, d.before a0 Z = true) (ws : List Jvm.Cond) (a1 : Addr) (t : Addr) (e' : Addr) (d : Addr) (sz : Int32) (nt : Int32) (ne : Int32) (nd : Int32) (x : Int32) (h0 : Heap) (n0 : Nat) (Z0 : n0 ≤ h0.size) (R0 : RV Z h0 n0 a1 t e' d sz nt ne nd x) (bs0 : 0 ≤ sz.toInt) (bs1 : sz.toInt ≤ ne.toInt) :
    MetFree l (⟨"com/example/zonecast/zonecast/RecordValues", "next", "()I"⟩ : MethodName) (head1 (Jvm.Cond.code (⟨"com/example/zonecast/zonecast/RecordValues", "next", "()I"⟩ : MethodName) prog_90_method_4_code 1 (some .int) :: ws) ({ frames := 0, cells := 0, slots := 0, locals := 0 } : Room)) (fun a U => a = #[(.ref a1)] ∧ Z.Warmed39 U.vm ∧ U.heap = h0) (fun _ _ _ _ _ => True) (fun _ U o U' => ∃ v L, o = .returned v ∧ Q7 Z a1 t e' d sz nt ne nd x h0 n0 v U'.heap L ∧ FrameEnd U o U' L ({ frames := 0, cells := 0, slots := 0, locals := 0 } : Room).cells ({ frames := 0, cells := 0, slots := 0, locals := 0 } : Room).slots) := by
  refine MetFree.of_bodySF (plainFor_of_name pn_com_example_zonecast_zonecast_RecordValues) hisR ?_
  intro p e s m args below meth c s₁ Bd hml0 hP hK
  obtain ⟨rfl, hZ, hh⟩ := hP
  have hx := Bd.exec
  have hby := Bd.bytes
  have hml : c.maxLocals = 1 := hml0
  have hown : s.vm.findClass "com/example/zonecast/zonecast/RecordValues" = some m.cls := findClass_of_methodNamed Bd.named
  have hnm := (name_of_methodNamed Bd.named Bd.method).1
  have hlk := Bd.notSynchronized
  have X0 : Stand p l e ({ frames := 0, cells := 0, slots := 0, locals := 0 } : Room) s m #[(.ref a1)] below meth c s₁ [] 0 0 := Stand.of_body Bd
  have e0 : s₁.heap = h0 := by rw [← hh, Bd.state]; rfl
  have N0 := Fr.nil n0
  show Go p.tables e below s ({ frames := 0, cells := 0, slots := 0, locals := 0 } : Room).cells ({ frames := 0, cells := 0, slots := 0, locals := 0 } : Room).slots (Q7 Z a1 t e' d sz nt ne nd x h0 n0) _
  refine go (fun t k => castTop (ef_rm7 m a1) k) ?_
  obtain ⟨E_r, F_text, F_ends, F_digits, F_size, ⟨k_t, vs_t, V_t⟩, ⟨k_e, vs_e, V_e, hlast⟩, ⟨k_d, vs_d, V_d⟩, g_a1, g_e', ne_t_r, ne_e_r, ne_d_r, ne_t_e, ne_d_e, Zr⟩ := R0
  refine go (B := s₁.setTop (mkF m 1 #[.val (.ref a1)] [(.ref a1)])) (fun _ k => XS.aloadN X0.here hx rfl (hb hby d7_0) rfl rfl k) ?_
  obtain ⟨T1, X1, e1, st1⟩ := getF X0 hx hZ hown (host := "") (Or.inl (hw _ (List.mem_of_getElem? (i := 22) rfl))) Via.refl e0 F_size (g := (mkF m 1 #[.val (.ref a1)] [(.ref a1)])) rfl rfl (hb hby d7_1)
  refine go (B := T1.setTop (mkF m 4 #[.val (.ref a1)] [(.int sz)])) (fun _ k => st1 _ k) ?_
  by_cases hc4 : sz = (0 : Int32)
  · refine go (B := T1.setTop (mkF m 7 #[.val (.ref a1)] [])) (fun _ k => XS.ifNo X1.here hx rfl (hb hby d7_4) rfl ((if0 _ _).trans (teq hc4).2) k) ?_
    refine go (B := T1.setTop (mkF m 8 #[.val (.ref a1)] [(.int (0 : Int32))])) (fun _ k => XS.iconst X1.here hx rfl (hb hby d7_7) k) ?_
    refine go (B := T1.setTop (mkF m 22 #[.val (.ref a1)] [(.int (0 : Int32))])) (fun _ k => XS.goto X1.here hx rfl (pc0 := 8) (pc' := 22) rfl (hb hby d7_8) (by decide) (by decide) k) ?_
    refine goRetI X1 hx Bd.returns hlk (hb hby d7_22) ?_ (by decide) (by decide)
    rw [e1]
    exact ⟨by rw [fNext, if_pos hc4], N0, rfl⟩
  · refine go (B := T1.setTop (mkF m 11 #[.val (.ref a1)] [])) (fun _ k => XS.ifYes X1.here hx rfl (pc0 := 4) (pc' := 11) rfl (hb hby d7_4) rfl ((if0 _ _).trans (feq hc4).2) (by decide) (by decide) k) ?_
    refine go (B := T1.setTop (mkF m 12 #[.val (.ref a1)] [(.ref a1)])) (fun _ k => XS.aloadN X1.here hx rfl (hb hby d7_11) rfl rfl k) ?_
    obtain ⟨T2, X2, e2, st2⟩ := getF X1 hx hZ hown (host := "") (Or.inl (hw _ (List.mem_of_getElem? (i := 13) rfl))) Via.refl e1 F_ends (g := (mkF m 12 #[.val (.ref a1)] [(.ref a1)])) rfl rfl (hb hby d7_12)
    refine go (B := T2.setTop (mkF m 15 #[.val (.ref a1)] [(.ref e')])) (fun _ k => st2 _ k) ?_
    refine go (B := T2.setTop (mkF m 16 #[.val (.ref a1)] [(.ref a1), (.ref e')])) (fun _ k => XS.aloadN X2.here hx rfl (hb hby d7_15) rfl rfl k) ?_
    obtain ⟨T3, X3, e3, st3⟩ := getF X2 hx hZ hown (host := "") (Or.inl (hw _ (List.mem_of_getElem? (i := 22) rfl))) Via.refl e2 F_size (g := (mkF m 16 #[.val (.ref a1)] [(.ref a1), (.ref e')])) rfl rfl (hb hby d7_16)
    refine go (B := T3.setTop (mkF m 19 #[.val (.ref a1)] [(.int sz), (.ref e')])) (fun _ k => st3 _ k) ?_
    refine go (B := T3.setTop (mkF m 20 #[.val (.ref a1)] [(.int (1 : Int32)), (.int sz), (.ref e')])) (fun _ k => XS.iconst X3.here hx rfl (hb hby d7_19) k) ?_
    refine go (B := T3.setTop (mkF m 21 #[.val (.ref a1)] [(.int (sz - (1 : Int32))), (.ref e')])) (fun _ k => XS.isub X3.here hx rfl (hb hby d7_20) rfl k) ?_
    obtain ⟨cl, Ar, -, S1, N1, H1, -⟩ := V_e
    have hin : ¬ ((sz - (1 : Int32)) < 0 ∨ cl.slots.size ≤ ((sz - (1 : Int32))).toNatClampNeg) := inb_of S1 (idx_ok bs0 bs1 hc4)
    have hat : cl.slots[((sz - (1 : Int32))).toNatClampNeg]? = some (.int x) := by rw [H1 _ (Nat.lt_of_not_le fun q => hin (Or.inr q))]; exact congrArg some (hlast hc4)
    refine go (B := T3.setTop (mkF m 22 #[.val (.ref a1)] [(.int x)])) (fun _ k => X3.iaload hx (j := (sz - (1 : Int32))) (v := (.int x)) (by rw [e3]; exact Ar.1) (State.isArrayOf_alike hZ.alike Ar.2.1) Ar.2.2 hin hat (g := (mkF m 21 #[.val (.ref a1)] [(.int (sz - (1 : Int32))), (.ref e')])) rfl rfl (hb hby d7_21) _ k) ?_
    refine goRetI X3 hx Bd.returns hlk (hb hby d7_22) ?_ (by decide) (by decide)
    rw [e3]
    exact ⟨by rw [fNext, if_neg hc4], N0, rfl⟩
theorem ef_rm8 (m : MethodId) (a1 : Addr) (p2 : Int32) : entryFrame m #[(.ref a1), (.int p2)] 2 = mkF m 0 #[.val (.ref a1), .val (.int p2)] [] := by first | (simp [entryFrame, mkF, argsToLocals, Value.category]; done) | rfl
def Q8 (Z : State) (a1 : Addr) (p2 : Int32) (t : Addr) (e' : Addr) (d : Addr) (sz : Int32) (nt : Int32) (ne : Int32) (nd : Int32) (x : Int32) (h0 : Heap) (n0 : Nat) (v : Option Value) (h : Heap) (L : List Loc) : Prop := v = none ∧ Fr n0 L ∧ RV Z h n0 a1 t e' d (sz + (1 : Int32)) nt ne nd p2
theorem d8_0 : decode prog_90_method_3_code 0 = .ok (.aload_n 0, 1) := by decide +kernel
theorem d8_1 : decode prog_90_method_3_code 1 = .ok (.getfield 13, 3) := by decide +kernel
theorem d8_4 : decode prog_90_method_3_code 4 = .ok (.aload_n 0, 1) := by decide +kernel
theorem d8_5 : decode prog_90_method_3_code 5 = .ok (.dup, 1) := by decide +kernel
theorem d8_6 : decode prog_90_method_3_code 6 = .ok (.getfield 20, 3) := by decide +kernel
theorem d8_9 : decode prog_90_method_3_code 9 = .ok (.dup_x1, 1) := by decide +kernel
theorem d8_10 : decode prog_90_method_3_code 10 = .ok (.iconst 1, 1) := by decide +kernel
theorem d8_11 : decode prog_90_method_3_code 11 = .ok (.iadd, 1) := by decide +kernel
theorem d8_12 : decode prog_90_method_3_code 12 = .ok (.putfield 20, 3) := by decide +kernel
theorem d8_15 : decode prog_90_method_3_code 15 = .ok (.iload_n 1, 1) := by decide +kernel
theorem d8_16 : decode prog_90_method_3_code 16 = .ok (.iastore, 1) := by decide +kernel
theorem d8_17 : decode prog_90_method_3_code 17 = .ok (.return_, 1) := by decide +kernel
set_option maxRecDepth 65536 in
set_option maxHeartbeats 40000000 in
theorem rm8 (l : Launch) (Z : State) (a0 : Array Value) (hw : ∀ d ∈ tables_1, d.before a0 Z = true) (ws : List Jvm.Cond) (a1 : Addr) (p2 : Int32) (t : Addr) (e' : Addr) (d : Addr) (sz : Int32) (nt : Int32) (ne : Int32) (nd : Int32) (x : Int32) (h0 : Heap) (n0 : Nat) (Z0 : n0 ≤ h0.size) (R0 : RV Z h0 n0 a1 t e' d sz nt ne nd x) (bs0 : 0 ≤ sz.toInt) (bs1 : sz.toInt < ne.toInt) :
    MetFree l (⟨"com/example/zonecast/zonecast/RecordValues", "add", "(I)V"⟩ : MethodName) (head1 (Jvm.Cond.code (⟨"com/example/zonecast/zonecast/RecordValues", "add", "(I)V"⟩ : MethodName) prog_90_method_3_code 2 none :: ws) ({ frames := 0, cells := 0, slots := 0, locals := 0 } : Room)) (fun a U => a = #[(.ref a1), (.int p2)] ∧ Z.Warmed39 U.vm ∧ U.heap = h0) (fun _ _ _ _ _ => True) (fun _ U o U' => ∃ v L, o = .returned v ∧ Q8 Z a1 p2 t e' d sz nt ne nd x h0 n0 v U'.heap L ∧ FrameEnd U o U' L ({ frames := 0, cells := 0, slots := 0, locals := 0 } : Room).cells ({ frames := 0, cells := 0, slots := 0, locals := 0 } : Room).slots) := by
  refine MetFree.of_bodySF (plainFor_of_name pn_com_example_zonecast_zonecast_RecordValues) hisR ?_
  intro p e s m args below meth c s₁ Bd hml0 hP hK
  obtain ⟨rfl, hZ, hh⟩ := hP
  have hx := Bd.exec
  have hby := Bd.bytes
  have hml : c.maxLocals = 2 := hml0
  have hown : s.vm.findClass "com/example/zonecast/zonecast/RecordValues" = some m.cls := findClass_of_methodNamed Bd.named
  have hnm := (name_of_methodNamed Bd.named Bd.method).1
  have hlk := Bd.notSynchronized
  have X0 : Stand p l e ({ frames := 0, cells := 0, slots := 0, locals := 0 } : Room) s m #[(.ref a1), (.int p2)] below meth c s₁ [] 0 0 := Stand.of_body Bd
  have e0 : s₁.heap = h0 := by rw [← hh, Bd.state]; rfl
  have N0 := Fr.nil n0
  show Go p.tables e below s ({ frames := 0, cells := 0, slots := 0, locals := 0 } : Room).cells ({ frames := 0, cells := 0, slots := 0, locals := 0 } : Room).slots (Q8 Z a1 p2 t e' d sz nt ne nd x h0 n0) _
  refine go (fun t k => castTop (ef_rm8 m a1 p2) k) ?_
  obtain ⟨E_r, F_text, F_ends, F_digits, F_size, ⟨k_t, vs_t, V_t⟩, ⟨k_e, vs_e, V_e, hlast⟩, ⟨k_d, vs_d, V_d⟩, g_a1, g_e', ne_t_r, ne_e_r, ne_d_r, ne_t_e, ne_d_e, Zr⟩ := R0
  refine go (B := s₁.setTop (mkF m 1 #[.val (.ref a1), .val (.int p2)] [(.ref a1)])) (fun _ k => XS.aloadN X0.here hx rfl (hb hby d8_0) rfl rfl k) ?_
  obtain ⟨T1, X1, e1, st1⟩ := getF X0 hx hZ hown (host := "") (Or.inl (hw _ (List.mem_of_getElem? (i := 13) rfl))) Via.refl e0 F_ends (g := (mkF m 1 #[.val (.ref a1), .val (.int p2)] [(.ref a1)])) rfl rfl (hb hby d8_1)
  refine go (B := T1.setTop (mkF m 4 #[.val (.ref a1), .val (.int p2)] [(.ref e')])) (fun _ k => st1 _ k) ?_
  refine go (B := T1.setTop (mkF m 5 #[.val (.ref a1), .val (.int p2)] [(.ref a1), (.ref e')])) (fun _ k => XS.aloadN X1.here hx rfl (hb hby d8_4) rfl rfl k) ?_
  refine go (B := T1.setTop (mkF m 6 #[.val (.ref a1), .val (.int p2)] [(.ref a1), (.ref a1), (.ref e')])) (fun _ k => XS.dup X1.here hx rfl (hb hby d8_5) rfl rfl k) ?_
  obtain ⟨T2, X2, e2, st2⟩ := getF X1 hx hZ hown (host := "") (Or.inl (hw _ (List.mem_of_getElem? (i := 22) rfl))) Via.refl e1 F_size (g := (mkF m 6 #[.val (.ref a1), .val (.int p2)] [(.ref a1), (.ref a1), (.ref e')])) rfl rfl (hb hby d8_6)
  refine go (B := T2.setTop (mkF m 9 #[.val (.ref a1), .val (.int p2)] [(.int sz), (.ref a1), (.ref e')])) (fun _ k => st2 _ k) ?_
  refine go (B := T2.setTop (mkF m 10 #[.val (.ref a1), .val (.int p2)] [(.int sz), (.ref a1), (.int sz), (.ref e')])) (fun _ k => XS.dupX1 X2.here hx rfl (hb hby d8_9) rfl rfl rfl k) ?_
  refine go (B := T2.setTop (mkF m 11 #[.val (.ref a1), .val (.int p2)] [(.int (1 : Int32)), (.int sz), (.ref a1), (.int sz), (.ref e')])) (fun _ k => XS.iconst X2.here hx rfl (hb hby d8_10) k) ?_
  refine go (B := T2.setTop (mkF m 12 #[.val (.ref a1), .val (.int p2)] [(.int (sz + (1 : Int32))), (.ref a1), (.int sz), (.ref e')])) (fun _ k => XS.iadd X2.here hx rfl (hb hby d8_11) rfl k) ?_
  obtain ⟨T3, h3, X3, e3, W3, st3⟩ := putF X2 hx hZ hown (host := "") (Or.inl (hw _ (List.mem_of_getElem? (i := 22) rfl))) Via.refl e2 F_size E_r (Or.inl (hw _ (List.mem_of_getElem? (i := 23) rfl))) (hw _ (List.mem_of_getElem? (i := 1) rfl)) (ty := .int) (by decide) rfl rfl (g := (mkF m 12 #[.val (.ref a1), .val (.int p2)] [(.int (sz + (1 : Int32))), (.ref a1), (.int sz), (.ref e')])) rfl rfl (hb hby d8_12)
  replace E_r := E_r.wr W3
  replace F_text := F_text.other W3 (Or.inr (slot_ne (Or.inl (hw _ (List.mem_of_getElem? (i := 11) rfl))) (Or.inl (hw _ (List.mem_of_getElem? (i := 23) rfl))) (by decide) (t := (.array .char)) (t' := .int) (by decide) (by decide)))
  replace F_ends := F_ends.other W3 (Or.inr (slot_ne (Or.inl (hw _ (List.mem_of_getElem? (i := 14) rfl))) (Or.inl (hw _ (List.mem_of_getElem? (i := 23) rfl))) (by decide) (t := (.array .int)) (t' := .int) (by decide) (by decide)))
  replace F_digits := F_digits.other W3 (Or.inr (slot_ne (Or.inl (hw _ (List.mem_of_getElem? (i := 16) rfl))) (Or.inl (hw _ (List.mem_of_getElem? (i := 23) rfl))) (by decide) (t := (.array .char)) (t' := .int) (by decide) (by decide)))
  replace F_size := F_size.same W3
  replace V_t := V_t.other W3 ne_t_r
  replace V_e := V_e.other W3 ne_e_r
  replace V_d := V_d.other W3 ne_d_r
  have N3 := Fr.snoc X3 N0 g_a1
  have Z3 : n0 ≤ h3.size := Nat.le_trans Zr (Keep.of_wr W3).1
  refine go (B := T3.setTop (mkF m 15 #[.val (.ref a1), .val (.int p2)] [(.int sz), (.ref e')])) (fun _ k => st3 _ k) ?_
  refine go (B := T3.setTop (mkF m 16 #[.val (.ref a1), .val (.int p2)] [(.int p2), (.int sz), (.ref e')])) (fun _ k => XS.iloadN X3.here hx rfl (hb hby d8_15) rfl k) ?_
  have V_e2 := V_e
  obtain ⟨cl, Ar, -, S1, N1, H1, -⟩ := V_e2
  have hin : ¬ (sz < 0 ∨ cl.slots.size ≤ (sz).toNatClampNeg) := inb_of S1 ⟨nneg bs0, by rw [Int32.lt_iff_toInt_lt]; exact bs1⟩
  obtain ⟨T4, h4, X4, e4, W4, st4⟩ := stI X3 hx hZ e3 Ar (j := sz) hin (g := (mkF m 16 #[.val (.ref a1), .val (.int p2)] [(.int p2), (.int sz), (.ref e')])) rfl rfl (hb hby d8_16)
  obtain ⟨vs_n, V_n, hl_n⟩ := arv_put V_e rfl W4
  replace E_r := E_r.wr W4
  replace F_text := F_text.other W4 (Or.inl (Ne.symm ne_e_r))
  replace F_ends := F_ends.other W4 (Or.inl (Ne.symm ne_e_r))
  replace F_digits := F_digits.other W4 (Or.inl (Ne.symm ne_e_r))
  replace F_size := F_size.other W4 (Or.inl (Ne.symm ne_e_r))
  replace V_t := V_t.other W4 ne_t_e
  replace V_d := V_d.other W4 ne_d_e
  have N4 := Fr.snoc X4 N3 g_e'
  have Z4 : n0 ≤ h4.size := Nat.le_trans Z3 (Keep.of_wr W4).1
  refine go (B := T4.setTop (mkF m 17 #[.val (.ref a1), .val (.int p2)] [])) (fun _ k => st4 _ k) ?_
  refine goRetV X4 hx Bd.returns hlk (hb hby d8_17) ?_ (by decide) (by decide)
  rw [e4]
  refine ⟨rfl, N4, E_r, F_text, F_ends, F_digits, F_size, ⟨_, _, V_t⟩, ⟨_, _, V_n, fun _ => ?_⟩, ⟨_, _, V_d⟩, g_a1, g_e', ne_t_r, ne_e_r, ne_d_r, ne_t_e, ne_d_e, Z4⟩
  rw [add_one_ne bs0 bs1]; exact hl_n
theorem ef_rm3 (m : MethodId) (a1 : Addr) (p2 : Int32) (p3 : Int32) (p4 : Int32) : entryFrame m #[(.ref a1), (.int p2), (.int p3), (.int p4)] 4 = mkF m 0 #[.val (.ref a1), .val (.int p2), .val (.int p3), .val (.int p4)] [] := by first | (simp [entryFrame, mkF, argsToLocals, Value.category]; done) | rfl
def Q3 (Z : State) (a1 : Addr) (p2 : Int32) (p3 : Int32) (p4 : Int32) (t : Addr) (e' : Addr) (d : Addr) (sz : Int32) (nt : Int32) (ne : Int32) (nd : Int32) (x : Int32) (h0 : Heap) (n0 : Nat) (v : Option Value) (h : Heap) (L : List Loc) : Prop := v = none ∧ Fr n0 L ∧ ∃ t1 e1 d1 x1, RV Z h n0 a1 t1 e1 d1 0 (mx nt p3) (mx ne p2) (mx nd p4) x1 ∧ (¬ nt < p3 → t1 = t) ∧ (¬ nd < p4 → d1 = d) ∧ (∃ k vs, Arv Z h t k .char nt vs (.int 0)) ∧ (∃ k vs, Arv Z h d k .char nd vs (.int 0))
theorem d3_0 : decode prog_90_method_2_code 0 = .ok (.aload_n 0, 1) := by decide +kernel
theorem d3_1 : decode prog_90_method_2_code 1 = .ok (.getfield 13, 3) := by decide +kernel
theorem d3_4 : decode prog_90_method_2_code 4 = .ok (.arraylength, 1) := by decide +kernel
theorem d3_5 : decode prog_90_method_2_code 5 = .ok (.iload_n 1, 1) := by decide +kernel
theorem d3_6 : decode prog_90_method_2_code 6 = .ok (.if_icmp .ge 10, 3) := by decide +kernel
theorem d3_9 : decode prog_90_method_2_code 9 = .ok (.aload_n 0, 1) := by decide +kernel
theorem d3_10 : decode prog_90_method_2_code 10 = .ok (.iload_n 1, 1) := by decide +kernel
theorem d3_11 : decode prog_90_method_2_code 11 = .ok (.newarray .int, 2) := by decide +kernel
theorem d3_13 : decode prog_90_method_2_code 13 = .ok (.putfield 13, 3) := by decide +kernel
theorem d3_16 : decode prog_90_method_2_code 16 = .ok (.aload_n 0, 1) := by decide +kernel
theorem d3_17 : decode prog_90_method_2_code 17 = .ok (.getfield 7, 3) := by decide +kernel
theorem d3_20 : decode prog_90_method_2_code 20 = .ok (.arraylength, 1) := by decide +kernel
theorem d3_21 : decode prog_90_method_2_code 21 = .ok (.iload_n 2, 1) := by decide +kernel
theorem d3_22 : decode prog_90_method_2_code 22 = .ok (.if_icmp .ge 10, 3) := by decide +kernel
theorem d3_25 : decode prog_90_method_2_code 25 = .ok (.aload_n 0, 1) := by decide +kernel
theorem d3_26 : decode prog_90_method_2_code 26 = .ok (.iload_n 2, 1) := by decide +kernel
theorem d3_27 : decode prog_90_method_2_code 27 = .ok (.newarray .char, 2) := by decide +kernel
theorem d3_29 : decode prog_90_method_2_code 29 = .ok (.putfield 7, 3) := by decide +kernel
theorem d3_32 : decode prog_90_method_2_code 32 = .ok (.aload_n 0, 1) := by decide +kernel
theorem d3_33 : decode prog_90_method_2_code 33 = .ok (.getfield 17, 3) := by decide +kernel
theorem d3_36 : decode prog_90_method_2_code 36 = .ok (.arraylength, 1) := by decide +kernel
theorem d3_37 : decode prog_90_method_2_code 37 = .ok (.iload_n 3, 1) := by decide +kernel
theorem d3_38 : decode prog_90_method_2_code 38 = .ok (.if_icmp .ge 10, 3) := by decide +kernel
theorem d3_41 : decode prog_90_method_2_code 41 = .ok (.aload_n 0, 1) := by decide +kernel
theorem d3_42 : decode prog_90_method_2_code 42 = .ok (.iload_n 3, 1) := by decide +kernel
theorem d3_43 : decode prog_90_method_2_code 43 = .ok (.newarray .char, 2) := by decide +kernel
theorem d3_45 : decode prog_90_method_2_code 45 = .ok (.putfield 17, 3) := by decide +kernel
theorem d3_48 : decode prog_90_method_2_code 48 = .ok (.aload_n 0, 1) := by decide +kernel
theorem d3_49 : decode prog_90_method_2_code 49 = .ok (.iconst 0, 1) := by decide +kernel
theorem d3_50 : decode prog_90_method_2_code 50 = .ok (.putfield 20, 3) := by decide +kernel
theorem d3_53 : decode prog_90_method_2_code 53 = .ok (.return_, 1) := by decide +kernel
set_option maxRecDepth 65536 in
set_option maxHeartbeats 40000000 in
theorem rm3 (l : Launch) (Z : State) (a0 : Array Value) (hw : ∀ d ∈ tables_1, d.before a0 Z = true) (ws : List Jvm.Cond) (a1 : Addr) (p2 : Int32) (p3 : Int32) (p4 : Int32) (t : Addr) (e' : Addr) (d : Addr) (sz : Int32) (nt : Int32) (ne : Int32) (nd : Int32) (x : Int32) (h0 : Heap) (n0 : Nat) (Z0 : n0 ≤ h0.size) (R0 : RV Z h0 n0 a1 t e' d sz nt ne nd x) (b00 : 0 ≤ p2.toInt) (b01 : p2.toInt ≤ (7 : Nat)) (b10 : 0 ≤ p3.toInt) (b11 : p3.toInt ≤ (15 : Nat)) (b20 : 0 ≤ p4.toInt) (b21 : p4.toInt ≤ (15 : Nat)) :
    MetFree l (⟨"com/example/zonecast/zonecast/RecordValues", "clear", "(III)V"⟩ : MethodName) (head1 (Jvm.Cond.code (⟨"com/example/zonecast/zonecast/RecordValues", "clear", "(III)V"⟩ : MethodName) prog_90_method_2_code 4 none :: ws) ({ frames := 0, cells := 3, slots := 37, locals := 0 } : Room)) (fun a U => a = #[(.ref a1), (.int p2), (.int p3), (.int p4)] ∧ Z.Warmed39 U.vm ∧ U.heap = h0) (fun _ _ _ _ _ => True) (fun _ U o U' => ∃ v L, o = .returned v ∧ Q3 Z a1 p2 p3 p4 t e' d sz nt ne nd x h0 n0 v U'.heap L ∧ FrameEnd U o U' L ({ frames := 0, cells := 3, slots := 37, locals := 0 } : Room).cells ({ frames := 0, cells := 3, slots := 37, locals := 0 } : Room).slots) := by
  refine MetFree.of_bodySF (plainFor_of_name pn_com_example_zonecast_zonecast_RecordValues) hisR ?_
  intro p e s m args below meth c s₁ Bd hml0 hP hK
  obtain ⟨rfl, hZ, hh⟩ := hP
  have hx := Bd.exec
  have hby := Bd.bytes
  have hml : c.maxLocals = 4 := hml0
  have hown : s.vm.findClass "com/example/zonecast/zonecast/RecordValues" = some m.cls := findClass_of_methodNamed Bd.named
  have hnm := (name_of_methodNamed Bd.named Bd.method).1
  have hlk := Bd.notSynchronized
  have X0 : Stand p l e ({ frames := 0, cells := 3, slots := 37, locals := 0 } : Room) s m #[(.ref a1), (.int p2), (.int p3), (.int p4)] below meth c s₁ [] 0 0 := Stand.of_body Bd
  have e0 : s₁.heap = h0 := by rw [← hh, Bd.state]; rfl
  have N0 := Fr.nil n0
  show Go p.tables e below s ({ frames := 0, cells := 3, slots := 37, locals := 0 } : Room).cells ({ frames := 0, cells := 3, slots := 37, locals := 0 } : Room).slots (Q3 Z a1 p2 p3 p4 t e' d sz nt ne nd x h0 n0) _
  refine go (fun t k => castTop (ef_rm3 m a1 p2 p3 p4) k) ?_
  obtain ⟨E_r, F_text, F_ends, F_digits, F_size, ⟨k_t, vs_t, V_t⟩, ⟨k_e, vs_e, V_e, hlast⟩, ⟨k_d, vs_d, V_d⟩, g_a1, g_e', ne_t_r, ne_e_r, ne_d_r, ne_t_e, ne_d_e, Zr⟩ := R0
  refine go (B := s₁.setTop (mkF m 1 #[.val (.ref a1), .val (.int p2), .val (.int p3), .val (.int p4)] [(.ref a1)])) (fun _ k => XS.aloadN X0.here hx rfl (hb hby d3_0) rfl rfl k) ?_
  obtain ⟨T1, X1, e1, st1⟩ := getF X0 hx hZ hown (host := "") (Or.inl (hw _ (List.mem_of_getElem? (i := 13) rfl))) Via.refl e0 F_ends (g := (mkF m 1 #[.val (.ref a1), .val (.int p2), .val (.int p3), .val (.int p4)] [(.ref a1)])) rfl rfl (hb hby d3_1)
  refine go (B := T1.setTop (mkF m 4 #[.val (.ref a1), .val (.int p2), .val (.int p3), .val (.int p4)] [(.ref e')])) (fun _ k => st1 _ k) ?_
  have Vc2 := V_e
  obtain ⟨cl2, Ar2, -, S2, N2_, -, -⟩ := Vc2
  refine go (B := T1.setTop (mkF m 5 #[.val (.ref a1), .val (.int p2), .val (.int p3), .val (.int p4)] [(.int ne)])) (fun _ k => X1.arraylength hx (by rw [e1]; exact Ar2.1) (State.isArrayOf_alike hZ.alike Ar2.2.1) (g := (mkF m 4 #[.val (.ref a1), .val (.int p2), .val (.int p3), .val (.int p4)] [(.ref e')])) rfl rfl (hb hby d3_4) _ (by rw [len_of S2 N2_]; exact k)) ?_
  refine go (B := T1.setTop (mkF m 6 #[.val (.ref a1), .val (.int p2), .val (.int p3), .val (.int p4)] [(.int p2), (.int ne)])) (fun _ k => XS.iloadN X1.here hx rfl (hb hby d3_5) rfl k) ?_
  by_cases hc6 : ne < p2
  · refine go (B := T1.setTop (mkF m 9 #[.val (.ref a1), .val (.int p2), .val (.int p3), .val (.int p4)] [])) (fun _ k => XS.icmpNo X1.here hx rfl (hb hby d3_6) rfl (tlt hc6).2.1 k) ?_
    refine go (B := T1.setTop (mkF m 10 #[.val (.ref a1), .val (.int p2), .val (.int p3), .val (.int p4)] [(.ref a1)])) (fun _ k => XS.aloadN X1.here hx rfl (hb hby d3_9) rfl rfl k) ?_
    refine go (B := T1.setTop (mkF m 11 #[.val (.ref a1), .val (.int p2), .val (.int p3), .val (.int p4)] [(.int p2), (.ref a1)])) (fun _ k => XS.iloadN X1.here hx rfl (hb hby d3_10) rfl k) ?_
    obtain ⟨T3, h3, k3, X3, e3, E3, A3, st3⟩ := newP X1 hx hZ (hw _ (List.mem_of_getElem? (i := 12) rfl)) e1 (g := (mkF m 11 #[.val (.ref a1), .val (.int p2), .val (.int p3), .val (.int p4)] [(.int p2), (.ref a1)])) rfl (hb hby d3_11) rfl (nneg b00) (cap := 7) (ncl b01) (by decide) (by decide) (by decide)
    obtain ⟨b3, g3⟩ : ∃ z, z = Array.size (h0) := ⟨_, rfl⟩
    rw [← g3] at A3 st3
    have ne_a1_b3 : a1 ≠ b3 := Nat.ne_of_lt (Nat.lt_of_lt_of_le E_r.lt (Nat.le_of_eq g3.symm))
    have ne_t_b3 : t ≠ b3 := Nat.ne_of_lt (Nat.lt_of_lt_of_le V_t.lt (Nat.le_of_eq g3.symm))
    have ne_e'_b3 : e' ≠ b3 := Nat.ne_of_lt (Nat.lt_of_lt_of_le V_e.lt (Nat.le_of_eq g3.symm))
    have ne_d_b3 : d ≠ b3 := Nat.ne_of_lt (Nat.lt_of_lt_of_le V_d.lt (Nat.le_of_eq g3.symm))
    replace E_r := E_r.ext E3
    replace F_text := F_text.ext E3
    replace F_ends := F_ends.ext E3
    replace F_digits := F_digits.ext E3
    replace F_size := F_size.ext E3
    replace V_t := V_t.ext E3
    replace V_e := V_e.ext E3
    replace V_d := V_d.ext E3
    have g_b3 : n0 ≤ b3 := Nat.le_trans Zr (Nat.le_of_eq g3.symm)
    have Z3 : n0 ≤ h3.size := Nat.le_trans Zr E3.1
    have V_b3 := Arv.new A3 (nneg b00)
    refine go (B := T3.setTop (mkF m 13 #[.val (.ref a1), .val (.int p2), .val (.int p3), .val (.int p4)] [(.ref b3), (.ref a1)])) (fun _ k => st3 _ k) ?_
    obtain ⟨T4, h4, X4, e4, W4, st4⟩ := putF X3 hx hZ hown (host := "") (Or.inl (hw _ (List.mem_of_getElem? (i := 13) rfl))) Via.refl e3 F_ends E_r (Or.inl (hw _ (List.mem_of_getElem? (i := 14) rfl))) (hw _ (List.mem_of_getElem? (i := 1) rfl)) (ty := (.array .int)) (by decide) rfl rfl (g := (mkF m 13 #[.val (.ref a1), .val (.int p2), .val (.int p3), .val (.int p4)] [(.ref b3), (.ref a1)])) rfl rfl (hb hby d3_13)
    replace E_r := E_r.wr W4
    replace F_text := F_text.other W4 (Or.inr (slot_ne (Or.inl (hw _ (List.mem_of_getElem? (i := 11) rfl))) (Or.inl (hw _ (List.mem_of_getElem? (i := 14) rfl))) (by decide) (t := (.array .char)) (t' := (.array .int)) (by decide) (by decide)))
    replace F_ends := F_ends.same W4
    replace F_digits := F_digits.other W4 (Or.inr (slot_ne (Or.inl (hw _ (List.mem_of_getElem? (i := 16) rfl))) (Or.inl (hw _ (List.mem_of_getElem? (i := 14) rfl))) (by decide) (t := (.array .char)) (t' := (.array .int)) (by decide) (by decide)))
    replace F_size := F_size.other W4 (Or.inr (slot_ne (Or.inl (hw _ (List.mem_of_getElem? (i := 23) rfl))) (Or.inl (hw _ (List.mem_of_getElem? (i := 14) rfl))) (by decide) (t := .int) (t' := (.array .int)) (by decide) (by decide)))
    replace V_t := V_t.other W4 ne_t_r
    replace V_e := V_e.other W4 ne_e_r
    replace V_d := V_d.other W4 ne_d_r
    replace V_b3 := V_b3.other W4 (Ne.symm ne_a1_b3)
    have N4 := Fr.snoc X4 N0 g_a1
    have Z4 : n0 ≤ h4.size := Nat.le_trans Z3 (Keep.of_wr W4).1
    refine go (B := T4.setTop (mkF m 16 #[.val (.ref a1), .val (.int p2), .val (.int p3), .val (.int p4)] [])) (fun _ k => st4 _ k) ?_
    refine go (B := T4.setTop (mkF m 17 #[.val (.ref a1), .val (.int p2), .val (.int p3), .val (.int p4)] [(.ref a1)])) (fun _ k => XS.aloadN X4.here hx rfl (hb hby d3_16) rfl rfl k) ?_
    obtain ⟨T5, X5, e5, st5⟩ := getF X4 hx hZ hown (host := "") (Or.inl (hw _ (List.mem_of_getElem? (i := 10) rfl))) Via.refl e4 F_text (g := (mkF m 17 #[.val (.ref a1), .val (.int p2), .val (.int p3), .val (.int p4)] [(.ref a1)])) rfl rfl (hb hby d3_17)
    refine go (B := T5.setTop (mkF m 20 #[.val (.ref a1), .val (.int p2), .val (.int p3), .val (.int p4)] [(.ref t)])) (fun _ k => st5 _ k) ?_
    have Vc6 := V_t
    obtain ⟨cl6, Ar6, -, S6, N6_, -, -⟩ := Vc6
    refine go (B := T5.setTop (mkF m 21 #[.val (.ref a1), .val (.int p2), .val (.int p3), .val (.int p4)] [(.int nt)])) (fun _ k => X5.arraylength hx (by rw [e5]; exact Ar6.1) (State.isArrayOf_alike hZ.alike Ar6.2.1) (g := (mkF m 20 #[.val (.ref a1), .val (.int p2), .val (.int p3), .val (.int p4)] [(.ref t)])) rfl rfl (hb hby d3_20) _ (by rw [len_of S6 N6_]; exact k)) ?_
    refine go (B := T5.setTop (mkF m 22 #[.val (.ref a1), .val (.int p2), .val (.int p3), .val (.int p4)] [(.int p3), (.int nt)])) (fun _ k => XS.iloadN X5.here hx rfl (hb hby d3_21) rfl k) ?_
    by_cases hc22 : nt < p3
    · refine go (B := T5.setTop (mkF m 25 #[.val (.ref a1), .val (.int p2), .val (.int p3), .val (.int p4)] [])) (fun _ k => XS.icmpNo X5.here hx rfl (hb hby d3_22) rfl (tlt hc22).2.1 k) ?_
      refine go (B := T5.setTop (mkF m 26 #[.val (.ref a1), .val (.int p2), .val (.int p3), .val (.int p4)] [(.ref a1)])) (fun _ k => XS.aloadN X5.here hx rfl (hb hby d3_25) rfl rfl k) ?_
      refine go (B := T5.setTop (mkF m 27 #[.val (.ref a1), .val (.int p2), .val (.int p3), .val (.int p4)] [(.int p3), (.ref a1)])) (fun _ k => XS.iloadN X5.here hx rfl (hb hby d3_26) rfl k) ?_
      obtain ⟨T7, h7, k7, X7, e7, E7, A7, st7⟩ := newP X5 hx hZ (hw _ (List.mem_of_getElem? (i := 9) rfl)) e5 (g := (mkF m 27 #[.val (.ref a1), .val (.int p2), .val (.int p3), .val (.int p4)] [(.int p3), (.ref a1)])) rfl (hb hby d3_27) rfl (nneg b10) (cap := 15) (ncl b11) (by decide) (by decide) (by decide)
      obtain ⟨b7, g7⟩ : ∃ z, z = Array.size (h4) := ⟨_, rfl⟩
      rw [← g7] at A7 st7
      have ne_a1_b7 : a1 ≠ b7 := Nat.ne_of_lt (Nat.lt_of_lt_of_le E_r.lt (Nat.le_of_eq g7.symm))
      have ne_t_b7 : t ≠ b7 := Nat.ne_of_lt (Nat.lt_of_lt_of_le V_t.lt (Nat.le_of_eq g7.symm))
      have ne_e'_b7 : e' ≠ b7 := Nat.ne_of_lt (Nat.lt_of_lt_of_le V_e.lt (Nat.le_of_eq g7.symm))
      have ne_d_b7 : d ≠ b7 := Nat.ne_of_lt (Nat.lt_of_lt_of_le V_d.lt (Nat.le_of_eq g7.symm))
      have ne_b3_b7 : b3 ≠ b7 := Nat.ne_of_lt (Nat.lt_of_lt_of_le V_b3.lt (Nat.le_of_eq g7.symm))
      replace E_r := E_r.ext E7
      replace F_text := F_text.ext E7
      replace F_ends := F_ends.ext E7
      replace F_digits := F_digits.ext E7
      replace F_size := F_size.ext E7
      replace V_t := V_t.ext E7
      replace V_e := V_e.ext E7
      replace V_d := V_d.ext E7
      replace V_b3 := V_b3.ext E7
      have g_b7 : n0 ≤ b7 := Nat.le_trans Z4 (Nat.le_of_eq g7.symm)
      have Z7 : n0 ≤ h7.size := Nat.le_trans Z4 E7.1
      have V_b7 := Arv.new A7 (nneg b10)
      refine go (B := T7.setTop (mkF m 29 #[.val (.ref a1), .val (.int p2), .val (.int p3), .val (.int p4)] [(.ref b7), (.ref a1)])) (fun _ k => st7 _ k) ?_
      obtain ⟨T8, h8, X8, e8, W8, st8⟩ := putF X7 hx hZ hown (host := "") (Or.inl (hw _ (List.mem_of_getElem? (i := 10) rfl))) Via.refl e7 F_text E_r (Or.inl (hw _ (List.mem_of_getElem? (i := 11) rfl))) (hw _ (List.mem_of_getElem? (i := 1) rfl)) (ty := (.array .char)) (by decide) rfl rfl (g := (mkF m 29 #[.val (.ref a1), .val (.int p2), .val (.int p3), .val (.int p4)] [(.ref b7), (.ref a1)])) rfl rfl (hb hby d3_29)
      replace E_r := E_r.wr W8
      replace F_text := F_text.same W8
      replace F_ends := F_ends.other W8 (Or.inr (slot_ne (Or.inl (hw _ (List.mem_of_getElem? (i := 14) rfl))) (Or.inl (hw _ (List.mem_of_getElem? (i := 11) rfl))) (by decide) (t := (.array .int)) (t' := (.array .char)) (by decide) (by decide)))
      replace F_digits := F_digits.other W8 (Or.inr (slot_ne (Or.inl (hw _ (List.mem_of_getElem? (i := 16) rfl))) (Or.inl (hw _ (List.mem_of_getElem? (i := 11) rfl))) (by decide) (t := (.array .char)) (t' := (.array .char)) (by decide) (by decide)))
      replace F_size := F_size.other W8 (Or.inr (slot_ne (Or.inl (hw _ (List.mem_of_getElem? (i := 23) rfl))) (Or.inl (hw _ (List.mem_of_getElem? (i := 11) rfl))) (by decide) (t := .int) (t' := (.array .char)) (by decide) (by decide)))
      replace V_t := V_t.other W8 ne_t_r
      replace V_e := V_e.other W8 ne_e_r
      replace V_d := V_d.other W8 ne_d_r
      replace V_b3 := V_b3.other W8 (Ne.symm ne_a1_b3)
      replace V_b7 := V_b7.other W8 (Ne.symm ne_a1_b7)
      have N8 := Fr.snoc X8 N4 g_a1
      have Z8 : n0 ≤ h8.size := Nat.le_trans Z7 (Keep.of_wr W8).1
      refine go (B := T8.setTop (mkF m 32 #[.val (.ref a1), .val (.int p2), .val (.int p3), .val (.int p4)] [])) (fun _ k => st8 _ k) ?_
      refine go (B := T8.setTop (mkF m 33 #[.val (.ref a1), .val (.int p2), .val (.int p3), .val (.int p4)] [(.ref a1)])) (fun _ k => XS.aloadN X8.here hx rfl (hb hby d3_32) rfl rfl k) ?_
      obtain ⟨T9, X9, e9, st9⟩ := getF X8 hx hZ hown (host := "") (Or.inl (hw _ (List.mem_of_getElem? (i := 15) rfl))) Via.refl e8 F_digits (g := (mkF m 33 #[.val (.ref a1), .val (.int p2), .val (.int p3), .val (.int p4)] [(.ref a1)])) rfl rfl (hb hby d3_33)
      refine go (B := T9.setTop (mkF m 36 #[.val (.ref a1), .val (.int p2), .val (.int p3), .val (.int p4)] [(.ref d)])) (fun _ k => st9 _ k) ?_
      have Vc10 := V_d
      obtain ⟨cl10, Ar10, -, S10, N10_, -, -⟩ := Vc10
      refine go (B := T9.setTop (mkF m 37 #[.val (.ref a1), .val (.int p2), .val (.int p3), .val (.int p4)] [(.int nd)])) (fun _ k => X9.arraylength hx (by rw [e9]; exact Ar10.1) (State.isArrayOf_alike hZ.alike Ar10.2.1) (g := (mkF m 36 #[.val (.ref a1), .val (.int p2), .val (.int p3), .val (.int p4)] [(.ref d)])) rfl rfl (hb hby d3_36) _ (by rw [len_of S10 N10_]; exact k)) ?_
      refine go (B := T9.setTop (mkF m 38 #[.val (.ref a1), .val (.int p2), .val (.int p3), .val (.int p4)] [(.int p4), (.int nd)])) (fun _ k => XS.iloadN X9.here hx rfl (hb hby d3_37) rfl k) ?_
      by_cases hc38 : nd < p4
      · refine go (B := T9.setTop (mkF m 41 #[.val (.ref a1), .val (.int p2), .val (.int p3), .val (.int p4)] [])) (fun _ k => XS.icmpNo X9.here hx rfl (hb hby d3_38) rfl (tlt hc38).2.1 k) ?_
        refine go (B := T9.setTop (mkF m 42 #[.val (.ref a1), .val (.int p2), .val (.int p3), .val (.int p4)] [(.ref a1)])) (fun _ k => XS.aloadN X9.here hx rfl (hb hby d3_41) rfl rfl k) ?_
        refine go (B := T9.setTop (mkF m 43 #[.val (.ref a1), .val (.int p2), .val (.int p3), .val (.int p4)] [(.int p4), (.ref a1)])) (fun _ k => XS.iloadN X9.here hx rfl (hb hby d3_42) rfl k) ?_
        obtain ⟨T11, h11, k11, X11, e11, E11, A11, st11⟩ := newP X9 hx hZ (hw _ (List.mem_of_getElem? (i := 9) rfl)) e9 (g := (mkF m 43 #[.val (.ref a1), .val (.int p2), .val (.int p3), .val (.int p4)] [(.int p4), (.ref a1)])) rfl (hb hby d3_43) rfl (nneg b20) (cap := 15) (ncl b21) (by decide) (by decide) (by decide)
        obtain ⟨b11, g11⟩ : ∃ z, z = Array.size (h8) := ⟨_, rfl⟩
        rw [← g11] at A11 st11
        have ne_a1_b11 : a1 ≠ b11 := Nat.ne_of_lt (Nat.lt_of_lt_of_le E_r.lt (Nat.le_of_eq g11.symm))
        have ne_t_b11 : t ≠ b11 := Nat.ne_of_lt (Nat.lt_of_lt_of_le V_t.lt (Nat.le_of_eq g11.symm))
        have ne_e'_b11 : e' ≠ b11 := Nat.ne_of_lt (Nat.lt_of_lt_of_le V_e.lt (Nat.le_of_eq g11.symm))
        have ne_d_b11 : d ≠ b11 := Nat.ne_of_lt (Nat.lt_of_lt_of_le V_d.lt (Nat.le_of_eq g11.symm))
        have ne_b3_b11 : b3 ≠ b11 := Nat.ne_of_lt (Nat.lt_of_lt_of_le V_b3.lt (Nat.le_of_eq g11.symm))
        have ne_b7_b11 : b7 ≠ b11 := Nat.ne_of_lt (Nat.lt_of_lt_of_le V_b7.lt (Nat.le_of_eq g11.symm))
        replace E_r := E_r.ext E11
        replace F_text := F_text.ext E11
        replace F_ends := F_ends.ext E11
        replace F_digits := F_digits.ext E11
        replace F_size := F_size.ext E11
        replace V_t := V_t.ext E11
        replace V_e := V_e.ext E11
        replace V_d := V_d.ext E11
        replace V_b3 := V_b3.ext E11
        replace V_b7 := V_b7.ext E11
        have g_b11 : n0 ≤ b11 := Nat.le_trans Z8 (Nat.le_of_eq g11.symm)
        have Z11 : n0 ≤ h11.size := Nat.le_trans Z8 E11.1
        have V_b11 := Arv.new A11 (nneg b20)
        refine go (B := T11.setTop (mkF m 45 #[.val (.ref a1), .val (.int p2), .val (.int p3), .val (.int p4)] [(.ref b11), (.ref a1)])) (fun _ k => st11 _ k) ?_
        obtain ⟨T12, h12, X12, e12, W12, st12⟩ := putF X11 hx hZ hown (host := "") (Or.inl (hw _ (List.mem_of_getElem? (i := 15) rfl))) Via.refl e11 F_digits E_r (Or.inl (hw _ (List.mem_of_getElem? (i := 16) rfl))) (hw _ (List.mem_of_getElem? (i := 1) rfl)) (ty := (.array .char)) (by decide) rfl rfl (g := (mkF m 45 #[.val (.ref a1), .val (.int p2), .val (.int p3), .val (.int p4)] [(.ref b11), (.ref a1)])) rfl rfl (hb hby d3_45)
        replace E_r := E_r.wr W12
        replace F_text := F_text.other W12 (Or.inr (slot_ne (Or.inl (hw _ (List.mem_of_getElem? (i := 11) rfl))) (Or.inl (hw _ (List.mem_of_getElem? (i := 16) rfl))) (by decide) (t := (.array .char)) (t' := (.array .char)) (by decide) (by decide)))
        replace F_ends := F_ends.other W12 (Or.inr (slot_ne (Or.inl (hw _ (List.mem_of_getElem? (i := 14) rfl))) (Or.inl (hw _ (List.mem_of_getElem? (i := 16) rfl))) (by decide) (t := (.array .int)) (t' := (.array .char)) (by decide) (by decide)))
        replace F_digits := F_digits.same W12
        replace F_size := F_size.other W12 (Or.inr (slot_ne (Or.inl (hw _ (List.mem_of_getElem? (i := 23) rfl))) (Or.inl (hw _ (List.mem_of_getElem? (i := 16) rfl))) (by decide) (t := .int) (t' := (.array .char)) (by decide) (by decide)))
        replace V_t := V_t.other W12 ne_t_r
        replace V_e := V_e.other W12 ne_e_r
        replace V_d := V_d.other W12 ne_d_r
        replace V_b3 := V_b3.other W12 (Ne.symm ne_a1_b3)
        replace V_b7 := V_b7.other W12 (Ne.symm ne_a1_b7)
        replace V_b11 := V_b11.other W12 (Ne.symm ne_a1_b11)
        have N12 := Fr.snoc X12 N8 g_a1
        have Z12 : n0 ≤ h12.size := Nat.le_trans Z11 (Keep.of_wr W12).1
        refine go (B := T12.setTop (mkF m 48 #[.val (.ref a1), .val (.int p2), .val (.int p3), .val (.int p4)] [])) (fun _ k => st12 _ k) ?_
        refine go (B := T12.setTop (mkF m 49 #[.val (.ref a1), .val (.int p2), .val (.int p3), .val (.int p4)] [(.ref a1)])) (fun _ k => XS.aloadN X12.here hx rfl (hb hby d3_48) rfl rfl k) ?_
        refine go (B := T12.setTop (mkF m 50 #[.val (.ref a1), .val (.int p2), .val (.int p3), .val (.int p4)] [(.int (0 : Int32)), (.ref a1)])) (fun _ k => XS.iconst X12.here hx rfl (hb hby d3_49) k) ?_
        obtain ⟨T13, h13, X13, e13, W13, st13⟩ := putF X12 hx hZ hown (host := "") (Or.inl (hw _ (List.mem_of_getElem? (i := 22) rfl))) Via.refl e12 F_size E_r (Or.inl (hw _ (List.mem_of_getElem? (i := 23) rfl))) (hw _ (List.mem_of_getElem? (i := 1) rfl)) (ty := .int) (by decide) rfl rfl (g := (mkF m 50 #[.val (.ref a1), .val (.int p2), .val (.int p3), .val (.int p4)] [(.int (0 : Int32)), (.ref a1)])) rfl rfl (hb hby d3_50)
        replace E_r := E_r.wr W13
        replace F_text := F_text.other W13 (Or.inr (slot_ne (Or.inl (hw _ (List.mem_of_getElem? (i := 11) rfl))) (Or.inl (hw _ (List.mem_of_getElem? (i := 23) rfl))) (by decide) (t := (.array .char)) (t' := .int) (by decide) (by decide)))
        replace F_ends := F_ends.other W13 (Or.inr (slot_ne (Or.inl (hw _ (List.mem_of_getElem? (i := 14) rfl))) (Or.inl (hw _ (List.mem_of_getElem? (i := 23) rfl))) (by decide) (t := (.array .int)) (t' := .int) (by decide) (by decide)))
        replace F_digits := F_digits.other W13 (Or.inr (slot_ne (Or.inl (hw _ (List.mem_of_getElem? (i := 16) rfl))) (Or.inl (hw _ (List.mem_of_getElem? (i := 23) rfl))) (by decide) (t := (.array .char)) (t' := .int) (by decide) (by decide)))
        replace F_size := F_size.same W13
        replace V_t := V_t.other W13 ne_t_r
        replace V_e := V_e.other W13 ne_e_r
        replace V_d := V_d.other W13 ne_d_r
        replace V_b3 := V_b3.other W13 (Ne.symm ne_a1_b3)
        replace V_b7 := V_b7.other W13 (Ne.symm ne_a1_b7)
        replace V_b11 := V_b11.other W13 (Ne.symm ne_a1_b11)
        have N13 := Fr.snoc X13 N12 g_a1
        have Z13 : n0 ≤ h13.size := Nat.le_trans Z12 (Keep.of_wr W13).1
        refine go (B := T13.setTop (mkF m 53 #[.val (.ref a1), .val (.int p2), .val (.int p3), .val (.int p4)] [])) (fun _ k => st13 _ k) ?_
        refine goRetV X13 hx Bd.returns hlk (hb hby d3_53) ?_ (by decide) (by decide)
        rw [e13]
        have m0 : mx ne p2 = p2 := if_pos hc6
        have m1 : mx nt p3 = p3 := if_pos hc22
        have m2 : mx nd p4 = p4 := if_pos hc38
        unfold Q3
        rw [m0, m1, m2]
        exact ⟨rfl, N13, _, _, _, 0, ⟨E_r, F_text, F_ends, F_digits, F_size, ⟨_, _, V_b7⟩, ⟨_, _, V_b3, fun q => absurd rfl q⟩, ⟨_, _, V_b11⟩, g_a1, g_b3, (Ne.symm ne_a1_b7), (Ne.symm ne_a1_b3), (Ne.symm ne_a1_b11), (Ne.symm ne_b3_b7), (Ne.symm ne_b3_b11), Z13⟩, fun q => absurd hc22 q, fun q => absurd hc38 q, ⟨_, _, V_t⟩, ⟨_, _, V_d⟩⟩
      · refine go (B := T9.setTop (mkF m 48 #[.val (.ref a1), .val (.int p2), .val (.int p3), .val (.int p4)] [])) (fun _ k => XS.icmpYes X9.here hx rfl (pc0 := 38) (pc' := 48) rfl (hb hby d3_38) rfl (flt hc38).2.1 (by decide) (by decide) k) ?_
        refine go (B := T9.setTop (mkF m 49 #[.val (.ref a1), .val (.int p2), .val (.int p3), .val (.int p4)] [(.ref a1)])) (fun _ k => XS.aloadN X9.here hx rfl (hb hby d3_48) rfl rfl k) ?_
        refine go (B := T9.setTop (mkF m 50 #[.val (.ref a1), .val (.int p2), .val (.int p3), .val (.int p4)] [(.int (0 : Int32)), (.ref a1)])) (fun _ k => XS.iconst X9.here hx rfl (hb hby d3_49) k) ?_
        obtain ⟨T14, h14, X14, e14, W14, st14⟩ := putF X9 hx hZ hown (host := "") (Or.inl (hw _ (List.mem_of_getElem? (i := 22) rfl))) Via.refl e9 F_size E_r (Or.inl (hw _ (List.mem_of_getElem? (i := 23) rfl))) (hw _ (List.mem_of_getElem? (i := 1) rfl)) (ty := .int) (by decide) rfl rfl (g := (mkF m 50 #[.val (.ref a1), .val (.int p2), .val (.int p3), .val (.int p4)] [(.int (0 : Int32)), (.ref a1)])) rfl rfl (hb hby d3_50)
        replace E_r := E_r.wr W14
        replace F_text := F_text.other W14 (Or.inr (slot_ne (Or.inl (hw _ (List.mem_of_getElem? (i := 11) rfl))) (Or.inl (hw _ (List.mem_of_getElem? (i := 23) rfl))) (by decide) (t := (.array .char)) (t' := .int) (by decide) (by decide)))
        replace F_ends := F_ends.other W14 (Or.inr (slot_ne (Or.inl (hw _ (List.mem_of_getElem? (i := 14) rfl))) (Or.inl (hw _ (List.mem_of_getElem? (i := 23) rfl))) (by decide) (t := (.array .int)) (t' := .int) (by decide) (by decide)))
        replace F_digits := F_digits.other W14 (Or.inr (slot_ne (Or.inl (hw _ (List.mem_of_getElem? (i := 16) rfl))) (Or.inl (hw _ (List.mem_of_getElem? (i := 23) rfl))) (by decide) (t := (.array .char)) (t' := .int) (by decide) (by decide)))
        replace F_size := F_size.same W14
        replace V_t := V_t.other W14 ne_t_r
        replace V_e := V_e.other W14 ne_e_r
        replace V_d := V_d.other W14 ne_d_r
        replace V_b3 := V_b3.other W14 (Ne.symm ne_a1_b3)
        replace V_b7 := V_b7.other W14 (Ne.symm ne_a1_b7)
        have N14 := Fr.snoc X14 N8 g_a1
        have Z14 : n0 ≤ h14.size := Nat.le_trans Z8 (Keep.of_wr W14).1
        refine go (B := T14.setTop (mkF m 53 #[.val (.ref a1), .val (.int p2), .val (.int p3), .val (.int p4)] [])) (fun _ k => st14 _ k) ?_
        refine goRetV X14 hx Bd.returns hlk (hb hby d3_53) ?_ (by decide) (by decide)
        rw [e14]
        have m0 : mx ne p2 = p2 := if_pos hc6
        have m1 : mx nt p3 = p3 := if_pos hc22
        have m2 : mx nd p4 = nd := if_neg hc38
        unfold Q3
        rw [m0, m1, m2]
        exact ⟨rfl, N14, _, _, _, 0, ⟨E_r, F_text, F_ends, F_digits, F_size, ⟨_, _, V_b7⟩, ⟨_, _, V_b3, fun q => absurd rfl q⟩, ⟨_, _, V_d⟩, g_a1, g_b3, (Ne.symm ne_a1_b7), (Ne.symm ne_a1_b3), ne_d_r, (Ne.symm ne_b3_b7), ne_d_b3, Z14⟩, fun q => absurd hc22 q, fun _ => rfl, ⟨_, _, V_t⟩, ⟨_, _, V_d⟩⟩
    · refine go (B := T5.setTop (mkF m 32 #[.val (.ref a1), .val (.int p2), .val (.int p3), .val (.int p4)] [])) (fun _ k => XS.icmpYes X5.here hx rfl (pc0 := 22) (pc' := 32) rfl (hb hby d3_22) rfl (flt hc22).2.1 (by decide) (by decide) k) ?_
      refine go (B := T5.setTop (mkF m 33 #[.val (.ref a1), .val (.int p2), .val (.int p3), .val (.int p4)] [(.ref a1)])) (fun _ k => XS.aloadN X5.here hx rfl (hb hby d3_32) rfl rfl k) ?_
      obtain ⟨T15, X15, e15, st15⟩ := getF X5 hx hZ hown (host := "") (Or.inl (hw _ (List.mem_of_getElem? (i := 15) rfl))) Via.refl e5 F_digits (g := (mkF m 33 #[.val (.ref a1), .val (.int p2), .val (.int p3), .val (.int p4)] [(.ref a1)])) rfl rfl (hb hby d3_33)
      refine go (B := T15.setTop (mkF m 36 #[.val (.ref a1), .val (.int p2), .val (.int p3), .val (.int p4)] [(.ref d)])) (fun _ k => st15 _ k) ?_
      have Vc16 := V_d
      obtain ⟨cl16, Ar16, -, S16, N16_, -, -⟩ := Vc16
      refine go (B := T15.setTop (mkF m 37 #[.val (.ref a1), .val (.int p2), .val (.int p3), .val (.int p4)] [(.int nd)])) (fun _ k => X15.arraylength hx (by rw [e15]; exact Ar16.1) (State.isArrayOf_alike hZ.alike Ar16.2.1) (g := (mkF m 36 #[.val (.ref a1), .val (.int p2), .val (.int p3), .val (.int p4)] [(.ref d)])) rfl rfl (hb hby d3_36) _ (by rw [len_of S16 N16_]; exact k)) ?_
      refine go (B := T15.setTop (mkF m 38 #[.val (.ref a1), .val (.int p2), .val (.int p3), .val (.int p4)] [(.int p4), (.int nd)])) (fun _ k => XS.iloadN X15.here hx rfl (hb hby d3_37) rfl k) ?_
      by_cases hc38 : nd < p4
      · refine go (B := T15.setTop (mkF m 41 #[.val (.ref a1), .val (.int p2), .val (.int p3), .val (.int p4)] [])) (fun _ k => XS.icmpNo X15.here hx rfl (hb hby d3_38) rfl (tlt hc38).2.1 k) ?_
        refine go (B := T15.setTop (mkF m 42 #[.val (.ref a1), .val (.int p2), .val (.int p3), .val (.int p4)] [(.ref a1)])) (fun _ k => XS.aloadN X15.here hx rfl (hb hby d3_41) rfl rfl k) ?_
        refine go (B := T15.setTop (mkF m 43 #[.val (.ref a1), .val (.int p2), .val (.int p3), .val (.int p4)] [(.int p4), (.ref a1)])) (fun _ k => XS.iloadN X15.here hx rfl (hb hby d3_42) rfl k) ?_
        obtain ⟨T17, h17, k17, X17, e17, E17, A17, st17⟩ := newP X15 hx hZ (hw _ (List.mem_of_getElem? (i := 9) rfl)) e15 (g := (mkF m 43 #[.val (.ref a1), .val (.int p2), .val (.int p3), .val (.int p4)] [(.int p4), (.ref a1)])) rfl (hb hby d3_43) rfl (nneg b20) (cap := 15) (ncl b21) (by decide) (by decide) (by decide)
        obtain ⟨b17, g17⟩ : ∃ z, z = Array.size (h4) := ⟨_, rfl⟩
        rw [← g17] at A17 st17
        have ne_a1_b17 : a1 ≠ b17 := Nat.ne_of_lt (Nat.lt_of_lt_of_le E_r.lt (Nat.le_of_eq g17.symm))
        have ne_t_b17 : t ≠ b17 := Nat.ne_of_lt (Nat.lt_of_lt_of_le V_t.lt (Nat.le_of_eq g17.symm))
        have ne_e'_b17 : e' ≠ b17 := Nat.ne_of_lt (Nat.lt_of_lt_of_le V_e.lt (Nat.le_of_eq g17.symm))
        have ne_d_b17 : d ≠ b17 := Nat.ne_of_lt (Nat.lt_of_lt_of_le V_d.lt (Nat.le_of_eq g17.symm))
        have ne_b3_b17 : b3 ≠ b17 := Nat.ne_of_lt (Nat.lt_of_lt_of_le V_b3.lt (Nat.le_of_eq g17.symm))
        replace E_r := E_r.ext E17
        replace F_text := F_text.ext E17
        replace F_ends := F_ends.ext E17
        replace F_digits := F_digits.ext E17
        replace F_size := F_size.ext E17
        replace V_t := V_t.ext E17
        replace V_e := V_e.ext E17
        replace V_d := V_d.ext E17
        replace V_b3 := V_b3.ext E17
        have g_b17 : n0 ≤ b17 := Nat.le_trans Z4 (Nat.le_of_eq g17.symm)
        have Z17 : n0 ≤ h17.size := Nat.le_trans Z4 E17.1
        have V_b17 := Arv.new A17 (nneg b20)
        refine go (B := T17.setTop (mkF m 45 #[.val (.ref a1), .val (.int p2), .val (.int p3), .val (.int p4)] [(.ref b17), (.ref a1)])) (fun _ k => st17 _ k) ?_
        obtain ⟨T18, h18, X18, e18, W18, st18⟩ := putF X17 hx hZ hown (host := "") (Or.inl (hw _ (List.mem_of_getElem? (i := 15) rfl))) Via.refl e17 F_digits E_r (Or.inl (hw _ (List.mem_of_getElem? (i := 16) rfl))) (hw _ (List.mem_of_getElem? (i := 1) rfl)) (ty := (.array .char)) (by decide) rfl rfl (g := (mkF m 45 #[.val (.ref a1), .val (.int p2), .val (.int p3), .val (.int p4)] [(.ref b17), (.ref a1)])) rfl rfl (hb hby d3_45)
        replace E_r := E_r.wr W18
        replace F_text := F_text.other W18 (Or.inr (slot_ne (Or.inl (hw _ (List.mem_of_getElem? (i := 11) rfl))) (Or.inl (hw _ (List.mem_of_getElem? (i := 16) rfl))) (by decide) (t := (.array .char)) (t' := (.array .char)) (by decide) (by decide)))
        replace F_ends := F_ends.other W18 (Or.inr (slot_ne (Or.inl (hw _ (List.mem_of_getElem? (i := 14) rfl))) (Or.inl (hw _ (List.mem_of_getElem? (i := 16) rfl))) (by decide) (t := (.array .int)) (t' := (.array .char)) (by decide) (by decide)))
        replace F_digits := F_digits.same W18
        replace F_size := F_size.other W18 (Or.inr (slot_ne (Or.inl (hw _ (List.mem_of_getElem? (i := 23) rfl))) (Or.inl (hw _ (List.mem_of_getElem? (i := 16) rfl))) (by decide) (t := .int) (t' := (.array .char)) (by decide) (by decide)))
        replace V_t := V_t.other W18 ne_t_r
        replace V_e := V_e.other W18 ne_e_r
        replace V_d := V_d.other W18 ne_d_r
        replace V_b3 := V_b3.other W18 (Ne.symm ne_a1_b3)
        replace V_b17 := V_b17.other W18 (Ne.symm ne_a1_b17)
        have N18 := Fr.snoc X18 N4 g_a1
        have Z18 : n0 ≤ h18.size := Nat.le_trans Z17 (Keep.of_wr W18).1
        refine go (B := T18.setTop (mkF m 48 #[.val (.ref a1), .val (.int p2), .val (.int p3), .val (.int p4)] [])) (fun _ k => st18 _ k) ?_
        refine go (B := T18.setTop (mkF m 49 #[.val (.ref a1), .val (.int p2), .val (.int p3), .val (.int p4)] [(.ref a1)])) (fun _ k => XS.aloadN X18.here hx rfl (hb hby d3_48) rfl rfl k) ?_
        refine go (B := T18.setTop (mkF m 50 #[.val (.ref a1), .val (.int p2), .val (.int p3), .val (.int p4)] [(.int (0 : Int32)), (.ref a1)])) (fun _ k => XS.iconst X18.here hx rfl (hb hby d3_49) k) ?_
        obtain ⟨T19, h19, X19, e19, W19, st19⟩ := putF X18 hx hZ hown (host := "") (Or.inl (hw _ (List.mem_of_getElem? (i := 22) rfl))) Via.refl e18 F_size E_r (Or.inl (hw _ (List.mem_of_getElem? (i := 23) rfl))) (hw _ (List.mem_of_getElem? (i := 1) rfl)) (ty := .int) (by decide) rfl rfl (g := (mkF m 50 #[.val (.ref a1), .val (.int p2), .val (.int p3), .val (.int p4)] [(.int (0 : Int32)), (.ref a1)])) rfl rfl (hb hby d3_50)
        replace E_r := E_r.wr W19
        replace F_text := F_text.other W19 (Or.inr (slot_ne (Or.inl (hw _ (List.mem_of_getElem? (i := 11) rfl))) (Or.inl (hw _ (List.mem_of_getElem? (i := 23) rfl))) (by decide) (t := (.array .char)) (t' := .int) (by decide) (by decide)))
        replace F_ends := F_ends.other W19 (Or.inr (slot_ne (Or.inl (hw _ (List.mem_of_getElem? (i := 14) rfl))) (Or.inl (hw _ (List.mem_of_getElem? (i := 23) rfl))) (by decide) (t := (.array .int)) (t' := .int) (by decide) (by decide)))
        replace F_digits := F_digits.other W19 (Or.inr (slot_ne (Or.inl (hw _ (List.mem_of_getElem? (i := 16) rfl))) (Or.inl (hw _ (List.mem_of_getElem? (i := 23) rfl))) (by decide) (t := (.array .char)) (t' := .int) (by decide) (by decide)))
        replace F_size := F_size.same W19
        replace V_t := V_t.other W19 ne_t_r
        replace V_e := V_e.other W19 ne_e_r
        replace V_d := V_d.other W19 ne_d_r
        replace V_b3 := V_b3.other W19 (Ne.symm ne_a1_b3)
        replace V_b17 := V_b17.other W19 (Ne.symm ne_a1_b17)
        have N19 := Fr.snoc X19 N18 g_a1
        have Z19 : n0 ≤ h19.size := Nat.le_trans Z18 (Keep.of_wr W19).1
        refine go (B := T19.setTop (mkF m 53 #[.val (.ref a1), .val (.int p2), .val (.int p3), .val (.int p4)] [])) (fun _ k => st19 _ k) ?_
        refine goRetV X19 hx Bd.returns hlk (hb hby d3_53) ?_ (by decide) (by decide)
        rw [e19]
        have m0 : mx ne p2 = p2 := if_pos hc6
        have m1 : mx nt p3 = nt := if_neg hc22
        have m2 : mx nd p4 = p4 := if_pos hc38
        unfold Q3
        rw [m0, m1, m2]
        exact ⟨rfl, N19, _, _, _, 0, ⟨E_r, F_text, F_ends, F_digits, F_size, ⟨_, _, V_t⟩, ⟨_, _, V_b3, fun q => absurd rfl q⟩, ⟨_, _, V_b17⟩, g_a1, g_b3, ne_t_r, (Ne.symm ne_a1_b3), (Ne.symm ne_a1_b17), ne_t_b3, (Ne.symm ne_b3_b17), Z19⟩, fun _ => rfl, fun q => absurd hc38 q, ⟨_, _, V_t⟩, ⟨_, _, V_d⟩⟩
      · refine go (B := T15.setTop (mkF m 48 #[.val (.ref a1), .val (.int p2), .val (.int p3), .val (.int p4)] [])) (fun _ k => XS.icmpYes X15.here hx rfl (pc0 := 38) (pc' := 48) rfl (hb hby d3_38) rfl (flt hc38).2.1 (by decide) (by decide) k) ?_
        refine go (B := T15.setTop (mkF m 49 #[.val (.ref a1), .val (.int p2), .val (.int p3), .val (.int p4)] [(.ref a1)])) (fun _ k => XS.aloadN X15.here hx rfl (hb hby d3_48) rfl rfl k) ?_
        refine go (B := T15.setTop (mkF m 50 #[.val (.ref a1), .val (.int p2), .val (.int p3), .val (.int p4)] [(.int (0 : Int32)), (.ref a1)])) (fun _ k => XS.iconst X15.here hx rfl (hb hby d3_49) k) ?_
        obtain ⟨T20, h20, X20, e20, W20, st20⟩ := putF X15 hx hZ hown (host := "") (Or.inl (hw _ (List.mem_of_getElem? (i := 22) rfl))) Via.refl e15 F_size E_r (Or.inl (hw _ (List.mem_of_getElem? (i := 23) rfl))) (hw _ (List.mem_of_getElem? (i := 1) rfl)) (ty := .int) (by decide) rfl rfl (g := (mkF m 50 #[.val (.ref a1), .val (.int p2), .val (.int p3), .val (.int p4)] [(.int (0 : Int32)), (.ref a1)])) rfl rfl (hb hby d3_50)
        replace E_r := E_r.wr W20
        replace F_text := F_text.other W20 (Or.inr (slot_ne (Or.inl (hw _ (List.mem_of_getElem? (i := 11) rfl))) (Or.inl (hw _ (List.mem_of_getElem? (i := 23) rfl))) (by decide) (t := (.array .char)) (t' := .int) (by decide) (by decide)))
        replace F_ends := F_ends.other W20 (Or.inr (slot_ne (Or.inl (hw _ (List.mem_of_getElem? (i := 14) rfl))) (Or.inl (hw _ (List.mem_of_getElem? (i := 23) rfl))) (by decide) (t := (.array .int)) (t' := .int) (by decide) (by decide)))
        replace F_digits := F_digits.other W20 (Or.inr (slot_ne (Or.inl (hw _ (List.mem_of_getElem? (i := 16) rfl))) (Or.inl (hw _ (List.mem_of_getElem? (i := 23) rfl))) (by decide) (t := (.array .char)) (t' := .int) (by decide) (by decide)))
        replace F_size := F_size.same W20
        replace V_t := V_t.other W20 ne_t_r
        replace V_e := V_e.other W20 ne_e_r
        replace V_d := V_d.other W20 ne_d_r
        replace V_b3 := V_b3.other W20 (Ne.symm ne_a1_b3)
        have N20 := Fr.snoc X20 N4 g_a1
        have Z20 : n0 ≤ h20.size := Nat.le_trans Z4 (Keep.of_wr W20).1
        refine go (B := T20.setTop (mkF m 53 #[.val (.ref a1), .val (.int p2), .val (.int p3), .val (.int p4)] [])) (fun _ k => st20 _ k) ?_
        refine goRetV X20 hx Bd.returns hlk (hb hby d3_53) ?_ (by decide) (by decide)
        rw [e20]
        have m0 : mx ne p2 = p2 := if_pos hc6
        have m1 : mx nt p3 = nt := if_neg hc22
        have m2 : mx nd p4 = nd := if_neg hc38
        unfold Q3
        rw [m0, m1, m2]
        exact ⟨rfl, N20, _, _, _, 0, ⟨E_r, F_text, F_ends, F_digits, F_size, ⟨_, _, V_t⟩, ⟨_, _, V_b3, fun q => absurd rfl q⟩, ⟨_, _, V_d⟩, g_a1, g_b3, ne_t_r, (Ne.symm ne_a1_b3), ne_d_r, ne_t_b3, ne_d_b3, Z20⟩, fun _ => rfl, fun _ => rfl, ⟨_, _, V_t⟩, ⟨_, _, V_d⟩⟩
  · refine go (B := T1.setTop (mkF m 16 #[.val (.ref a1), .val (.int p2), .val (.int p3), .val (.int p4)] [])) (fun _ k => XS.icmpYes X1.here hx rfl (pc0 := 6) (pc' := 16) rfl (hb hby d3_6) rfl (flt hc6).2.1 (by decide) (by decide) k) ?_
    refine go (B := T1.setTop (mkF m 17 #[.val (.ref a1), .val (.int p2), .val (.int p3), .val (.int p4)] [(.ref a1)])) (fun _ k => XS.aloadN X1.here hx rfl (hb hby d3_16) rfl rfl k) ?_
    obtain ⟨T21, X21, e21, st21⟩ := getF X1 hx hZ hown (host := "") (Or.inl (hw _ (List.mem_of_getElem? (i := 10) rfl))) Via.refl e1 F_text (g := (mkF m 17 #[.val (.ref a1), .val (.int p2), .val (.int p3), .val (.int p4)] [(.ref a1)])) rfl rfl (hb hby d3_17)
    refine go (B := T21.setTop (mkF m 20 #[.val (.ref a1), .val (.int p2), .val (.int p3), .val (.int p4)] [(.ref t)])) (fun _ k => st21 _ k) ?_
    have Vc22 := V_t
    obtain ⟨cl22, Ar22, -, S22, N22_, -, -⟩ := Vc22
    refine go (B := T21.setTop (mkF m 21 #[.val (.ref a1), .val (.int p2), .val (.int p3), .val (.int p4)] [(.int nt)])) (fun _ k => X21.arraylength hx (by rw [e21]; exact Ar22.1) (State.isArrayOf_alike hZ.alike Ar22.2.1) (g := (mkF m 20 #[.val (.ref a1), .val (.int p2), .val (.int p3), .val (.int p4)] [(.ref t)])) rfl rfl (hb hby d3_20) _ (by rw [len_of S22 N22_]; exact k)) ?_
    refine go (B := T21.setTop (mkF m 22 #[.val (.ref a1), .val (.int p2), .val (.int p3), .val (.int p4)] [(.int p3), (.int nt)])) (fun _ k => XS.iloadN X21.here hx rfl (hb hby d3_21) rfl k) ?_
    by_cases hc22 : nt < p3
    · refine go (B := T21.setTop (mkF m 25 #[.val (.ref a1), .val (.int p2), .val (.int p3), .val (.int p4)] [])) (fun _ k => XS.icmpNo X21.here hx rfl (hb hby d3_22) rfl (tlt hc22).2.1 k) ?_
      refine go (B := T21.setTop (mkF m 26 #[.val (.ref a1), .val (.int p2), .val (.int p3), .val (.int p4)] [(.ref a1)])) (fun _ k => XS.aloadN X21.here hx rfl (hb hby d3_25) rfl rfl k) ?_
      refine go (B := T21.setTop (mkF m 27 #[.val (.ref a1), .val (.int p2), .val (.int p3), .val (.int p4)] [(.int p3), (.ref a1)])) (fun _ k => XS.iloadN X21.here hx rfl (hb hby d3_26) rfl k) ?_
      obtain ⟨T23, h23, k23, X23, e23, E23, A23, st23⟩ := newP X21 hx hZ (hw _ (List.mem_of_getElem? (i := 9) rfl)) e21 (g := (mkF m 27 #[.val (.ref a1), .val (.int p2), .val (.int p3), .val (.int p4)] [(.int p3), (.ref a1)])) rfl (hb hby d3_27) rfl (nneg b10) (cap := 15) (ncl b11) (by decide) (by decide) (by decide)
      obtain ⟨b23, g23⟩ : ∃ z, z = Array.size (h0) := ⟨_, rfl⟩
      rw [← g23] at A23 st23
      have ne_a1_b23 : a1 ≠ b23 := Nat.ne_of_lt (Nat.lt_of_lt_of_le E_r.lt (Nat.le_of_eq g23.symm))
      have ne_t_b23 : t ≠ b23 := Nat.ne_of_lt (Nat.lt_of_lt_of_le V_t.lt (Nat.le_of_eq g23.symm))
      have ne_e'_b23 : e' ≠ b23 := Nat.ne_of_lt (Nat.lt_of_lt_of_le V_e.lt (Nat.le_of_eq g23.symm))
      have ne_d_b23 : d ≠ b23 := Nat.ne_of_lt (Nat.lt_of_lt_of_le V_d.lt (Nat.le_of_eq g23.symm))
      replace E_r := E_r.ext E23
      replace F_text := F_text.ext E23
      replace F_ends := F_ends.ext E23
      replace F_digits := F_digits.ext E23
      replace F_size := F_size.ext E23
      replace V_t := V_t.ext E23
      replace V_e := V_e.ext E23
      replace V_d := V_d.ext E23
      have g_b23 : n0 ≤ b23 := Nat.le_trans Zr (Nat.le_of_eq g23.symm)
      have Z23 : n0 ≤ h23.size := Nat.le_trans Zr E23.1
      have V_b23 := Arv.new A23 (nneg b10)
      refine go (B := T23.setTop (mkF m 29 #[.val (.ref a1), .val (.int p2), .val (.int p3), .val (.int p4)] [(.ref b23), (.ref a1)])) (fun _ k => st23 _ k) ?_
      obtain ⟨T24, h24, X24, e24, W24, st24⟩ := putF X23 hx hZ hown (host := "") (Or.inl (hw _ (List.mem_of_getElem? (i := 10) rfl))) Via.refl e23 F_text E_r (Or.inl (hw _ (List.mem_of_getElem? (i := 11) rfl))) (hw _ (List.mem_of_getElem? (i := 1) rfl)) (ty := (.array .char)) (by decide) rfl rfl (g := (mkF m 29 #[.val (.ref a1), .val (.int p2), .val (.int p3), .val (.int p4)] [(.ref b23), (.ref a1)])) rfl rfl (hb hby d3_29)
      replace E_r := E_r.wr W24
      replace F_text := F_text.same W24
      replace F_ends := F_ends.other W24 (Or.inr (slot_ne (Or.inl (hw _ (List.mem_of_getElem? (i := 14) rfl))) (Or.inl (hw _ (List.mem_of_getElem? (i := 11) rfl))) (by decide) (t := (.array .int)) (t' := (.array .char)) (by decide) (by decide)))
      replace F_digits := F_digits.other W24 (Or.inr (slot_ne (Or.inl (hw _ (List.mem_of_getElem? (i := 16) rfl))) (Or.inl (hw _ (List.mem_of_getElem? (i := 11) rfl))) (by decide) (t := (.array .char)) (t' := (.array .char)) (by decide) (by decide)))
      replace F_size := F_size.other W24 (Or.inr (slot_ne (Or.inl (hw _ (List.mem_of_getElem? (i := 23) rfl))) (Or.inl (hw _ (List.mem_of_getElem? (i := 11) rfl))) (by decide) (t := .int) (t' := (.array .char)) (by decide) (by decide)))
      replace V_t := V_t.other W24 ne_t_r
      replace V_e := V_e.other W24 ne_e_r
      replace V_d := V_d.other W24 ne_d_r
      replace V_b23 := V_b23.other W24 (Ne.symm ne_a1_b23)
      have N24 := Fr.snoc X24 N0 g_a1
      have Z24 : n0 ≤ h24.size := Nat.le_trans Z23 (Keep.of_wr W24).1
      refine go (B := T24.setTop (mkF m 32 #[.val (.ref a1), .val (.int p2), .val (.int p3), .val (.int p4)] [])) (fun _ k => st24 _ k) ?_
      refine go (B := T24.setTop (mkF m 33 #[.val (.ref a1), .val (.int p2), .val (.int p3), .val (.int p4)] [(.ref a1)])) (fun _ k => XS.aloadN X24.here hx rfl (hb hby d3_32) rfl rfl k) ?_
      obtain ⟨T25, X25, e25, st25⟩ := getF X24 hx hZ hown (host := "") (Or.inl (hw _ (List.mem_of_getElem? (i := 15) rfl))) Via.refl e24 F_digits (g := (mkF m 33 #[.val (.ref a1), .val (.int p2), .val (.int p3), .val (.int p4)] [(.ref a1)])) rfl rfl (hb hby d3_33)
      refine go (B := T25.setTop (mkF m 36 #[.val (.ref a1), .val (.int p2), .val (.int p3), .val (.int p4)] [(.ref d)])) (fun _ k => st25 _ k) ?_
      have Vc26 := V_d
      obtain ⟨cl26, Ar26, -, S26, N26_, -, -⟩ := Vc26
      refine go (B := T25.setTop (mkF m 37 #[.val (.ref a1), .val (.int p2), .val (.int p3), .val (.int p4)] [(.int nd)])) (fun _ k => X25.arraylength hx (by rw [e25]; exact Ar26.1) (State.isArrayOf_alike hZ.alike Ar26.2.1) (g := (mkF m 36 #[.val (.ref a1), .val (.int p2), .val (.int p3), .val (.int p4)] [(.ref d)])) rfl rfl (hb hby d3_36) _ (by rw [len_of S26 N26_]; exact k)) ?_
      refine go (B := T25.setTop (mkF m 38 #[.val (.ref a1), .val (.int p2), .val (.int p3), .val (.int p4)] [(.int p4), (.int nd)])) (fun _ k => XS.iloadN X25.here hx rfl (hb hby d3_37) rfl k) ?_
      by_cases hc38 : nd < p4
      · refine go (B := T25.setTop (mkF m 41 #[.val (.ref a1), .val (.int p2), .val (.int p3), .val (.int p4)] [])) (fun _ k => XS.icmpNo X25.here hx rfl (hb hby d3_38) rfl (tlt hc38).2.1 k) ?_
        refine go (B := T25.setTop (mkF m 42 #[.val (.ref a1), .val (.int p2), .val (.int p3), .val (.int p4)] [(.ref a1)])) (fun _ k => XS.aloadN X25.here hx rfl (hb hby d3_41) rfl rfl k) ?_
        refine go (B := T25.setTop (mkF m 43 #[.val (.ref a1), .val (.int p2), .val (.int p3), .val (.int p4)] [(.int p4), (.ref a1)])) (fun _ k => XS.iloadN X25.here hx rfl (hb hby d3_42) rfl k) ?_
        obtain ⟨T27, h27, k27, X27, e27, E27, A27, st27⟩ := newP X25 hx hZ (hw _ (List.mem_of_getElem? (i := 9) rfl)) e25 (g := (mkF m 43 #[.val (.ref a1), .val (.int p2), .val (.int p3), .val (.int p4)] [(.int p4), (.ref a1)])) rfl (hb hby d3_43) rfl (nneg b20) (cap := 15) (ncl b21) (by decide) (by decide) (by decide)
        obtain ⟨b27, g27⟩ : ∃ z, z = Array.size (h24) := ⟨_, rfl⟩
        rw [← g27] at A27 st27
        have ne_a1_b27 : a1 ≠ b27 := Nat.ne_of_lt (Nat.lt_of_lt_of_le E_r.lt (Nat.le_of_eq g27.symm))
        have ne_t_b27 : t ≠ b27 := Nat.ne_of_lt (Nat.lt_of_lt_of_le V_t.lt (Nat.le_of_eq g27.symm))
        have ne_e'_b27 : e' ≠ b27 := Nat.ne_of_lt (Nat.lt_of_lt_of_le V_e.lt (Nat.le_of_eq g27.symm))
        have ne_d_b27 : d ≠ b27 := Nat.ne_of_lt (Nat.lt_of_lt_of_le V_d.lt (Nat.le_of_eq g27.symm))
        have ne_b23_b27 : b23 ≠ b27 := Nat.ne_of_lt (Nat.lt_of_lt_of_le V_b23.lt (Nat.le_of_eq g27.symm))
        replace E_r := E_r.ext E27
        replace F_text := F_text.ext E27
        replace F_ends := F_ends.ext E27
        replace F_digits := F_digits.ext E27
        replace F_size := F_size.ext E27
        replace V_t := V_t.ext E27
        replace V_e := V_e.ext E27
        replace V_d := V_d.ext E27
        replace V_b23 := V_b23.ext E27
        have g_b27 : n0 ≤ b27 := Nat.le_trans Z24 (Nat.le_of_eq g27.symm)
        have Z27 : n0 ≤ h27.size := Nat.le_trans Z24 E27.1
        have V_b27 := Arv.new A27 (nneg b20)
        refine go (B := T27.setTop (mkF m 45 #[.val (.ref a1), .val (.int p2), .val (.int p3), .val (.int p4)] [(.ref b27), (.ref a1)])) (fun _ k => st27 _ k) ?_
        obtain ⟨T28, h28, X28, e28, W28, st28⟩ := putF X27 hx hZ hown (host := "") (Or.inl (hw _ (List.mem_of_getElem? (i := 15) rfl))) Via.refl e27 F_digits E_r (Or.inl (hw _ (List.mem_of_getElem? (i := 16) rfl))) (hw _ (List.mem_of_getElem? (i := 1) rfl)) (ty := (.array .char)) (by decide) rfl rfl (g := (mkF m 45 #[.val (.ref a1), .val (.int p2), .val (.int p3), .val (.int p4)] [(.ref b27), (.ref a1)])) rfl rfl (hb hby d3_45)
        replace E_r := E_r.wr W28
        replace F_text := F_text.other W28 (Or.inr (slot_ne (Or.inl (hw _ (List.mem_of_getElem? (i := 11) rfl))) (Or.inl (hw _ (List.mem_of_getElem? (i := 16) rfl))) (by decide) (t := (.array .char)) (t' := (.array .char)) (by decide) (by decide)))
        replace F_ends := F_ends.other W28 (Or.inr (slot_ne (Or.inl (hw _ (List.mem_of_getElem? (i := 14) rfl))) (Or.inl (hw _ (List.mem_of_getElem? (i := 16) rfl))) (by decide) (t := (.array .int)) (t' := (.array .char)) (by decide) (by decide)))
        replace F_digits := F_digits.same W28
        replace F_size := F_size.other W28 (Or.inr (slot_ne (Or.inl (hw _ (List.mem_of_getElem? (i := 23) rfl))) (Or.inl (hw _ (List.mem_of_getElem? (i := 16) rfl))) (by decide) (t := .int) (t' := (.array .char)) (by decide) (by decide)))
        replace V_t := V_t.other W28 ne_t_r
        replace V_e := V_e.other W28 ne_e_r
        replace V_d := V_d.other W28 ne_d_r
        replace V_b23 := V_b23.other W28 (Ne.symm ne_a1_b23)
        replace V_b27 := V_b27.other W28 (Ne.symm ne_a1_b27)
        have N28 := Fr.snoc X28 N24 g_a1
        have Z28 : n0 ≤ h28.size := Nat.le_trans Z27 (Keep.of_wr W28).1
        refine go (B := T28.setTop (mkF m 48 #[.val (.ref a1), .val (.int p2), .val (.int p3), .val (.int p4)] [])) (fun _ k => st28 _ k) ?_
        refine go (B := T28.setTop (mkF m 49 #[.val (.ref a1), .val (.int p2), .val (.int p3), .val (.int p4)] [(.ref a1)])) (fun _ k => XS.aloadN X28.here hx rfl (hb hby d3_48) rfl rfl k) ?_
        refine go (B := T28.setTop (mkF m 50 #[.val (.ref a1), .val (.int p2), .val (.int p3), .val (.int p4)] [(.int (0 : Int32)), (.ref a1)])) (fun _ k => XS.iconst X28.here hx rfl (hb hby d3_49) k) ?_
        obtain ⟨T29, h29, X29, e29, W29, st29⟩ := putF X28 hx hZ hown (host := "") (Or.inl (hw _ (List.mem_of_getElem? (i := 22) rfl))) Via.refl e28 F_size E_r (Or.inl (hw _ (List.mem_of_getElem? (i := 23) rfl))) (hw _ (List.mem_of_getElem? (i := 1) rfl)) (ty := .int) (by decide) rfl rfl (g := (mkF m 50 #[.val (.ref a1), .val (.int p2), .val (.int p3), .val (.int p4)] [(.int (0 : Int32)), (.ref a1)])) rfl rfl (hb hby d3_50)
        replace E_r := E_r.wr W29
        replace F_text := F_text.other W29 (Or.inr (slot_ne (Or.inl (hw _ (List.mem_of_getElem? (i := 11) rfl))) (Or.inl (hw _ (List.mem_of_getElem? (i := 23) rfl))) (by decide) (t := (.array .char)) (t' := .int) (by decide) (by decide)))
        replace F_ends := F_ends.other W29 (Or.inr (slot_ne (Or.inl (hw _ (List.mem_of_getElem? (i := 14) rfl))) (Or.inl (hw _ (List.mem_of_getElem? (i := 23) rfl))) (by decide) (t := (.array .int)) (t' := .int) (by decide) (by decide)))
        replace F_digits := F_digits.other W29 (Or.inr (slot_ne (Or.inl (hw _ (List.mem_of_getElem? (i := 16) rfl))) (Or.inl (hw _ (List.mem_of_getElem? (i := 23) rfl))) (by decide) (t := (.array .char)) (t' := .int) (by decide) (by decide)))
        replace F_size := F_size.same W29
        replace V_t := V_t.other W29 ne_t_r
        replace V_e := V_e.other W29 ne_e_r
        replace V_d := V_d.other W29 ne_d_r
        replace V_b23 := V_b23.other W29 (Ne.symm ne_a1_b23)
        replace V_b27 := V_b27.other W29 (Ne.symm ne_a1_b27)
        have N29 := Fr.snoc X29 N28 g_a1
        have Z29 : n0 ≤ h29.size := Nat.le_trans Z28 (Keep.of_wr W29).1
        refine go (B := T29.setTop (mkF m 53 #[.val (.ref a1), .val (.int p2), .val (.int p3), .val (.int p4)] [])) (fun _ k => st29 _ k) ?_
        refine goRetV X29 hx Bd.returns hlk (hb hby d3_53) ?_ (by decide) (by decide)
        rw [e29]
        have m0 : mx ne p2 = ne := if_neg hc6
        have m1 : mx nt p3 = p3 := if_pos hc22
        have m2 : mx nd p4 = p4 := if_pos hc38
        unfold Q3
        rw [m0, m1, m2]
        exact ⟨rfl, N29, _, _, _, 0, ⟨E_r, F_text, F_ends, F_digits, F_size, ⟨_, _, V_b23⟩, ⟨_, _, V_e, fun q => absurd rfl q⟩, ⟨_, _, V_b27⟩, g_a1, g_e', (Ne.symm ne_a1_b23), ne_e_r, (Ne.symm ne_a1_b27), (Ne.symm ne_e'_b23), (Ne.symm ne_e'_b27), Z29⟩, fun q => absurd hc22 q, fun q => absurd hc38 q, ⟨_, _, V_t⟩, ⟨_, _, V_d⟩⟩
      · refine go (B := T25.setTop (mkF m 48 #[.val (.ref a1), .val (.int p2), .val (.int p3), .val (.int p4)] [])) (fun _ k => XS.icmpYes X25.here hx rfl (pc0 := 38) (pc' := 48) rfl (hb hby d3_38) rfl (flt hc38).2.1 (by decide) (by decide) k) ?_
        refine go (B := T25.setTop (mkF m 49 #[.val (.ref a1), .val (.int p2), .val (.int p3), .val (.int p4)] [(.ref a1)])) (fun _ k => XS.aloadN X25.here hx rfl (hb hby d3_48) rfl rfl k) ?_
        refine go (B := T25.setTop (mkF m 50 #[.val (.ref a1), .val (.int p2), .val (.int p3), .val (.int p4)] [(.int (0 : Int32)), (.ref a1)])) (fun _ k => XS.iconst X25.here hx rfl (hb hby d3_49) k) ?_
        obtain ⟨T30, h30, X30, e30, W30, st30⟩ := putF X25 hx hZ hown (host := "") (Or.inl (hw _ (List.mem_of_getElem? (i := 22) rfl))) Via.refl e25 F_size E_r (Or.inl (hw _ (List.mem_of_getElem? (i := 23) rfl))) (hw _ (List.mem_of_getElem? (i := 1) rfl)) (ty := .int) (by decide) rfl rfl (g := (mkF m 50 #[.val (.ref a1), .val (.int p2), .val (.int p3), .val (.int p4)] [(.int (0 : Int32)), (.ref a1)])) rfl rfl (hb hby d3_50)
        replace E_r := E_r.wr W30
        replace F_text := F_text.other W30 (Or.inr (slot_ne (Or.inl (hw _ (List.mem_of_getElem? (i := 11) rfl))) (Or.inl (hw _ (List.mem_of_getElem? (i := 23) rfl))) (by decide) (t := (.array .char)) (t' := .int) (by decide) (by decide)))
        replace F_ends := F_ends.other W30 (Or.inr (slot_ne (Or.inl (hw _ (List.mem_of_getElem? (i := 14) rfl))) (Or.inl (hw _ (List.mem_of_getElem? (i := 23) rfl))) (by decide) (t := (.array .int)) (t' := .int) (by decide) (by decide)))
        replace F_digits := F_digits.other W30 (Or.inr (slot_ne (Or.inl (hw _ (List.mem_of_getElem? (i := 16) rfl))) (Or.inl (hw _ (List.mem_of_getElem? (i := 23) rfl))) (by decide) (t := (.array .char)) (t' := .int) (by decide) (by decide)))
        replace F_size := F_size.same W30
        replace V_t := V_t.other W30 ne_t_r
        replace V_e := V_e.other W30 ne_e_r
        replace V_d := V_d.other W30 ne_d_r
        replace V_b23 := V_b23.other W30 (Ne.symm ne_a1_b23)
        have N30 := Fr.snoc X30 N24 g_a1
        have Z30 : n0 ≤ h30.size := Nat.le_trans Z24 (Keep.of_wr W30).1
        refine go (B := T30.setTop (mkF m 53 #[.val (.ref a1), .val (.int p2), .val (.int p3), .val (.int p4)] [])) (fun _ k => st30 _ k) ?_
        refine goRetV X30 hx Bd.returns hlk (hb hby d3_53) ?_ (by decide) (by decide)
        rw [e30]
        have m0 : mx ne p2 = ne := if_neg hc6
        have m1 : mx nt p3 = p3 := if_pos hc22
        have m2 : mx nd p4 = nd := if_neg hc38
        unfold Q3
        rw [m0, m1, m2]
        exact ⟨rfl, N30, _, _, _, 0, ⟨E_r, F_text, F_ends, F_digits, F_size, ⟨_, _, V_b23⟩, ⟨_, _, V_e, fun q => absurd rfl q⟩, ⟨_, _, V_d⟩, g_a1, g_e', (Ne.symm ne_a1_b23), ne_e_r, ne_d_r, (Ne.symm ne_e'_b23), ne_d_e, Z30⟩, fun q => absurd hc22 q, fun _ => rfl, ⟨_, _, V_t⟩, ⟨_, _, V_d⟩⟩
    · refine go (B := T21.setTop (mkF m 32 #[.val (.ref a1), .val (.int p2), .val (.int p3), .val (.int p4)] [])) (fun _ k => XS.icmpYes X21.here hx rfl (pc0 := 22) (pc' := 32) rfl (hb hby d3_22) rfl (flt hc22).2.1 (by decide) (by decide) k) ?_
      refine go (B := T21.setTop (mkF m 33 #[.val (.ref a1), .val (.int p2), .val (.int p3), .val (.int p4)] [(.ref a1)])) (fun _ k => XS.aloadN X21.here hx rfl (hb hby d3_32) rfl rfl k) ?_
      obtain ⟨T31, X31, e31, st31⟩ := getF X21 hx hZ hown (host := "") (Or.inl (hw _ (List.mem_of_getElem? (i := 15) rfl))) Via.refl e21 F_digits (g := (mkF m 33 #[.val (.ref a1), .val (.int p2), .val (.int p3), .val (.int p4)] [(.ref a1)])) rfl rfl (hb hby d3_33)
      refine go (B := T31.setTop (mkF m 36 #[.val (.ref a1), .val (.int p2), .val (.int p3), .val (.int p4)] [(.ref d)])) (fun _ k => st31 _ k) ?_
      have Vc32 := V_d
      obtain ⟨cl32, Ar32, -, S32, N32_, -, -⟩ := Vc32
      refine go (B := T31.setTop (mkF m 37 #[.val (.ref a1), .val (.int p2), .val (.int p3), .val (.int p4)] [(.int nd)])) (fun _ k => X31.arraylength hx (by rw [e31]; exact Ar32.1) (State.isArrayOf_alike hZ.alike Ar32.2.1) (g := (mkF m 36 #[.val (.ref a1), .val (.int p2), .val (.int p3), .val (.int p4)] [(.ref d)])) rfl rfl (hb hby d3_36) _ (by rw [len_of S32 N32_]; exact k)) ?_
      refine go (B := T31.setTop (mkF m 38 #[.val (.ref a1), .val (.int p2), .val (.int p3), .val (.int p4)] [(.int p4), (.int nd)])) (fun _ k => XS.iloadN X31.here hx rfl (hb hby d3_37) rfl k) ?_
      by_cases hc38 : nd < p4
      · refine go (B := T31.setTop (mkF m 41 #[.val (.ref a1), .val (.int p2), .val (.int p3), .val (.int p4)] [])) (fun _ k => XS.icmpNo X31.here hx rfl (hb hby d3_38) rfl (tlt hc38).2.1 k) ?_
        refine go (B := T31.setTop (mkF m 42 #[.val (.ref a1), .val (.int p2), .val (.int p3), .val (.int p4)] [(.ref a1)])) (fun _ k => XS.aloadN X31.here hx rfl (hb hby d3_41) rfl rfl k) ?_
        refine go (B := T31.setTop (mkF m 43 #[.val (.ref a1), .val (.int p2), .val (.int p3), .val (.int p4)] [(.int p4), (.ref a1)])) (fun _ k => XS.iloadN X31.here hx rfl (hb hby d3_42) rfl k) ?_
        obtain ⟨T33, h33, k33, X33, e33, E33, A33, st33⟩ := newP X31 hx hZ (hw _ (List.mem_of_getElem? (i := 9) rfl)) e31 (g := (mkF m 43 #[.val (.ref a1), .val (.int p2), .val (.int p3), .val (.int p4)] [(.int p4), (.ref a1)])) rfl (hb hby d3_43) rfl (nneg b20) (cap := 15) (ncl b21) (by decide) (by decide) (by decide)
        obtain ⟨b33, g33⟩ : ∃ z, z = Array.size (h0) := ⟨_, rfl⟩
        rw [← g33] at A33 st33
        have ne_a1_b33 : a1 ≠ b33 := Nat.ne_of_lt (Nat.lt_of_lt_of_le E_r.lt (Nat.le_of_eq g33.symm))
        have ne_t_b33 : t ≠ b33 := Nat.ne_of_lt (Nat.lt_of_lt_of_le V_t.lt (Nat.le_of_eq g33.symm))
        have ne_e'_b33 : e' ≠ b33 := Nat.ne_of_lt (Nat.lt_of_lt_of_le V_e.lt (Nat.le_of_eq g33.symm))
        have ne_d_b33 : d ≠ b33 := Nat.ne_of_lt (Nat.lt_of_lt_of_le V_d.lt (Nat.le_of_eq g33.symm))
        replace E_r := E_r.ext E33
        replace F_text := F_text.ext E33
        replace F_ends := F_ends.ext E33
        replace F_digits := F_digits.ext E33
        replace F_size := F_size.ext E33
        replace V_t := V_t.ext E33
        replace V_e := V_e.ext E33
        replace V_d := V_d.ext E33
        have g_b33 : n0 ≤ b33 := Nat.le_trans Zr (Nat.le_of_eq g33.symm)
        have Z33 : n0 ≤ h33.size := Nat.le_trans Zr E33.1
        have V_b33 := Arv.new A33 (nneg b20)
        refine go (B := T33.setTop (mkF m 45 #[.val (.ref a1), .val (.int p2), .val (.int p3), .val (.int p4)] [(.ref b33), (.ref a1)])) (fun _ k => st33 _ k) ?_
        obtain ⟨T34, h34, X34, e34, W34, st34⟩ := putF X33 hx hZ hown (host := "") (Or.inl (hw _ (List.mem_of_getElem? (i := 15) rfl))) Via.refl e33 F_digits E_r (Or.inl (hw _ (List.mem_of_getElem? (i := 16) rfl))) (hw _ (List.mem_of_getElem? (i := 1) rfl)) (ty := (.array .char)) (by decide) rfl rfl (g := (mkF m 45 #[.val (.ref a1), .val (.int p2), .val (.int p3), .val (.int p4)] [(.ref b33), (.ref a1)])) rfl rfl (hb hby d3_45)
        replace E_r := E_r.wr W34
        replace F_text := F_text.other W34 (Or.inr (slot_ne (Or.inl (hw _ (List.mem_of_getElem? (i := 11) rfl))) (Or.inl (hw _ (List.mem_of_getElem? (i := 16) rfl))) (by decide) (t := (.array .char)) (t' := (.array .char)) (by decide) (by decide)))
        replace F_ends := F_ends.other W34 (Or.inr (slot_ne (Or.inl (hw _ (List.mem_of_getElem? (i := 14) rfl))) (Or.inl (hw _ (List.mem_of_getElem? (i := 16) rfl))) (by decide) (t := (.array .int)) (t' := (.array .char)) (by decide) (by decide)))
        replace F_digits := F_digits.same W34
        replace F_size := F_size.other W34 (Or.inr (slot_ne (Or.inl (hw _ (List.mem_of_getElem? (i := 23) rfl))) (Or.inl (hw _ (List.mem_of_getElem? (i := 16) rfl))) (by decide) (t := .int) (t' := (.array .char)) (by decide) (by decide)))
        replace V_t := V_t.other W34 ne_t_r
        replace V_e := V_e.other W34 ne_e_r
        replace V_d := V_d.other W34 ne_d_r
        replace V_b33 := V_b33.other W34 (Ne.symm ne_a1_b33)
        have N34 := Fr.snoc X34 N0 g_a1
        have Z34 : n0 ≤ h34.size := Nat.le_trans Z33 (Keep.of_wr W34).1
        refine go (B := T34.setTop (mkF m 48 #[.val (.ref a1), .val (.int p2), .val (.int p3), .val (.int p4)] [])) (fun _ k => st34 _ k) ?_
        refine go (B := T34.setTop (mkF m 49 #[.val (.ref a1), .val (.int p2), .val (.int p3), .val (.int p4)] [(.ref a1)])) (fun _ k => XS.aloadN X34.here hx rfl (hb hby d3_48) rfl rfl k) ?_
        refine go (B := T34.setTop (mkF m 50 #[.val (.ref a1), .val (.int p2), .val (.int p3), .val (.int p4)] [(.int (0 : Int32)), (.ref a1)])) (fun _ k => XS.iconst X34.here hx rfl (hb hby d3_49) k) ?_
        obtain ⟨T35, h35, X35, e35, W35, st35⟩ := putF X34 hx hZ hown (host := "") (Or.inl (hw _ (List.mem_of_getElem? (i := 22) rfl))) Via.refl e34 F_size E_r (Or.inl (hw _ (List.mem_of_getElem? (i := 23) rfl))) (hw _ (List.mem_of_getElem? (i := 1) rfl)) (ty := .int) (by decide) rfl rfl (g := (mkF m 50 #[.val (.ref a1), .val (.int p2), .val (.int p3), .val (.int p4)] [(.int (0 : Int32)), (.ref a1)])) rfl rfl (hb hby d3_50)
        replace E_r := E_r.wr W35
        replace F_text := F_text.other W35 (Or.inr (slot_ne (Or.inl (hw _ (List.mem_of_getElem? (i := 11) rfl))) (Or.inl (hw _ (List.mem_of_getElem? (i := 23) rfl))) (by decide) (t := (.array .char)) (t' := .int) (by decide) (by decide)))
        replace F_ends := F_ends.other W35 (Or.inr (slot_ne (Or.inl (hw _ (List.mem_of_getElem? (i := 14) rfl))) (Or.inl (hw _ (List.mem_of_getElem? (i := 23) rfl))) (by decide) (t := (.array .int)) (t' := .int) (by decide) (by decide)))
        replace F_digits := F_digits.other W35 (Or.inr (slot_ne (Or.inl (hw _ (List.mem_of_getElem? (i := 16) rfl))) (Or.inl (hw _ (List.mem_of_getElem? (i := 23) rfl))) (by decide) (t := (.array .char)) (t' := .int) (by decide) (by decide)))
        replace F_size := F_size.same W35
        replace V_t := V_t.other W35 ne_t_r
        replace V_e := V_e.other W35 ne_e_r
        replace V_d := V_d.other W35 ne_d_r
        replace V_b33 := V_b33.other W35 (Ne.symm ne_a1_b33)
        have N35 := Fr.snoc X35 N34 g_a1
        have Z35 : n0 ≤ h35.size := Nat.le_trans Z34 (Keep.of_wr W35).1
        refine go (B := T35.setTop (mkF m 53 #[.val (.ref a1), .val (.int p2), .val (.int p3), .val (.int p4)] [])) (fun _ k => st35 _ k) ?_
        refine goRetV X35 hx Bd.returns hlk (hb hby d3_53) ?_ (by decide) (by decide)
        rw [e35]
        have m0 : mx ne p2 = ne := if_neg hc6
        have m1 : mx nt p3 = nt := if_neg hc22
        have m2 : mx nd p4 = p4 := if_pos hc38
        unfold Q3
        rw [m0, m1, m2]
        exact ⟨rfl, N35, _, _, _, 0, ⟨E_r, F_text, F_ends, F_digits, F_size, ⟨_, _, V_t⟩, ⟨_, _, V_e, fun q => absurd rfl q⟩, ⟨_, _, V_b33⟩, g_a1, g_e', ne_t_r, ne_e_r, (Ne.symm ne_a1_b33), ne_t_e, (Ne.symm ne_e'_b33), Z35⟩, fun _ => rfl, fun q => absurd hc38 q, ⟨_, _, V_t⟩, ⟨_, _, V_d⟩⟩
      · refine go (B := T31.setTop (mkF m 48 #[.val (.ref a1), .val (.int p2), .val (.int p3), .val (.int p4)] [])) (fun _ k => XS.icmpYes X31.here hx rfl (pc0 := 38) (pc' := 48) rfl (hb hby d3_38) rfl (flt hc38).2.1 (by decide) (by decide) k) ?_
        refine go (B := T31.setTop (mkF m 49 #[.val (.ref a1), .val (.int p2), .val (.int p3), .val (.int p4)] [(.ref a1)])) (fun _ k => XS.aloadN X31.here hx rfl (hb hby d3_48) rfl rfl k) ?_
        refine go (B := T31.setTop (mkF m 50 #[.val (.ref a1), .val (.int p2), .val (.int p3), .val (.int p4)] [(.int (0 : Int32)), (.ref a1)])) (fun _ k => XS.iconst X31.here hx rfl (hb hby d3_49) k) ?_
        obtain ⟨T36, h36, X36, e36, W36, st36⟩ := putF X31 hx hZ hown (host := "") (Or.inl (hw _ (List.mem_of_getElem? (i := 22) rfl))) Via.refl e31 F_size E_r (Or.inl (hw _ (List.mem_of_getElem? (i := 23) rfl))) (hw _ (List.mem_of_getElem? (i := 1) rfl)) (ty := .int) (by decide) rfl rfl (g := (mkF m 50 #[.val (.ref a1), .val (.int p2), .val (.int p3), .val (.int p4)] [(.int (0 : Int32)), (.ref a1)])) rfl rfl (hb hby d3_50)
        replace E_r := E_r.wr W36
        replace F_text := F_text.other W36 (Or.inr (slot_ne (Or.inl (hw _ (List.mem_of_getElem? (i := 11) rfl))) (Or.inl (hw _ (List.mem_of_getElem? (i := 23) rfl))) (by decide) (t := (.array .char)) (t' := .int) (by decide) (by decide)))
        replace F_ends := F_ends.other W36 (Or.inr (slot_ne (Or.inl (hw _ (List.mem_of_getElem? (i := 14) rfl))) (Or.inl (hw _ (List.mem_of_getElem? (i := 23) rfl))) (by decide) (t := (.array .int)) (t' := .int) (by decide) (by decide)))
        replace F_digits := F_digits.other W36 (Or.inr (slot_ne (Or.inl (hw _ (List.mem_of_getElem? (i := 16) rfl))) (Or.inl (hw _ (List.mem_of_getElem? (i := 23) rfl))) (by decide) (t := (.array .char)) (t' := .int) (by decide) (by decide)))
        replace F_size := F_size.same W36
        replace V_t := V_t.other W36 ne_t_r
        replace V_e := V_e.other W36 ne_e_r
        replace V_d := V_d.other W36 ne_d_r
        have N36 := Fr.snoc X36 N0 g_a1
        have Z36 : n0 ≤ h36.size := Nat.le_trans Zr (Keep.of_wr W36).1
        refine go (B := T36.setTop (mkF m 53 #[.val (.ref a1), .val (.int p2), .val (.int p3), .val (.int p4)] [])) (fun _ k => st36 _ k) ?_
        refine goRetV X36 hx Bd.returns hlk (hb hby d3_53) ?_ (by decide) (by decide)
        rw [e36]
        have m0 : mx ne p2 = ne := if_neg hc6
        have m1 : mx nt p3 = nt := if_neg hc22
        have m2 : mx nd p4 = nd := if_neg hc38
        unfold Q3
        rw [m0, m1, m2]
        exact ⟨rfl, N36, _, _, _, 0, ⟨E_r, F_text, F_ends, F_digits, F_size, ⟨_, _, V_t⟩, ⟨_, _, V_e, fun q => absurd rfl q⟩, ⟨_, _, V_d⟩, g_a1, g_e', ne_t_r, ne_e_r, ne_d_r, ne_t_e, ne_d_e, Z36⟩, fun _ => rfl, fun _ => rfl, ⟨_, _, V_t⟩, ⟨_, _, V_d⟩⟩
theorem ef_rm4 (m : MethodId) (a1 : Addr) : entryFrame m #[(.ref a1)] 1 = mkF m 0 #[.val (.ref a1)] [] := by first | (simp [entryFrame, mkF, argsToLocals, Value.category]; done) | rfl
def Q4 (Z : State) (a1 : Addr) (z : Addr) (h0 : Heap) (n0 : Nat) (v : Option Value) (h : Heap) (L : List Loc) : Prop := v = some (.ref z) ∧ Fr n0 L ∧ h = h0
theorem d4_0 : decode prog_90_method_7_code 0 = .ok (.aload_n 0, 1) := by decide +kernel
theorem d4_1 : decode prog_90_method_7_code 1 = .ok (.getfield 7, 3) := by decide +kernel
theorem d4_4 : decode prog_90_method_7_code 4 = .ok (.areturn, 1) := by decide +kernel
set_option maxRecDepth 65536 in
set_option maxHeartbeats 40000000 in
theorem rm4 (l : Launch) (Z : State) (a0 : Array Value) (hw : ∀ d ∈ tables_1, d.before a0 Z = true) (ws : List Jvm.Cond) (a1 : Addr) (z : Addr) (h0 : Heap) (n0 : Nat) (Z0 : n0 ≤ h0.size) (F_text : Fld Z h0 a1 "com/example/zonecast/zonecast/RecordValues" "text" "[C" (.ref z)) :
    MetFree l (⟨"com/example/zonecast/zonecast/RecordValues", "text", "()[C"⟩ : MethodName) (head1 (Jvm.Cond.code (⟨"com/example/zonecast/zonecast/RecordValues", "text", "()[C"⟩ : MethodName) prog_90_method_7_code 1 (some (.array .char)) :: ws) ({ frames := 0, cells := 0, slots := 0, locals := 0 } : Room)) (fun a U => a = #[(.ref a1)] ∧ Z.Warmed39 U.vm ∧ U.heap = h0) (fun _ _ _ _ _ => True) (fun _ U o U' => ∃ v L, o = .returned v ∧ Q4 Z a1 z h0 n0 v U'.heap L ∧ FrameEnd U o U' L ({ frames := 0, cells := 0, slots := 0, locals := 0 } : Room).cells ({ frames := 0, cells := 0, slots := 0, locals := 0 } : Room).slots) := by
  refine MetFree.of_bodySF (plainFor_of_name pn_com_example_zonecast_zonecast_RecordValues) hisR ?_
  intro p e s m args below meth c s₁ Bd hml0 hP hK
  obtain ⟨rfl, hZ, hh⟩ := hP
  have hx := Bd.exec
  have hby := Bd.bytes
  have hml : c.maxLocals = 1 := hml0
  have hown : s.vm.findClass "com/example/zonecast/zonecast/RecordValues" = some m.cls := findClass_of_methodNamed Bd.named
  have hnm := (name_of_methodNamed Bd.named Bd.method).1
  have hlk := Bd.notSynchronized
  have X0 : Stand p l e ({ frames := 0, cells := 0, slots := 0, locals := 0 } : Room) s m #[(.ref a1)] below meth c s₁ [] 0 0 := Stand.of_body Bd
  have e0 : s₁.heap = h0 := by rw [← hh, Bd.state]; rfl
  have N0 := Fr.nil n0
  show Go p.tables e below s ({ frames := 0, cells := 0, slots := 0, locals := 0 } : Room).cells ({ frames := 0, cells := 0, slots := 0, locals := 0 } : Room).slots (Q4 Z a1 z h0 n0) _
  refine go (fun t k => castTop (ef_rm4 m a1) k) ?_
  refine go (B := s₁.setTop (mkF m 1 #[.val (.ref a1)] [(.ref a1)])) (fun _ k => XS.aloadN X0.here hx rfl (hb hby d4_0) rfl rfl k) ?_
  obtain ⟨T1, X1, e1, st1⟩ := getF X0 hx hZ hown (host := "") (Or.inl (hw _ (List.mem_of_getElem? (i := 10) rfl))) Via.refl e0 F_text (g := (mkF m 1 #[.val (.ref a1)] [(.ref a1)])) rfl rfl (hb hby d4_1)
  refine go (B := T1.setTop (mkF m 4 #[.val (.ref a1)] [(.ref z)])) (fun _ k => st1 _ k) ?_
  refine goRetR X1 hx Bd.returns rfl hlk (hb hby d4_4) ?_ (by decide) (by decide)
  rw [e1]
  exact ⟨rfl, N0, rfl⟩
theorem ef_rm5 (m : MethodId) (a1 : Addr) : entryFrame m #[(.ref a1)] 1 = mkF m 0 #[.val (.ref a1)] [] := by first | (simp [entryFrame, mkF, argsToLocals, Value.category]; done) | rfl
def Q5 (Z : State) (a1 : Addr) (z : Addr) (h0 : Heap) (n0 : Nat) (v : Option Value) (h : Heap) (L : List Loc) : Prop := v = some (.ref z) ∧ Fr n0 L ∧ h = h0
theorem d5_0 : decode prog_90_method_5_code 0 = .ok (.aload_n 0, 1) := by decide +kernel
theorem d5_1 : decode prog_90_method_5_code 1 = .ok (.getfield 17, 3) := by decide +kernel
theorem d5_4 : decode prog_90_method_5_code 4 = .ok (.areturn, 1) := by decide +kernel
set_option maxRecDepth 65536 in
set_option maxHeartbeats 40000000 in
theorem rm5 (l : Launch) (Z : State) (a0 : Array Value) (hw : ∀ d ∈ tables_1, d.before a0 Z = true) (ws : List Jvm.Cond) (a1 : Addr) (z : Addr) (h0 : Heap) (n0 : Nat) (Z0 : n0 ≤ h0.size) (F_digits : Fld Z h0 a1 "com/example/zonecast/zonecast/RecordValues" "digits" "[C" (.ref z)) :
    MetFree l (⟨"com/example/zonecast/zonecast/RecordValues", "digits", "()[C"⟩ : MethodName) (head1 (Jvm.Cond.code (⟨"com/example/zonecast/zonecast/RecordValues", "digits", "()[C"⟩ : MethodName) prog_90_method_5_code 1 (some (.array .char)) :: ws) ({ frames := 0, cells := 0, slots := 0, locals := 0 } : Room)) (fun a U => a = #[(.ref a1)] ∧ Z.Warmed39 U.vm ∧ U.heap = h0) (fun _ _ _ _ _ => True) (fun _ U o U' => ∃ v L, o = .returned v ∧ Q5 Z a1 z h0 n0 v U'.heap L ∧ FrameEnd U o U' L ({ frames := 0, cells := 0, slots := 0, locals := 0 } : Room).cells ({ frames := 0, cells := 0, slots := 0, locals := 0 } : Room).slots) := by
  refine MetFree.of_bodySF (plainFor_of_name pn_com_example_zonecast_zonecast_RecordValues) hisR ?_
  intro p e s m args below meth c s₁ Bd hml0 hP hK
  obtain ⟨rfl, hZ, hh⟩ := hP
  have hx := Bd.exec
  have hby := Bd.bytes
  have hml : c.maxLocals = 1 := hml0
  have hown : s.vm.findClass "com/example/zonecast/zonecast/RecordValues" = some m.cls := findClass_of_methodNamed Bd.named
  have hnm := (name_of_methodNamed Bd.named Bd.method).1
  have hlk := Bd.notSynchronized
  have X0 : Stand p l e ({ frames := 0, cells := 0, slots := 0, locals := 0 } : Room) s m #[(.ref a1)] below meth c s₁ [] 0 0 := Stand.of_body Bd
  have e0 : s₁.heap = h0 := by rw [← hh, Bd.state]; rfl
  have N0 := Fr.nil n0
  show Go p.tables e below s ({ frames := 0, cells := 0, slots := 0, locals := 0 } : Room).cells ({ frames := 0, cells := 0, slots := 0, locals := 0 } : Room).slots (Q5 Z a1 z h0 n0) _
  refine go (fun t k => castTop (ef_rm5 m a1) k) ?_
  refine go (B := s₁.setTop (mkF m 1 #[.val (.ref a1)] [(.ref a1)])) (fun _ k => XS.aloadN X0.here hx rfl (hb hby d5_0) rfl rfl k) ?_
  obtain ⟨T1, X1, e1, st1⟩ := getF X0 hx hZ hown (host := "") (Or.inl (hw _ (List.mem_of_getElem? (i := 15) rfl))) Via.refl e0 F_digits (g := (mkF m 1 #[.val (.ref a1)] [(.ref a1)])) rfl rfl (hb hby d5_1)
  refine go (B := T1.setTop (mkF m 4 #[.val (.ref a1)] [(.ref z)])) (fun _ k => st1 _ k) ?_
  refine goRetR X1 hx Bd.returns rfl hlk (hb hby d5_4) ?_ (by decide) (by decide)
  rw [e1]
  exact ⟨rfl, N0, rfl⟩
theorem ef_rm6 (m : MethodId) (a1 : Addr) : entryFrame m #[(.ref a1)] 1 = mkF m 0 #[.val (.ref a1)] [] := by first | (simp [entryFrame, mkF, argsToLocals, Value.category]; done) | rfl
def Q6 (Z : State) (a1 : Addr) (z : Int32) (h0 : Heap) (n0 : Nat) (v : Option Value) (h : Heap) (L : List Loc) : Prop := v = some (.int z) ∧ Fr n0 L ∧ h = h0
theorem d6_0 : decode prog_90_method_6_code 0 = .ok (.aload_n 0, 1) := by decide +kernel
theorem d6_1 : decode prog_90_method_6_code 1 = .ok (.getfield 20, 3) := by decide +kernel
theorem d6_4 : decode prog_90_method_6_code 4 = .ok (.ireturn, 1) := by decide +kernel
set_option maxRecDepth 65536 in
set_option maxHeartbeats 40000000 in
theorem rm6 (l : Launch) (Z : State) (a0 : Array Value) (hw : ∀ d ∈ tables_1, d.before a0 Z = true) (ws : List Jvm.Cond) (a1 : Addr) (z : Int32) (h0 : Heap) (n0 : Nat) (Z0 : n0 ≤ h0.size) (F_size : Fld Z h0 a1 "com/example/zonecast/zonecast/RecordValues" "size" "I" (.int z)) :
    MetFree l (⟨"com/example/zonecast/zonecast/RecordValues", "size", "()I"⟩ : MethodName) (head1 (Jvm.Cond.code (⟨"com/example/zonecast/zonecast/RecordValues", "size", "()I"⟩ : MethodName) prog_90_method_6_code 1 (some .int) :: ws) ({ frames := 0, cells := 0, slots := 0, locals := 0 } : Room)) (fun a U => a = #[(.ref a1)] ∧ Z.Warmed39 U.vm ∧ U.heap = h0) (fun _ _ _ _ _ => True) (fun _ U o U' => ∃ v L, o = .returned v ∧ Q6 Z a1 z h0 n0 v U'.heap L ∧ FrameEnd U o U' L ({ frames := 0, cells := 0, slots := 0, locals := 0 } : Room).cells ({ frames := 0, cells := 0, slots := 0, locals := 0 } : Room).slots) := by
  refine MetFree.of_bodySF (plainFor_of_name pn_com_example_zonecast_zonecast_RecordValues) hisR ?_
  intro p e s m args below meth c s₁ Bd hml0 hP hK
  obtain ⟨rfl, hZ, hh⟩ := hP
  have hx := Bd.exec
  have hby := Bd.bytes
  have hml : c.maxLocals = 1 := hml0
  have hown : s.vm.findClass "com/example/zonecast/zonecast/RecordValues" = some m.cls := findClass_of_methodNamed Bd.named
  have hnm := (name_of_methodNamed Bd.named Bd.method).1
  have hlk := Bd.notSynchronized
  have X0 : Stand p l e ({ frames := 0, cells := 0, slots := 0, locals := 0 } : Room) s m #[(.ref a1)] below meth c s₁ [] 0 0 := Stand.of_body Bd
  have e0 : s₁.heap = h0 := by rw [← hh, Bd.state]; rfl
  have N0 := Fr.nil n0
  show Go p.tables e below s ({ frames := 0, cells := 0, slots := 0, locals := 0 } : Room).cells ({ frames := 0, cells := 0, slots := 0, locals := 0 } : Room).slots (Q6 Z a1 z h0 n0) _
  refine go (fun t k => castTop (ef_rm6 m a1) k) ?_
  refine go (B := s₁.setTop (mkF m 1 #[.val (.ref a1)] [(.ref a1)])) (fun _ k => XS.aloadN X0.here hx rfl (hb hby d6_0) rfl rfl k) ?_
  obtain ⟨T1, X1, e1, st1⟩ := getF X0 hx hZ hown (host := "") (Or.inl (hw _ (List.mem_of_getElem? (i := 22) rfl))) Via.refl e0 F_size (g := (mkF m 1 #[.val (.ref a1)] [(.ref a1)])) rfl rfl (hb hby d6_1)
  refine go (B := T1.setTop (mkF m 4 #[.val (.ref a1)] [(.int z)])) (fun _ k => st1 _ k) ?_
  refine goRetI X1 hx Bd.returns hlk (hb hby d6_4) ?_ (by decide) (by decide)
  rw [e1]
  exact ⟨rfl, N0, rfl⟩
theorem m7 (x : Int32) : 0 ≤ (x &&& (7 : Int32)).toInt ∧ (x &&& (7 : Int32)).toInt ≤ (7 : Nat) := by
  have e1 : (x &&& (7 : Int32)).toInt = x.toInt % 2 ^ 3 := Jvm.Kit.i32_mask _ _ (k := 3) (by decide) (by decide)
  omega
theorem m15 (x : Int32) : 0 ≤ (x &&& (15 : Int32)).toInt ∧ (x &&& (15 : Int32)).toInt ≤ (15 : Nat) := by
  have e1 : (x &&& (15 : Int32)).toInt = x.toInt % 2 ^ 4 := Jvm.Kit.i32_mask _ _ (k := 4) (by decide) (by decide)
  omega
theorem fNext_ne {s x : Int32} (h : ¬ s = 0) : fNext s x = x := if_neg h
theorem z0 : (0 : Int32).toInt = 0 := by decide
theorem z1 : (1 : Int32).toInt = 1 := by decide
theorem z2 : (2 : Int32).toInt = 2 := by decide
theorem pn_com_example_zonecast_zonecast_RecordValuesClearPinLaw : plainName "com/example/zonecast/zonecast/RecordValuesClearPinLaw" = true := by first | (simp [plainName, overriddenIn]; done) | decide +kernel
theorem ef_rm0 (m : MethodId) (p1 : Int32) (p2 : Int32) (p3 : Int32) (p4 : Int32) (p5 : Int32) : entryFrame m #[(.int p1), (.int p2), (.int p3), (.int p4), (.int p5)] maxLocals = mkF m 0 #[.val (.int p1), .val (.int p2), .val (.int p3), .val (.int p4), .val (.int p5), .unset, .unset, .unset, .unset, .unset, .unset, .unset, .unset, .unset, .unset, .unset, .unset, .unset, .unset] [] := by first | (simp [entryFrame, mkF, argsToLocals, Value.category, maxLocals]; done) | rfl
def Q0 (Z : State) (p1 : Int32) (p2 : Int32) (p3 : Int32) (p4 : Int32) (p5 : Int32) (h0 : Heap) (n0 : Nat) (v : Option Value) (h : Heap) (L : List Loc) : Prop := v = some (.int 1) ∧ Fr n0 L
theorem pd___V : parseMethodDescriptor "()V" = some ⟨[], none⟩ := by decide +kernel
theorem pd__III_V : parseMethodDescriptor "(III)V" = some ⟨[.int, .int, .int], none⟩ := by decide +kernel
theorem pd__I_V : parseMethodDescriptor "(I)V" = some ⟨[.int], none⟩ := by decide +kernel
theorem pd____C : parseMethodDescriptor "()[C" = some ⟨[], some (.array .char)⟩ := by decide +kernel
theorem pd___I : parseMethodDescriptor "()I" = some ⟨[], some .int⟩ := by decide +kernel
set_option maxRecDepth 65536 in
set_option maxHeartbeats 40000000 in
theorem rm0 (l : Launch) (Z : State) (a0 : Array Value) (hw : ∀ d ∈ tables_1, d.before a0 Z = true) (ws : List Jvm.Cond) (p1 : Int32) (p2 : Int32) (p3 : Int32) (p4 : Int32) (p5 : Int32) (h0 : Heap) (n0 : Nat) (Z0 : n0 ≤ h0.size) :
    MetFree l x (head1 (Jvm.Cond.code x code maxLocals ret :: ws) room_1) (fun a U => a = #[(.int p1), (.int p2), (.int p3), (.int p4), (.int p5)] ∧ Z.Warmed39 U.vm ∧ U.heap = h0) (fun _ _ _ _ _ => True) (fun _ U o U' => ∃ v L, o = .returned v ∧ Q0 Z p1 p2 p3 p4 p5 h0 n0 v U'.heap L ∧ FrameEnd U o U' L room_1.cells room_1.slots) := by
  refine MetFree.of_bodySF (plainFor_of_name pn_com_example_zonecast_zonecast_RecordValuesClearPinLaw) hisR ?_
  intro p e s m args below meth c s₁ Bd hml0 hP hK
  obtain ⟨rfl, hZ, hh⟩ := hP
  have hx := Bd.exec
  have hby := Bd.bytes
  have hml : c.maxLocals = 19 := hml0
  have hown : s.vm.findClass "com/example/zonecast/zonecast/RecordValuesClearPinLaw" = some m.cls := findClass_of_methodNamed Bd.named
  have hnm := (name_of_methodNamed Bd.named Bd.method).1
  have hlk := Bd.notSynchronized
  have X0 : Stand p l e room_1 s m #[(.int p1), (.int p2), (.int p3), (.int p4), (.int p5)] below meth c s₁ [] 0 0 := Stand.of_body Bd
  have e0 : s₁.heap = h0 := by rw [← hh, Bd.state]; rfl
  have N0 := Fr.nil n0
  show Go p.tables e below s room_1.cells room_1.slots (Q0 Z p1 p2 p3 p4 p5 h0 n0) _
  refine go (fun t k => castTop (ef_rm0 m p1 p2 p3 p4 p5) k) ?_
  refine go (B := s₁.setTop (mkF m 1 #[.val (.int p1), .val (.int p2), .val (.int p3), .val (.int p4), .val (.int p5), .unset, .unset, .unset, .unset, .unset, .unset, .unset, .unset, .unset, .unset, .unset, .unset, .unset, .unset] [(.int p1)])) (fun _ k => XS.iloadN X0.here hx rfl (hb hby at_0) rfl k) ?_
  refine go (B := s₁.setTop (mkF m 3 #[.val (.int p1), .val (.int p2), .val (.int p3), .val (.int p4), .val (.int p5), .unset, .unset, .unset, .unset, .unset, .unset, .unset, .unset, .unset, .unset, .unset, .unset, .unset, .unset] [(.int (7 : Int32)), (.int p1)])) (fun _ k => XS.bipush X0.here hx rfl (hb hby at_1) k) ?_
  refine go (B := s₁.setTop (mkF m 4 #[.val (.int p1), .val (.int p2), .val (.int p3), .val (.int p4), .val (.int p5), .unset, .unset, .unset, .unset, .unset, .unset, .unset, .unset, .unset, .unset, .unset, .unset, .unset, .unset] [(.int (p1 &&& (7 : Int32)))])) (fun _ k => XS.iand X0.here hx rfl (hb hby at_3) rfl k) ?_
  refine go (B := s₁.setTop (mkF m 6 #[.val (.int p1), .val (.int p2), .val (.int p3), .val (.int p4), .val (.int p5), .val (.int (p1 &&& (7 : Int32))), .unset, .unset, .unset, .unset, .unset, .unset, .unset, .unset, .unset, .unset, .unset, .unset, .unset] [])) (fun _ k => XS.istore X0.here hx rfl (hb hby at_4) rfl (l' := #[.val (.int p1), .val (.int p2), .val (.int p3), .val (.int p4), .val (.int p5), .val (.int (p1 &&& (7 : Int32))), .unset, .unset, .unset, .unset, .unset, .unset, .unset, .unset, .unset, .unset, .unset, .unset, .unset]) rfl k) ?_
  refine go (B := s₁.setTop (mkF m 7 #[.val (.int p1), .val (.int p2), .val (.int p3), .val (.int p4), .val (.int p5), .val (.int (p1 &&& (7 : Int32))), .unset, .unset, .unset, .unset, .unset, .unset, .unset, .unset, .unset, .unset, .unset, .unset, .unset] [(.int p2)])) (fun _ k => XS.iloadN X0.here hx rfl (hb hby at_6) rfl k) ?_
  refine go (B := s₁.setTop (mkF m 9 #[.val (.int p1), .val (.int p2), .val (.int p3), .val (.int p4), .val (.int p5), .val (.int (p1 &&& (7 : Int32))), .unset, .unset, .unset, .unset, .unset, .unset, .unset, .unset, .unset, .unset, .unset, .unset, .unset] [(.int (15 : Int32)), (.int p2)])) (fun _ k => XS.bipush X0.here hx rfl (hb hby at_7) k) ?_
  refine go (B := s₁.setTop (mkF m 10 #[.val (.int p1), .val (.int p2), .val (.int p3), .val (.int p4), .val (.int p5), .val (.int (p1 &&& (7 : Int32))), .unset, .unset, .unset, .unset, .unset, .unset, .unset, .unset, .unset, .unset, .unset, .unset, .unset] [(.int (p2 &&& (15 : Int32)))])) (fun _ k => XS.iand X0.here hx rfl (hb hby at_9) rfl k) ?_
  refine go (B := s₁.setTop (mkF m 12 #[.val (.int p1), .val (.int p2), .val (.int p3), .val (.int p4), .val (.int p5), .val (.int (p1 &&& (7 : Int32))), .val (.int (p2 &&& (15 : Int32))), .unset, .unset, .unset, .unset, .unset, .unset, .unset, .unset, .unset, .unset, .unset, .unset] [])) (fun _ k => XS.istore X0.here hx rfl (hb hby at_10) rfl (l' := #[.val (.int p1), .val (.int p2), .val (.int p3), .val (.int p4), .val (.int p5), .val (.int (p1 &&& (7 : Int32))), .val (.int (p2 &&& (15 : Int32))), .unset, .unset, .unset, .unset, .unset, .unset, .unset, .unset, .unset, .unset, .unset, .unset]) rfl k) ?_
  refine go (B := s₁.setTop (mkF m 13 #[.val (.int p1), .val (.int p2), .val (.int p3), .val (.int p4), .val (.int p5), .val (.int (p1 &&& (7 : Int32))), .val (.int (p2 &&& (15 : Int32))), .unset, .unset, .unset, .unset, .unset, .unset, .unset, .unset, .unset, .unset, .unset, .unset] [(.int p3)])) (fun _ k => XS.iloadN X0.here hx rfl (hb hby at_12) rfl k) ?_
  refine go (B := s₁.setTop (mkF m 15 #[.val (.int p1), .val (.int p2), .val (.int p3), .val (.int p4), .val (.int p5), .val (.int (p1 &&& (7 : Int32))), .val (.int (p2 &&& (15 : Int32))), .unset, .unset, .unset, .unset, .unset, .unset, .unset, .unset, .unset, .unset, .unset, .unset] [(.int (15 : Int32)), (.int p3)])) (fun _ k => XS.bipush X0.here hx rfl (hb hby at_13) k) ?_
  refine go (B := s₁.setTop (mkF m 16 #[.val (.int p1), .val (.int p2), .val (.int p3), .val (.int p4), .val (.int p5), .val (.int (p1 &&& (7 : Int32))), .val (.int (p2 &&& (15 : Int32))), .unset, .unset, .unset, .unset, .unset, .unset, .unset, .unset, .unset, .unset, .unset, .unset] [(.int (p3 &&& (15 : Int32)))])) (fun _ k => XS.iand X0.here hx rfl (hb hby at_15) rfl k) ?_
  refine go (B := s₁.setTop (mkF m 18 #[.val (.int p1), .val (.int p2), .val (.int p3), .val (.int p4), .val (.int p5), .val (.int (p1 &&& (7 : Int32))), .val (.int (p2 &&& (15 : Int32))), .val (.int (p3 &&& (15 : Int32))), .unset, .unset, .unset, .unset, .unset, .unset, .unset, .unset, .unset, .unset, .unset] [])) (fun _ k => XS.istore X0.here hx rfl (hb hby at_16) rfl (l' := #[.val (.int p1), .val (.int p2), .val (.int p3), .val (.int p4), .val (.int p5), .val (.int (p1 &&& (7 : Int32))), .val (.int (p2 &&& (15 : Int32))), .val (.int (p3 &&& (15 : Int32))), .unset, .unset, .unset, .unset, .unset, .unset, .unset, .unset, .unset, .unset, .unset]) rfl k) ?_
  refine go (B := s₁.setTop (mkF m 19 #[.val (.int p1), .val (.int p2), .val (.int p3), .val (.int p4), .val (.int p5), .val (.int (p1 &&& (7 : Int32))), .val (.int (p2 &&& (15 : Int32))), .val (.int (p3 &&& (15 : Int32))), .unset, .unset, .unset, .unset, .unset, .unset, .unset, .unset, .unset, .unset, .unset] [(.int p1)])) (fun _ k => XS.iloadN X0.here hx rfl (hb hby at_18) rfl k) ?_
  refine go (B := s₁.setTop (mkF m 20 #[.val (.int p1), .val (.int p2), .val (.int p3), .val (.int p4), .val (.int p5), .val (.int (p1 &&& (7 : Int32))), .val (.int (p2 &&& (15 : Int32))), .val (.int (p3 &&& (15 : Int32))), .unset, .unset, .unset, .unset, .unset, .unset, .unset, .unset, .unset, .unset, .unset] [(.int (3 : Int32)), (.int p1)])) (fun _ k => XS.iconst X0.here hx rfl (hb hby at_19) k) ?_
  refine go (B := s₁.setTop (mkF m 21 #[.val (.int p1), .val (.int p2), .val (.int p3), .val (.int p4), .val (.int p5), .val (.int (p1 &&& (7 : Int32))), .val (.int (p2 &&& (15 : Int32))), .val (.int (p3 &&& (15 : Int32))), .unset, .unset, .unset, .unset, .unset, .unset, .unset, .unset, .unset, .unset, .unset] [(.int ((p1.toUInt32 >>> ((3 : Int32) &&& 31).toUInt32).toInt32))])) (fun _ k => XS.iushr X0.here hx rfl (hb hby at_20) rfl k) ?_
  refine go (B := s₁.setTop (mkF m 23 #[.val (.int p1), .val (.int p2), .val (.int p3), .val (.int p4), .val (.int p5), .val (.int (p1 &&& (7 : Int32))), .val (.int (p2 &&& (15 : Int32))), .val (.int (p3 &&& (15 : Int32))), .unset, .unset, .unset, .unset, .unset, .unset, .unset, .unset, .unset, .unset, .unset] [(.int (7 : Int32)), (.int ((p1.toUInt32 >>> ((3 : Int32) &&& 31).toUInt32).toInt32))])) (fun _ k => XS.bipush X0.here hx rfl (hb hby at_21) k) ?_
  refine go (B := s₁.setTop (mkF m 24 #[.val (.int p1), .val (.int p2), .val (.int p3), .val (.int p4), .val (.int p5), .val (.int (p1 &&& (7 : Int32))), .val (.int (p2 &&& (15 : Int32))), .val (.int (p3 &&& (15 : Int32))), .unset, .unset, .unset, .unset, .unset, .unset, .unset, .unset, .unset, .unset, .unset] [(.int (((p1.toUInt32 >>> ((3 : Int32) &&& 31).toUInt32).toInt32) &&& (7 : Int32)))])) (fun _ k => XS.iand X0.here hx rfl (hb hby at_23) rfl k) ?_
  refine go (B := s₁.setTop (mkF m 26 #[.val (.int p1), .val (.int p2), .val (.int p3), .val (.int p4), .val (.int p5), .val (.int (p1 &&& (7 : Int32))), .val (.int (p2 &&& (15 : Int32))), .val (.int (p3 &&& (15 : Int32))), .val (.int (((p1.toUInt32 >>> ((3 : Int32) &&& 31).toUInt32).toInt32) &&& (7 : Int32))), .unset, .unset, .unset, .unset, .unset, .unset, .unset, .unset, .unset, .unset] [])) (fun _ k => XS.istore X0.here hx rfl (hb hby at_24) rfl (l' := #[.val (.int p1), .val (.int p2), .val (.int p3), .val (.int p4), .val (.int p5), .val (.int (p1 &&& (7 : Int32))), .val (.int (p2 &&& (15 : Int32))), .val (.int (p3 &&& (15 : Int32))), .val (.int (((p1.toUInt32 >>> ((3 : Int32) &&& 31).toUInt32).toInt32) &&& (7 : Int32))), .unset, .unset, .unset, .unset, .unset, .unset, .unset, .unset, .unset, .unset]) rfl k) ?_
  refine go (B := s₁.setTop (mkF m 27 #[.val (.int p1), .val (.int p2), .val (.int p3), .val (.int p4), .val (.int p5), .val (.int (p1 &&& (7 : Int32))), .val (.int (p2 &&& (15 : Int32))), .val (.int (p3 &&& (15 : Int32))), .val (.int (((p1.toUInt32 >>> ((3 : Int32) &&& 31).toUInt32).toInt32) &&& (7 : Int32))), .unset, .unset, .unset, .unset, .unset, .unset, .unset, .unset, .unset, .unset] [(.int p2)])) (fun _ k => XS.iloadN X0.here hx rfl (hb hby at_26) rfl k) ?_
  refine go (B := s₁.setTop (mkF m 28 #[.val (.int p1), .val (.int p2), .val (.int p3), .val (.int p4), .val (.int p5), .val (.int (p1 &&& (7 : Int32))), .val (.int (p2 &&& (15 : Int32))), .val (.int (p3 &&& (15 : Int32))), .val (.int (((p1.toUInt32 >>> ((3 : Int32) &&& 31).toUInt32).toInt32) &&& (7 : Int32))), .unset, .unset, .unset, .unset, .unset, .unset, .unset, .unset, .unset, .unset] [(.int (4 : Int32)), (.int p2)])) (fun _ k => XS.iconst X0.here hx rfl (hb hby at_27) k) ?_
  refine go (B := s₁.setTop (mkF m 29 #[.val (.int p1), .val (.int p2), .val (.int p3), .val (.int p4), .val (.int p5), .val (.int (p1 &&& (7 : Int32))), .val (.int (p2 &&& (15 : Int32))), .val (.int (p3 &&& (15 : Int32))), .val (.int (((p1.toUInt32 >>> ((3 : Int32) &&& 31).toUInt32).toInt32) &&& (7 : Int32))), .unset, .unset, .unset, .unset, .unset, .unset, .unset, .unset, .unset, .unset] [(.int ((p2.toUInt32 >>> ((4 : Int32) &&& 31).toUInt32).toInt32))])) (fun _ k => XS.iushr X0.here hx rfl (hb hby at_28) rfl k) ?_
  refine go (B := s₁.setTop (mkF m 31 #[.val (.int p1), .val (.int p2), .val (.int p3), .val (.int p4), .val (.int p5), .val (.int (p1 &&& (7 : Int32))), .val (.int (p2 &&& (15 : Int32))), .val (.int (p3 &&& (15 : Int32))), .val (.int (((p1.toUInt32 >>> ((3 : Int32) &&& 31).toUInt32).toInt32) &&& (7 : Int32))), .unset, .unset, .unset, .unset, .unset, .unset, .unset, .unset, .unset, .unset] [(.int (15 : Int32)), (.int ((p2.toUInt32 >>> ((4 : Int32) &&& 31).toUInt32).toInt32))])) (fun _ k => XS.bipush X0.here hx rfl (hb hby at_29) k) ?_
  refine go (B := s₁.setTop (mkF m 32 #[.val (.int p1), .val (.int p2), .val (.int p3), .val (.int p4), .val (.int p5), .val (.int (p1 &&& (7 : Int32))), .val (.int (p2 &&& (15 : Int32))), .val (.int (p3 &&& (15 : Int32))), .val (.int (((p1.toUInt32 >>> ((3 : Int32) &&& 31).toUInt32).toInt32) &&& (7 : Int32))), .unset, .unset, .unset, .unset, .unset, .unset, .unset, .unset, .unset, .unset] [(.int (((p2.toUInt32 >>> ((4 : Int32) &&& 31).toUInt32).toInt32) &&& (15 : Int32)))])) (fun _ k => XS.iand X0.here hx rfl (hb hby at_31) rfl k) ?_
  refine go (B := s₁.setTop (mkF m 34 #[.val (.int p1), .val (.int p2), .val (.int p3), .val (.int p4), .val (.int p5), .val (.int (p1 &&& (7 : Int32))), .val (.int (p2 &&& (15 : Int32))), .val (.int (p3 &&& (15 : Int32))), .val (.int (((p1.toUInt32 >>> ((3 : Int32) &&& 31).toUInt32).toInt32) &&& (7 : Int32))), .val (.int (((p2.toUInt32 >>> ((4 : Int32) &&& 31).toUInt32).toInt32) &&& (15 : Int32))), .unset, .unset, .unset, .unset, .unset, .unset, .unset, .unset, .unset] [])) (fun _ k => XS.istore X0.here hx rfl (hb hby at_32) rfl (l' := #[.val (.int p1), .val (.int p2), .val (.int p3), .val (.int p4), .val (.int p5), .val (.int (p1 &&& (7 : Int32))), .val (.int (p2 &&& (15 : Int32))), .val (.int (p3 &&& (15 : Int32))), .val (.int (((p1.toUInt32 >>> ((3 : Int32) &&& 31).toUInt32).toInt32) &&& (7 : Int32))), .val (.int (((p2.toUInt32 >>> ((4 : Int32) &&& 31).toUInt32).toInt32) &&& (15 : Int32))), .unset, .unset, .unset, .unset, .unset, .unset, .unset, .unset, .unset]) rfl k) ?_
  refine go (B := s₁.setTop (mkF m 35 #[.val (.int p1), .val (.int p2), .val (.int p3), .val (.int p4), .val (.int p5), .val (.int (p1 &&& (7 : Int32))), .val (.int (p2 &&& (15 : Int32))), .val (.int (p3 &&& (15 : Int32))), .val (.int (((p1.toUInt32 >>> ((3 : Int32) &&& 31).toUInt32).toInt32) &&& (7 : Int32))), .val (.int (((p2.toUInt32 >>> ((4 : Int32) &&& 31).toUInt32).toInt32) &&& (15 : Int32))), .unset, .unset, .unset, .unset, .unset, .unset, .unset, .unset, .unset] [(.int p3)])) (fun _ k => XS.iloadN X0.here hx rfl (hb hby at_34) rfl k) ?_
  refine go (B := s₁.setTop (mkF m 36 #[.val (.int p1), .val (.int p2), .val (.int p3), .val (.int p4), .val (.int p5), .val (.int (p1 &&& (7 : Int32))), .val (.int (p2 &&& (15 : Int32))), .val (.int (p3 &&& (15 : Int32))), .val (.int (((p1.toUInt32 >>> ((3 : Int32) &&& 31).toUInt32).toInt32) &&& (7 : Int32))), .val (.int (((p2.toUInt32 >>> ((4 : Int32) &&& 31).toUInt32).toInt32) &&& (15 : Int32))), .unset, .unset, .unset, .unset, .unset, .unset, .unset, .unset, .unset] [(.int (4 : Int32)), (.int p3)])) (fun _ k => XS.iconst X0.here hx rfl (hb hby at_35) k) ?_
  refine go (B := s₁.setTop (mkF m 37 #[.val (.int p1), .val (.int p2), .val (.int p3), .val (.int p4), .val (.int p5), .val (.int (p1 &&& (7 : Int32))), .val (.int (p2 &&& (15 : Int32))), .val (.int (p3 &&& (15 : Int32))), .val (.int (((p1.toUInt32 >>> ((3 : Int32) &&& 31).toUInt32).toInt32) &&& (7 : Int32))), .val (.int (((p2.toUInt32 >>> ((4 : Int32) &&& 31).toUInt32).toInt32) &&& (15 : Int32))), .unset, .unset, .unset, .unset, .unset, .unset, .unset, .unset, .unset] [(.int ((p3.toUInt32 >>> ((4 : Int32) &&& 31).toUInt32).toInt32))])) (fun _ k => XS.iushr X0.here hx rfl (hb hby at_36) rfl k) ?_
  refine go (B := s₁.setTop (mkF m 39 #[.val (.int p1), .val (.int p2), .val (.int p3), .val (.int p4), .val (.int p5), .val (.int (p1 &&& (7 : Int32))), .val (.int (p2 &&& (15 : Int32))), .val (.int (p3 &&& (15 : Int32))), .val (.int (((p1.toUInt32 >>> ((3 : Int32) &&& 31).toUInt32).toInt32) &&& (7 : Int32))), .val (.int (((p2.toUInt32 >>> ((4 : Int32) &&& 31).toUInt32).toInt32) &&& (15 : Int32))), .unset, .unset, .unset, .unset, .unset, .unset, .unset, .unset, .unset] [(.int (15 : Int32)), (.int ((p3.toUInt32 >>> ((4 : Int32) &&& 31).toUInt32).toInt32))])) (fun _ k => XS.bipush X0.here hx rfl (hb hby at_37) k) ?_
  refine go (B := s₁.setTop (mkF m 40 #[.val (.int p1), .val (.int p2), .val (.int p3), .val (.int p4), .val (.int p5), .val (.int (p1 &&& (7 : Int32))), .val (.int (p2 &&& (15 : Int32))), .val (.int (p3 &&& (15 : Int32))), .val (.int (((p1.toUInt32 >>> ((3 : Int32) &&& 31).toUInt32).toInt32) &&& (7 : Int32))), .val (.int (((p2.toUInt32 >>> ((4 : Int32) &&& 31).toUInt32).toInt32) &&& (15 : Int32))), .unset, .unset, .unset, .unset, .unset, .unset, .unset, .unset, .unset] [(.int (((p3.toUInt32 >>> ((4 : Int32) &&& 31).toUInt32).toInt32) &&& (15 : Int32)))])) (fun _ k => XS.iand X0.here hx rfl (hb hby at_39) rfl k) ?_
  refine go (B := s₁.setTop (mkF m 42 #[.val (.int p1), .val (.int p2), .val (.int p3), .val (.int p4), .val (.int p5), .val (.int (p1 &&& (7 : Int32))), .val (.int (p2 &&& (15 : Int32))), .val (.int (p3 &&& (15 : Int32))), .val (.int (((p1.toUInt32 >>> ((3 : Int32) &&& 31).toUInt32).toInt32) &&& (7 : Int32))), .val (.int (((p2.toUInt32 >>> ((4 : Int32) &&& 31).toUInt32).toInt32) &&& (15 : Int32))), .val (.int (((p3.toUInt32 >>> ((4 : Int32) &&& 31).toUInt32).toInt32) &&& (15 : Int32))), .unset, .unset, .unset, .unset, .unset, .unset, .unset, .unset] [])) (fun _ k => XS.istore X0.here hx rfl (hb hby at_40) rfl (l' := #[.val (.int p1), .val (.int p2), .val (.int p3), .val (.int p4), .val (.int p5), .val (.int (p1 &&& (7 : Int32))), .val (.int (p2 &&& (15 : Int32))), .val (.int (p3 &&& (15 : Int32))), .val (.int (((p1.toUInt32 >>> ((3 : Int32) &&& 31).toUInt32).toInt32) &&& (7 : Int32))), .val (.int (((p2.toUInt32 >>> ((4 : Int32) &&& 31).toUInt32).toInt32) &&& (15 : Int32))), .val (.int (((p3.toUInt32 >>> ((4 : Int32) &&& 31).toUInt32).toInt32) &&& (15 : Int32))), .unset, .unset, .unset, .unset, .unset, .unset, .unset, .unset]) rfl k) ?_
  obtain ⟨c1, q_c1⟩ : ∃ z, z = (p1 &&& (7 : Int32)) := ⟨_, rfl⟩
  rw [← q_c1]
  have B_c1 := m7 p1
  rw [← q_c1] at B_c1
  obtain ⟨r1, q_r1⟩ : ∃ z, z = (p2 &&& (15 : Int32)) := ⟨_, rfl⟩
  rw [← q_r1]
  have B_r1 := m15 p2
  rw [← q_r1] at B_r1
  obtain ⟨d1, q_d1⟩ : ∃ z, z = (p3 &&& (15 : Int32)) := ⟨_, rfl⟩
  rw [← q_d1]
  have B_d1 := m15 p3
  rw [← q_d1] at B_d1
  obtain ⟨c2, q_c2⟩ : ∃ z, z = (((p1.toUInt32 >>> ((3 : Int32) &&& 31).toUInt32).toInt32) &&& (7 : Int32)) := ⟨_, rfl⟩
  rw [← q_c2]
  have B_c2 := m7 ((p1.toUInt32 >>> ((3 : Int32) &&& 31).toUInt32).toInt32)
  rw [← q_c2] at B_c2
  obtain ⟨r2, q_r2⟩ : ∃ z, z = (((p2.toUInt32 >>> ((4 : Int32) &&& 31).toUInt32).toInt32) &&& (15 : Int32)) := ⟨_, rfl⟩
  rw [← q_r2]
  have B_r2 := m15 ((p2.toUInt32 >>> ((4 : Int32) &&& 31).toUInt32).toInt32)
  rw [← q_r2] at B_r2
  obtain ⟨d2, q_d2⟩ : ∃ z, z = (((p3.toUInt32 >>> ((4 : Int32) &&& 31).toUInt32).toInt32) &&& (15 : Int32)) := ⟨_, rfl⟩
  rw [← q_d2]
  have B_d2 := m15 ((p3.toUInt32 >>> ((4 : Int32) &&& 31).toUInt32).toInt32)
  rw [← q_d2] at B_d2
  obtain ⟨T1, h1, X1, e1, E1, A1, D1, -, st1⟩ := newO X0 hx hZ hown (hw _ (List.mem_of_getElem? (i := 0) rfl)) (hw _ (List.mem_of_getElem? (i := 1) rfl)) (hw _ (List.mem_of_getElem? (i := 2) rfl)) e0 (g := (mkF m 42 #[.val (.int p1), .val (.int p2), .val (.int p3), .val (.int p4), .val (.int p5), .val (.int c1), .val (.int r1), .val (.int d1), .val (.int c2), .val (.int r2), .val (.int d2), .unset, .unset, .unset, .unset, .unset, .unset, .unset, .unset] [])) rfl (hb hby at_42) (by decide) (by decide)
  obtain ⟨b1, g1⟩ : ∃ z, z = Array.size (h0) := ⟨_, rfl⟩
  rw [← g1] at A1 D1 st1
  have g_b1 : n0 ≤ b1 := Nat.le_trans Z0 (Nat.le_of_eq g1.symm)
  have Z1 : n0 ≤ h1.size := Nat.le_trans Z0 E1.1
  have F_text_b1 : Fld Z h1 b1 "com/example/zonecast/zonecast/RecordValues" "text" "[C" .null := D1 (Or.inl (hw _ (List.mem_of_getElem? (i := 11) rfl))) (ty := (.array .char)) (by decide)
  have F_ends_b1 : Fld Z h1 b1 "com/example/zonecast/zonecast/RecordValues" "ends" "[I" .null := D1 (Or.inl (hw _ (List.mem_of_getElem? (i := 14) rfl))) (ty := (.array .int)) (by decide)
  have F_digits_b1 : Fld Z h1 b1 "com/example/zonecast/zonecast/RecordValues" "digits" "[C" .null := D1 (Or.inl (hw _ (List.mem_of_getElem? (i := 16) rfl))) (ty := (.array .char)) (by decide)
  have F_size_b1 : Fld Z h1 b1 "com/example/zonecast/zonecast/RecordValues" "size" "I" (.int (0 : Int32)) := D1 (Or.inl (hw _ (List.mem_of_getElem? (i := 23) rfl))) (ty := .int) (by decide)
  refine go (B := T1.setTop (mkF m 45 #[.val (.int p1), .val (.int p2), .val (.int p3), .val (.int p4), .val (.int p5), .val (.int c1), .val (.int r1), .val (.int d1), .val (.int c2), .val (.int r2), .val (.int d2), .unset, .unset, .unset, .unset, .unset, .unset, .unset, .unset] [(.ref b1)])) (fun _ k => st1 _ k) ?_
  refine go (B := T1.setTop (mkF m 46 #[.val (.int p1), .val (.int p2), .val (.int p3), .val (.int p4), .val (.int p5), .val (.int c1), .val (.int r1), .val (.int d1), .val (.int c2), .val (.int r2), .val (.int d2), .unset, .unset, .unset, .unset, .unset, .unset, .unset, .unset] [(.ref b1), (.ref b1)])) (fun _ k => XS.dup X1.here hx rfl (hb hby at_45) rfl rfl k) ?_
  obtain ⟨_, _, ⟨T2, L2, k2, n2⟩, -, X2, ⟨Lc2, hQ2, l2, y2, z2⟩, st2⟩ := X1.specialBack hx (y := (⟨"com/example/zonecast/zonecast/RecordValues", "<init>", "()V"⟩ : MethodName)) rfl hown (mvT hZ (hw _ (List.mem_of_getElem? (i := 3) rfl))) (mvT hZ (hw _ (List.mem_of_getElem? (i := 4) rfl))) (mvT hZ (hw _ (List.mem_of_getElem? (i := 5) rfl))) (by decide) (backOf (W := 1) (rm1 l Z a0 hw [] b1 h1 n0 Z1 A1 F_text_b1 F_ends_b1 F_digits_b1 F_size_b1 g_b1) hZ (hw _ (List.mem_of_getElem? (i := 5) rfl)) (hw _ (List.mem_of_getElem? (i := 2) rfl)) (by decide) (by decide)) (g := (mkF m 46 #[.val (.int p1), .val (.int p2), .val (.int p3), .val (.int p4), .val (.int p5), .val (.int c1), .val (.int r1), .val (.int d1), .val (.int c2), .val (.int r2), .val (.int d2), .unset, .unset, .unset, .unset, .unset, .unset, .unset, .unset] [(.ref b1), (.ref b1)])) rfl (by rw [hml]; rfl) (Steps.refl _) (a := b1) (argsL := []) (rest := [(.ref b1)]) (lenOf pd___V rfl) rfl (by show 2 * 0 + _ ≤ _; exact Nat.le_of_eq rfl) (hb hby at_46) (fun _ _ => ⟨rfl, e1, (by decide : 1 + 3 ≤ _), (by decide : 4 + 0 ≤ _)⟩)
  dsimp only [Pt.U, Pt.locs, Pt.cells, Pt.slots] at X2 l2 y2 z2 st2 hQ2
  subst l2 y2 z2
  obtain ⟨rfl, N2q, t2, en2, dg2, x2, R2⟩ := hQ2
  have N2 := Fr.app N0 N2q
  have Zr2 := R2.2.2.2.2.2.2.2.2.2.2.2.2.2.2.2
  refine go (B := T2.setTop (mkF m 49 #[.val (.int p1), .val (.int p2), .val (.int p3), .val (.int p4), .val (.int p5), .val (.int c1), .val (.int r1), .val (.int d1), .val (.int c2), .val (.int r2), .val (.int d2), .unset, .unset, .unset, .unset, .unset, .unset, .unset, .unset] [(.ref b1)])) (fun _ k => st2.trans k) ?_
  refine go (B := T2.setTop (mkF m 51 #[.val (.int p1), .val (.int p2), .val (.int p3), .val (.int p4), .val (.int p5), .val (.int c1), .val (.int r1), .val (.int d1), .val (.int c2), .val (.int r2), .val (.int d2), .val (.ref b1), .unset, .unset, .unset, .unset, .unset, .unset, .unset] [])) (fun _ k => XS.astore X2.here hx rfl (hb hby at_49) rfl rfl (l' := #[.val (.int p1), .val (.int p2), .val (.int p3), .val (.int p4), .val (.int p5), .val (.int c1), .val (.int r1), .val (.int d1), .val (.int c2), .val (.int r2), .val (.int d2), .val (.ref b1), .unset, .unset, .unset, .unset, .unset, .unset, .unset]) rfl k) ?_
  refine go (B := T2.setTop (mkF m 53 #[.val (.int p1), .val (.int p2), .val (.int p3), .val (.int p4), .val (.int p5), .val (.int c1), .val (.int r1), .val (.int d1), .val (.int c2), .val (.int r2), .val (.int d2), .val (.ref b1), .unset, .unset, .unset, .unset, .unset, .unset, .unset] [(.ref b1)])) (fun _ k => XS.aload X2.here hx rfl (hb hby at_51) rfl rfl k) ?_
  refine go (B := T2.setTop (mkF m 55 #[.val (.int p1), .val (.int p2), .val (.int p3), .val (.int p4), .val (.int p5), .val (.int c1), .val (.int r1), .val (.int d1), .val (.int c2), .val (.int r2), .val (.int d2), .val (.ref b1), .unset, .unset, .unset, .unset, .unset, .unset, .unset] [(.int c1), (.ref b1)])) (fun _ k => XS.iload X2.here hx rfl (hb hby at_53) rfl k) ?_
  refine go (B := T2.setTop (mkF m 57 #[.val (.int p1), .val (.int p2), .val (.int p3), .val (.int p4), .val (.int p5), .val (.int c1), .val (.int r1), .val (.int d1), .val (.int c2), .val (.int r2), .val (.int d2), .val (.ref b1), .unset, .unset, .unset, .unset, .unset, .unset, .unset] [(.int r1), (.int c1), (.ref b1)])) (fun _ k => XS.iload X2.here hx rfl (hb hby at_55) rfl k) ?_
  refine go (B := T2.setTop (mkF m 59 #[.val (.int p1), .val (.int p2), .val (.int p3), .val (.int p4), .val (.int p5), .val (.int c1), .val (.int r1), .val (.int d1), .val (.int c2), .val (.int r2), .val (.int d2), .val (.ref b1), .unset, .unset, .unset, .unset, .unset, .unset, .unset] [(.int d1), (.int r1), (.int c1), (.ref b1)])) (fun _ k => XS.iload X2.here hx rfl (hb hby at_57) rfl k) ?_
  obtain ⟨cq3, kq3, q3a, q3b, q3c⟩ := isOf hZ rfl R2.1
  obtain ⟨_, _, ⟨T3, L3, k3, n3⟩, -, X3, ⟨Lc3, hQ3, l3, y3, z3⟩, st3⟩ := X2.virtualBack hx (y := (⟨"com/example/zonecast/zonecast/RecordValues", "clear", "(III)V"⟩ : MethodName)) (z := (⟨"com/example/zonecast/zonecast/RecordValues", "clear", "(III)V"⟩ : MethodName)) hown (mvT hZ (hw _ (List.mem_of_getElem? (i := 17) rfl))) (mvT hZ (hw _ (List.mem_of_getElem? (i := 18) rfl))) (notFace_of_selects (args := #[]) (mvT hZ (hw _ (List.mem_of_getElem? (i := 20) rfl)))) (mvT hZ (hw _ (List.mem_of_getElem? (i := 20) rfl))) (mvT hZ (hw _ (List.mem_of_getElem? (i := 19) rfl))) (by decide) (backOf (W := 0) (rm3 l Z a0 hw [] b1 c1 r1 d1 t2 en2 dg2 (0 : Int32) (0 : Int32) (0 : Int32) (0 : Int32) x2 T2.heap n0 Zr2 R2 B_c1.1 B_c1.2 B_r1.1 B_r1.2 B_d1.1 B_d1.2) hZ (hw _ (List.mem_of_getElem? (i := 21) rfl)) (hw _ (List.mem_of_getElem? (i := 2) rfl)) (by decide) (by decide)) q3a q3c (g := (mkF m 59 #[.val (.int p1), .val (.int p2), .val (.int p3), .val (.int p4), .val (.int p5), .val (.int c1), .val (.int r1), .val (.int d1), .val (.int c2), .val (.int r2), .val (.int d2), .val (.ref b1), .unset, .unset, .unset, .unset, .unset, .unset, .unset] [(.int d1), (.int r1), (.int c1), (.ref b1)])) rfl (by rw [hml]; rfl) (Steps.refl _) (argsL := [(.int c1), (.int r1), (.int d1)]) (rest := []) (lenOf pd__III_V rfl) rfl (by show 2 * 0 + _ ≤ _; exact Nat.le_of_eq rfl) (hb hby at_59) (fun _ _ => ⟨rfl, rfl, (by decide : 4 + 3 ≤ _), (by decide : 4 + 37 ≤ _)⟩)
  dsimp only [Pt.U, Pt.locs, Pt.cells, Pt.slots] at X3 l3 y3 z3 st3 hQ3
  subst l3 y3 z3
  obtain ⟨rfl, N3q, t3, en3, dg3, x3, R3, hT3, hD3, ⟨kt3, vt3, Vt3⟩, ⟨kd3, vd3, Vd3⟩⟩ := hQ3
  have N3 := Fr.app N2 N3q
  have Zr3 := R3.2.2.2.2.2.2.2.2.2.2.2.2.2.2.2
  refine go (B := T3.setTop (mkF m 62 #[.val (.int p1), .val (.int p2), .val (.int p3), .val (.int p4), .val (.int p5), .val (.int c1), .val (.int r1), .val (.int d1), .val (.int c2), .val (.int r2), .val (.int d2), .val (.ref b1), .unset, .unset, .unset, .unset, .unset, .unset, .unset] [])) (fun _ k => st3.trans k) ?_
  refine go (B := T3.setTop (mkF m 64 #[.val (.int p1), .val (.int p2), .val (.int p3), .val (.int p4), .val (.int p5), .val (.int c1), .val (.int r1), .val (.int d1), .val (.int c2), .val (.int r2), .val (.int d2), .val (.ref b1), .unset, .unset, .unset, .unset, .unset, .unset, .unset] [(.int c1)])) (fun _ k => XS.iload X3.here hx rfl (hb hby at_62) rfl k) ?_
  by_cases hc64 : (0 : Int32) < c1
  · refine go (B := T3.setTop (mkF m 67 #[.val (.int p1), .val (.int p2), .val (.int p3), .val (.int p4), .val (.int p5), .val (.int c1), .val (.int r1), .val (.int d1), .val (.int c2), .val (.int r2), .val (.int d2), .val (.ref b1), .unset, .unset, .unset, .unset, .unset, .unset, .unset] [])) (fun _ k => XS.ifNo X3.here hx rfl (hb hby at_64) rfl ((if0 _ _).trans (tlt hc64).2.2.2) k) ?_
    refine go (B := T3.setTop (mkF m 69 #[.val (.int p1), .val (.int p2), .val (.int p3), .val (.int p4), .val (.int p5), .val (.int c1), .val (.int r1), .val (.int d1), .val (.int c2), .val (.int r2), .val (.int d2), .val (.ref b1), .unset, .unset, .unset, .unset, .unset, .unset, .unset] [(.ref b1)])) (fun _ k => XS.aload X3.here hx rfl (hb hby at_67) rfl rfl k) ?_
    refine go (B := T3.setTop (mkF m 70 #[.val (.int p1), .val (.int p2), .val (.int p3), .val (.int p4), .val (.int p5), .val (.int c1), .val (.int r1), .val (.int d1), .val (.int c2), .val (.int r2), .val (.int d2), .val (.ref b1), .unset, .unset, .unset, .unset, .unset, .unset, .unset] [(.int p4), (.ref b1)])) (fun _ k => XS.iloadN X3.here hx rfl (hb hby at_69) rfl k) ?_
    obtain ⟨cq4, kq4, q4a, q4b, q4c⟩ := isOf hZ rfl R3.1
    obtain ⟨_, _, ⟨T4, L4, k4, n4⟩, -, X4, ⟨Lc4, hQ4, l4, y4, z4⟩, st4⟩ := X3.virtualBack hx (y := (⟨"com/example/zonecast/zonecast/RecordValues", "add", "(I)V"⟩ : MethodName)) (z := (⟨"com/example/zonecast/zonecast/RecordValues", "add", "(I)V"⟩ : MethodName)) hown (mvT hZ (hw _ (List.mem_of_getElem? (i := 44) rfl))) (mvT hZ (hw _ (List.mem_of_getElem? (i := 45) rfl))) (notFace_of_selects (args := #[]) (mvT hZ (hw _ (List.mem_of_getElem? (i := 47) rfl)))) (mvT hZ (hw _ (List.mem_of_getElem? (i := 47) rfl))) (mvT hZ (hw _ (List.mem_of_getElem? (i := 46) rfl))) (by decide) (backOf (W := 0) (rm8 l Z a0 hw [] b1 p4 t3 en3 dg3 (0 : Int32) (mx (0 : Int32) r1) (mx (0 : Int32) c1) (mx (0 : Int32) d1) x3 T3.heap n0 Zr3 R3 (by decide +kernel) (by have f1 := mx_int (0 : Int32) c1; have f2 := mx_int (mx (0 : Int32) c1) c2; have f3 := B_c1; have f4 := B_c2; have f5 := z0; have f6 := z1; have g : ((0 : Int32)).toInt = 0 := (by decide +kernel); simp only [Int32.lt_iff_toInt_lt, z0, z1, z2] at hc64; omega)) hZ (hw _ (List.mem_of_getElem? (i := 48) rfl)) (hw _ (List.mem_of_getElem? (i := 2) rfl)) (by decide) (by decide)) q4a q4c (g := (mkF m 70 #[.val (.int p1), .val (.int p2), .val (.int p3), .val (.int p4), .val (.int p5), .val (.int c1), .val (.int r1), .val (.int d1), .val (.int c2), .val (.int r2), .val (.int d2), .val (.ref b1), .unset, .unset, .unset, .unset, .unset, .unset, .unset] [(.int p4), (.ref b1)])) rfl (by rw [hml]; rfl) (Steps.refl _) (argsL := [(.int p4)]) (rest := []) (lenOf pd__I_V rfl) rfl (by show 2 * 0 + _ ≤ _; exact Nat.le_of_eq rfl) (hb hby at_70) (fun _ _ => ⟨rfl, rfl, (by decide : 7 + 0 ≤ _), (by decide : 41 + 0 ≤ _)⟩)
    dsimp only [Pt.U, Pt.locs, Pt.cells, Pt.slots] at X4 l4 y4 z4 st4 hQ4
    subst l4 y4 z4
    obtain ⟨rfl, N4q, R4⟩ := hQ4
    have N4 := Fr.app N3 N4q
    have Zr4 := R4.2.2.2.2.2.2.2.2.2.2.2.2.2.2.2
    refine go (B := T4.setTop (mkF m 73 #[.val (.int p1), .val (.int p2), .val (.int p3), .val (.int p4), .val (.int p5), .val (.int c1), .val (.int r1), .val (.int d1), .val (.int c2), .val (.int r2), .val (.int d2), .val (.ref b1), .unset, .unset, .unset, .unset, .unset, .unset, .unset] [])) (fun _ k => st4.trans k) ?_
    refine go (B := T4.setTop (mkF m 75 #[.val (.int p1), .val (.int p2), .val (.int p3), .val (.int p4), .val (.int p5), .val (.int c1), .val (.int r1), .val (.int d1), .val (.int c2), .val (.int r2), .val (.int d2), .val (.ref b1), .unset, .unset, .unset, .unset, .unset, .unset, .unset] [(.ref b1)])) (fun _ k => XS.aload X4.here hx rfl (hb hby at_73) rfl rfl k) ?_
    obtain ⟨cq5, kq5, q5a, q5b, q5c⟩ := isOf hZ rfl R4.1
    obtain ⟨_, _, ⟨T5, L5, k5, n5⟩, -, X5, ⟨Lc5, hQ5, l5, y5, z5⟩, st5⟩ := X4.virtualBack hx (y := (⟨"com/example/zonecast/zonecast/RecordValues", "text", "()[C"⟩ : MethodName)) (z := (⟨"com/example/zonecast/zonecast/RecordValues", "text", "()[C"⟩ : MethodName)) hown (mvT hZ (hw _ (List.mem_of_getElem? (i := 24) rfl))) (mvT hZ (hw _ (List.mem_of_getElem? (i := 25) rfl))) (notFace_of_selects (args := #[]) (mvT hZ (hw _ (List.mem_of_getElem? (i := 27) rfl)))) (mvT hZ (hw _ (List.mem_of_getElem? (i := 27) rfl))) (mvT hZ (hw _ (List.mem_of_getElem? (i := 26) rfl))) (by decide) (backOf (W := 0) (rm4 l Z a0 hw [] b1 t3 T4.heap n0 Zr4 R4.2.1) hZ (hw _ (List.mem_of_getElem? (i := 28) rfl)) (hw _ (List.mem_of_getElem? (i := 2) rfl)) (by decide) (by decide)) q5a q5c (g := (mkF m 75 #[.val (.int p1), .val (.int p2), .val (.int p3), .val (.int p4), .val (.int p5), .val (.int c1), .val (.int r1), .val (.int d1), .val (.int c2), .val (.int r2), .val (.int d2), .val (.ref b1), .unset, .unset, .unset, .unset, .unset, .unset, .unset] [(.ref b1)])) rfl (by rw [hml]; rfl) (Steps.refl _) (argsL := []) (rest := []) (lenOf pd____C rfl) rfl (by show 2 * 0 + _ ≤ _; exact Nat.le_of_eq rfl) (hb hby at_75) (fun _ _ => ⟨rfl, rfl, (by decide : 7 + 0 ≤ _), (by decide : 41 + 0 ≤ _)⟩)
    dsimp only [Pt.U, Pt.locs, Pt.cells, Pt.slots] at X5 l5 y5 z5 st5 hQ5
    subst l5 y5 z5
    obtain ⟨rfl, N5q, e5⟩ := hQ5
    have N5 := Fr.app N4 N5q
    refine go (B := T5.setTop (mkF m 78 #[.val (.int p1), .val (.int p2), .val (.int p3), .val (.int p4), .val (.int p5), .val (.int c1), .val (.int r1), .val (.int d1), .val (.int c2), .val (.int r2), .val (.int d2), .val (.ref b1), .unset, .unset, .unset, .unset, .unset, .unset, .unset] [(.ref t3)])) (fun _ k => st5.trans k) ?_
    refine go (B := T5.setTop (mkF m 80 #[.val (.int p1), .val (.int p2), .val (.int p3), .val (.int p4), .val (.int p5), .val (.int c1), .val (.int r1), .val (.int d1), .val (.int c2), .val (.int r2), .val (.int d2), .val (.ref b1), .val (.ref t3), .unset, .unset, .unset, .unset, .unset, .unset] [])) (fun _ k => XS.astore X5.here hx rfl (hb hby at_78) rfl rfl (l' := #[.val (.int p1), .val (.int p2), .val (.int p3), .val (.int p4), .val (.int p5), .val (.int c1), .val (.int r1), .val (.int d1), .val (.int c2), .val (.int r2), .val (.int d2), .val (.ref b1), .val (.ref t3), .unset, .unset, .unset, .unset, .unset, .unset]) rfl k) ?_
    refine go (B := T5.setTop (mkF m 82 #[.val (.int p1), .val (.int p2), .val (.int p3), .val (.int p4), .val (.int p5), .val (.int c1), .val (.int r1), .val (.int d1), .val (.int c2), .val (.int r2), .val (.int d2), .val (.ref b1), .val (.ref t3), .unset, .unset, .unset, .unset, .unset, .unset] [(.ref b1)])) (fun _ k => XS.aload X5.here hx rfl (hb hby at_80) rfl rfl k) ?_
    obtain ⟨cq6, kq6, q6a, q6b, q6c⟩ := isOf hZ e5 R4.1
    obtain ⟨_, _, ⟨T6, L6, k6, n6⟩, -, X6, ⟨Lc6, hQ6, l6, y6, z6⟩, st6⟩ := X5.virtualBack hx (y := (⟨"com/example/zonecast/zonecast/RecordValues", "digits", "()[C"⟩ : MethodName)) (z := (⟨"com/example/zonecast/zonecast/RecordValues", "digits", "()[C"⟩ : MethodName)) hown (mvT hZ (hw _ (List.mem_of_getElem? (i := 29) rfl))) (mvT hZ (hw _ (List.mem_of_getElem? (i := 30) rfl))) (notFace_of_selects (args := #[]) (mvT hZ (hw _ (List.mem_of_getElem? (i := 32) rfl)))) (mvT hZ (hw _ (List.mem_of_getElem? (i := 32) rfl))) (mvT hZ (hw _ (List.mem_of_getElem? (i := 31) rfl))) (by decide) (backOf (W := 0) (rm5 l Z a0 hw [] b1 dg3 T4.heap n0 Zr4 R4.2.2.2.1) hZ (hw _ (List.mem_of_getElem? (i := 33) rfl)) (hw _ (List.mem_of_getElem? (i := 2) rfl)) (by decide) (by decide)) q6a q6c (g := (mkF m 82 #[.val (.int p1), .val (.int p2), .val (.int p3), .val (.int p4), .val (.int p5), .val (.int c1), .val (.int r1), .val (.int d1), .val (.int c2), .val (.int r2), .val (.int d2), .val (.ref b1), .val (.ref t3), .unset, .unset, .unset, .unset, .unset, .unset] [(.ref b1)])) rfl (by rw [hml]; rfl) (Steps.refl _) (argsL := []) (rest := []) (lenOf pd____C rfl) rfl (by show 2 * 0 + _ ≤ _; exact Nat.le_of_eq rfl) (hb hby at_82) (fun _ _ => ⟨rfl, e5, (by decide : 7 + 0 ≤ _), (by decide : 41 + 0 ≤ _)⟩)
    dsimp only [Pt.U, Pt.locs, Pt.cells, Pt.slots] at X6 l6 y6 z6 st6 hQ6
    subst l6 y6 z6
    obtain ⟨rfl, N6q, e6⟩ := hQ6
    have N6 := Fr.app N5 N6q
    refine go (B := T6.setTop (mkF m 85 #[.val (.int p1), .val (.int p2), .val (.int p3), .val (.int p4), .val (.int p5), .val (.int c1), .val (.int r1), .val (.int d1), .val (.int c2), .val (.int r2), .val (.int d2), .val (.ref b1), .val (.ref t3), .unset, .unset, .unset, .unset, .unset, .unset] [(.ref dg3)])) (fun _ k => st6.trans k) ?_
    refine go (B := T6.setTop (mkF m 87 #[.val (.int p1), .val (.int p2), .val (.int p3), .val (.int p4), .val (.int p5), .val (.int c1), .val (.int r1), .val (.int d1), .val (.int c2), .val (.int r2), .val (.int d2), .val (.ref b1), .val (.ref t3), .val (.ref dg3), .unset, .unset, .unset, .unset, .unset] [])) (fun _ k => XS.astore X6.here hx rfl (hb hby at_85) rfl rfl (l' := #[.val (.int p1), .val (.int p2), .val (.int p3), .val (.int p4), .val (.int p5), .val (.int c1), .val (.int r1), .val (.int d1), .val (.int c2), .val (.int r2), .val (.int d2), .val (.ref b1), .val (.ref t3), .val (.ref dg3), .unset, .unset, .unset, .unset, .unset]) rfl k) ?_
    refine go (B := T6.setTop (mkF m 89 #[.val (.int p1), .val (.int p2), .val (.int p3), .val (.int p4), .val (.int p5), .val (.int c1), .val (.int r1), .val (.int d1), .val (.int c2), .val (.int r2), .val (.int d2), .val (.ref b1), .val (.ref t3), .val (.ref dg3), .unset, .unset, .unset, .unset, .unset] [(.ref b1)])) (fun _ k => XS.aload X6.here hx rfl (hb hby at_87) rfl rfl k) ?_
    refine go (B := T6.setTop (mkF m 91 #[.val (.int p1), .val (.int p2), .val (.int p3), .val (.int p4), .val (.int p5), .val (.int c1), .val (.int r1), .val (.int d1), .val (.int c2), .val (.int r2), .val (.int d2), .val (.ref b1), .val (.ref t3), .val (.ref dg3), .unset, .unset, .unset, .unset, .unset] [(.int c2), (.ref b1)])) (fun _ k => XS.iload X6.here hx rfl (hb hby at_89) rfl k) ?_
    refine go (B := T6.setTop (mkF m 93 #[.val (.int p1), .val (.int p2), .val (.int p3), .val (.int p4), .val (.int p5), .val (.int c1), .val (.int r1), .val (.int d1), .val (.int c2), .val (.int r2), .val (.int d2), .val (.ref b1), .val (.ref t3), .val (.ref dg3), .unset, .unset, .unset, .unset, .unset] [(.int r2), (.int c2), (.ref b1)])) (fun _ k => XS.iload X6.here hx rfl (hb hby at_91) rfl k) ?_
    refine go (B := T6.setTop (mkF m 95 #[.val (.int p1), .val (.int p2), .val (.int p3), .val (.int p4), .val (.int p5), .val (.int c1), .val (.int r1), .val (.int d1), .val (.int c2), .val (.int r2), .val (.int d2), .val (.ref b1), .val (.ref t3), .val (.ref dg3), .unset, .unset, .unset, .unset, .unset] [(.int d2), (.int r2), (.int c2), (.ref b1)])) (fun _ k => XS.iload X6.here hx rfl (hb hby at_93) rfl k) ?_
    obtain ⟨cq7, kq7, q7a, q7b, q7c⟩ := isOf hZ e6 R4.1
    obtain ⟨_, _, ⟨T7, L7, k7, n7⟩, -, X7, ⟨Lc7, hQ7, l7, y7, z7⟩, st7⟩ := X6.virtualBack hx (y := (⟨"com/example/zonecast/zonecast/RecordValues", "clear", "(III)V"⟩ : MethodName)) (z := (⟨"com/example/zonecast/zonecast/RecordValues", "clear", "(III)V"⟩ : MethodName)) hown (mvT hZ (hw _ (List.mem_of_getElem? (i := 17) rfl))) (mvT hZ (hw _ (List.mem_of_getElem? (i := 18) rfl))) (notFace_of_selects (args := #[]) (mvT hZ (hw _ (List.mem_of_getElem? (i := 20) rfl)))) (mvT hZ (hw _ (List.mem_of_getElem? (i := 20) rfl))) (mvT hZ (hw _ (List.mem_of_getElem? (i := 19) rfl))) (by decide) (backOf (W := 0) (rm3 l Z a0 hw [] b1 c2 r2 d2 t3 en3 dg3 ((0 : Int32) + (1 : Int32)) (mx (0 : Int32) r1) (mx (0 : Int32) c1) (mx (0 : Int32) d1) p4 T4.heap n0 Zr4 R4 B_c2.1 B_c2.2 B_r2.1 B_r2.2 B_d2.1 B_d2.2) hZ (hw _ (List.mem_of_getElem? (i := 21) rfl)) (hw _ (List.mem_of_getElem? (i := 2) rfl)) (by decide) (by decide)) q7a q7c (g := (mkF m 95 #[.val (.int p1), .val (.int p2), .val (.int p3), .val (.int p4), .val (.int p5), .val (.int c1), .val (.int r1), .val (.int d1), .val (.int c2), .val (.int r2), .val (.int d2), .val (.ref b1), .val (.ref t3), .val (.ref dg3), .unset, .unset, .unset, .unset, .unset] [(.int d2), (.int r2), (.int c2), (.ref b1)])) rfl (by rw [hml]; rfl) (Steps.refl _) (argsL := [(.int c2), (.int r2), (.int d2)]) (rest := []) (lenOf pd__III_V rfl) rfl (by show 2 * 0 + _ ≤ _; exact Nat.le_of_eq rfl) (hb hby at_95) (fun _ _ => ⟨rfl, e6, (by decide : 7 + 3 ≤ _), (by decide : 41 + 37 ≤ _)⟩)
    dsimp only [Pt.U, Pt.locs, Pt.cells, Pt.slots] at X7 l7 y7 z7 st7 hQ7
    subst l7 y7 z7
    obtain ⟨rfl, N7q, t7, en7, dg7, x7, R7, hT7, hD7, ⟨kt7, vt7, Vt7⟩, ⟨kd7, vd7, Vd7⟩⟩ := hQ7
    have N7 := Fr.app N6 N7q
    have Zr7 := R7.2.2.2.2.2.2.2.2.2.2.2.2.2.2.2
    refine go (B := T7.setTop (mkF m 98 #[.val (.int p1), .val (.int p2), .val (.int p3), .val (.int p4), .val (.int p5), .val (.int c1), .val (.int r1), .val (.int d1), .val (.int c2), .val (.int r2), .val (.int d2), .val (.ref b1), .val (.ref t3), .val (.ref dg3), .unset, .unset, .unset, .unset, .unset] [])) (fun _ k => st7.trans k) ?_
    refine go (B := T7.setTop (mkF m 100 #[.val (.int p1), .val (.int p2), .val (.int p3), .val (.int p4), .val (.int p5), .val (.int c1), .val (.int r1), .val (.int d1), .val (.int c2), .val (.int r2), .val (.int d2), .val (.ref b1), .val (.ref t3), .val (.ref dg3), .unset, .unset, .unset, .unset, .unset] [(.ref b1)])) (fun _ k => XS.aload X7.here hx rfl (hb hby at_98) rfl rfl k) ?_
    obtain ⟨cq8, kq8, q8a, q8b, q8c⟩ := isOf hZ rfl R7.1
    obtain ⟨_, _, ⟨T8, L8, k8, n8⟩, -, X8, ⟨Lc8, hQ8, l8, y8, z8⟩, st8⟩ := X7.virtualBack hx (y := (⟨"com/example/zonecast/zonecast/RecordValues", "text", "()[C"⟩ : MethodName)) (z := (⟨"com/example/zonecast/zonecast/RecordValues", "text", "()[C"⟩ : MethodName)) hown (mvT hZ (hw _ (List.mem_of_getElem? (i := 24) rfl))) (mvT hZ (hw _ (List.mem_of_getElem? (i := 25) rfl))) (notFace_of_selects (args := #[]) (mvT hZ (hw _ (List.mem_of_getElem? (i := 27) rfl)))) (mvT hZ (hw _ (List.mem_of_getElem? (i := 27) rfl))) (mvT hZ (hw _ (List.mem_of_getElem? (i := 26) rfl))) (by decide) (backOf (W := 0) (rm4 l Z a0 hw [] b1 t7 T7.heap n0 Zr7 R7.2.1) hZ (hw _ (List.mem_of_getElem? (i := 28) rfl)) (hw _ (List.mem_of_getElem? (i := 2) rfl)) (by decide) (by decide)) q8a q8c (g := (mkF m 100 #[.val (.int p1), .val (.int p2), .val (.int p3), .val (.int p4), .val (.int p5), .val (.int c1), .val (.int r1), .val (.int d1), .val (.int c2), .val (.int r2), .val (.int d2), .val (.ref b1), .val (.ref t3), .val (.ref dg3), .unset, .unset, .unset, .unset, .unset] [(.ref b1)])) rfl (by rw [hml]; rfl) (Steps.refl _) (argsL := []) (rest := []) (lenOf pd____C rfl) rfl (by show 2 * 0 + _ ≤ _; exact Nat.le_of_eq rfl) (hb hby at_100) (fun _ _ => ⟨rfl, rfl, (by decide : 10 + 0 ≤ _), (by decide : 78 + 0 ≤ _)⟩)
    dsimp only [Pt.U, Pt.locs, Pt.cells, Pt.slots] at X8 l8 y8 z8 st8 hQ8
    subst l8 y8 z8
    obtain ⟨rfl, N8q, e8⟩ := hQ8
    have N8 := Fr.app N7 N8q
    refine go (B := T8.setTop (mkF m 103 #[.val (.int p1), .val (.int p2), .val (.int p3), .val (.int p4), .val (.int p5), .val (.int c1), .val (.int r1), .val (.int d1), .val (.int c2), .val (.int r2), .val (.int d2), .val (.ref b1), .val (.ref t3), .val (.ref dg3), .unset, .unset, .unset, .unset, .unset] [(.ref t7)])) (fun _ k => st8.trans k) ?_
    refine go (B := T8.setTop (mkF m 105 #[.val (.int p1), .val (.int p2), .val (.int p3), .val (.int p4), .val (.int p5), .val (.int c1), .val (.int r1), .val (.int d1), .val (.int c2), .val (.int r2), .val (.int d2), .val (.ref b1), .val (.ref t3), .val (.ref dg3), .val (.ref t7), .unset, .unset, .unset, .unset] [])) (fun _ k => XS.astore X8.here hx rfl (hb hby at_103) rfl rfl (l' := #[.val (.int p1), .val (.int p2), .val (.int p3), .val (.int p4), .val (.int p5), .val (.int c1), .val (.int r1), .val (.int d1), .val (.int c2), .val (.int r2), .val (.int d2), .val (.ref b1), .val (.ref t3), .val (.ref dg3), .val (.ref t7), .unset, .unset, .unset, .unset]) rfl k) ?_
    refine go (B := T8.setTop (mkF m 107 #[.val (.int p1), .val (.int p2), .val (.int p3), .val (.int p4), .val (.int p5), .val (.int c1), .val (.int r1), .val (.int d1), .val (.int c2), .val (.int r2), .val (.int d2), .val (.ref b1), .val (.ref t3), .val (.ref dg3), .val (.ref t7), .unset, .unset, .unset, .unset] [(.ref b1)])) (fun _ k => XS.aload X8.here hx rfl (hb hby at_105) rfl rfl k) ?_
    obtain ⟨cq9, kq9, q9a, q9b, q9c⟩ := isOf hZ e8 R7.1
    obtain ⟨_, _, ⟨T9, L9, k9, n9⟩, -, X9, ⟨Lc9, hQ9, l9, y9, z9⟩, st9⟩ := X8.virtualBack hx (y := (⟨"com/example/zonecast/zonecast/RecordValues", "digits", "()[C"⟩ : MethodName)) (z := (⟨"com/example/zonecast/zonecast/RecordValues", "digits", "()[C"⟩ : MethodName)) hown (mvT hZ (hw _ (List.mem_of_getElem? (i := 29) rfl))) (mvT hZ (hw _ (List.mem_of_getElem? (i := 30) rfl))) (notFace_of_selects (args := #[]) (mvT hZ (hw _ (List.mem_of_getElem? (i := 32) rfl)))) (mvT hZ (hw _ (List.mem_of_getElem? (i := 32) rfl))) (mvT hZ (hw _ (List.mem_of_getElem? (i := 31) rfl))) (by decide) (backOf (W := 0) (rm5 l Z a0 hw [] b1 dg7 T7.heap n0 Zr7 R7.2.2.2.1) hZ (hw _ (List.mem_of_getElem? (i := 33) rfl)) (hw _ (List.mem_of_getElem? (i := 2) rfl)) (by decide) (by decide)) q9a q9c (g := (mkF m 107 #[.val (.int p1), .val (.int p2), .val (.int p3), .val (.int p4), .val (.int p5), .val (.int c1), .val (.int r1), .val (.int d1), .val (.int c2), .val (.int r2), .val (.int d2), .val (.ref b1), .val (.ref t3), .val (.ref dg3), .val (.ref t7), .unset, .unset, .unset, .unset] [(.ref b1)])) rfl (by rw [hml]; rfl) (Steps.refl _) (argsL := []) (rest := []) (lenOf pd____C rfl) rfl (by show 2 * 0 + _ ≤ _; exact Nat.le_of_eq rfl) (hb hby at_107) (fun _ _ => ⟨rfl, e8, (by decide : 10 + 0 ≤ _), (by decide : 78 + 0 ≤ _)⟩)
    dsimp only [Pt.U, Pt.locs, Pt.cells, Pt.slots] at X9 l9 y9 z9 st9 hQ9
    subst l9 y9 z9
    obtain ⟨rfl, N9q, e9⟩ := hQ9
    have N9 := Fr.app N8 N9q
    refine go (B := T9.setTop (mkF m 110 #[.val (.int p1), .val (.int p2), .val (.int p3), .val (.int p4), .val (.int p5), .val (.int c1), .val (.int r1), .val (.int d1), .val (.int c2), .val (.int r2), .val (.int d2), .val (.ref b1), .val (.ref t3), .val (.ref dg3), .val (.ref t7), .unset, .unset, .unset, .unset] [(.ref dg7)])) (fun _ k => st9.trans k) ?_
    refine go (B := T9.setTop (mkF m 112 #[.val (.int p1), .val (.int p2), .val (.int p3), .val (.int p4), .val (.int p5), .val (.int c1), .val (.int r1), .val (.int d1), .val (.int c2), .val (.int r2), .val (.int d2), .val (.ref b1), .val (.ref t3), .val (.ref dg3), .val (.ref t7), .val (.ref dg7), .unset, .unset, .unset] [])) (fun _ k => XS.astore X9.here hx rfl (hb hby at_110) rfl rfl (l' := #[.val (.int p1), .val (.int p2), .val (.int p3), .val (.int p4), .val (.int p5), .val (.int c1), .val (.int r1), .val (.int d1), .val (.int c2), .val (.int r2), .val (.int d2), .val (.ref b1), .val (.ref t3), .val (.ref dg3), .val (.ref t7), .val (.ref dg7), .unset, .unset, .unset]) rfl k) ?_
    refine go (B := T9.setTop (mkF m 114 #[.val (.int p1), .val (.int p2), .val (.int p3), .val (.int p4), .val (.int p5), .val (.int c1), .val (.int r1), .val (.int d1), .val (.int c2), .val (.int r2), .val (.int d2), .val (.ref b1), .val (.ref t3), .val (.ref dg3), .val (.ref t7), .val (.ref dg7), .unset, .unset, .unset] [(.ref t3)])) (fun _ k => XS.aload X9.here hx rfl (hb hby at_112) rfl rfl k) ?_
    have Vc10 := Vt7
    obtain ⟨cl10, Ar10, -, S10, N10_, -, -⟩ := Vc10
    refine go (B := T9.setTop (mkF m 115 #[.val (.int p1), .val (.int p2), .val (.int p3), .val (.int p4), .val (.int p5), .val (.int c1), .val (.int r1), .val (.int d1), .val (.int c2), .val (.int r2), .val (.int d2), .val (.ref b1), .val (.ref t3), .val (.ref dg3), .val (.ref t7), .val (.ref dg7), .unset, .unset, .unset] [(.int (mx (0 : Int32) r1))])) (fun _ k => X9.arraylength hx (by rw [e9]; exact Ar10.1) (State.isArrayOf_alike hZ.alike Ar10.2.1) (g := (mkF m 114 #[.val (.int p1), .val (.int p2), .val (.int p3), .val (.int p4), .val (.int p5), .val (.int c1), .val (.int r1), .val (.int d1), .val (.int c2), .val (.int r2), .val (.int d2), .val (.ref b1), .val (.ref t3), .val (.ref dg3), .val (.ref t7), .val (.ref dg7), .unset, .unset, .unset] [(.ref t3)])) rfl rfl (hb hby at_114) _ (by rw [len_of S10 N10_]; exact k)) ?_
    refine go (B := T9.setTop (mkF m 117 #[.val (.int p1), .val (.int p2), .val (.int p3), .val (.int p4), .val (.int p5), .val (.int c1), .val (.int r1), .val (.int d1), .val (.int c2), .val (.int r2), .val (.int d2), .val (.ref b1), .val (.ref t3), .val (.ref dg3), .val (.ref t7), .val (.ref dg7), .unset, .unset, .unset] [(.int r1), (.int (mx (0 : Int32) r1))])) (fun _ k => XS.iload X9.here hx rfl (hb hby at_115) rfl k) ?_
    have hc117 : ¬ ((mx (0 : Int32) r1) < r1) := (fun q => by rw [Int32.lt_iff_toInt_lt] at q; have g1 := mx_int (0 : Int32) r1; omega)
    refine go (B := T9.setTop (mkF m 120 #[.val (.int p1), .val (.int p2), .val (.int p3), .val (.int p4), .val (.int p5), .val (.int c1), .val (.int r1), .val (.int d1), .val (.int c2), .val (.int r2), .val (.int d2), .val (.ref b1), .val (.ref t3), .val (.ref dg3), .val (.ref t7), .val (.ref dg7), .unset, .unset, .unset] [])) (fun _ k => XS.icmpNo X9.here hx rfl (hb hby at_117) rfl (flt hc117).1 k) ?_
    refine go (B := T9.setTop (mkF m 122 #[.val (.int p1), .val (.int p2), .val (.int p3), .val (.int p4), .val (.int p5), .val (.int c1), .val (.int r1), .val (.int d1), .val (.int c2), .val (.int r2), .val (.int d2), .val (.ref b1), .val (.ref t3), .val (.ref dg3), .val (.ref t7), .val (.ref dg7), .unset, .unset, .unset] [(.ref dg3)])) (fun _ k => XS.aload X9.here hx rfl (hb hby at_120) rfl rfl k) ?_
    have Vc11 := Vd7
    obtain ⟨cl11, Ar11, -, S11, N11_, -, -⟩ := Vc11
    refine go (B := T9.setTop (mkF m 123 #[.val (.int p1), .val (.int p2), .val (.int p3), .val (.int p4), .val (.int p5), .val (.int c1), .val (.int r1), .val (.int d1), .val (.int c2), .val (.int r2), .val (.int d2), .val (.ref b1), .val (.ref t3), .val (.ref dg3), .val (.ref t7), .val (.ref dg7), .unset, .unset, .unset] [(.int (mx (0 : Int32) d1))])) (fun _ k => X9.arraylength hx (by rw [e9]; exact Ar11.1) (State.isArrayOf_alike hZ.alike Ar11.2.1) (g := (mkF m 122 #[.val (.int p1), .val (.int p2), .val (.int p3), .val (.int p4), .val (.int p5), .val (.int c1), .val (.int r1), .val (.int d1), .val (.int c2), .val (.int r2), .val (.int d2), .val (.ref b1), .val (.ref t3), .val (.ref dg3), .val (.ref t7), .val (.ref dg7), .unset, .unset, .unset] [(.ref dg3)])) rfl rfl (hb hby at_122) _ (by rw [len_of S11 N11_]; exact k)) ?_
    refine go (B := T9.setTop (mkF m 125 #[.val (.int p1), .val (.int p2), .val (.int p3), .val (.int p4), .val (.int p5), .val (.int c1), .val (.int r1), .val (.int d1), .val (.int c2), .val (.int r2), .val (.int d2), .val (.ref b1), .val (.ref t3), .val (.ref dg3), .val (.ref t7), .val (.ref dg7), .unset, .unset, .unset] [(.int d1), (.int (mx (0 : Int32) d1))])) (fun _ k => XS.iload X9.here hx rfl (hb hby at_123) rfl k) ?_
    have hc125 : ¬ ((mx (0 : Int32) d1) < d1) := (fun q => by rw [Int32.lt_iff_toInt_lt] at q; have g1 := mx_int (0 : Int32) d1; omega)
    refine go (B := T9.setTop (mkF m 128 #[.val (.int p1), .val (.int p2), .val (.int p3), .val (.int p4), .val (.int p5), .val (.int c1), .val (.int r1), .val (.int d1), .val (.int c2), .val (.int r2), .val (.int d2), .val (.ref b1), .val (.ref t3), .val (.ref dg3), .val (.ref t7), .val (.ref dg7), .unset, .unset, .unset] [])) (fun _ k => XS.icmpNo X9.here hx rfl (hb hby at_125) rfl (flt hc125).1 k) ?_
    refine go (B := T9.setTop (mkF m 129 #[.val (.int p1), .val (.int p2), .val (.int p3), .val (.int p4), .val (.int p5), .val (.int c1), .val (.int r1), .val (.int d1), .val (.int c2), .val (.int r2), .val (.int d2), .val (.ref b1), .val (.ref t3), .val (.ref dg3), .val (.ref t7), .val (.ref dg7), .unset, .unset, .unset] [(.int (1 : Int32))])) (fun _ k => XS.iconst X9.here hx rfl (hb hby at_128) k) ?_
    refine go (B := T9.setTop (mkF m 133 #[.val (.int p1), .val (.int p2), .val (.int p3), .val (.int p4), .val (.int p5), .val (.int c1), .val (.int r1), .val (.int d1), .val (.int c2), .val (.int r2), .val (.int d2), .val (.ref b1), .val (.ref t3), .val (.ref dg3), .val (.ref t7), .val (.ref dg7), .unset, .unset, .unset] [(.int (1 : Int32))])) (fun _ k => XS.goto X9.here hx rfl (pc0 := 129) (pc' := 133) rfl (hb hby at_129) (by decide) (by decide) k) ?_
    refine go (B := T9.setTop (mkF m 135 #[.val (.int p1), .val (.int p2), .val (.int p3), .val (.int p4), .val (.int p5), .val (.int c1), .val (.int r1), .val (.int d1), .val (.int c2), .val (.int r2), .val (.int d2), .val (.ref b1), .val (.ref t3), .val (.ref dg3), .val (.ref t7), .val (.ref dg7), .val (.int (1 : Int32)), .unset, .unset] [])) (fun _ k => XS.istore X9.here hx rfl (hb hby at_133) rfl (l' := #[.val (.int p1), .val (.int p2), .val (.int p3), .val (.int p4), .val (.int p5), .val (.int c1), .val (.int r1), .val (.int d1), .val (.int c2), .val (.int r2), .val (.int d2), .val (.ref b1), .val (.ref t3), .val (.ref dg3), .val (.ref t7), .val (.ref dg7), .val (.int (1 : Int32)), .unset, .unset]) rfl k) ?_
    refine go (B := T9.setTop (mkF m 137 #[.val (.int p1), .val (.int p2), .val (.int p3), .val (.int p4), .val (.int p5), .val (.int c1), .val (.int r1), .val (.int d1), .val (.int c2), .val (.int r2), .val (.int d2), .val (.ref b1), .val (.ref t3), .val (.ref dg3), .val (.ref t7), .val (.ref dg7), .val (.int (1 : Int32)), .unset, .unset] [(.int (1 : Int32))])) (fun _ k => XS.iload X9.here hx rfl (hb hby at_135) rfl k) ?_
    have hc137 : ¬ ((1 : Int32) = (0 : Int32)) := by decide
    refine go (B := T9.setTop (mkF m 140 #[.val (.int p1), .val (.int p2), .val (.int p3), .val (.int p4), .val (.int p5), .val (.int c1), .val (.int r1), .val (.int d1), .val (.int c2), .val (.int r2), .val (.int d2), .val (.ref b1), .val (.ref t3), .val (.ref dg3), .val (.ref t7), .val (.ref dg7), .val (.int (1 : Int32)), .unset, .unset] [])) (fun _ k => XS.ifNo X9.here hx rfl (hb hby at_137) rfl ((if0 _ _).trans (feq hc137).1) k) ?_
    refine go (B := T9.setTop (mkF m 142 #[.val (.int p1), .val (.int p2), .val (.int p3), .val (.int p4), .val (.int p5), .val (.int c1), .val (.int r1), .val (.int d1), .val (.int c2), .val (.int r2), .val (.int d2), .val (.ref b1), .val (.ref t3), .val (.ref dg3), .val (.ref t7), .val (.ref dg7), .val (.int (1 : Int32)), .unset, .unset] [(.ref t7)])) (fun _ k => XS.aload X9.here hx rfl (hb hby at_140) rfl rfl k) ?_
    obtain ⟨ku12, vu12, Vu12⟩ := R7.2.2.2.2.2.1
    obtain ⟨kw12, vw12, Vw12⟩ := R7.2.2.2.2.2.2.2.1
    have Vc13 := Vu12
    obtain ⟨cl13, Ar13, -, S13, N13_, -, -⟩ := Vc13
    refine go (B := T9.setTop (mkF m 143 #[.val (.int p1), .val (.int p2), .val (.int p3), .val (.int p4), .val (.int p5), .val (.int c1), .val (.int r1), .val (.int d1), .val (.int c2), .val (.int r2), .val (.int d2), .val (.ref b1), .val (.ref t3), .val (.ref dg3), .val (.ref t7), .val (.ref dg7), .val (.int (1 : Int32)), .unset, .unset] [(.int (mx (mx (0 : Int32) r1) r2))])) (fun _ k => X9.arraylength hx (by rw [e9]; exact Ar13.1) (State.isArrayOf_alike hZ.alike Ar13.2.1) (g := (mkF m 142 #[.val (.int p1), .val (.int p2), .val (.int p3), .val (.int p4), .val (.int p5), .val (.int c1), .val (.int r1), .val (.int d1), .val (.int c2), .val (.int r2), .val (.int d2), .val (.ref b1), .val (.ref t3), .val (.ref dg3), .val (.ref t7), .val (.ref dg7), .val (.int (1 : Int32)), .unset, .unset] [(.ref t7)])) rfl rfl (hb hby at_142) _ (by rw [len_of S13 N13_]; exact k)) ?_
    refine go (B := T9.setTop (mkF m 145 #[.val (.int p1), .val (.int p2), .val (.int p3), .val (.int p4), .val (.int p5), .val (.int c1), .val (.int r1), .val (.int d1), .val (.int c2), .val (.int r2), .val (.int d2), .val (.ref b1), .val (.ref t3), .val (.ref dg3), .val (.ref t7), .val (.ref dg7), .val (.int (1 : Int32)), .unset, .unset] [(.int r2), (.int (mx (mx (0 : Int32) r1) r2))])) (fun _ k => XS.iload X9.here hx rfl (hb hby at_143) rfl k) ?_
    have hc145 : ¬ ((mx (mx (0 : Int32) r1) r2) < r2) := (fun q => by rw [Int32.lt_iff_toInt_lt] at q; have g1 := mx_int (mx (0 : Int32) r1) r2; omega)
    refine go (B := T9.setTop (mkF m 148 #[.val (.int p1), .val (.int p2), .val (.int p3), .val (.int p4), .val (.int p5), .val (.int c1), .val (.int r1), .val (.int d1), .val (.int c2), .val (.int r2), .val (.int d2), .val (.ref b1), .val (.ref t3), .val (.ref dg3), .val (.ref t7), .val (.ref dg7), .val (.int (1 : Int32)), .unset, .unset] [])) (fun _ k => XS.icmpNo X9.here hx rfl (hb hby at_145) rfl (flt hc145).1 k) ?_
    refine go (B := T9.setTop (mkF m 150 #[.val (.int p1), .val (.int p2), .val (.int p3), .val (.int p4), .val (.int p5), .val (.int c1), .val (.int r1), .val (.int d1), .val (.int c2), .val (.int r2), .val (.int d2), .val (.ref b1), .val (.ref t3), .val (.ref dg3), .val (.ref t7), .val (.ref dg7), .val (.int (1 : Int32)), .unset, .unset] [(.ref dg7)])) (fun _ k => XS.aload X9.here hx rfl (hb hby at_148) rfl rfl k) ?_
    have Vc14 := Vw12
    obtain ⟨cl14, Ar14, -, S14, N14_, -, -⟩ := Vc14
    refine go (B := T9.setTop (mkF m 151 #[.val (.int p1), .val (.int p2), .val (.int p3), .val (.int p4), .val (.int p5), .val (.int c1), .val (.int r1), .val (.int d1), .val (.int c2), .val (.int r2), .val (.int d2), .val (.ref b1), .val (.ref t3), .val (.ref dg3), .val (.ref t7), .val (.ref dg7), .val (.int (1 : Int32)), .unset, .unset] [(.int (mx (mx (0 : Int32) d1) d2))])) (fun _ k => X9.arraylength hx (by rw [e9]; exact Ar14.1) (State.isArrayOf_alike hZ.alike Ar14.2.1) (g := (mkF m 150 #[.val (.int p1), .val (.int p2), .val (.int p3), .val (.int p4), .val (.int p5), .val (.int c1), .val (.int r1), .val (.int d1), .val (.int c2), .val (.int r2), .val (.int d2), .val (.ref b1), .val (.ref t3), .val (.ref dg3), .val (.ref t7), .val (.ref dg7), .val (.int (1 : Int32)), .unset, .unset] [(.ref dg7)])) rfl rfl (hb hby at_150) _ (by rw [len_of S14 N14_]; exact k)) ?_
    refine go (B := T9.setTop (mkF m 153 #[.val (.int p1), .val (.int p2), .val (.int p3), .val (.int p4), .val (.int p5), .val (.int c1), .val (.int r1), .val (.int d1), .val (.int c2), .val (.int r2), .val (.int d2), .val (.ref b1), .val (.ref t3), .val (.ref dg3), .val (.ref t7), .val (.ref dg7), .val (.int (1 : Int32)), .unset, .unset] [(.int d2), (.int (mx (mx (0 : Int32) d1) d2))])) (fun _ k => XS.iload X9.here hx rfl (hb hby at_151) rfl k) ?_
    have hc153 : ¬ ((mx (mx (0 : Int32) d1) d2) < d2) := (fun q => by rw [Int32.lt_iff_toInt_lt] at q; have g1 := mx_int (mx (0 : Int32) d1) d2; omega)
    refine go (B := T9.setTop (mkF m 156 #[.val (.int p1), .val (.int p2), .val (.int p3), .val (.int p4), .val (.int p5), .val (.int c1), .val (.int r1), .val (.int d1), .val (.int c2), .val (.int r2), .val (.int d2), .val (.ref b1), .val (.ref t3), .val (.ref dg3), .val (.ref t7), .val (.ref dg7), .val (.int (1 : Int32)), .unset, .unset] [])) (fun _ k => XS.icmpNo X9.here hx rfl (hb hby at_153) rfl (flt hc153).1 k) ?_
    refine go (B := T9.setTop (mkF m 157 #[.val (.int p1), .val (.int p2), .val (.int p3), .val (.int p4), .val (.int p5), .val (.int c1), .val (.int r1), .val (.int d1), .val (.int c2), .val (.int r2), .val (.int d2), .val (.ref b1), .val (.ref t3), .val (.ref dg3), .val (.ref t7), .val (.ref dg7), .val (.int (1 : Int32)), .unset, .unset] [(.int (1 : Int32))])) (fun _ k => XS.iconst X9.here hx rfl (hb hby at_156) k) ?_
    refine go (B := T9.setTop (mkF m 161 #[.val (.int p1), .val (.int p2), .val (.int p3), .val (.int p4), .val (.int p5), .val (.int c1), .val (.int r1), .val (.int d1), .val (.int c2), .val (.int r2), .val (.int d2), .val (.ref b1), .val (.ref t3), .val (.ref dg3), .val (.ref t7), .val (.ref dg7), .val (.int (1 : Int32)), .unset, .unset] [(.int (1 : Int32))])) (fun _ k => XS.goto X9.here hx rfl (pc0 := 157) (pc' := 161) rfl (hb hby at_157) (by decide) (by decide) k) ?_
    refine go (B := T9.setTop (mkF m 163 #[.val (.int p1), .val (.int p2), .val (.int p3), .val (.int p4), .val (.int p5), .val (.int c1), .val (.int r1), .val (.int d1), .val (.int c2), .val (.int r2), .val (.int d2), .val (.ref b1), .val (.ref t3), .val (.ref dg3), .val (.ref t7), .val (.ref dg7), .val (.int (1 : Int32)), .unset, .unset] [])) (fun _ k => XS.istore X9.here hx rfl (hb hby at_161) rfl (l' := #[.val (.int p1), .val (.int p2), .val (.int p3), .val (.int p4), .val (.int p5), .val (.int c1), .val (.int r1), .val (.int d1), .val (.int c2), .val (.int r2), .val (.int d2), .val (.ref b1), .val (.ref t3), .val (.ref dg3), .val (.ref t7), .val (.ref dg7), .val (.int (1 : Int32)), .unset, .unset]) rfl k) ?_
    have tl217 : Go p.tables e below s room_1.cells room_1.slots (Q0 Z p1 p2 p3 p4 p5 h0 n0) (T9.setTop (mkF m 217 #[.val (.int p1), .val (.int p2), .val (.int p3), .val (.int p4), .val (.int p5), .val (.int c1), .val (.int r1), .val (.int d1), .val (.int c2), .val (.int r2), .val (.int d2), .val (.ref b1), .val (.ref t3), .val (.ref dg3), .val (.ref t7), .val (.ref dg7), .val (.int (1 : Int32)), .unset, .unset] [])) := by
      refine go (B := T9.setTop (mkF m 219 #[.val (.int p1), .val (.int p2), .val (.int p3), .val (.int p4), .val (.int p5), .val (.int c1), .val (.int r1), .val (.int d1), .val (.int c2), .val (.int r2), .val (.int d2), .val (.ref b1), .val (.ref t3), .val (.ref dg3), .val (.ref t7), .val (.ref dg7), .val (.int (1 : Int32)), .unset, .unset] [(.int (1 : Int32))])) (fun _ k => XS.iload X9.here hx rfl (hb hby at_217) rfl k) ?_
      have hc219 : ¬ ((1 : Int32) = (0 : Int32)) := by decide
      refine go (B := T9.setTop (mkF m 222 #[.val (.int p1), .val (.int p2), .val (.int p3), .val (.int p4), .val (.int p5), .val (.int c1), .val (.int r1), .val (.int d1), .val (.int c2), .val (.int r2), .val (.int d2), .val (.ref b1), .val (.ref t3), .val (.ref dg3), .val (.ref t7), .val (.ref dg7), .val (.int (1 : Int32)), .unset, .unset] [])) (fun _ k => XS.ifNo X9.here hx rfl (hb hby at_219) rfl ((if0 _ _).trans (feq hc219).1) k) ?_
      refine go (B := T9.setTop (mkF m 224 #[.val (.int p1), .val (.int p2), .val (.int p3), .val (.int p4), .val (.int p5), .val (.int c1), .val (.int r1), .val (.int d1), .val (.int c2), .val (.int r2), .val (.int d2), .val (.ref b1), .val (.ref t3), .val (.ref dg3), .val (.ref t7), .val (.ref dg7), .val (.int (1 : Int32)), .unset, .unset] [(.ref b1)])) (fun _ k => XS.aload X9.here hx rfl (hb hby at_222) rfl rfl k) ?_
      obtain ⟨cq15, kq15, q15a, q15b, q15c⟩ := isOf hZ e9 R7.1
      obtain ⟨_, _, ⟨T15, L15, k15, n15⟩, -, X15, ⟨Lc15, hQ15, l15, y15, z15⟩, st15⟩ := X9.virtualBack hx (y := (⟨"com/example/zonecast/zonecast/RecordValues", "size", "()I"⟩ : MethodName)) (z := (⟨"com/example/zonecast/zonecast/RecordValues", "size", "()I"⟩ : MethodName)) hown (mvT hZ (hw _ (List.mem_of_getElem? (i := 34) rfl))) (mvT hZ (hw _ (List.mem_of_getElem? (i := 35) rfl))) (notFace_of_selects (args := #[]) (mvT hZ (hw _ (List.mem_of_getElem? (i := 37) rfl)))) (mvT hZ (hw _ (List.mem_of_getElem? (i := 37) rfl))) (mvT hZ (hw _ (List.mem_of_getElem? (i := 36) rfl))) (by decide) (backOf (W := 0) (rm6 l Z a0 hw [] b1 (0 : Int32) T7.heap n0 Zr7 R7.2.2.2.2.1) hZ (hw _ (List.mem_of_getElem? (i := 38) rfl)) (hw _ (List.mem_of_getElem? (i := 2) rfl)) (by decide) (by decide)) q15a q15c (g := (mkF m 224 #[.val (.int p1), .val (.int p2), .val (.int p3), .val (.int p4), .val (.int p5), .val (.int c1), .val (.int r1), .val (.int d1), .val (.int c2), .val (.int r2), .val (.int d2), .val (.ref b1), .val (.ref t3), .val (.ref dg3), .val (.ref t7), .val (.ref dg7), .val (.int (1 : Int32)), .unset, .unset] [(.ref b1)])) rfl (by rw [hml]; rfl) (Steps.refl _) (argsL := []) (rest := []) (lenOf pd___I rfl) rfl (by show 2 * 0 + _ ≤ _; exact Nat.le_of_eq rfl) (hb hby at_224) (fun _ _ => ⟨rfl, e9, (by decide : 10 + 0 ≤ _), (by decide : 78 + 0 ≤ _)⟩)
      dsimp only [Pt.U, Pt.locs, Pt.cells, Pt.slots] at X15 l15 y15 z15 st15 hQ15
      subst l15 y15 z15
      obtain ⟨rfl, N15q, e15⟩ := hQ15
      have N15 := Fr.app N9 N15q
      refine go (B := T15.setTop (mkF m 227 #[.val (.int p1), .val (.int p2), .val (.int p3), .val (.int p4), .val (.int p5), .val (.int c1), .val (.int r1), .val (.int d1), .val (.int c2), .val (.int r2), .val (.int d2), .val (.ref b1), .val (.ref t3), .val (.ref dg3), .val (.ref t7), .val (.ref dg7), .val (.int (1 : Int32)), .unset, .unset] [(.int (0 : Int32))])) (fun _ k => st15.trans k) ?_
      have hc227 : (0 : Int32) = (0 : Int32) := by decide
      refine go (B := T15.setTop (mkF m 230 #[.val (.int p1), .val (.int p2), .val (.int p3), .val (.int p4), .val (.int p5), .val (.int c1), .val (.int r1), .val (.int d1), .val (.int c2), .val (.int r2), .val (.int d2), .val (.ref b1), .val (.ref t3), .val (.ref dg3), .val (.ref t7), .val (.ref dg7), .val (.int (1 : Int32)), .unset, .unset] [])) (fun _ k => XS.ifNo X15.here hx rfl (hb hby at_227) rfl ((if0 _ _).trans (teq hc227).2) k) ?_
      refine go (B := T15.setTop (mkF m 232 #[.val (.int p1), .val (.int p2), .val (.int p3), .val (.int p4), .val (.int p5), .val (.int c1), .val (.int r1), .val (.int d1), .val (.int c2), .val (.int r2), .val (.int d2), .val (.ref b1), .val (.ref t3), .val (.ref dg3), .val (.ref t7), .val (.ref dg7), .val (.int (1 : Int32)), .unset, .unset] [(.ref b1)])) (fun _ k => XS.aload X15.here hx rfl (hb hby at_230) rfl rfl k) ?_
      obtain ⟨cq16, kq16, q16a, q16b, q16c⟩ := isOf hZ e15 R7.1
      obtain ⟨_, _, ⟨T16, L16, k16, n16⟩, -, X16, ⟨Lc16, hQ16, l16, y16, z16⟩, st16⟩ := X15.virtualBack hx (y := (⟨"com/example/zonecast/zonecast/RecordValues", "next", "()I"⟩ : MethodName)) (z := (⟨"com/example/zonecast/zonecast/RecordValues", "next", "()I"⟩ : MethodName)) hown (mvT hZ (hw _ (List.mem_of_getElem? (i := 39) rfl))) (mvT hZ (hw _ (List.mem_of_getElem? (i := 40) rfl))) (notFace_of_selects (args := #[]) (mvT hZ (hw _ (List.mem_of_getElem? (i := 42) rfl)))) (mvT hZ (hw _ (List.mem_of_getElem? (i := 42) rfl))) (mvT hZ (hw _ (List.mem_of_getElem? (i := 41) rfl))) (by decide) (backOf (W := 0) (rm7 l Z a0 hw [] b1 t7 en7 dg7 (0 : Int32) (mx (mx (0 : Int32) r1) r2) (mx (mx (0 : Int32) c1) c2) (mx (mx (0 : Int32) d1) d2) x7 T7.heap n0 Zr7 R7 (by decide +kernel) (by have f1 := mx_int (0 : Int32) c1; have f2 := mx_int (mx (0 : Int32) c1) c2; have f3 := B_c1; have f4 := B_c2; have f5 := z0; have f6 := z1; have g : ((0 : Int32)).toInt = 0 := (by decide +kernel); omega)) hZ (hw _ (List.mem_of_getElem? (i := 43) rfl)) (hw _ (List.mem_of_getElem? (i := 2) rfl)) (by decide) (by decide)) q16a q16c (g := (mkF m 232 #[.val (.int p1), .val (.int p2), .val (.int p3), .val (.int p4), .val (.int p5), .val (.int c1), .val (.int r1), .val (.int d1), .val (.int c2), .val (.int r2), .val (.int d2), .val (.ref b1), .val (.ref t3), .val (.ref dg3), .val (.ref t7), .val (.ref dg7), .val (.int (1 : Int32)), .unset, .unset] [(.ref b1)])) rfl (by rw [hml]; rfl) (Steps.refl _) (argsL := []) (rest := []) (lenOf pd___I rfl) rfl (by show 2 * 0 + _ ≤ _; exact Nat.le_of_eq rfl) (hb hby at_232) (fun _ _ => ⟨rfl, e15, (by decide : 10 + 0 ≤ _), (by decide : 78 + 0 ≤ _)⟩)
      dsimp only [Pt.U, Pt.locs, Pt.cells, Pt.slots] at X16 l16 y16 z16 st16 hQ16
      subst l16 y16 z16
      obtain ⟨rfl, N16q, e16⟩ := hQ16
      have N16 := Fr.app N15 N16q
      refine go (B := T16.setTop (mkF m 235 #[.val (.int p1), .val (.int p2), .val (.int p3), .val (.int p4), .val (.int p5), .val (.int c1), .val (.int r1), .val (.int d1), .val (.int c2), .val (.int r2), .val (.int d2), .val (.ref b1), .val (.ref t3), .val (.ref dg3), .val (.ref t7), .val (.ref dg7), .val (.int (1 : Int32)), .unset, .unset] [(.int (fNext (0 : Int32) x7))])) (fun _ k => st16.trans k) ?_
      have hc235 : (fNext (0 : Int32) x7) = (0 : Int32) := rfl
      refine go (B := T16.setTop (mkF m 238 #[.val (.int p1), .val (.int p2), .val (.int p3), .val (.int p4), .val (.int p5), .val (.int c1), .val (.int r1), .val (.int d1), .val (.int c2), .val (.int r2), .val (.int d2), .val (.ref b1), .val (.ref t3), .val (.ref dg3), .val (.ref t7), .val (.ref dg7), .val (.int (1 : Int32)), .unset, .unset] [])) (fun _ k => XS.ifNo X16.here hx rfl (hb hby at_235) rfl ((if0 _ _).trans (teq hc235).2) k) ?_
      refine go (B := T16.setTop (mkF m 239 #[.val (.int p1), .val (.int p2), .val (.int p3), .val (.int p4), .val (.int p5), .val (.int c1), .val (.int r1), .val (.int d1), .val (.int c2), .val (.int r2), .val (.int d2), .val (.ref b1), .val (.ref t3), .val (.ref dg3), .val (.ref t7), .val (.ref dg7), .val (.int (1 : Int32)), .unset, .unset] [(.int (1 : Int32))])) (fun _ k => XS.iconst X16.here hx rfl (hb hby at_238) k) ?_
      refine go (B := T16.setTop (mkF m 243 #[.val (.int p1), .val (.int p2), .val (.int p3), .val (.int p4), .val (.int p5), .val (.int c1), .val (.int r1), .val (.int d1), .val (.int c2), .val (.int r2), .val (.int d2), .val (.ref b1), .val (.ref t3), .val (.ref dg3), .val (.ref t7), .val (.ref dg7), .val (.int (1 : Int32)), .unset, .unset] [(.int (1 : Int32))])) (fun _ k => XS.goto X16.here hx rfl (pc0 := 239) (pc' := 243) rfl (hb hby at_239) (by decide) (by decide) k) ?_
      refine go (B := T16.setTop (mkF m 245 #[.val (.int p1), .val (.int p2), .val (.int p3), .val (.int p4), .val (.int p5), .val (.int c1), .val (.int r1), .val (.int d1), .val (.int c2), .val (.int r2), .val (.int d2), .val (.ref b1), .val (.ref t3), .val (.ref dg3), .val (.ref t7), .val (.ref dg7), .val (.int (1 : Int32)), .unset, .unset] [])) (fun _ k => XS.istore X16.here hx rfl (hb hby at_243) rfl (l' := #[.val (.int p1), .val (.int p2), .val (.int p3), .val (.int p4), .val (.int p5), .val (.int c1), .val (.int r1), .val (.int d1), .val (.int c2), .val (.int r2), .val (.int d2), .val (.ref b1), .val (.ref t3), .val (.ref dg3), .val (.ref t7), .val (.ref dg7), .val (.int (1 : Int32)), .unset, .unset]) rfl k) ?_
      refine go (B := T16.setTop (mkF m 246 #[.val (.int p1), .val (.int p2), .val (.int p3), .val (.int p4), .val (.int p5), .val (.int c1), .val (.int r1), .val (.int d1), .val (.int c2), .val (.int r2), .val (.int d2), .val (.ref b1), .val (.ref t3), .val (.ref dg3), .val (.ref t7), .val (.ref dg7), .val (.int (1 : Int32)), .unset, .unset] [(.int (0 : Int32))])) (fun _ k => XS.iconst X16.here hx rfl (hb hby at_245) k) ?_
      refine go (B := T16.setTop (mkF m 248 #[.val (.int p1), .val (.int p2), .val (.int p3), .val (.int p4), .val (.int p5), .val (.int c1), .val (.int r1), .val (.int d1), .val (.int c2), .val (.int r2), .val (.int d2), .val (.ref b1), .val (.ref t3), .val (.ref dg3), .val (.ref t7), .val (.ref dg7), .val (.int (1 : Int32)), .val (.int (0 : Int32)), .unset] [])) (fun _ k => XS.istore X16.here hx rfl (hb hby at_246) rfl (l' := #[.val (.int p1), .val (.int p2), .val (.int p3), .val (.int p4), .val (.int p5), .val (.int c1), .val (.int r1), .val (.int d1), .val (.int c2), .val (.int r2), .val (.int d2), .val (.ref b1), .val (.ref t3), .val (.ref dg3), .val (.ref t7), .val (.ref dg7), .val (.int (1 : Int32)), .val (.int (0 : Int32)), .unset]) rfl k) ?_
      refine go (B := T16.setTop (mkF m 249 #[.val (.int p1), .val (.int p2), .val (.int p3), .val (.int p4), .val (.int p5), .val (.int c1), .val (.int r1), .val (.int d1), .val (.int c2), .val (.int r2), .val (.int d2), .val (.ref b1), .val (.ref t3), .val (.ref dg3), .val (.ref t7), .val (.ref dg7), .val (.int (1 : Int32)), .val (.int (0 : Int32)), .unset] [(.int (0 : Int32))])) (fun _ k => XS.iconst X16.here hx rfl (hb hby at_248) k) ?_
      refine go (B := T16.setTop (mkF m 251 #[.val (.int p1), .val (.int p2), .val (.int p3), .val (.int p4), .val (.int p5), .val (.int c1), .val (.int r1), .val (.int d1), .val (.int c2), .val (.int r2), .val (.int d2), .val (.ref b1), .val (.ref t3), .val (.ref dg3), .val (.ref t7), .val (.ref dg7), .val (.int (1 : Int32)), .val (.int (0 : Int32)), .val (.int (0 : Int32))] [])) (fun _ k => XS.istore X16.here hx rfl (hb hby at_249) rfl (l' := #[.val (.int p1), .val (.int p2), .val (.int p3), .val (.int p4), .val (.int p5), .val (.int c1), .val (.int r1), .val (.int d1), .val (.int c2), .val (.int r2), .val (.int d2), .val (.ref b1), .val (.ref t3), .val (.ref dg3), .val (.ref t7), .val (.ref dg7), .val (.int (1 : Int32)), .val (.int (0 : Int32)), .val (.int (0 : Int32))]) rfl k) ?_
      refine go (B := T16.setTop (mkF m 253 #[.val (.int p1), .val (.int p2), .val (.int p3), .val (.int p4), .val (.int p5), .val (.int c1), .val (.int r1), .val (.int d1), .val (.int c2), .val (.int r2), .val (.int d2), .val (.ref b1), .val (.ref t3), .val (.ref dg3), .val (.ref t7), .val (.ref dg7), .val (.int (1 : Int32)), .val (.int (0 : Int32)), .val (.int (0 : Int32))] [(.int c2)])) (fun _ k => XS.iload X16.here hx rfl (hb hby at_251) rfl k) ?_
      refine go (B := T16.setTop (mkF m 254 #[.val (.int p1), .val (.int p2), .val (.int p3), .val (.int p4), .val (.int p5), .val (.int c1), .val (.int r1), .val (.int d1), .val (.int c2), .val (.int r2), .val (.int d2), .val (.ref b1), .val (.ref t3), .val (.ref dg3), .val (.ref t7), .val (.ref dg7), .val (.int (1 : Int32)), .val (.int (0 : Int32)), .val (.int (0 : Int32))] [(.int (1 : Int32)), (.int c2)])) (fun _ k => XS.iconst X16.here hx rfl (hb hby at_253) k) ?_
      by_cases hc254 : c2 < (1 : Int32)
      · refine go (B := T16.setTop (mkF m 271 #[.val (.int p1), .val (.int p2), .val (.int p3), .val (.int p4), .val (.int p5), .val (.int c1), .val (.int r1), .val (.int d1), .val (.int c2), .val (.int r2), .val (.int d2), .val (.ref b1), .val (.ref t3), .val (.ref dg3), .val (.ref t7), .val (.ref dg7), .val (.int (1 : Int32)), .val (.int (0 : Int32)), .val (.int (0 : Int32))] [])) (fun _ k => XS.icmpYes X16.here hx rfl (pc0 := 254) (pc' := 271) rfl (hb hby at_254) rfl (tlt hc254).1 (by decide) (by decide) k) ?_
        refine go (B := T16.setTop (mkF m 273 #[.val (.int p1), .val (.int p2), .val (.int p3), .val (.int p4), .val (.int p5), .val (.int c1), .val (.int r1), .val (.int d1), .val (.int c2), .val (.int r2), .val (.int d2), .val (.ref b1), .val (.ref t3), .val (.ref dg3), .val (.ref t7), .val (.ref dg7), .val (.int (1 : Int32)), .val (.int (0 : Int32)), .val (.int (0 : Int32))] [(.int c2)])) (fun _ k => XS.iload X16.here hx rfl (hb hby at_271) rfl k) ?_
        refine go (B := T16.setTop (mkF m 274 #[.val (.int p1), .val (.int p2), .val (.int p3), .val (.int p4), .val (.int p5), .val (.int c1), .val (.int r1), .val (.int d1), .val (.int c2), .val (.int r2), .val (.int d2), .val (.ref b1), .val (.ref t3), .val (.ref dg3), .val (.ref t7), .val (.ref dg7), .val (.int (1 : Int32)), .val (.int (0 : Int32)), .val (.int (0 : Int32))] [(.int (2 : Int32)), (.int c2)])) (fun _ k => XS.iconst X16.here hx rfl (hb hby at_273) k) ?_
        by_cases hc274 : c2 < (2 : Int32)
        · refine go (B := T16.setTop (mkF m 289 #[.val (.int p1), .val (.int p2), .val (.int p3), .val (.int p4), .val (.int p5), .val (.int c1), .val (.int r1), .val (.int d1), .val (.int c2), .val (.int r2), .val (.int d2), .val (.ref b1), .val (.ref t3), .val (.ref dg3), .val (.ref t7), .val (.ref dg7), .val (.int (1 : Int32)), .val (.int (0 : Int32)), .val (.int (0 : Int32))] [])) (fun _ k => XS.icmpYes X16.here hx rfl (pc0 := 274) (pc' := 289) rfl (hb hby at_274) rfl (tlt hc274).1 (by decide) (by decide) k) ?_
          refine go (B := T16.setTop (mkF m 291 #[.val (.int p1), .val (.int p2), .val (.int p3), .val (.int p4), .val (.int p5), .val (.int c1), .val (.int r1), .val (.int d1), .val (.int c2), .val (.int r2), .val (.int d2), .val (.ref b1), .val (.ref t3), .val (.ref dg3), .val (.ref t7), .val (.ref dg7), .val (.int (1 : Int32)), .val (.int (0 : Int32)), .val (.int (0 : Int32))] [(.int (1 : Int32))])) (fun _ k => XS.iload X16.here hx rfl (hb hby at_289) rfl k) ?_
          have hc291 : ¬ ((1 : Int32) = (0 : Int32)) := by decide
          refine go (B := T16.setTop (mkF m 294 #[.val (.int p1), .val (.int p2), .val (.int p3), .val (.int p4), .val (.int p5), .val (.int c1), .val (.int r1), .val (.int d1), .val (.int c2), .val (.int r2), .val (.int d2), .val (.ref b1), .val (.ref t3), .val (.ref dg3), .val (.ref t7), .val (.ref dg7), .val (.int (1 : Int32)), .val (.int (0 : Int32)), .val (.int (0 : Int32))] [])) (fun _ k => XS.ifNo X16.here hx rfl (hb hby at_291) rfl ((if0 _ _).trans (feq hc291).1) k) ?_
          refine go (B := T16.setTop (mkF m 296 #[.val (.int p1), .val (.int p2), .val (.int p3), .val (.int p4), .val (.int p5), .val (.int c1), .val (.int r1), .val (.int d1), .val (.int c2), .val (.int r2), .val (.int d2), .val (.ref b1), .val (.ref t3), .val (.ref dg3), .val (.ref t7), .val (.ref dg7), .val (.int (1 : Int32)), .val (.int (0 : Int32)), .val (.int (0 : Int32))] [(.ref b1)])) (fun _ k => XS.aload X16.here hx rfl (hb hby at_294) rfl rfl k) ?_
          obtain ⟨cq17, kq17, q17a, q17b, q17c⟩ := isOf hZ e16 R7.1
          obtain ⟨_, _, ⟨T17, L17, k17, n17⟩, -, X17, ⟨Lc17, hQ17, l17, y17, z17⟩, st17⟩ := X16.virtualBack hx (y := (⟨"com/example/zonecast/zonecast/RecordValues", "size", "()I"⟩ : MethodName)) (z := (⟨"com/example/zonecast/zonecast/RecordValues", "size", "()I"⟩ : MethodName)) hown (mvT hZ (hw _ (List.mem_of_getElem? (i := 34) rfl))) (mvT hZ (hw _ (List.mem_of_getElem? (i := 35) rfl))) (notFace_of_selects (args := #[]) (mvT hZ (hw _ (List.mem_of_getElem? (i := 37) rfl)))) (mvT hZ (hw _ (List.mem_of_getElem? (i := 37) rfl))) (mvT hZ (hw _ (List.mem_of_getElem? (i := 36) rfl))) (by decide) (backOf (W := 0) (rm6 l Z a0 hw [] b1 (0 : Int32) T7.heap n0 Zr7 R7.2.2.2.2.1) hZ (hw _ (List.mem_of_getElem? (i := 38) rfl)) (hw _ (List.mem_of_getElem? (i := 2) rfl)) (by decide) (by decide)) q17a q17c (g := (mkF m 296 #[.val (.int p1), .val (.int p2), .val (.int p3), .val (.int p4), .val (.int p5), .val (.int c1), .val (.int r1), .val (.int d1), .val (.int c2), .val (.int r2), .val (.int d2), .val (.ref b1), .val (.ref t3), .val (.ref dg3), .val (.ref t7), .val (.ref dg7), .val (.int (1 : Int32)), .val (.int (0 : Int32)), .val (.int (0 : Int32))] [(.ref b1)])) rfl (by rw [hml]; rfl) (Steps.refl _) (argsL := []) (rest := []) (lenOf pd___I rfl) rfl (by show 2 * 0 + _ ≤ _; exact Nat.le_of_eq rfl) (hb hby at_296) (fun _ _ => ⟨rfl, e16, (by decide : 10 + 0 ≤ _), (by decide : 78 + 0 ≤ _)⟩)
          dsimp only [Pt.U, Pt.locs, Pt.cells, Pt.slots] at X17 l17 y17 z17 st17 hQ17
          subst l17 y17 z17
          obtain ⟨rfl, N17q, e17⟩ := hQ17
          have N17 := Fr.app N16 N17q
          refine go (B := T17.setTop (mkF m 299 #[.val (.int p1), .val (.int p2), .val (.int p3), .val (.int p4), .val (.int p5), .val (.int c1), .val (.int r1), .val (.int d1), .val (.int c2), .val (.int r2), .val (.int d2), .val (.ref b1), .val (.ref t3), .val (.ref dg3), .val (.ref t7), .val (.ref dg7), .val (.int (1 : Int32)), .val (.int (0 : Int32)), .val (.int (0 : Int32))] [(.int (0 : Int32))])) (fun _ k => st17.trans k) ?_
          refine go (B := T17.setTop (mkF m 301 #[.val (.int p1), .val (.int p2), .val (.int p3), .val (.int p4), .val (.int p5), .val (.int c1), .val (.int r1), .val (.int d1), .val (.int c2), .val (.int r2), .val (.int d2), .val (.ref b1), .val (.ref t3), .val (.ref dg3), .val (.ref t7), .val (.ref dg7), .val (.int (1 : Int32)), .val (.int (0 : Int32)), .val (.int (0 : Int32))] [(.int (0 : Int32)), (.int (0 : Int32))])) (fun _ k => XS.iload X17.here hx rfl (hb hby at_299) rfl k) ?_
          have hc301 : (0 : Int32) = (0 : Int32) := rfl
          refine go (B := T17.setTop (mkF m 304 #[.val (.int p1), .val (.int p2), .val (.int p3), .val (.int p4), .val (.int p5), .val (.int c1), .val (.int r1), .val (.int d1), .val (.int c2), .val (.int r2), .val (.int d2), .val (.ref b1), .val (.ref t3), .val (.ref dg3), .val (.ref t7), .val (.ref dg7), .val (.int (1 : Int32)), .val (.int (0 : Int32)), .val (.int (0 : Int32))] [])) (fun _ k => XS.icmpNo X17.here hx rfl (hb hby at_301) rfl (teq hc301).2 k) ?_
          refine go (B := T17.setTop (mkF m 306 #[.val (.int p1), .val (.int p2), .val (.int p3), .val (.int p4), .val (.int p5), .val (.int c1), .val (.int r1), .val (.int d1), .val (.int c2), .val (.int r2), .val (.int d2), .val (.ref b1), .val (.ref t3), .val (.ref dg3), .val (.ref t7), .val (.ref dg7), .val (.int (1 : Int32)), .val (.int (0 : Int32)), .val (.int (0 : Int32))] [(.ref b1)])) (fun _ k => XS.aload X17.here hx rfl (hb hby at_304) rfl rfl k) ?_
          obtain ⟨cq18, kq18, q18a, q18b, q18c⟩ := isOf hZ e17 R7.1
          obtain ⟨_, _, ⟨T18, L18, k18, n18⟩, -, X18, ⟨Lc18, hQ18, l18, y18, z18⟩, st18⟩ := X17.virtualBack hx (y := (⟨"com/example/zonecast/zonecast/RecordValues", "next", "()I"⟩ : MethodName)) (z := (⟨"com/example/zonecast/zonecast/RecordValues", "next", "()I"⟩ : MethodName)) hown (mvT hZ (hw _ (List.mem_of_getElem? (i := 39) rfl))) (mvT hZ (hw _ (List.mem_of_getElem? (i := 40) rfl))) (notFace_of_selects (args := #[]) (mvT hZ (hw _ (List.mem_of_getElem? (i := 42) rfl)))) (mvT hZ (hw _ (List.mem_of_getElem? (i := 42) rfl))) (mvT hZ (hw _ (List.mem_of_getElem? (i := 41) rfl))) (by decide) (backOf (W := 0) (rm7 l Z a0 hw [] b1 t7 en7 dg7 (0 : Int32) (mx (mx (0 : Int32) r1) r2) (mx (mx (0 : Int32) c1) c2) (mx (mx (0 : Int32) d1) d2) x7 T7.heap n0 Zr7 R7 (by decide +kernel) (by have f1 := mx_int (0 : Int32) c1; have f2 := mx_int (mx (0 : Int32) c1) c2; have f3 := B_c1; have f4 := B_c2; have f5 := z0; have f6 := z1; have g : ((0 : Int32)).toInt = 0 := (by decide +kernel); omega)) hZ (hw _ (List.mem_of_getElem? (i := 43) rfl)) (hw _ (List.mem_of_getElem? (i := 2) rfl)) (by decide) (by decide)) q18a q18c (g := (mkF m 306 #[.val (.int p1), .val (.int p2), .val (.int p3), .val (.int p4), .val (.int p5), .val (.int c1), .val (.int r1), .val (.int d1), .val (.int c2), .val (.int r2), .val (.int d2), .val (.ref b1), .val (.ref t3), .val (.ref dg3), .val (.ref t7), .val (.ref dg7), .val (.int (1 : Int32)), .val (.int (0 : Int32)), .val (.int (0 : Int32))] [(.ref b1)])) rfl (by rw [hml]; rfl) (Steps.refl _) (argsL := []) (rest := []) (lenOf pd___I rfl) rfl (by show 2 * 0 + _ ≤ _; exact Nat.le_of_eq rfl) (hb hby at_306) (fun _ _ => ⟨rfl, e17, (by decide : 10 + 0 ≤ _), (by decide : 78 + 0 ≤ _)⟩)
          dsimp only [Pt.U, Pt.locs, Pt.cells, Pt.slots] at X18 l18 y18 z18 st18 hQ18
          subst l18 y18 z18
          obtain ⟨rfl, N18q, e18⟩ := hQ18
          have N18 := Fr.app N17 N18q
          refine go (B := T18.setTop (mkF m 309 #[.val (.int p1), .val (.int p2), .val (.int p3), .val (.int p4), .val (.int p5), .val (.int c1), .val (.int r1), .val (.int d1), .val (.int c2), .val (.int r2), .val (.int d2), .val (.ref b1), .val (.ref t3), .val (.ref dg3), .val (.ref t7), .val (.ref dg7), .val (.int (1 : Int32)), .val (.int (0 : Int32)), .val (.int (0 : Int32))] [(.int (fNext (0 : Int32) x7))])) (fun _ k => st18.trans k) ?_
          refine go (B := T18.setTop (mkF m 311 #[.val (.int p1), .val (.int p2), .val (.int p3), .val (.int p4), .val (.int p5), .val (.int c1), .val (.int r1), .val (.int d1), .val (.int c2), .val (.int r2), .val (.int d2), .val (.ref b1), .val (.ref t3), .val (.ref dg3), .val (.ref t7), .val (.ref dg7), .val (.int (1 : Int32)), .val (.int (0 : Int32)), .val (.int (0 : Int32))] [(.int (0 : Int32)), (.int (fNext (0 : Int32) x7))])) (fun _ k => XS.iload X18.here hx rfl (hb hby at_309) rfl k) ?_
          have hc311 : (fNext (0 : Int32) x7) = (0 : Int32) := rfl
          refine go (B := T18.setTop (mkF m 314 #[.val (.int p1), .val (.int p2), .val (.int p3), .val (.int p4), .val (.int p5), .val (.int c1), .val (.int r1), .val (.int d1), .val (.int c2), .val (.int r2), .val (.int d2), .val (.ref b1), .val (.ref t3), .val (.ref dg3), .val (.ref t7), .val (.ref dg7), .val (.int (1 : Int32)), .val (.int (0 : Int32)), .val (.int (0 : Int32))] [])) (fun _ k => XS.icmpNo X18.here hx rfl (hb hby at_311) rfl (teq hc311).2 k) ?_
          refine go (B := T18.setTop (mkF m 315 #[.val (.int p1), .val (.int p2), .val (.int p3), .val (.int p4), .val (.int p5), .val (.int c1), .val (.int r1), .val (.int d1), .val (.int c2), .val (.int r2), .val (.int d2), .val (.ref b1), .val (.ref t3), .val (.ref dg3), .val (.ref t7), .val (.ref dg7), .val (.int (1 : Int32)), .val (.int (0 : Int32)), .val (.int (0 : Int32))] [(.int (1 : Int32))])) (fun _ k => XS.iconst X18.here hx rfl (hb hby at_314) k) ?_
          refine go (B := T18.setTop (mkF m 319 #[.val (.int p1), .val (.int p2), .val (.int p3), .val (.int p4), .val (.int p5), .val (.int c1), .val (.int r1), .val (.int d1), .val (.int c2), .val (.int r2), .val (.int d2), .val (.ref b1), .val (.ref t3), .val (.ref dg3), .val (.ref t7), .val (.ref dg7), .val (.int (1 : Int32)), .val (.int (0 : Int32)), .val (.int (0 : Int32))] [(.int (1 : Int32))])) (fun _ k => XS.goto X18.here hx rfl (pc0 := 315) (pc' := 319) rfl (hb hby at_315) (by decide) (by decide) k) ?_
          refine go (B := T18.setTop (mkF m 321 #[.val (.int p1), .val (.int p2), .val (.int p3), .val (.int p4), .val (.int p5), .val (.int c1), .val (.int r1), .val (.int d1), .val (.int c2), .val (.int r2), .val (.int d2), .val (.ref b1), .val (.ref t3), .val (.ref dg3), .val (.ref t7), .val (.ref dg7), .val (.int (1 : Int32)), .val (.int (0 : Int32)), .val (.int (0 : Int32))] [])) (fun _ k => XS.istore X18.here hx rfl (hb hby at_319) rfl (l' := #[.val (.int p1), .val (.int p2), .val (.int p3), .val (.int p4), .val (.int p5), .val (.int c1), .val (.int r1), .val (.int d1), .val (.int c2), .val (.int r2), .val (.int d2), .val (.ref b1), .val (.ref t3), .val (.ref dg3), .val (.ref t7), .val (.ref dg7), .val (.int (1 : Int32)), .val (.int (0 : Int32)), .val (.int (0 : Int32))]) rfl k) ?_
          refine go (B := T18.setTop (mkF m 323 #[.val (.int p1), .val (.int p2), .val (.int p3), .val (.int p4), .val (.int p5), .val (.int c1), .val (.int r1), .val (.int d1), .val (.int c2), .val (.int r2), .val (.int d2), .val (.ref b1), .val (.ref t3), .val (.ref dg3), .val (.ref t7), .val (.ref dg7), .val (.int (1 : Int32)), .val (.int (0 : Int32)), .val (.int (0 : Int32))] [(.int (1 : Int32))])) (fun _ k => XS.iload X18.here hx rfl (hb hby at_321) rfl k) ?_
          refine goRetN X18 hx (t := .boolean) Bd.returns (by simp) hlk (hb hby at_323) ?_ (by decide) (by decide)
          rw [e18]
          exact ⟨rfl, N18⟩
        · exfalso
          have f4 := B_c2
          simp only [Int32.lt_iff_toInt_lt, z1, z2] at hc254 hc274
          omega
      · refine go (B := T16.setTop (mkF m 257 #[.val (.int p1), .val (.int p2), .val (.int p3), .val (.int p4), .val (.int p5), .val (.int c1), .val (.int r1), .val (.int d1), .val (.int c2), .val (.int r2), .val (.int d2), .val (.ref b1), .val (.ref t3), .val (.ref dg3), .val (.ref t7), .val (.ref dg7), .val (.int (1 : Int32)), .val (.int (0 : Int32)), .val (.int (0 : Int32))] [])) (fun _ k => XS.icmpNo X16.here hx rfl (hb hby at_254) rfl (flt hc254).1 k) ?_
        refine go (B := T16.setTop (mkF m 259 #[.val (.int p1), .val (.int p2), .val (.int p3), .val (.int p4), .val (.int p5), .val (.int c1), .val (.int r1), .val (.int d1), .val (.int c2), .val (.int r2), .val (.int d2), .val (.ref b1), .val (.ref t3), .val (.ref dg3), .val (.ref t7), .val (.ref dg7), .val (.int (1 : Int32)), .val (.int (0 : Int32)), .val (.int (0 : Int32))] [(.ref b1)])) (fun _ k => XS.aload X16.here hx rfl (hb hby at_257) rfl rfl k) ?_
        refine go (B := T16.setTop (mkF m 261 #[.val (.int p1), .val (.int p2), .val (.int p3), .val (.int p4), .val (.int p5), .val (.int c1), .val (.int r1), .val (.int d1), .val (.int c2), .val (.int r2), .val (.int d2), .val (.ref b1), .val (.ref t3), .val (.ref dg3), .val (.ref t7), .val (.ref dg7), .val (.int (1 : Int32)), .val (.int (0 : Int32)), .val (.int (0 : Int32))] [(.int p5), (.ref b1)])) (fun _ k => XS.iload X16.here hx rfl (hb hby at_259) rfl k) ?_
        obtain ⟨cq19, kq19, q19a, q19b, q19c⟩ := isOf hZ e16 R7.1
        obtain ⟨_, _, ⟨T19, L19, k19, n19⟩, -, X19, ⟨Lc19, hQ19, l19, y19, z19⟩, st19⟩ := X16.virtualBack hx (y := (⟨"com/example/zonecast/zonecast/RecordValues", "add", "(I)V"⟩ : MethodName)) (z := (⟨"com/example/zonecast/zonecast/RecordValues", "add", "(I)V"⟩ : MethodName)) hown (mvT hZ (hw _ (List.mem_of_getElem? (i := 44) rfl))) (mvT hZ (hw _ (List.mem_of_getElem? (i := 45) rfl))) (notFace_of_selects (args := #[]) (mvT hZ (hw _ (List.mem_of_getElem? (i := 47) rfl)))) (mvT hZ (hw _ (List.mem_of_getElem? (i := 47) rfl))) (mvT hZ (hw _ (List.mem_of_getElem? (i := 46) rfl))) (by decide) (backOf (W := 0) (rm8 l Z a0 hw [] b1 p5 t7 en7 dg7 (0 : Int32) (mx (mx (0 : Int32) r1) r2) (mx (mx (0 : Int32) c1) c2) (mx (mx (0 : Int32) d1) d2) x7 T7.heap n0 Zr7 R7 (by decide +kernel) (by have f1 := mx_int (0 : Int32) c1; have f2 := mx_int (mx (0 : Int32) c1) c2; have f3 := B_c1; have f4 := B_c2; have f5 := z0; have f6 := z1; have g : ((0 : Int32)).toInt = 0 := (by decide +kernel); simp only [Int32.lt_iff_toInt_lt, z0, z1, z2] at hc64 hc254; omega)) hZ (hw _ (List.mem_of_getElem? (i := 48) rfl)) (hw _ (List.mem_of_getElem? (i := 2) rfl)) (by decide) (by decide)) q19a q19c (g := (mkF m 261 #[.val (.int p1), .val (.int p2), .val (.int p3), .val (.int p4), .val (.int p5), .val (.int c1), .val (.int r1), .val (.int d1), .val (.int c2), .val (.int r2), .val (.int d2), .val (.ref b1), .val (.ref t3), .val (.ref dg3), .val (.ref t7), .val (.ref dg7), .val (.int (1 : Int32)), .val (.int (0 : Int32)), .val (.int (0 : Int32))] [(.int p5), (.ref b1)])) rfl (by rw [hml]; rfl) (Steps.refl _) (argsL := [(.int p5)]) (rest := []) (lenOf pd__I_V rfl) rfl (by show 2 * 0 + _ ≤ _; exact Nat.le_of_eq rfl) (hb hby at_261) (fun _ _ => ⟨rfl, e16, (by decide : 10 + 0 ≤ _), (by decide : 78 + 0 ≤ _)⟩)
        dsimp only [Pt.U, Pt.locs, Pt.cells, Pt.slots] at X19 l19 y19 z19 st19 hQ19
        subst l19 y19 z19
        obtain ⟨rfl, N19q, R19⟩ := hQ19
        have N19 := Fr.app N16 N19q
        have Zr19 := R19.2.2.2.2.2.2.2.2.2.2.2.2.2.2.2
        refine go (B := T19.setTop (mkF m 264 #[.val (.int p1), .val (.int p2), .val (.int p3), .val (.int p4), .val (.int p5), .val (.int c1), .val (.int r1), .val (.int d1), .val (.int c2), .val (.int r2), .val (.int d2), .val (.ref b1), .val (.ref t3), .val (.ref dg3), .val (.ref t7), .val (.ref dg7), .val (.int (1 : Int32)), .val (.int (0 : Int32)), .val (.int (0 : Int32))] [])) (fun _ k => st19.trans k) ?_
        refine go (B := T19.setTop (mkF m 265 #[.val (.int p1), .val (.int p2), .val (.int p3), .val (.int p4), .val (.int p5), .val (.int c1), .val (.int r1), .val (.int d1), .val (.int c2), .val (.int r2), .val (.int d2), .val (.ref b1), .val (.ref t3), .val (.ref dg3), .val (.ref t7), .val (.ref dg7), .val (.int (1 : Int32)), .val (.int (0 : Int32)), .val (.int (0 : Int32))] [(.int (1 : Int32))])) (fun _ k => XS.iconst X19.here hx rfl (hb hby at_264) k) ?_
        refine go (B := T19.setTop (mkF m 267 #[.val (.int p1), .val (.int p2), .val (.int p3), .val (.int p4), .val (.int p5), .val (.int c1), .val (.int r1), .val (.int d1), .val (.int c2), .val (.int r2), .val (.int d2), .val (.ref b1), .val (.ref t3), .val (.ref dg3), .val (.ref t7), .val (.ref dg7), .val (.int (1 : Int32)), .val (.int (1 : Int32)), .val (.int (0 : Int32))] [])) (fun _ k => XS.istore X19.here hx rfl (hb hby at_265) rfl (l' := #[.val (.int p1), .val (.int p2), .val (.int p3), .val (.int p4), .val (.int p5), .val (.int c1), .val (.int r1), .val (.int d1), .val (.int c2), .val (.int r2), .val (.int d2), .val (.ref b1), .val (.ref t3), .val (.ref dg3), .val (.ref t7), .val (.ref dg7), .val (.int (1 : Int32)), .val (.int (1 : Int32)), .val (.int (0 : Int32))]) rfl k) ?_
        refine go (B := T19.setTop (mkF m 269 #[.val (.int p1), .val (.int p2), .val (.int p3), .val (.int p4), .val (.int p5), .val (.int c1), .val (.int r1), .val (.int d1), .val (.int c2), .val (.int r2), .val (.int d2), .val (.ref b1), .val (.ref t3), .val (.ref dg3), .val (.ref t7), .val (.ref dg7), .val (.int (1 : Int32)), .val (.int (1 : Int32)), .val (.int (0 : Int32))] [(.int p5)])) (fun _ k => XS.iload X19.here hx rfl (hb hby at_267) rfl k) ?_
        refine go (B := T19.setTop (mkF m 271 #[.val (.int p1), .val (.int p2), .val (.int p3), .val (.int p4), .val (.int p5), .val (.int c1), .val (.int r1), .val (.int d1), .val (.int c2), .val (.int r2), .val (.int d2), .val (.ref b1), .val (.ref t3), .val (.ref dg3), .val (.ref t7), .val (.ref dg7), .val (.int (1 : Int32)), .val (.int (1 : Int32)), .val (.int p5)] [])) (fun _ k => XS.istore X19.here hx rfl (hb hby at_269) rfl (l' := #[.val (.int p1), .val (.int p2), .val (.int p3), .val (.int p4), .val (.int p5), .val (.int c1), .val (.int r1), .val (.int d1), .val (.int c2), .val (.int r2), .val (.int d2), .val (.ref b1), .val (.ref t3), .val (.ref dg3), .val (.ref t7), .val (.ref dg7), .val (.int (1 : Int32)), .val (.int (1 : Int32)), .val (.int p5)]) rfl k) ?_
        refine go (B := T19.setTop (mkF m 273 #[.val (.int p1), .val (.int p2), .val (.int p3), .val (.int p4), .val (.int p5), .val (.int c1), .val (.int r1), .val (.int d1), .val (.int c2), .val (.int r2), .val (.int d2), .val (.ref b1), .val (.ref t3), .val (.ref dg3), .val (.ref t7), .val (.ref dg7), .val (.int (1 : Int32)), .val (.int (1 : Int32)), .val (.int p5)] [(.int c2)])) (fun _ k => XS.iload X19.here hx rfl (hb hby at_271) rfl k) ?_
        refine go (B := T19.setTop (mkF m 274 #[.val (.int p1), .val (.int p2), .val (.int p3), .val (.int p4), .val (.int p5), .val (.int c1), .val (.int r1), .val (.int d1), .val (.int c2), .val (.int r2), .val (.int d2), .val (.ref b1), .val (.ref t3), .val (.ref dg3), .val (.ref t7), .val (.ref dg7), .val (.int (1 : Int32)), .val (.int (1 : Int32)), .val (.int p5)] [(.int (2 : Int32)), (.int c2)])) (fun _ k => XS.iconst X19.here hx rfl (hb hby at_273) k) ?_
        by_cases hc274 : c2 < (2 : Int32)
        · refine go (B := T19.setTop (mkF m 289 #[.val (.int p1), .val (.int p2), .val (.int p3), .val (.int p4), .val (.int p5), .val (.int c1), .val (.int r1), .val (.int d1), .val (.int c2), .val (.int r2), .val (.int d2), .val (.ref b1), .val (.ref t3), .val (.ref dg3), .val (.ref t7), .val (.ref dg7), .val (.int (1 : Int32)), .val (.int (1 : Int32)), .val (.int p5)] [])) (fun _ k => XS.icmpYes X19.here hx rfl (pc0 := 274) (pc' := 289) rfl (hb hby at_274) rfl (tlt hc274).1 (by decide) (by decide) k) ?_
          refine go (B := T19.setTop (mkF m 291 #[.val (.int p1), .val (.int p2), .val (.int p3), .val (.int p4), .val (.int p5), .val (.int c1), .val (.int r1), .val (.int d1), .val (.int c2), .val (.int r2), .val (.int d2), .val (.ref b1), .val (.ref t3), .val (.ref dg3), .val (.ref t7), .val (.ref dg7), .val (.int (1 : Int32)), .val (.int (1 : Int32)), .val (.int p5)] [(.int (1 : Int32))])) (fun _ k => XS.iload X19.here hx rfl (hb hby at_289) rfl k) ?_
          have hc291 : ¬ ((1 : Int32) = (0 : Int32)) := by decide
          refine go (B := T19.setTop (mkF m 294 #[.val (.int p1), .val (.int p2), .val (.int p3), .val (.int p4), .val (.int p5), .val (.int c1), .val (.int r1), .val (.int d1), .val (.int c2), .val (.int r2), .val (.int d2), .val (.ref b1), .val (.ref t3), .val (.ref dg3), .val (.ref t7), .val (.ref dg7), .val (.int (1 : Int32)), .val (.int (1 : Int32)), .val (.int p5)] [])) (fun _ k => XS.ifNo X19.here hx rfl (hb hby at_291) rfl ((if0 _ _).trans (feq hc291).1) k) ?_
          refine go (B := T19.setTop (mkF m 296 #[.val (.int p1), .val (.int p2), .val (.int p3), .val (.int p4), .val (.int p5), .val (.int c1), .val (.int r1), .val (.int d1), .val (.int c2), .val (.int r2), .val (.int d2), .val (.ref b1), .val (.ref t3), .val (.ref dg3), .val (.ref t7), .val (.ref dg7), .val (.int (1 : Int32)), .val (.int (1 : Int32)), .val (.int p5)] [(.ref b1)])) (fun _ k => XS.aload X19.here hx rfl (hb hby at_294) rfl rfl k) ?_
          obtain ⟨cq20, kq20, q20a, q20b, q20c⟩ := isOf hZ rfl R19.1
          obtain ⟨_, _, ⟨T20, L20, k20, n20⟩, -, X20, ⟨Lc20, hQ20, l20, y20, z20⟩, st20⟩ := X19.virtualBack hx (y := (⟨"com/example/zonecast/zonecast/RecordValues", "size", "()I"⟩ : MethodName)) (z := (⟨"com/example/zonecast/zonecast/RecordValues", "size", "()I"⟩ : MethodName)) hown (mvT hZ (hw _ (List.mem_of_getElem? (i := 34) rfl))) (mvT hZ (hw _ (List.mem_of_getElem? (i := 35) rfl))) (notFace_of_selects (args := #[]) (mvT hZ (hw _ (List.mem_of_getElem? (i := 37) rfl)))) (mvT hZ (hw _ (List.mem_of_getElem? (i := 37) rfl))) (mvT hZ (hw _ (List.mem_of_getElem? (i := 36) rfl))) (by decide) (backOf (W := 0) (rm6 l Z a0 hw [] b1 ((0 : Int32) + (1 : Int32)) T19.heap n0 Zr19 R19.2.2.2.2.1) hZ (hw _ (List.mem_of_getElem? (i := 38) rfl)) (hw _ (List.mem_of_getElem? (i := 2) rfl)) (by decide) (by decide)) q20a q20c (g := (mkF m 296 #[.val (.int p1), .val (.int p2), .val (.int p3), .val (.int p4), .val (.int p5), .val (.int c1), .val (.int r1), .val (.int d1), .val (.int c2), .val (.int r2), .val (.int d2), .val (.ref b1), .val (.ref t3), .val (.ref dg3), .val (.ref t7), .val (.ref dg7), .val (.int (1 : Int32)), .val (.int (1 : Int32)), .val (.int p5)] [(.ref b1)])) rfl (by rw [hml]; rfl) (Steps.refl _) (argsL := []) (rest := []) (lenOf pd___I rfl) rfl (by show 2 * 0 + _ ≤ _; exact Nat.le_of_eq rfl) (hb hby at_296) (fun _ _ => ⟨rfl, rfl, (by decide : 10 + 0 ≤ _), (by decide : 78 + 0 ≤ _)⟩)
          dsimp only [Pt.U, Pt.locs, Pt.cells, Pt.slots] at X20 l20 y20 z20 st20 hQ20
          subst l20 y20 z20
          obtain ⟨rfl, N20q, e20⟩ := hQ20
          have N20 := Fr.app N19 N20q
          refine go (B := T20.setTop (mkF m 299 #[.val (.int p1), .val (.int p2), .val (.int p3), .val (.int p4), .val (.int p5), .val (.int c1), .val (.int r1), .val (.int d1), .val (.int c2), .val (.int r2), .val (.int d2), .val (.ref b1), .val (.ref t3), .val (.ref dg3), .val (.ref t7), .val (.ref dg7), .val (.int (1 : Int32)), .val (.int (1 : Int32)), .val (.int p5)] [(.int ((0 : Int32) + (1 : Int32)))])) (fun _ k => st20.trans k) ?_
          refine go (B := T20.setTop (mkF m 301 #[.val (.int p1), .val (.int p2), .val (.int p3), .val (.int p4), .val (.int p5), .val (.int c1), .val (.int r1), .val (.int d1), .val (.int c2), .val (.int r2), .val (.int d2), .val (.ref b1), .val (.ref t3), .val (.ref dg3), .val (.ref t7), .val (.ref dg7), .val (.int (1 : Int32)), .val (.int (1 : Int32)), .val (.int p5)] [(.int (1 : Int32)), (.int ((0 : Int32) + (1 : Int32)))])) (fun _ k => XS.iload X20.here hx rfl (hb hby at_299) rfl k) ?_
          have hc301 : ((0 : Int32) + (1 : Int32)) = (1 : Int32) := by decide +kernel
          refine go (B := T20.setTop (mkF m 304 #[.val (.int p1), .val (.int p2), .val (.int p3), .val (.int p4), .val (.int p5), .val (.int c1), .val (.int r1), .val (.int d1), .val (.int c2), .val (.int r2), .val (.int d2), .val (.ref b1), .val (.ref t3), .val (.ref dg3), .val (.ref t7), .val (.ref dg7), .val (.int (1 : Int32)), .val (.int (1 : Int32)), .val (.int p5)] [])) (fun _ k => XS.icmpNo X20.here hx rfl (hb hby at_301) rfl (teq hc301).2 k) ?_
          refine go (B := T20.setTop (mkF m 306 #[.val (.int p1), .val (.int p2), .val (.int p3), .val (.int p4), .val (.int p5), .val (.int c1), .val (.int r1), .val (.int d1), .val (.int c2), .val (.int r2), .val (.int d2), .val (.ref b1), .val (.ref t3), .val (.ref dg3), .val (.ref t7), .val (.ref dg7), .val (.int (1 : Int32)), .val (.int (1 : Int32)), .val (.int p5)] [(.ref b1)])) (fun _ k => XS.aload X20.here hx rfl (hb hby at_304) rfl rfl k) ?_
          obtain ⟨cq21, kq21, q21a, q21b, q21c⟩ := isOf hZ e20 R19.1
          obtain ⟨_, _, ⟨T21, L21, k21, n21⟩, -, X21, ⟨Lc21, hQ21, l21, y21, z21⟩, st21⟩ := X20.virtualBack hx (y := (⟨"com/example/zonecast/zonecast/RecordValues", "next", "()I"⟩ : MethodName)) (z := (⟨"com/example/zonecast/zonecast/RecordValues", "next", "()I"⟩ : MethodName)) hown (mvT hZ (hw _ (List.mem_of_getElem? (i := 39) rfl))) (mvT hZ (hw _ (List.mem_of_getElem? (i := 40) rfl))) (notFace_of_selects (args := #[]) (mvT hZ (hw _ (List.mem_of_getElem? (i := 42) rfl)))) (mvT hZ (hw _ (List.mem_of_getElem? (i := 42) rfl))) (mvT hZ (hw _ (List.mem_of_getElem? (i := 41) rfl))) (by decide) (backOf (W := 0) (rm7 l Z a0 hw [] b1 t7 en7 dg7 ((0 : Int32) + (1 : Int32)) (mx (mx (0 : Int32) r1) r2) (mx (mx (0 : Int32) c1) c2) (mx (mx (0 : Int32) d1) d2) p5 T19.heap n0 Zr19 R19 (by decide +kernel) (by have f1 := mx_int (0 : Int32) c1; have f2 := mx_int (mx (0 : Int32) c1) c2; have f3 := B_c1; have f4 := B_c2; have f5 := z0; have f6 := z1; have g : (((0 : Int32) + (1 : Int32))).toInt = 1 := (by decide +kernel); simp only [Int32.lt_iff_toInt_lt, z0, z1, z2] at hc64 hc254 hc274; omega)) hZ (hw _ (List.mem_of_getElem? (i := 43) rfl)) (hw _ (List.mem_of_getElem? (i := 2) rfl)) (by decide) (by decide)) q21a q21c (g := (mkF m 306 #[.val (.int p1), .val (.int p2), .val (.int p3), .val (.int p4), .val (.int p5), .val (.int c1), .val (.int r1), .val (.int d1), .val (.int c2), .val (.int r2), .val (.int d2), .val (.ref b1), .val (.ref t3), .val (.ref dg3), .val (.ref t7), .val (.ref dg7), .val (.int (1 : Int32)), .val (.int (1 : Int32)), .val (.int p5)] [(.ref b1)])) rfl (by rw [hml]; rfl) (Steps.refl _) (argsL := []) (rest := []) (lenOf pd___I rfl) rfl (by show 2 * 0 + _ ≤ _; exact Nat.le_of_eq rfl) (hb hby at_306) (fun _ _ => ⟨rfl, e20, (by decide : 10 + 0 ≤ _), (by decide : 78 + 0 ≤ _)⟩)
          dsimp only [Pt.U, Pt.locs, Pt.cells, Pt.slots] at X21 l21 y21 z21 st21 hQ21
          subst l21 y21 z21
          obtain ⟨rfl, N21q, e21⟩ := hQ21
          have N21 := Fr.app N20 N21q
          refine go (B := T21.setTop (mkF m 309 #[.val (.int p1), .val (.int p2), .val (.int p3), .val (.int p4), .val (.int p5), .val (.int c1), .val (.int r1), .val (.int d1), .val (.int c2), .val (.int r2), .val (.int d2), .val (.ref b1), .val (.ref t3), .val (.ref dg3), .val (.ref t7), .val (.ref dg7), .val (.int (1 : Int32)), .val (.int (1 : Int32)), .val (.int p5)] [(.int (fNext ((0 : Int32) + (1 : Int32)) p5))])) (fun _ k => st21.trans k) ?_
          refine go (B := T21.setTop (mkF m 311 #[.val (.int p1), .val (.int p2), .val (.int p3), .val (.int p4), .val (.int p5), .val (.int c1), .val (.int r1), .val (.int d1), .val (.int c2), .val (.int r2), .val (.int d2), .val (.ref b1), .val (.ref t3), .val (.ref dg3), .val (.ref t7), .val (.ref dg7), .val (.int (1 : Int32)), .val (.int (1 : Int32)), .val (.int p5)] [(.int p5), (.int (fNext ((0 : Int32) + (1 : Int32)) p5))])) (fun _ k => XS.iload X21.here hx rfl (hb hby at_309) rfl k) ?_
          have hc311 : (fNext ((0 : Int32) + (1 : Int32)) p5) = p5 := fNext_ne (by decide +kernel)
          refine go (B := T21.setTop (mkF m 314 #[.val (.int p1), .val (.int p2), .val (.int p3), .val (.int p4), .val (.int p5), .val (.int c1), .val (.int r1), .val (.int d1), .val (.int c2), .val (.int r2), .val (.int d2), .val (.ref b1), .val (.ref t3), .val (.ref dg3), .val (.ref t7), .val (.ref dg7), .val (.int (1 : Int32)), .val (.int (1 : Int32)), .val (.int p5)] [])) (fun _ k => XS.icmpNo X21.here hx rfl (hb hby at_311) rfl (teq hc311).2 k) ?_
          refine go (B := T21.setTop (mkF m 315 #[.val (.int p1), .val (.int p2), .val (.int p3), .val (.int p4), .val (.int p5), .val (.int c1), .val (.int r1), .val (.int d1), .val (.int c2), .val (.int r2), .val (.int d2), .val (.ref b1), .val (.ref t3), .val (.ref dg3), .val (.ref t7), .val (.ref dg7), .val (.int (1 : Int32)), .val (.int (1 : Int32)), .val (.int p5)] [(.int (1 : Int32))])) (fun _ k => XS.iconst X21.here hx rfl (hb hby at_314) k) ?_
          refine go (B := T21.setTop (mkF m 319 #[.val (.int p1), .val (.int p2), .val (.int p3), .val (.int p4), .val (.int p5), .val (.int c1), .val (.int r1), .val (.int d1), .val (.int c2), .val (.int r2), .val (.int d2), .val (.ref b1), .val (.ref t3), .val (.ref dg3), .val (.ref t7), .val (.ref dg7), .val (.int (1 : Int32)), .val (.int (1 : Int32)), .val (.int p5)] [(.int (1 : Int32))])) (fun _ k => XS.goto X21.here hx rfl (pc0 := 315) (pc' := 319) rfl (hb hby at_315) (by decide) (by decide) k) ?_
          refine go (B := T21.setTop (mkF m 321 #[.val (.int p1), .val (.int p2), .val (.int p3), .val (.int p4), .val (.int p5), .val (.int c1), .val (.int r1), .val (.int d1), .val (.int c2), .val (.int r2), .val (.int d2), .val (.ref b1), .val (.ref t3), .val (.ref dg3), .val (.ref t7), .val (.ref dg7), .val (.int (1 : Int32)), .val (.int (1 : Int32)), .val (.int p5)] [])) (fun _ k => XS.istore X21.here hx rfl (hb hby at_319) rfl (l' := #[.val (.int p1), .val (.int p2), .val (.int p3), .val (.int p4), .val (.int p5), .val (.int c1), .val (.int r1), .val (.int d1), .val (.int c2), .val (.int r2), .val (.int d2), .val (.ref b1), .val (.ref t3), .val (.ref dg3), .val (.ref t7), .val (.ref dg7), .val (.int (1 : Int32)), .val (.int (1 : Int32)), .val (.int p5)]) rfl k) ?_
          refine go (B := T21.setTop (mkF m 323 #[.val (.int p1), .val (.int p2), .val (.int p3), .val (.int p4), .val (.int p5), .val (.int c1), .val (.int r1), .val (.int d1), .val (.int c2), .val (.int r2), .val (.int d2), .val (.ref b1), .val (.ref t3), .val (.ref dg3), .val (.ref t7), .val (.ref dg7), .val (.int (1 : Int32)), .val (.int (1 : Int32)), .val (.int p5)] [(.int (1 : Int32))])) (fun _ k => XS.iload X21.here hx rfl (hb hby at_321) rfl k) ?_
          refine goRetN X21 hx (t := .boolean) Bd.returns (by simp) hlk (hb hby at_323) ?_ (by decide) (by decide)
          rw [e21]
          exact ⟨rfl, N21⟩
        · refine go (B := T19.setTop (mkF m 277 #[.val (.int p1), .val (.int p2), .val (.int p3), .val (.int p4), .val (.int p5), .val (.int c1), .val (.int r1), .val (.int d1), .val (.int c2), .val (.int r2), .val (.int d2), .val (.ref b1), .val (.ref t3), .val (.ref dg3), .val (.ref t7), .val (.ref dg7), .val (.int (1 : Int32)), .val (.int (1 : Int32)), .val (.int p5)] [])) (fun _ k => XS.icmpNo X19.here hx rfl (hb hby at_274) rfl (flt hc274).1 k) ?_
          refine go (B := T19.setTop (mkF m 279 #[.val (.int p1), .val (.int p2), .val (.int p3), .val (.int p4), .val (.int p5), .val (.int c1), .val (.int r1), .val (.int d1), .val (.int c2), .val (.int r2), .val (.int d2), .val (.ref b1), .val (.ref t3), .val (.ref dg3), .val (.ref t7), .val (.ref dg7), .val (.int (1 : Int32)), .val (.int (1 : Int32)), .val (.int p5)] [(.ref b1)])) (fun _ k => XS.aload X19.here hx rfl (hb hby at_277) rfl rfl k) ?_
          refine go (B := T19.setTop (mkF m 280 #[.val (.int p1), .val (.int p2), .val (.int p3), .val (.int p4), .val (.int p5), .val (.int c1), .val (.int r1), .val (.int d1), .val (.int c2), .val (.int r2), .val (.int d2), .val (.ref b1), .val (.ref t3), .val (.ref dg3), .val (.ref t7), .val (.ref dg7), .val (.int (1 : Int32)), .val (.int (1 : Int32)), .val (.int p5)] [(.int p4), (.ref b1)])) (fun _ k => XS.iloadN X19.here hx rfl (hb hby at_279) rfl k) ?_
          obtain ⟨cq22, kq22, q22a, q22b, q22c⟩ := isOf hZ rfl R19.1
          obtain ⟨_, _, ⟨T22, L22, k22, n22⟩, -, X22, ⟨Lc22, hQ22, l22, y22, z22⟩, st22⟩ := X19.virtualBack hx (y := (⟨"com/example/zonecast/zonecast/RecordValues", "add", "(I)V"⟩ : MethodName)) (z := (⟨"com/example/zonecast/zonecast/RecordValues", "add", "(I)V"⟩ : MethodName)) hown (mvT hZ (hw _ (List.mem_of_getElem? (i := 44) rfl))) (mvT hZ (hw _ (List.mem_of_getElem? (i := 45) rfl))) (notFace_of_selects (args := #[]) (mvT hZ (hw _ (List.mem_of_getElem? (i := 47) rfl)))) (mvT hZ (hw _ (List.mem_of_getElem? (i := 47) rfl))) (mvT hZ (hw _ (List.mem_of_getElem? (i := 46) rfl))) (by decide) (backOf (W := 0) (rm8 l Z a0 hw [] b1 p4 t7 en7 dg7 ((0 : Int32) + (1 : Int32)) (mx (mx (0 : Int32) r1) r2) (mx (mx (0 : Int32) c1) c2) (mx (mx (0 : Int32) d1) d2) p5 T19.heap n0 Zr19 R19 (by decide +kernel) (by have f1 := mx_int (0 : Int32) c1; have f2 := mx_int (mx (0 : Int32) c1) c2; have f3 := B_c1; have f4 := B_c2; have f5 := z0; have f6 := z1; have g : (((0 : Int32) + (1 : Int32))).toInt = 1 := (by decide +kernel); simp only [Int32.lt_iff_toInt_lt, z0, z1, z2] at hc64 hc254 hc274; omega)) hZ (hw _ (List.mem_of_getElem? (i := 48) rfl)) (hw _ (List.mem_of_getElem? (i := 2) rfl)) (by decide) (by decide)) q22a q22c (g := (mkF m 280 #[.val (.int p1), .val (.int p2), .val (.int p3), .val (.int p4), .val (.int p5), .val (.int c1), .val (.int r1), .val (.int d1), .val (.int c2), .val (.int r2), .val (.int d2), .val (.ref b1), .val (.ref t3), .val (.ref dg3), .val (.ref t7), .val (.ref dg7), .val (.int (1 : Int32)), .val (.int (1 : Int32)), .val (.int p5)] [(.int p4), (.ref b1)])) rfl (by rw [hml]; rfl) (Steps.refl _) (argsL := [(.int p4)]) (rest := []) (lenOf pd__I_V rfl) rfl (by show 2 * 0 + _ ≤ _; exact Nat.le_of_eq rfl) (hb hby at_280) (fun _ _ => ⟨rfl, rfl, (by decide : 10 + 0 ≤ _), (by decide : 78 + 0 ≤ _)⟩)
          dsimp only [Pt.U, Pt.locs, Pt.cells, Pt.slots] at X22 l22 y22 z22 st22 hQ22
          subst l22 y22 z22
          obtain ⟨rfl, N22q, R22⟩ := hQ22
          have N22 := Fr.app N19 N22q
          have Zr22 := R22.2.2.2.2.2.2.2.2.2.2.2.2.2.2.2
          refine go (B := T22.setTop (mkF m 283 #[.val (.int p1), .val (.int p2), .val (.int p3), .val (.int p4), .val (.int p5), .val (.int c1), .val (.int r1), .val (.int d1), .val (.int c2), .val (.int r2), .val (.int d2), .val (.ref b1), .val (.ref t3), .val (.ref dg3), .val (.ref t7), .val (.ref dg7), .val (.int (1 : Int32)), .val (.int (1 : Int32)), .val (.int p5)] [])) (fun _ k => st22.trans k) ?_
          refine go (B := T22.setTop (mkF m 284 #[.val (.int p1), .val (.int p2), .val (.int p3), .val (.int p4), .val (.int p5), .val (.int c1), .val (.int r1), .val (.int d1), .val (.int c2), .val (.int r2), .val (.int d2), .val (.ref b1), .val (.ref t3), .val (.ref dg3), .val (.ref t7), .val (.ref dg7), .val (.int (1 : Int32)), .val (.int (1 : Int32)), .val (.int p5)] [(.int (2 : Int32))])) (fun _ k => XS.iconst X22.here hx rfl (hb hby at_283) k) ?_
          refine go (B := T22.setTop (mkF m 286 #[.val (.int p1), .val (.int p2), .val (.int p3), .val (.int p4), .val (.int p5), .val (.int c1), .val (.int r1), .val (.int d1), .val (.int c2), .val (.int r2), .val (.int d2), .val (.ref b1), .val (.ref t3), .val (.ref dg3), .val (.ref t7), .val (.ref dg7), .val (.int (1 : Int32)), .val (.int (2 : Int32)), .val (.int p5)] [])) (fun _ k => XS.istore X22.here hx rfl (hb hby at_284) rfl (l' := #[.val (.int p1), .val (.int p2), .val (.int p3), .val (.int p4), .val (.int p5), .val (.int c1), .val (.int r1), .val (.int d1), .val (.int c2), .val (.int r2), .val (.int d2), .val (.ref b1), .val (.ref t3), .val (.ref dg3), .val (.ref t7), .val (.ref dg7), .val (.int (1 : Int32)), .val (.int (2 : Int32)), .val (.int p5)]) rfl k) ?_
          refine go (B := T22.setTop (mkF m 287 #[.val (.int p1), .val (.int p2), .val (.int p3), .val (.int p4), .val (.int p5), .val (.int c1), .val (.int r1), .val (.int d1), .val (.int c2), .val (.int r2), .val (.int d2), .val (.ref b1), .val (.ref t3), .val (.ref dg3), .val (.ref t7), .val (.ref dg7), .val (.int (1 : Int32)), .val (.int (2 : Int32)), .val (.int p5)] [(.int p4)])) (fun _ k => XS.iloadN X22.here hx rfl (hb hby at_286) rfl k) ?_
          refine go (B := T22.setTop (mkF m 289 #[.val (.int p1), .val (.int p2), .val (.int p3), .val (.int p4), .val (.int p5), .val (.int c1), .val (.int r1), .val (.int d1), .val (.int c2), .val (.int r2), .val (.int d2), .val (.ref b1), .val (.ref t3), .val (.ref dg3), .val (.ref t7), .val (.ref dg7), .val (.int (1 : Int32)), .val (.int (2 : Int32)), .val (.int p4)] [])) (fun _ k => XS.istore X22.here hx rfl (hb hby at_287) rfl (l' := #[.val (.int p1), .val (.int p2), .val (.int p3), .val (.int p4), .val (.int p5), .val (.int c1), .val (.int r1), .val (.int d1), .val (.int c2), .val (.int r2), .val (.int d2), .val (.ref b1), .val (.ref t3), .val (.ref dg3), .val (.ref t7), .val (.ref dg7), .val (.int (1 : Int32)), .val (.int (2 : Int32)), .val (.int p4)]) rfl k) ?_
          refine go (B := T22.setTop (mkF m 291 #[.val (.int p1), .val (.int p2), .val (.int p3), .val (.int p4), .val (.int p5), .val (.int c1), .val (.int r1), .val (.int d1), .val (.int c2), .val (.int r2), .val (.int d2), .val (.ref b1), .val (.ref t3), .val (.ref dg3), .val (.ref t7), .val (.ref dg7), .val (.int (1 : Int32)), .val (.int (2 : Int32)), .val (.int p4)] [(.int (1 : Int32))])) (fun _ k => XS.iload X22.here hx rfl (hb hby at_289) rfl k) ?_
          have hc291 : ¬ ((1 : Int32) = (0 : Int32)) := by decide
          refine go (B := T22.setTop (mkF m 294 #[.val (.int p1), .val (.int p2), .val (.int p3), .val (.int p4), .val (.int p5), .val (.int c1), .val (.int r1), .val (.int d1), .val (.int c2), .val (.int r2), .val (.int d2), .val (.ref b1), .val (.ref t3), .val (.ref dg3), .val (.ref t7), .val (.ref dg7), .val (.int (1 : Int32)), .val (.int (2 : Int32)), .val (.int p4)] [])) (fun _ k => XS.ifNo X22.here hx rfl (hb hby at_291) rfl ((if0 _ _).trans (feq hc291).1) k) ?_
          refine go (B := T22.setTop (mkF m 296 #[.val (.int p1), .val (.int p2), .val (.int p3), .val (.int p4), .val (.int p5), .val (.int c1), .val (.int r1), .val (.int d1), .val (.int c2), .val (.int r2), .val (.int d2), .val (.ref b1), .val (.ref t3), .val (.ref dg3), .val (.ref t7), .val (.ref dg7), .val (.int (1 : Int32)), .val (.int (2 : Int32)), .val (.int p4)] [(.ref b1)])) (fun _ k => XS.aload X22.here hx rfl (hb hby at_294) rfl rfl k) ?_
          obtain ⟨cq23, kq23, q23a, q23b, q23c⟩ := isOf hZ rfl R22.1
          obtain ⟨_, _, ⟨T23, L23, k23, n23⟩, -, X23, ⟨Lc23, hQ23, l23, y23, z23⟩, st23⟩ := X22.virtualBack hx (y := (⟨"com/example/zonecast/zonecast/RecordValues", "size", "()I"⟩ : MethodName)) (z := (⟨"com/example/zonecast/zonecast/RecordValues", "size", "()I"⟩ : MethodName)) hown (mvT hZ (hw _ (List.mem_of_getElem? (i := 34) rfl))) (mvT hZ (hw _ (List.mem_of_getElem? (i := 35) rfl))) (notFace_of_selects (args := #[]) (mvT hZ (hw _ (List.mem_of_getElem? (i := 37) rfl)))) (mvT hZ (hw _ (List.mem_of_getElem? (i := 37) rfl))) (mvT hZ (hw _ (List.mem_of_getElem? (i := 36) rfl))) (by decide) (backOf (W := 0) (rm6 l Z a0 hw [] b1 (((0 : Int32) + (1 : Int32)) + (1 : Int32)) T22.heap n0 Zr22 R22.2.2.2.2.1) hZ (hw _ (List.mem_of_getElem? (i := 38) rfl)) (hw _ (List.mem_of_getElem? (i := 2) rfl)) (by decide) (by decide)) q23a q23c (g := (mkF m 296 #[.val (.int p1), .val (.int p2), .val (.int p3), .val (.int p4), .val (.int p5), .val (.int c1), .val (.int r1), .val (.int d1), .val (.int c2), .val (.int r2), .val (.int d2), .val (.ref b1), .val (.ref t3), .val (.ref dg3), .val (.ref t7), .val (.ref dg7), .val (.int (1 : Int32)), .val (.int (2 : Int32)), .val (.int p4)] [(.ref b1)])) rfl (by rw [hml]; rfl) (Steps.refl _) (argsL := []) (rest := []) (lenOf pd___I rfl) rfl (by show 2 * 0 + _ ≤ _; exact Nat.le_of_eq rfl) (hb hby at_296) (fun _ _ => ⟨rfl, rfl, (by decide : 10 + 0 ≤ _), (by decide : 78 + 0 ≤ _)⟩)
          dsimp only [Pt.U, Pt.locs, Pt.cells, Pt.slots] at X23 l23 y23 z23 st23 hQ23
          subst l23 y23 z23
          obtain ⟨rfl, N23q, e23⟩ := hQ23
          have N23 := Fr.app N22 N23q
          refine go (B := T23.setTop (mkF m 299 #[.val (.int p1), .val (.int p2), .val (.int p3), .val (.int p4), .val (.int p5), .val (.int c1), .val (.int r1), .val (.int d1), .val (.int c2), .val (.int r2), .val (.int d2), .val (.ref b1), .val (.ref t3), .val (.ref dg3), .val (.ref t7), .val (.ref dg7), .val (.int (1 : Int32)), .val (.int (2 : Int32)), .val (.int p4)] [(.int (((0 : Int32) + (1 : Int32)) + (1 : Int32)))])) (fun _ k => st23.trans k) ?_
          refine go (B := T23.setTop (mkF m 301 #[.val (.int p1), .val (.int p2), .val (.int p3), .val (.int p4), .val (.int p5), .val (.int c1), .val (.int r1), .val (.int d1), .val (.int c2), .val (.int r2), .val (.int d2), .val (.ref b1), .val (.ref t3), .val (.ref dg3), .val (.ref t7), .val (.ref dg7), .val (.int (1 : Int32)), .val (.int (2 : Int32)), .val (.int p4)] [(.int (2 : Int32)), (.int (((0 : Int32) + (1 : Int32)) + (1 : Int32)))])) (fun _ k => XS.iload X23.here hx rfl (hb hby at_299) rfl k) ?_
          have hc301 : (((0 : Int32) + (1 : Int32)) + (1 : Int32)) = (2 : Int32) := by decide +kernel
          refine go (B := T23.setTop (mkF m 304 #[.val (.int p1), .val (.int p2), .val (.int p3), .val (.int p4), .val (.int p5), .val (.int c1), .val (.int r1), .val (.int d1), .val (.int c2), .val (.int r2), .val (.int d2), .val (.ref b1), .val (.ref t3), .val (.ref dg3), .val (.ref t7), .val (.ref dg7), .val (.int (1 : Int32)), .val (.int (2 : Int32)), .val (.int p4)] [])) (fun _ k => XS.icmpNo X23.here hx rfl (hb hby at_301) rfl (teq hc301).2 k) ?_
          refine go (B := T23.setTop (mkF m 306 #[.val (.int p1), .val (.int p2), .val (.int p3), .val (.int p4), .val (.int p5), .val (.int c1), .val (.int r1), .val (.int d1), .val (.int c2), .val (.int r2), .val (.int d2), .val (.ref b1), .val (.ref t3), .val (.ref dg3), .val (.ref t7), .val (.ref dg7), .val (.int (1 : Int32)), .val (.int (2 : Int32)), .val (.int p4)] [(.ref b1)])) (fun _ k => XS.aload X23.here hx rfl (hb hby at_304) rfl rfl k) ?_
          obtain ⟨cq24, kq24, q24a, q24b, q24c⟩ := isOf hZ e23 R22.1
          obtain ⟨_, _, ⟨T24, L24, k24, n24⟩, -, X24, ⟨Lc24, hQ24, l24, y24, z24⟩, st24⟩ := X23.virtualBack hx (y := (⟨"com/example/zonecast/zonecast/RecordValues", "next", "()I"⟩ : MethodName)) (z := (⟨"com/example/zonecast/zonecast/RecordValues", "next", "()I"⟩ : MethodName)) hown (mvT hZ (hw _ (List.mem_of_getElem? (i := 39) rfl))) (mvT hZ (hw _ (List.mem_of_getElem? (i := 40) rfl))) (notFace_of_selects (args := #[]) (mvT hZ (hw _ (List.mem_of_getElem? (i := 42) rfl)))) (mvT hZ (hw _ (List.mem_of_getElem? (i := 42) rfl))) (mvT hZ (hw _ (List.mem_of_getElem? (i := 41) rfl))) (by decide) (backOf (W := 0) (rm7 l Z a0 hw [] b1 t7 en7 dg7 (((0 : Int32) + (1 : Int32)) + (1 : Int32)) (mx (mx (0 : Int32) r1) r2) (mx (mx (0 : Int32) c1) c2) (mx (mx (0 : Int32) d1) d2) p4 T22.heap n0 Zr22 R22 (by decide +kernel) (by have f1 := mx_int (0 : Int32) c1; have f2 := mx_int (mx (0 : Int32) c1) c2; have f3 := B_c1; have f4 := B_c2; have f5 := z0; have f6 := z1; have g : ((((0 : Int32) + (1 : Int32)) + (1 : Int32))).toInt = 2 := (by decide +kernel); simp only [Int32.lt_iff_toInt_lt, z0, z1, z2] at hc64 hc254 hc274; omega)) hZ (hw _ (List.mem_of_getElem? (i := 43) rfl)) (hw _ (List.mem_of_getElem? (i := 2) rfl)) (by decide) (by decide)) q24a q24c (g := (mkF m 306 #[.val (.int p1), .val (.int p2), .val (.int p3), .val (.int p4), .val (.int p5), .val (.int c1), .val (.int r1), .val (.int d1), .val (.int c2), .val (.int r2), .val (.int d2), .val (.ref b1), .val (.ref t3), .val (.ref dg3), .val (.ref t7), .val (.ref dg7), .val (.int (1 : Int32)), .val (.int (2 : Int32)), .val (.int p4)] [(.ref b1)])) rfl (by rw [hml]; rfl) (Steps.refl _) (argsL := []) (rest := []) (lenOf pd___I rfl) rfl (by show 2 * 0 + _ ≤ _; exact Nat.le_of_eq rfl) (hb hby at_306) (fun _ _ => ⟨rfl, e23, (by decide : 10 + 0 ≤ _), (by decide : 78 + 0 ≤ _)⟩)
          dsimp only [Pt.U, Pt.locs, Pt.cells, Pt.slots] at X24 l24 y24 z24 st24 hQ24
          subst l24 y24 z24
          obtain ⟨rfl, N24q, e24⟩ := hQ24
          have N24 := Fr.app N23 N24q
          refine go (B := T24.setTop (mkF m 309 #[.val (.int p1), .val (.int p2), .val (.int p3), .val (.int p4), .val (.int p5), .val (.int c1), .val (.int r1), .val (.int d1), .val (.int c2), .val (.int r2), .val (.int d2), .val (.ref b1), .val (.ref t3), .val (.ref dg3), .val (.ref t7), .val (.ref dg7), .val (.int (1 : Int32)), .val (.int (2 : Int32)), .val (.int p4)] [(.int (fNext (((0 : Int32) + (1 : Int32)) + (1 : Int32)) p4))])) (fun _ k => st24.trans k) ?_
          refine go (B := T24.setTop (mkF m 311 #[.val (.int p1), .val (.int p2), .val (.int p3), .val (.int p4), .val (.int p5), .val (.int c1), .val (.int r1), .val (.int d1), .val (.int c2), .val (.int r2), .val (.int d2), .val (.ref b1), .val (.ref t3), .val (.ref dg3), .val (.ref t7), .val (.ref dg7), .val (.int (1 : Int32)), .val (.int (2 : Int32)), .val (.int p4)] [(.int p4), (.int (fNext (((0 : Int32) + (1 : Int32)) + (1 : Int32)) p4))])) (fun _ k => XS.iload X24.here hx rfl (hb hby at_309) rfl k) ?_
          have hc311 : (fNext (((0 : Int32) + (1 : Int32)) + (1 : Int32)) p4) = p4 := fNext_ne (by decide +kernel)
          refine go (B := T24.setTop (mkF m 314 #[.val (.int p1), .val (.int p2), .val (.int p3), .val (.int p4), .val (.int p5), .val (.int c1), .val (.int r1), .val (.int d1), .val (.int c2), .val (.int r2), .val (.int d2), .val (.ref b1), .val (.ref t3), .val (.ref dg3), .val (.ref t7), .val (.ref dg7), .val (.int (1 : Int32)), .val (.int (2 : Int32)), .val (.int p4)] [])) (fun _ k => XS.icmpNo X24.here hx rfl (hb hby at_311) rfl (teq hc311).2 k) ?_
          refine go (B := T24.setTop (mkF m 315 #[.val (.int p1), .val (.int p2), .val (.int p3), .val (.int p4), .val (.int p5), .val (.int c1), .val (.int r1), .val (.int d1), .val (.int c2), .val (.int r2), .val (.int d2), .val (.ref b1), .val (.ref t3), .val (.ref dg3), .val (.ref t7), .val (.ref dg7), .val (.int (1 : Int32)), .val (.int (2 : Int32)), .val (.int p4)] [(.int (1 : Int32))])) (fun _ k => XS.iconst X24.here hx rfl (hb hby at_314) k) ?_
          refine go (B := T24.setTop (mkF m 319 #[.val (.int p1), .val (.int p2), .val (.int p3), .val (.int p4), .val (.int p5), .val (.int c1), .val (.int r1), .val (.int d1), .val (.int c2), .val (.int r2), .val (.int d2), .val (.ref b1), .val (.ref t3), .val (.ref dg3), .val (.ref t7), .val (.ref dg7), .val (.int (1 : Int32)), .val (.int (2 : Int32)), .val (.int p4)] [(.int (1 : Int32))])) (fun _ k => XS.goto X24.here hx rfl (pc0 := 315) (pc' := 319) rfl (hb hby at_315) (by decide) (by decide) k) ?_
          refine go (B := T24.setTop (mkF m 321 #[.val (.int p1), .val (.int p2), .val (.int p3), .val (.int p4), .val (.int p5), .val (.int c1), .val (.int r1), .val (.int d1), .val (.int c2), .val (.int r2), .val (.int d2), .val (.ref b1), .val (.ref t3), .val (.ref dg3), .val (.ref t7), .val (.ref dg7), .val (.int (1 : Int32)), .val (.int (2 : Int32)), .val (.int p4)] [])) (fun _ k => XS.istore X24.here hx rfl (hb hby at_319) rfl (l' := #[.val (.int p1), .val (.int p2), .val (.int p3), .val (.int p4), .val (.int p5), .val (.int c1), .val (.int r1), .val (.int d1), .val (.int c2), .val (.int r2), .val (.int d2), .val (.ref b1), .val (.ref t3), .val (.ref dg3), .val (.ref t7), .val (.ref dg7), .val (.int (1 : Int32)), .val (.int (2 : Int32)), .val (.int p4)]) rfl k) ?_
          refine go (B := T24.setTop (mkF m 323 #[.val (.int p1), .val (.int p2), .val (.int p3), .val (.int p4), .val (.int p5), .val (.int c1), .val (.int r1), .val (.int d1), .val (.int c2), .val (.int r2), .val (.int d2), .val (.ref b1), .val (.ref t3), .val (.ref dg3), .val (.ref t7), .val (.ref dg7), .val (.int (1 : Int32)), .val (.int (2 : Int32)), .val (.int p4)] [(.int (1 : Int32))])) (fun _ k => XS.iload X24.here hx rfl (hb hby at_321) rfl k) ?_
          refine goRetN X24 hx (t := .boolean) Bd.returns (by simp) hlk (hb hby at_323) ?_ (by decide) (by decide)
          rw [e24]
          exact ⟨rfl, N24⟩
    refine go (B := T9.setTop (mkF m 165 #[.val (.int p1), .val (.int p2), .val (.int p3), .val (.int p4), .val (.int p5), .val (.int c1), .val (.int r1), .val (.int d1), .val (.int c2), .val (.int r2), .val (.int d2), .val (.ref b1), .val (.ref t3), .val (.ref dg3), .val (.ref t7), .val (.ref dg7), .val (.int (1 : Int32)), .unset, .unset] [(.int (1 : Int32))])) (fun _ k => XS.iload X9.here hx rfl (hb hby at_163) rfl k) ?_
    have hc165 : ¬ ((1 : Int32) = (0 : Int32)) := by decide
    refine go (B := T9.setTop (mkF m 168 #[.val (.int p1), .val (.int p2), .val (.int p3), .val (.int p4), .val (.int p5), .val (.int c1), .val (.int r1), .val (.int d1), .val (.int c2), .val (.int r2), .val (.int d2), .val (.ref b1), .val (.ref t3), .val (.ref dg3), .val (.ref t7), .val (.ref dg7), .val (.int (1 : Int32)), .unset, .unset] [])) (fun _ k => XS.ifNo X9.here hx rfl (hb hby at_165) rfl ((if0 _ _).trans (feq hc165).1) k) ?_
    refine go (B := T9.setTop (mkF m 170 #[.val (.int p1), .val (.int p2), .val (.int p3), .val (.int p4), .val (.int p5), .val (.int c1), .val (.int r1), .val (.int d1), .val (.int c2), .val (.int r2), .val (.int d2), .val (.ref b1), .val (.ref t3), .val (.ref dg3), .val (.ref t7), .val (.ref dg7), .val (.int (1 : Int32)), .unset, .unset] [(.ref t3)])) (fun _ k => XS.aload X9.here hx rfl (hb hby at_168) rfl rfl k) ?_
    have Vc25 := Vt7
    obtain ⟨cl25, Ar25, -, S25, N25_, -, -⟩ := Vc25
    refine go (B := T9.setTop (mkF m 171 #[.val (.int p1), .val (.int p2), .val (.int p3), .val (.int p4), .val (.int p5), .val (.int c1), .val (.int r1), .val (.int d1), .val (.int c2), .val (.int r2), .val (.int d2), .val (.ref b1), .val (.ref t3), .val (.ref dg3), .val (.ref t7), .val (.ref dg7), .val (.int (1 : Int32)), .unset, .unset] [(.int (mx (0 : Int32) r1))])) (fun _ k => X9.arraylength hx (by rw [e9]; exact Ar25.1) (State.isArrayOf_alike hZ.alike Ar25.2.1) (g := (mkF m 170 #[.val (.int p1), .val (.int p2), .val (.int p3), .val (.int p4), .val (.int p5), .val (.int c1), .val (.int r1), .val (.int d1), .val (.int c2), .val (.int r2), .val (.int d2), .val (.ref b1), .val (.ref t3), .val (.ref dg3), .val (.ref t7), .val (.ref dg7), .val (.int (1 : Int32)), .unset, .unset] [(.ref t3)])) rfl rfl (hb hby at_170) _ (by rw [len_of S25 N25_]; exact k)) ?_
    refine go (B := T9.setTop (mkF m 173 #[.val (.int p1), .val (.int p2), .val (.int p3), .val (.int p4), .val (.int p5), .val (.int c1), .val (.int r1), .val (.int d1), .val (.int c2), .val (.int r2), .val (.int d2), .val (.ref b1), .val (.ref t3), .val (.ref dg3), .val (.ref t7), .val (.ref dg7), .val (.int (1 : Int32)), .unset, .unset] [(.int r2), (.int (mx (0 : Int32) r1))])) (fun _ k => XS.iload X9.here hx rfl (hb hby at_171) rfl k) ?_
    by_cases hc173 : (mx (0 : Int32) r1) < r2
    · refine go (B := T9.setTop (mkF m 183 #[.val (.int p1), .val (.int p2), .val (.int p3), .val (.int p4), .val (.int p5), .val (.int c1), .val (.int r1), .val (.int d1), .val (.int c2), .val (.int r2), .val (.int d2), .val (.ref b1), .val (.ref t3), .val (.ref dg3), .val (.ref t7), .val (.ref dg7), .val (.int (1 : Int32)), .unset, .unset] [])) (fun _ k => XS.icmpYes X9.here hx rfl (pc0 := 173) (pc' := 183) rfl (hb hby at_173) rfl (tlt hc173).1 (by decide) (by decide) k) ?_
      refine go (B := T9.setTop (mkF m 184 #[.val (.int p1), .val (.int p2), .val (.int p3), .val (.int p4), .val (.int p5), .val (.int c1), .val (.int r1), .val (.int d1), .val (.int c2), .val (.int r2), .val (.int d2), .val (.ref b1), .val (.ref t3), .val (.ref dg3), .val (.ref t7), .val (.ref dg7), .val (.int (1 : Int32)), .unset, .unset] [(.int (1 : Int32))])) (fun _ k => XS.iconst X9.here hx rfl (hb hby at_183) k) ?_
      refine go (B := T9.setTop (mkF m 188 #[.val (.int p1), .val (.int p2), .val (.int p3), .val (.int p4), .val (.int p5), .val (.int c1), .val (.int r1), .val (.int d1), .val (.int c2), .val (.int r2), .val (.int d2), .val (.ref b1), .val (.ref t3), .val (.ref dg3), .val (.ref t7), .val (.ref dg7), .val (.int (1 : Int32)), .unset, .unset] [(.int (1 : Int32))])) (fun _ k => XS.goto X9.here hx rfl (pc0 := 184) (pc' := 188) rfl (hb hby at_184) (by decide) (by decide) k) ?_
      refine go (B := T9.setTop (mkF m 190 #[.val (.int p1), .val (.int p2), .val (.int p3), .val (.int p4), .val (.int p5), .val (.int c1), .val (.int r1), .val (.int d1), .val (.int c2), .val (.int r2), .val (.int d2), .val (.ref b1), .val (.ref t3), .val (.ref dg3), .val (.ref t7), .val (.ref dg7), .val (.int (1 : Int32)), .unset, .unset] [])) (fun _ k => XS.istore X9.here hx rfl (hb hby at_188) rfl (l' := #[.val (.int p1), .val (.int p2), .val (.int p3), .val (.int p4), .val (.int p5), .val (.int c1), .val (.int r1), .val (.int d1), .val (.int c2), .val (.int r2), .val (.int d2), .val (.ref b1), .val (.ref t3), .val (.ref dg3), .val (.ref t7), .val (.ref dg7), .val (.int (1 : Int32)), .unset, .unset]) rfl k) ?_
      refine go (B := T9.setTop (mkF m 192 #[.val (.int p1), .val (.int p2), .val (.int p3), .val (.int p4), .val (.int p5), .val (.int c1), .val (.int r1), .val (.int d1), .val (.int c2), .val (.int r2), .val (.int d2), .val (.ref b1), .val (.ref t3), .val (.ref dg3), .val (.ref t7), .val (.ref dg7), .val (.int (1 : Int32)), .unset, .unset] [(.int (1 : Int32))])) (fun _ k => XS.iload X9.here hx rfl (hb hby at_190) rfl k) ?_
      have hc192 : ¬ ((1 : Int32) = (0 : Int32)) := by decide
      refine go (B := T9.setTop (mkF m 195 #[.val (.int p1), .val (.int p2), .val (.int p3), .val (.int p4), .val (.int p5), .val (.int c1), .val (.int r1), .val (.int d1), .val (.int c2), .val (.int r2), .val (.int d2), .val (.ref b1), .val (.ref t3), .val (.ref dg3), .val (.ref t7), .val (.ref dg7), .val (.int (1 : Int32)), .unset, .unset] [])) (fun _ k => XS.ifNo X9.here hx rfl (hb hby at_192) rfl ((if0 _ _).trans (feq hc192).1) k) ?_
      refine go (B := T9.setTop (mkF m 197 #[.val (.int p1), .val (.int p2), .val (.int p3), .val (.int p4), .val (.int p5), .val (.int c1), .val (.int r1), .val (.int d1), .val (.int c2), .val (.int r2), .val (.int d2), .val (.ref b1), .val (.ref t3), .val (.ref dg3), .val (.ref t7), .val (.ref dg7), .val (.int (1 : Int32)), .unset, .unset] [(.ref dg3)])) (fun _ k => XS.aload X9.here hx rfl (hb hby at_195) rfl rfl k) ?_
      have Vc26 := Vd7
      obtain ⟨cl26, Ar26, -, S26, N26_, -, -⟩ := Vc26
      refine go (B := T9.setTop (mkF m 198 #[.val (.int p1), .val (.int p2), .val (.int p3), .val (.int p4), .val (.int p5), .val (.int c1), .val (.int r1), .val (.int d1), .val (.int c2), .val (.int r2), .val (.int d2), .val (.ref b1), .val (.ref t3), .val (.ref dg3), .val (.ref t7), .val (.ref dg7), .val (.int (1 : Int32)), .unset, .unset] [(.int (mx (0 : Int32) d1))])) (fun _ k => X9.arraylength hx (by rw [e9]; exact Ar26.1) (State.isArrayOf_alike hZ.alike Ar26.2.1) (g := (mkF m 197 #[.val (.int p1), .val (.int p2), .val (.int p3), .val (.int p4), .val (.int p5), .val (.int c1), .val (.int r1), .val (.int d1), .val (.int c2), .val (.int r2), .val (.int d2), .val (.ref b1), .val (.ref t3), .val (.ref dg3), .val (.ref t7), .val (.ref dg7), .val (.int (1 : Int32)), .unset, .unset] [(.ref dg3)])) rfl rfl (hb hby at_197) _ (by rw [len_of S26 N26_]; exact k)) ?_
      refine go (B := T9.setTop (mkF m 200 #[.val (.int p1), .val (.int p2), .val (.int p3), .val (.int p4), .val (.int p5), .val (.int c1), .val (.int r1), .val (.int d1), .val (.int c2), .val (.int r2), .val (.int d2), .val (.ref b1), .val (.ref t3), .val (.ref dg3), .val (.ref t7), .val (.ref dg7), .val (.int (1 : Int32)), .unset, .unset] [(.int d2), (.int (mx (0 : Int32) d1))])) (fun _ k => XS.iload X9.here hx rfl (hb hby at_198) rfl k) ?_
      by_cases hc200 : (mx (0 : Int32) d1) < d2
      · refine go (B := T9.setTop (mkF m 210 #[.val (.int p1), .val (.int p2), .val (.int p3), .val (.int p4), .val (.int p5), .val (.int c1), .val (.int r1), .val (.int d1), .val (.int c2), .val (.int r2), .val (.int d2), .val (.ref b1), .val (.ref t3), .val (.ref dg3), .val (.ref t7), .val (.ref dg7), .val (.int (1 : Int32)), .unset, .unset] [])) (fun _ k => XS.icmpYes X9.here hx rfl (pc0 := 200) (pc' := 210) rfl (hb hby at_200) rfl (tlt hc200).1 (by decide) (by decide) k) ?_
        refine go (B := T9.setTop (mkF m 211 #[.val (.int p1), .val (.int p2), .val (.int p3), .val (.int p4), .val (.int p5), .val (.int c1), .val (.int r1), .val (.int d1), .val (.int c2), .val (.int r2), .val (.int d2), .val (.ref b1), .val (.ref t3), .val (.ref dg3), .val (.ref t7), .val (.ref dg7), .val (.int (1 : Int32)), .unset, .unset] [(.int (1 : Int32))])) (fun _ k => XS.iconst X9.here hx rfl (hb hby at_210) k) ?_
        refine go (B := T9.setTop (mkF m 215 #[.val (.int p1), .val (.int p2), .val (.int p3), .val (.int p4), .val (.int p5), .val (.int c1), .val (.int r1), .val (.int d1), .val (.int c2), .val (.int r2), .val (.int d2), .val (.ref b1), .val (.ref t3), .val (.ref dg3), .val (.ref t7), .val (.ref dg7), .val (.int (1 : Int32)), .unset, .unset] [(.int (1 : Int32))])) (fun _ k => XS.goto X9.here hx rfl (pc0 := 211) (pc' := 215) rfl (hb hby at_211) (by decide) (by decide) k) ?_
        refine go (B := T9.setTop (mkF m 217 #[.val (.int p1), .val (.int p2), .val (.int p3), .val (.int p4), .val (.int p5), .val (.int c1), .val (.int r1), .val (.int d1), .val (.int c2), .val (.int r2), .val (.int d2), .val (.ref b1), .val (.ref t3), .val (.ref dg3), .val (.ref t7), .val (.ref dg7), .val (.int (1 : Int32)), .unset, .unset] [])) (fun _ k => XS.istore X9.here hx rfl (hb hby at_215) rfl (l' := #[.val (.int p1), .val (.int p2), .val (.int p3), .val (.int p4), .val (.int p5), .val (.int c1), .val (.int r1), .val (.int d1), .val (.int c2), .val (.int r2), .val (.int d2), .val (.ref b1), .val (.ref t3), .val (.ref dg3), .val (.ref t7), .val (.ref dg7), .val (.int (1 : Int32)), .unset, .unset]) rfl k) ?_
        exact tl217
      · refine go (B := T9.setTop (mkF m 203 #[.val (.int p1), .val (.int p2), .val (.int p3), .val (.int p4), .val (.int p5), .val (.int c1), .val (.int r1), .val (.int d1), .val (.int c2), .val (.int r2), .val (.int d2), .val (.ref b1), .val (.ref t3), .val (.ref dg3), .val (.ref t7), .val (.ref dg7), .val (.int (1 : Int32)), .unset, .unset] [])) (fun _ k => XS.icmpNo X9.here hx rfl (hb hby at_200) rfl (flt hc200).1 k) ?_
        refine go (B := T9.setTop (mkF m 205 #[.val (.int p1), .val (.int p2), .val (.int p3), .val (.int p4), .val (.int p5), .val (.int c1), .val (.int r1), .val (.int d1), .val (.int c2), .val (.int r2), .val (.int d2), .val (.ref b1), .val (.ref t3), .val (.ref dg3), .val (.ref t7), .val (.ref dg7), .val (.int (1 : Int32)), .unset, .unset] [(.ref dg7)])) (fun _ k => XS.aload X9.here hx rfl (hb hby at_203) rfl rfl k) ?_
        refine go (B := T9.setTop (mkF m 207 #[.val (.int p1), .val (.int p2), .val (.int p3), .val (.int p4), .val (.int p5), .val (.int c1), .val (.int r1), .val (.int d1), .val (.int c2), .val (.int r2), .val (.int d2), .val (.ref b1), .val (.ref t3), .val (.ref dg3), .val (.ref t7), .val (.ref dg7), .val (.int (1 : Int32)), .unset, .unset] [(.ref dg3), (.ref dg7)])) (fun _ k => XS.aload X9.here hx rfl (hb hby at_205) rfl rfl k) ?_
        have ha207 : dg7 = dg3 := hD7 hc200
        refine go (B := T9.setTop (mkF m 210 #[.val (.int p1), .val (.int p2), .val (.int p3), .val (.int p4), .val (.int p5), .val (.int c1), .val (.int r1), .val (.int d1), .val (.int c2), .val (.int r2), .val (.int d2), .val (.ref b1), .val (.ref t3), .val (.ref dg3), .val (.ref t7), .val (.ref dg7), .val (.int (1 : Int32)), .unset, .unset] [])) (fun _ k => Jvm.RoadKit.acmp (g := (mkF m 207 #[.val (.int p1), .val (.int p2), .val (.int p3), .val (.int p4), .val (.int p5), .val (.int c1), .val (.int r1), .val (.int d1), .val (.int c2), .val (.int r2), .val (.int d2), .val (.ref b1), .val (.ref t3), .val (.ref dg3), .val (.ref t7), .val (.ref dg7), .val (.int (1 : Int32)), .unset, .unset] [(.ref dg3), (.ref dg7)])) X9 hx rfl rfl rfl (pc0 := 207) (pc' := 210) (same := true) rfl (hb hby at_207) rfl (decide_eq_true (congrArg Value.ref ha207)) (by decide) (by decide) k) ?_
        refine go (B := T9.setTop (mkF m 211 #[.val (.int p1), .val (.int p2), .val (.int p3), .val (.int p4), .val (.int p5), .val (.int c1), .val (.int r1), .val (.int d1), .val (.int c2), .val (.int r2), .val (.int d2), .val (.ref b1), .val (.ref t3), .val (.ref dg3), .val (.ref t7), .val (.ref dg7), .val (.int (1 : Int32)), .unset, .unset] [(.int (1 : Int32))])) (fun _ k => XS.iconst X9.here hx rfl (hb hby at_210) k) ?_
        refine go (B := T9.setTop (mkF m 215 #[.val (.int p1), .val (.int p2), .val (.int p3), .val (.int p4), .val (.int p5), .val (.int c1), .val (.int r1), .val (.int d1), .val (.int c2), .val (.int r2), .val (.int d2), .val (.ref b1), .val (.ref t3), .val (.ref dg3), .val (.ref t7), .val (.ref dg7), .val (.int (1 : Int32)), .unset, .unset] [(.int (1 : Int32))])) (fun _ k => XS.goto X9.here hx rfl (pc0 := 211) (pc' := 215) rfl (hb hby at_211) (by decide) (by decide) k) ?_
        refine go (B := T9.setTop (mkF m 217 #[.val (.int p1), .val (.int p2), .val (.int p3), .val (.int p4), .val (.int p5), .val (.int c1), .val (.int r1), .val (.int d1), .val (.int c2), .val (.int r2), .val (.int d2), .val (.ref b1), .val (.ref t3), .val (.ref dg3), .val (.ref t7), .val (.ref dg7), .val (.int (1 : Int32)), .unset, .unset] [])) (fun _ k => XS.istore X9.here hx rfl (hb hby at_215) rfl (l' := #[.val (.int p1), .val (.int p2), .val (.int p3), .val (.int p4), .val (.int p5), .val (.int c1), .val (.int r1), .val (.int d1), .val (.int c2), .val (.int r2), .val (.int d2), .val (.ref b1), .val (.ref t3), .val (.ref dg3), .val (.ref t7), .val (.ref dg7), .val (.int (1 : Int32)), .unset, .unset]) rfl k) ?_
        exact tl217
    · refine go (B := T9.setTop (mkF m 176 #[.val (.int p1), .val (.int p2), .val (.int p3), .val (.int p4), .val (.int p5), .val (.int c1), .val (.int r1), .val (.int d1), .val (.int c2), .val (.int r2), .val (.int d2), .val (.ref b1), .val (.ref t3), .val (.ref dg3), .val (.ref t7), .val (.ref dg7), .val (.int (1 : Int32)), .unset, .unset] [])) (fun _ k => XS.icmpNo X9.here hx rfl (hb hby at_173) rfl (flt hc173).1 k) ?_
      refine go (B := T9.setTop (mkF m 178 #[.val (.int p1), .val (.int p2), .val (.int p3), .val (.int p4), .val (.int p5), .val (.int c1), .val (.int r1), .val (.int d1), .val (.int c2), .val (.int r2), .val (.int d2), .val (.ref b1), .val (.ref t3), .val (.ref dg3), .val (.ref t7), .val (.ref dg7), .val (.int (1 : Int32)), .unset, .unset] [(.ref t7)])) (fun _ k => XS.aload X9.here hx rfl (hb hby at_176) rfl rfl k) ?_
      refine go (B := T9.setTop (mkF m 180 #[.val (.int p1), .val (.int p2), .val (.int p3), .val (.int p4), .val (.int p5), .val (.int c1), .val (.int r1), .val (.int d1), .val (.int c2), .val (.int r2), .val (.int d2), .val (.ref b1), .val (.ref t3), .val (.ref dg3), .val (.ref t7), .val (.ref dg7), .val (.int (1 : Int32)), .unset, .unset] [(.ref t3), (.ref t7)])) (fun _ k => XS.aload X9.here hx rfl (hb hby at_178) rfl rfl k) ?_
      have ha180 : t7 = t3 := hT7 hc173
      refine go (B := T9.setTop (mkF m 183 #[.val (.int p1), .val (.int p2), .val (.int p3), .val (.int p4), .val (.int p5), .val (.int c1), .val (.int r1), .val (.int d1), .val (.int c2), .val (.int r2), .val (.int d2), .val (.ref b1), .val (.ref t3), .val (.ref dg3), .val (.ref t7), .val (.ref dg7), .val (.int (1 : Int32)), .unset, .unset] [])) (fun _ k => Jvm.RoadKit.acmp (g := (mkF m 180 #[.val (.int p1), .val (.int p2), .val (.int p3), .val (.int p4), .val (.int p5), .val (.int c1), .val (.int r1), .val (.int d1), .val (.int c2), .val (.int r2), .val (.int d2), .val (.ref b1), .val (.ref t3), .val (.ref dg3), .val (.ref t7), .val (.ref dg7), .val (.int (1 : Int32)), .unset, .unset] [(.ref t3), (.ref t7)])) X9 hx rfl rfl rfl (pc0 := 180) (pc' := 183) (same := true) rfl (hb hby at_180) rfl (decide_eq_true (congrArg Value.ref ha180)) (by decide) (by decide) k) ?_
      refine go (B := T9.setTop (mkF m 184 #[.val (.int p1), .val (.int p2), .val (.int p3), .val (.int p4), .val (.int p5), .val (.int c1), .val (.int r1), .val (.int d1), .val (.int c2), .val (.int r2), .val (.int d2), .val (.ref b1), .val (.ref t3), .val (.ref dg3), .val (.ref t7), .val (.ref dg7), .val (.int (1 : Int32)), .unset, .unset] [(.int (1 : Int32))])) (fun _ k => XS.iconst X9.here hx rfl (hb hby at_183) k) ?_
      refine go (B := T9.setTop (mkF m 188 #[.val (.int p1), .val (.int p2), .val (.int p3), .val (.int p4), .val (.int p5), .val (.int c1), .val (.int r1), .val (.int d1), .val (.int c2), .val (.int r2), .val (.int d2), .val (.ref b1), .val (.ref t3), .val (.ref dg3), .val (.ref t7), .val (.ref dg7), .val (.int (1 : Int32)), .unset, .unset] [(.int (1 : Int32))])) (fun _ k => XS.goto X9.here hx rfl (pc0 := 184) (pc' := 188) rfl (hb hby at_184) (by decide) (by decide) k) ?_
      refine go (B := T9.setTop (mkF m 190 #[.val (.int p1), .val (.int p2), .val (.int p3), .val (.int p4), .val (.int p5), .val (.int c1), .val (.int r1), .val (.int d1), .val (.int c2), .val (.int r2), .val (.int d2), .val (.ref b1), .val (.ref t3), .val (.ref dg3), .val (.ref t7), .val (.ref dg7), .val (.int (1 : Int32)), .unset, .unset] [])) (fun _ k => XS.istore X9.here hx rfl (hb hby at_188) rfl (l' := #[.val (.int p1), .val (.int p2), .val (.int p3), .val (.int p4), .val (.int p5), .val (.int c1), .val (.int r1), .val (.int d1), .val (.int c2), .val (.int r2), .val (.int d2), .val (.ref b1), .val (.ref t3), .val (.ref dg3), .val (.ref t7), .val (.ref dg7), .val (.int (1 : Int32)), .unset, .unset]) rfl k) ?_
      refine go (B := T9.setTop (mkF m 192 #[.val (.int p1), .val (.int p2), .val (.int p3), .val (.int p4), .val (.int p5), .val (.int c1), .val (.int r1), .val (.int d1), .val (.int c2), .val (.int r2), .val (.int d2), .val (.ref b1), .val (.ref t3), .val (.ref dg3), .val (.ref t7), .val (.ref dg7), .val (.int (1 : Int32)), .unset, .unset] [(.int (1 : Int32))])) (fun _ k => XS.iload X9.here hx rfl (hb hby at_190) rfl k) ?_
      have hc192 : ¬ ((1 : Int32) = (0 : Int32)) := by decide
      refine go (B := T9.setTop (mkF m 195 #[.val (.int p1), .val (.int p2), .val (.int p3), .val (.int p4), .val (.int p5), .val (.int c1), .val (.int r1), .val (.int d1), .val (.int c2), .val (.int r2), .val (.int d2), .val (.ref b1), .val (.ref t3), .val (.ref dg3), .val (.ref t7), .val (.ref dg7), .val (.int (1 : Int32)), .unset, .unset] [])) (fun _ k => XS.ifNo X9.here hx rfl (hb hby at_192) rfl ((if0 _ _).trans (feq hc192).1) k) ?_
      refine go (B := T9.setTop (mkF m 197 #[.val (.int p1), .val (.int p2), .val (.int p3), .val (.int p4), .val (.int p5), .val (.int c1), .val (.int r1), .val (.int d1), .val (.int c2), .val (.int r2), .val (.int d2), .val (.ref b1), .val (.ref t3), .val (.ref dg3), .val (.ref t7), .val (.ref dg7), .val (.int (1 : Int32)), .unset, .unset] [(.ref dg3)])) (fun _ k => XS.aload X9.here hx rfl (hb hby at_195) rfl rfl k) ?_
      have Vc27 := Vd7
      obtain ⟨cl27, Ar27, -, S27, N27_, -, -⟩ := Vc27
      refine go (B := T9.setTop (mkF m 198 #[.val (.int p1), .val (.int p2), .val (.int p3), .val (.int p4), .val (.int p5), .val (.int c1), .val (.int r1), .val (.int d1), .val (.int c2), .val (.int r2), .val (.int d2), .val (.ref b1), .val (.ref t3), .val (.ref dg3), .val (.ref t7), .val (.ref dg7), .val (.int (1 : Int32)), .unset, .unset] [(.int (mx (0 : Int32) d1))])) (fun _ k => X9.arraylength hx (by rw [e9]; exact Ar27.1) (State.isArrayOf_alike hZ.alike Ar27.2.1) (g := (mkF m 197 #[.val (.int p1), .val (.int p2), .val (.int p3), .val (.int p4), .val (.int p5), .val (.int c1), .val (.int r1), .val (.int d1), .val (.int c2), .val (.int r2), .val (.int d2), .val (.ref b1), .val (.ref t3), .val (.ref dg3), .val (.ref t7), .val (.ref dg7), .val (.int (1 : Int32)), .unset, .unset] [(.ref dg3)])) rfl rfl (hb hby at_197) _ (by rw [len_of S27 N27_]; exact k)) ?_
      refine go (B := T9.setTop (mkF m 200 #[.val (.int p1), .val (.int p2), .val (.int p3), .val (.int p4), .val (.int p5), .val (.int c1), .val (.int r1), .val (.int d1), .val (.int c2), .val (.int r2), .val (.int d2), .val (.ref b1), .val (.ref t3), .val (.ref dg3), .val (.ref t7), .val (.ref dg7), .val (.int (1 : Int32)), .unset, .unset] [(.int d2), (.int (mx (0 : Int32) d1))])) (fun _ k => XS.iload X9.here hx rfl (hb hby at_198) rfl k) ?_
      by_cases hc200 : (mx (0 : Int32) d1) < d2
      · refine go (B := T9.setTop (mkF m 210 #[.val (.int p1), .val (.int p2), .val (.int p3), .val (.int p4), .val (.int p5), .val (.int c1), .val (.int r1), .val (.int d1), .val (.int c2), .val (.int r2), .val (.int d2), .val (.ref b1), .val (.ref t3), .val (.ref dg3), .val (.ref t7), .val (.ref dg7), .val (.int (1 : Int32)), .unset, .unset] [])) (fun _ k => XS.icmpYes X9.here hx rfl (pc0 := 200) (pc' := 210) rfl (hb hby at_200) rfl (tlt hc200).1 (by decide) (by decide) k) ?_
        refine go (B := T9.setTop (mkF m 211 #[.val (.int p1), .val (.int p2), .val (.int p3), .val (.int p4), .val (.int p5), .val (.int c1), .val (.int r1), .val (.int d1), .val (.int c2), .val (.int r2), .val (.int d2), .val (.ref b1), .val (.ref t3), .val (.ref dg3), .val (.ref t7), .val (.ref dg7), .val (.int (1 : Int32)), .unset, .unset] [(.int (1 : Int32))])) (fun _ k => XS.iconst X9.here hx rfl (hb hby at_210) k) ?_
        refine go (B := T9.setTop (mkF m 215 #[.val (.int p1), .val (.int p2), .val (.int p3), .val (.int p4), .val (.int p5), .val (.int c1), .val (.int r1), .val (.int d1), .val (.int c2), .val (.int r2), .val (.int d2), .val (.ref b1), .val (.ref t3), .val (.ref dg3), .val (.ref t7), .val (.ref dg7), .val (.int (1 : Int32)), .unset, .unset] [(.int (1 : Int32))])) (fun _ k => XS.goto X9.here hx rfl (pc0 := 211) (pc' := 215) rfl (hb hby at_211) (by decide) (by decide) k) ?_
        refine go (B := T9.setTop (mkF m 217 #[.val (.int p1), .val (.int p2), .val (.int p3), .val (.int p4), .val (.int p5), .val (.int c1), .val (.int r1), .val (.int d1), .val (.int c2), .val (.int r2), .val (.int d2), .val (.ref b1), .val (.ref t3), .val (.ref dg3), .val (.ref t7), .val (.ref dg7), .val (.int (1 : Int32)), .unset, .unset] [])) (fun _ k => XS.istore X9.here hx rfl (hb hby at_215) rfl (l' := #[.val (.int p1), .val (.int p2), .val (.int p3), .val (.int p4), .val (.int p5), .val (.int c1), .val (.int r1), .val (.int d1), .val (.int c2), .val (.int r2), .val (.int d2), .val (.ref b1), .val (.ref t3), .val (.ref dg3), .val (.ref t7), .val (.ref dg7), .val (.int (1 : Int32)), .unset, .unset]) rfl k) ?_
        exact tl217
      · refine go (B := T9.setTop (mkF m 203 #[.val (.int p1), .val (.int p2), .val (.int p3), .val (.int p4), .val (.int p5), .val (.int c1), .val (.int r1), .val (.int d1), .val (.int c2), .val (.int r2), .val (.int d2), .val (.ref b1), .val (.ref t3), .val (.ref dg3), .val (.ref t7), .val (.ref dg7), .val (.int (1 : Int32)), .unset, .unset] [])) (fun _ k => XS.icmpNo X9.here hx rfl (hb hby at_200) rfl (flt hc200).1 k) ?_
        refine go (B := T9.setTop (mkF m 205 #[.val (.int p1), .val (.int p2), .val (.int p3), .val (.int p4), .val (.int p5), .val (.int c1), .val (.int r1), .val (.int d1), .val (.int c2), .val (.int r2), .val (.int d2), .val (.ref b1), .val (.ref t3), .val (.ref dg3), .val (.ref t7), .val (.ref dg7), .val (.int (1 : Int32)), .unset, .unset] [(.ref dg7)])) (fun _ k => XS.aload X9.here hx rfl (hb hby at_203) rfl rfl k) ?_
        refine go (B := T9.setTop (mkF m 207 #[.val (.int p1), .val (.int p2), .val (.int p3), .val (.int p4), .val (.int p5), .val (.int c1), .val (.int r1), .val (.int d1), .val (.int c2), .val (.int r2), .val (.int d2), .val (.ref b1), .val (.ref t3), .val (.ref dg3), .val (.ref t7), .val (.ref dg7), .val (.int (1 : Int32)), .unset, .unset] [(.ref dg3), (.ref dg7)])) (fun _ k => XS.aload X9.here hx rfl (hb hby at_205) rfl rfl k) ?_
        have ha207 : dg7 = dg3 := hD7 hc200
        refine go (B := T9.setTop (mkF m 210 #[.val (.int p1), .val (.int p2), .val (.int p3), .val (.int p4), .val (.int p5), .val (.int c1), .val (.int r1), .val (.int d1), .val (.int c2), .val (.int r2), .val (.int d2), .val (.ref b1), .val (.ref t3), .val (.ref dg3), .val (.ref t7), .val (.ref dg7), .val (.int (1 : Int32)), .unset, .unset] [])) (fun _ k => Jvm.RoadKit.acmp (g := (mkF m 207 #[.val (.int p1), .val (.int p2), .val (.int p3), .val (.int p4), .val (.int p5), .val (.int c1), .val (.int r1), .val (.int d1), .val (.int c2), .val (.int r2), .val (.int d2), .val (.ref b1), .val (.ref t3), .val (.ref dg3), .val (.ref t7), .val (.ref dg7), .val (.int (1 : Int32)), .unset, .unset] [(.ref dg3), (.ref dg7)])) X9 hx rfl rfl rfl (pc0 := 207) (pc' := 210) (same := true) rfl (hb hby at_207) rfl (decide_eq_true (congrArg Value.ref ha207)) (by decide) (by decide) k) ?_
        refine go (B := T9.setTop (mkF m 211 #[.val (.int p1), .val (.int p2), .val (.int p3), .val (.int p4), .val (.int p5), .val (.int c1), .val (.int r1), .val (.int d1), .val (.int c2), .val (.int r2), .val (.int d2), .val (.ref b1), .val (.ref t3), .val (.ref dg3), .val (.ref t7), .val (.ref dg7), .val (.int (1 : Int32)), .unset, .unset] [(.int (1 : Int32))])) (fun _ k => XS.iconst X9.here hx rfl (hb hby at_210) k) ?_
        refine go (B := T9.setTop (mkF m 215 #[.val (.int p1), .val (.int p2), .val (.int p3), .val (.int p4), .val (.int p5), .val (.int c1), .val (.int r1), .val (.int d1), .val (.int c2), .val (.int r2), .val (.int d2), .val (.ref b1), .val (.ref t3), .val (.ref dg3), .val (.ref t7), .val (.ref dg7), .val (.int (1 : Int32)), .unset, .unset] [(.int (1 : Int32))])) (fun _ k => XS.goto X9.here hx rfl (pc0 := 211) (pc' := 215) rfl (hb hby at_211) (by decide) (by decide) k) ?_
        refine go (B := T9.setTop (mkF m 217 #[.val (.int p1), .val (.int p2), .val (.int p3), .val (.int p4), .val (.int p5), .val (.int c1), .val (.int r1), .val (.int d1), .val (.int c2), .val (.int r2), .val (.int d2), .val (.ref b1), .val (.ref t3), .val (.ref dg3), .val (.ref t7), .val (.ref dg7), .val (.int (1 : Int32)), .unset, .unset] [])) (fun _ k => XS.istore X9.here hx rfl (hb hby at_215) rfl (l' := #[.val (.int p1), .val (.int p2), .val (.int p3), .val (.int p4), .val (.int p5), .val (.int c1), .val (.int r1), .val (.int d1), .val (.int c2), .val (.int r2), .val (.int d2), .val (.ref b1), .val (.ref t3), .val (.ref dg3), .val (.ref t7), .val (.ref dg7), .val (.int (1 : Int32)), .unset, .unset]) rfl k) ?_
        exact tl217
  · refine go (B := T3.setTop (mkF m 73 #[.val (.int p1), .val (.int p2), .val (.int p3), .val (.int p4), .val (.int p5), .val (.int c1), .val (.int r1), .val (.int d1), .val (.int c2), .val (.int r2), .val (.int d2), .val (.ref b1), .unset, .unset, .unset, .unset, .unset, .unset, .unset] [])) (fun _ k => XS.ifYes X3.here hx rfl (pc0 := 64) (pc' := 73) rfl (hb hby at_64) rfl ((if0 _ _).trans (flt hc64).2.2.2) (by decide) (by decide) k) ?_
    refine go (B := T3.setTop (mkF m 75 #[.val (.int p1), .val (.int p2), .val (.int p3), .val (.int p4), .val (.int p5), .val (.int c1), .val (.int r1), .val (.int d1), .val (.int c2), .val (.int r2), .val (.int d2), .val (.ref b1), .unset, .unset, .unset, .unset, .unset, .unset, .unset] [(.ref b1)])) (fun _ k => XS.aload X3.here hx rfl (hb hby at_73) rfl rfl k) ?_
    obtain ⟨cq28, kq28, q28a, q28b, q28c⟩ := isOf hZ rfl R3.1
    obtain ⟨_, _, ⟨T28, L28, k28, n28⟩, -, X28, ⟨Lc28, hQ28, l28, y28, z28⟩, st28⟩ := X3.virtualBack hx (y := (⟨"com/example/zonecast/zonecast/RecordValues", "text", "()[C"⟩ : MethodName)) (z := (⟨"com/example/zonecast/zonecast/RecordValues", "text", "()[C"⟩ : MethodName)) hown (mvT hZ (hw _ (List.mem_of_getElem? (i := 24) rfl))) (mvT hZ (hw _ (List.mem_of_getElem? (i := 25) rfl))) (notFace_of_selects (args := #[]) (mvT hZ (hw _ (List.mem_of_getElem? (i := 27) rfl)))) (mvT hZ (hw _ (List.mem_of_getElem? (i := 27) rfl))) (mvT hZ (hw _ (List.mem_of_getElem? (i := 26) rfl))) (by decide) (backOf (W := 0) (rm4 l Z a0 hw [] b1 t3 T3.heap n0 Zr3 R3.2.1) hZ (hw _ (List.mem_of_getElem? (i := 28) rfl)) (hw _ (List.mem_of_getElem? (i := 2) rfl)) (by decide) (by decide)) q28a q28c (g := (mkF m 75 #[.val (.int p1), .val (.int p2), .val (.int p3), .val (.int p4), .val (.int p5), .val (.int c1), .val (.int r1), .val (.int d1), .val (.int c2), .val (.int r2), .val (.int d2), .val (.ref b1), .unset, .unset, .unset, .unset, .unset, .unset, .unset] [(.ref b1)])) rfl (by rw [hml]; rfl) (Steps.refl _) (argsL := []) (rest := []) (lenOf pd____C rfl) rfl (by show 2 * 0 + _ ≤ _; exact Nat.le_of_eq rfl) (hb hby at_75) (fun _ _ => ⟨rfl, rfl, (by decide : 7 + 0 ≤ _), (by decide : 41 + 0 ≤ _)⟩)
    dsimp only [Pt.U, Pt.locs, Pt.cells, Pt.slots] at X28 l28 y28 z28 st28 hQ28
    subst l28 y28 z28
    obtain ⟨rfl, N28q, e28⟩ := hQ28
    have N28 := Fr.app N3 N28q
    refine go (B := T28.setTop (mkF m 78 #[.val (.int p1), .val (.int p2), .val (.int p3), .val (.int p4), .val (.int p5), .val (.int c1), .val (.int r1), .val (.int d1), .val (.int c2), .val (.int r2), .val (.int d2), .val (.ref b1), .unset, .unset, .unset, .unset, .unset, .unset, .unset] [(.ref t3)])) (fun _ k => st28.trans k) ?_
    refine go (B := T28.setTop (mkF m 80 #[.val (.int p1), .val (.int p2), .val (.int p3), .val (.int p4), .val (.int p5), .val (.int c1), .val (.int r1), .val (.int d1), .val (.int c2), .val (.int r2), .val (.int d2), .val (.ref b1), .val (.ref t3), .unset, .unset, .unset, .unset, .unset, .unset] [])) (fun _ k => XS.astore X28.here hx rfl (hb hby at_78) rfl rfl (l' := #[.val (.int p1), .val (.int p2), .val (.int p3), .val (.int p4), .val (.int p5), .val (.int c1), .val (.int r1), .val (.int d1), .val (.int c2), .val (.int r2), .val (.int d2), .val (.ref b1), .val (.ref t3), .unset, .unset, .unset, .unset, .unset, .unset]) rfl k) ?_
    refine go (B := T28.setTop (mkF m 82 #[.val (.int p1), .val (.int p2), .val (.int p3), .val (.int p4), .val (.int p5), .val (.int c1), .val (.int r1), .val (.int d1), .val (.int c2), .val (.int r2), .val (.int d2), .val (.ref b1), .val (.ref t3), .unset, .unset, .unset, .unset, .unset, .unset] [(.ref b1)])) (fun _ k => XS.aload X28.here hx rfl (hb hby at_80) rfl rfl k) ?_
    obtain ⟨cq29, kq29, q29a, q29b, q29c⟩ := isOf hZ e28 R3.1
    obtain ⟨_, _, ⟨T29, L29, k29, n29⟩, -, X29, ⟨Lc29, hQ29, l29, y29, z29⟩, st29⟩ := X28.virtualBack hx (y := (⟨"com/example/zonecast/zonecast/RecordValues", "digits", "()[C"⟩ : MethodName)) (z := (⟨"com/example/zonecast/zonecast/RecordValues", "digits", "()[C"⟩ : MethodName)) hown (mvT hZ (hw _ (List.mem_of_getElem? (i := 29) rfl))) (mvT hZ (hw _ (List.mem_of_getElem? (i := 30) rfl))) (notFace_of_selects (args := #[]) (mvT hZ (hw _ (List.mem_of_getElem? (i := 32) rfl)))) (mvT hZ (hw _ (List.mem_of_getElem? (i := 32) rfl))) (mvT hZ (hw _ (List.mem_of_getElem? (i := 31) rfl))) (by decide) (backOf (W := 0) (rm5 l Z a0 hw [] b1 dg3 T3.heap n0 Zr3 R3.2.2.2.1) hZ (hw _ (List.mem_of_getElem? (i := 33) rfl)) (hw _ (List.mem_of_getElem? (i := 2) rfl)) (by decide) (by decide)) q29a q29c (g := (mkF m 82 #[.val (.int p1), .val (.int p2), .val (.int p3), .val (.int p4), .val (.int p5), .val (.int c1), .val (.int r1), .val (.int d1), .val (.int c2), .val (.int r2), .val (.int d2), .val (.ref b1), .val (.ref t3), .unset, .unset, .unset, .unset, .unset, .unset] [(.ref b1)])) rfl (by rw [hml]; rfl) (Steps.refl _) (argsL := []) (rest := []) (lenOf pd____C rfl) rfl (by show 2 * 0 + _ ≤ _; exact Nat.le_of_eq rfl) (hb hby at_82) (fun _ _ => ⟨rfl, e28, (by decide : 7 + 0 ≤ _), (by decide : 41 + 0 ≤ _)⟩)
    dsimp only [Pt.U, Pt.locs, Pt.cells, Pt.slots] at X29 l29 y29 z29 st29 hQ29
    subst l29 y29 z29
    obtain ⟨rfl, N29q, e29⟩ := hQ29
    have N29 := Fr.app N28 N29q
    refine go (B := T29.setTop (mkF m 85 #[.val (.int p1), .val (.int p2), .val (.int p3), .val (.int p4), .val (.int p5), .val (.int c1), .val (.int r1), .val (.int d1), .val (.int c2), .val (.int r2), .val (.int d2), .val (.ref b1), .val (.ref t3), .unset, .unset, .unset, .unset, .unset, .unset] [(.ref dg3)])) (fun _ k => st29.trans k) ?_
    refine go (B := T29.setTop (mkF m 87 #[.val (.int p1), .val (.int p2), .val (.int p3), .val (.int p4), .val (.int p5), .val (.int c1), .val (.int r1), .val (.int d1), .val (.int c2), .val (.int r2), .val (.int d2), .val (.ref b1), .val (.ref t3), .val (.ref dg3), .unset, .unset, .unset, .unset, .unset] [])) (fun _ k => XS.astore X29.here hx rfl (hb hby at_85) rfl rfl (l' := #[.val (.int p1), .val (.int p2), .val (.int p3), .val (.int p4), .val (.int p5), .val (.int c1), .val (.int r1), .val (.int d1), .val (.int c2), .val (.int r2), .val (.int d2), .val (.ref b1), .val (.ref t3), .val (.ref dg3), .unset, .unset, .unset, .unset, .unset]) rfl k) ?_
    refine go (B := T29.setTop (mkF m 89 #[.val (.int p1), .val (.int p2), .val (.int p3), .val (.int p4), .val (.int p5), .val (.int c1), .val (.int r1), .val (.int d1), .val (.int c2), .val (.int r2), .val (.int d2), .val (.ref b1), .val (.ref t3), .val (.ref dg3), .unset, .unset, .unset, .unset, .unset] [(.ref b1)])) (fun _ k => XS.aload X29.here hx rfl (hb hby at_87) rfl rfl k) ?_
    refine go (B := T29.setTop (mkF m 91 #[.val (.int p1), .val (.int p2), .val (.int p3), .val (.int p4), .val (.int p5), .val (.int c1), .val (.int r1), .val (.int d1), .val (.int c2), .val (.int r2), .val (.int d2), .val (.ref b1), .val (.ref t3), .val (.ref dg3), .unset, .unset, .unset, .unset, .unset] [(.int c2), (.ref b1)])) (fun _ k => XS.iload X29.here hx rfl (hb hby at_89) rfl k) ?_
    refine go (B := T29.setTop (mkF m 93 #[.val (.int p1), .val (.int p2), .val (.int p3), .val (.int p4), .val (.int p5), .val (.int c1), .val (.int r1), .val (.int d1), .val (.int c2), .val (.int r2), .val (.int d2), .val (.ref b1), .val (.ref t3), .val (.ref dg3), .unset, .unset, .unset, .unset, .unset] [(.int r2), (.int c2), (.ref b1)])) (fun _ k => XS.iload X29.here hx rfl (hb hby at_91) rfl k) ?_
    refine go (B := T29.setTop (mkF m 95 #[.val (.int p1), .val (.int p2), .val (.int p3), .val (.int p4), .val (.int p5), .val (.int c1), .val (.int r1), .val (.int d1), .val (.int c2), .val (.int r2), .val (.int d2), .val (.ref b1), .val (.ref t3), .val (.ref dg3), .unset, .unset, .unset, .unset, .unset] [(.int d2), (.int r2), (.int c2), (.ref b1)])) (fun _ k => XS.iload X29.here hx rfl (hb hby at_93) rfl k) ?_
    obtain ⟨cq30, kq30, q30a, q30b, q30c⟩ := isOf hZ e29 R3.1
    obtain ⟨_, _, ⟨T30, L30, k30, n30⟩, -, X30, ⟨Lc30, hQ30, l30, y30, z30⟩, st30⟩ := X29.virtualBack hx (y := (⟨"com/example/zonecast/zonecast/RecordValues", "clear", "(III)V"⟩ : MethodName)) (z := (⟨"com/example/zonecast/zonecast/RecordValues", "clear", "(III)V"⟩ : MethodName)) hown (mvT hZ (hw _ (List.mem_of_getElem? (i := 17) rfl))) (mvT hZ (hw _ (List.mem_of_getElem? (i := 18) rfl))) (notFace_of_selects (args := #[]) (mvT hZ (hw _ (List.mem_of_getElem? (i := 20) rfl)))) (mvT hZ (hw _ (List.mem_of_getElem? (i := 20) rfl))) (mvT hZ (hw _ (List.mem_of_getElem? (i := 19) rfl))) (by decide) (backOf (W := 0) (rm3 l Z a0 hw [] b1 c2 r2 d2 t3 en3 dg3 (0 : Int32) (mx (0 : Int32) r1) (mx (0 : Int32) c1) (mx (0 : Int32) d1) x3 T3.heap n0 Zr3 R3 B_c2.1 B_c2.2 B_r2.1 B_r2.2 B_d2.1 B_d2.2) hZ (hw _ (List.mem_of_getElem? (i := 21) rfl)) (hw _ (List.mem_of_getElem? (i := 2) rfl)) (by decide) (by decide)) q30a q30c (g := (mkF m 95 #[.val (.int p1), .val (.int p2), .val (.int p3), .val (.int p4), .val (.int p5), .val (.int c1), .val (.int r1), .val (.int d1), .val (.int c2), .val (.int r2), .val (.int d2), .val (.ref b1), .val (.ref t3), .val (.ref dg3), .unset, .unset, .unset, .unset, .unset] [(.int d2), (.int r2), (.int c2), (.ref b1)])) rfl (by rw [hml]; rfl) (Steps.refl _) (argsL := [(.int c2), (.int r2), (.int d2)]) (rest := []) (lenOf pd__III_V rfl) rfl (by show 2 * 0 + _ ≤ _; exact Nat.le_of_eq rfl) (hb hby at_95) (fun _ _ => ⟨rfl, e29, (by decide : 7 + 3 ≤ _), (by decide : 41 + 37 ≤ _)⟩)
    dsimp only [Pt.U, Pt.locs, Pt.cells, Pt.slots] at X30 l30 y30 z30 st30 hQ30
    subst l30 y30 z30
    obtain ⟨rfl, N30q, t30, en30, dg30, x30, R30, hT30, hD30, ⟨kt30, vt30, Vt30⟩, ⟨kd30, vd30, Vd30⟩⟩ := hQ30
    have N30 := Fr.app N29 N30q
    have Zr30 := R30.2.2.2.2.2.2.2.2.2.2.2.2.2.2.2
    refine go (B := T30.setTop (mkF m 98 #[.val (.int p1), .val (.int p2), .val (.int p3), .val (.int p4), .val (.int p5), .val (.int c1), .val (.int r1), .val (.int d1), .val (.int c2), .val (.int r2), .val (.int d2), .val (.ref b1), .val (.ref t3), .val (.ref dg3), .unset, .unset, .unset, .unset, .unset] [])) (fun _ k => st30.trans k) ?_
    refine go (B := T30.setTop (mkF m 100 #[.val (.int p1), .val (.int p2), .val (.int p3), .val (.int p4), .val (.int p5), .val (.int c1), .val (.int r1), .val (.int d1), .val (.int c2), .val (.int r2), .val (.int d2), .val (.ref b1), .val (.ref t3), .val (.ref dg3), .unset, .unset, .unset, .unset, .unset] [(.ref b1)])) (fun _ k => XS.aload X30.here hx rfl (hb hby at_98) rfl rfl k) ?_
    obtain ⟨cq31, kq31, q31a, q31b, q31c⟩ := isOf hZ rfl R30.1
    obtain ⟨_, _, ⟨T31, L31, k31, n31⟩, -, X31, ⟨Lc31, hQ31, l31, y31, z31⟩, st31⟩ := X30.virtualBack hx (y := (⟨"com/example/zonecast/zonecast/RecordValues", "text", "()[C"⟩ : MethodName)) (z := (⟨"com/example/zonecast/zonecast/RecordValues", "text", "()[C"⟩ : MethodName)) hown (mvT hZ (hw _ (List.mem_of_getElem? (i := 24) rfl))) (mvT hZ (hw _ (List.mem_of_getElem? (i := 25) rfl))) (notFace_of_selects (args := #[]) (mvT hZ (hw _ (List.mem_of_getElem? (i := 27) rfl)))) (mvT hZ (hw _ (List.mem_of_getElem? (i := 27) rfl))) (mvT hZ (hw _ (List.mem_of_getElem? (i := 26) rfl))) (by decide) (backOf (W := 0) (rm4 l Z a0 hw [] b1 t30 T30.heap n0 Zr30 R30.2.1) hZ (hw _ (List.mem_of_getElem? (i := 28) rfl)) (hw _ (List.mem_of_getElem? (i := 2) rfl)) (by decide) (by decide)) q31a q31c (g := (mkF m 100 #[.val (.int p1), .val (.int p2), .val (.int p3), .val (.int p4), .val (.int p5), .val (.int c1), .val (.int r1), .val (.int d1), .val (.int c2), .val (.int r2), .val (.int d2), .val (.ref b1), .val (.ref t3), .val (.ref dg3), .unset, .unset, .unset, .unset, .unset] [(.ref b1)])) rfl (by rw [hml]; rfl) (Steps.refl _) (argsL := []) (rest := []) (lenOf pd____C rfl) rfl (by show 2 * 0 + _ ≤ _; exact Nat.le_of_eq rfl) (hb hby at_100) (fun _ _ => ⟨rfl, rfl, (by decide : 10 + 0 ≤ _), (by decide : 78 + 0 ≤ _)⟩)
    dsimp only [Pt.U, Pt.locs, Pt.cells, Pt.slots] at X31 l31 y31 z31 st31 hQ31
    subst l31 y31 z31
    obtain ⟨rfl, N31q, e31⟩ := hQ31
    have N31 := Fr.app N30 N31q
    refine go (B := T31.setTop (mkF m 103 #[.val (.int p1), .val (.int p2), .val (.int p3), .val (.int p4), .val (.int p5), .val (.int c1), .val (.int r1), .val (.int d1), .val (.int c2), .val (.int r2), .val (.int d2), .val (.ref b1), .val (.ref t3), .val (.ref dg3), .unset, .unset, .unset, .unset, .unset] [(.ref t30)])) (fun _ k => st31.trans k) ?_
    refine go (B := T31.setTop (mkF m 105 #[.val (.int p1), .val (.int p2), .val (.int p3), .val (.int p4), .val (.int p5), .val (.int c1), .val (.int r1), .val (.int d1), .val (.int c2), .val (.int r2), .val (.int d2), .val (.ref b1), .val (.ref t3), .val (.ref dg3), .val (.ref t30), .unset, .unset, .unset, .unset] [])) (fun _ k => XS.astore X31.here hx rfl (hb hby at_103) rfl rfl (l' := #[.val (.int p1), .val (.int p2), .val (.int p3), .val (.int p4), .val (.int p5), .val (.int c1), .val (.int r1), .val (.int d1), .val (.int c2), .val (.int r2), .val (.int d2), .val (.ref b1), .val (.ref t3), .val (.ref dg3), .val (.ref t30), .unset, .unset, .unset, .unset]) rfl k) ?_
    refine go (B := T31.setTop (mkF m 107 #[.val (.int p1), .val (.int p2), .val (.int p3), .val (.int p4), .val (.int p5), .val (.int c1), .val (.int r1), .val (.int d1), .val (.int c2), .val (.int r2), .val (.int d2), .val (.ref b1), .val (.ref t3), .val (.ref dg3), .val (.ref t30), .unset, .unset, .unset, .unset] [(.ref b1)])) (fun _ k => XS.aload X31.here hx rfl (hb hby at_105) rfl rfl k) ?_
    obtain ⟨cq32, kq32, q32a, q32b, q32c⟩ := isOf hZ e31 R30.1
    obtain ⟨_, _, ⟨T32, L32, k32, n32⟩, -, X32, ⟨Lc32, hQ32, l32, y32, z32⟩, st32⟩ := X31.virtualBack hx (y := (⟨"com/example/zonecast/zonecast/RecordValues", "digits", "()[C"⟩ : MethodName)) (z := (⟨"com/example/zonecast/zonecast/RecordValues", "digits", "()[C"⟩ : MethodName)) hown (mvT hZ (hw _ (List.mem_of_getElem? (i := 29) rfl))) (mvT hZ (hw _ (List.mem_of_getElem? (i := 30) rfl))) (notFace_of_selects (args := #[]) (mvT hZ (hw _ (List.mem_of_getElem? (i := 32) rfl)))) (mvT hZ (hw _ (List.mem_of_getElem? (i := 32) rfl))) (mvT hZ (hw _ (List.mem_of_getElem? (i := 31) rfl))) (by decide) (backOf (W := 0) (rm5 l Z a0 hw [] b1 dg30 T30.heap n0 Zr30 R30.2.2.2.1) hZ (hw _ (List.mem_of_getElem? (i := 33) rfl)) (hw _ (List.mem_of_getElem? (i := 2) rfl)) (by decide) (by decide)) q32a q32c (g := (mkF m 107 #[.val (.int p1), .val (.int p2), .val (.int p3), .val (.int p4), .val (.int p5), .val (.int c1), .val (.int r1), .val (.int d1), .val (.int c2), .val (.int r2), .val (.int d2), .val (.ref b1), .val (.ref t3), .val (.ref dg3), .val (.ref t30), .unset, .unset, .unset, .unset] [(.ref b1)])) rfl (by rw [hml]; rfl) (Steps.refl _) (argsL := []) (rest := []) (lenOf pd____C rfl) rfl (by show 2 * 0 + _ ≤ _; exact Nat.le_of_eq rfl) (hb hby at_107) (fun _ _ => ⟨rfl, e31, (by decide : 10 + 0 ≤ _), (by decide : 78 + 0 ≤ _)⟩)
    dsimp only [Pt.U, Pt.locs, Pt.cells, Pt.slots] at X32 l32 y32 z32 st32 hQ32
    subst l32 y32 z32
    obtain ⟨rfl, N32q, e32⟩ := hQ32
    have N32 := Fr.app N31 N32q
    refine go (B := T32.setTop (mkF m 110 #[.val (.int p1), .val (.int p2), .val (.int p3), .val (.int p4), .val (.int p5), .val (.int c1), .val (.int r1), .val (.int d1), .val (.int c2), .val (.int r2), .val (.int d2), .val (.ref b1), .val (.ref t3), .val (.ref dg3), .val (.ref t30), .unset, .unset, .unset, .unset] [(.ref dg30)])) (fun _ k => st32.trans k) ?_
    refine go (B := T32.setTop (mkF m 112 #[.val (.int p1), .val (.int p2), .val (.int p3), .val (.int p4), .val (.int p5), .val (.int c1), .val (.int r1), .val (.int d1), .val (.int c2), .val (.int r2), .val (.int d2), .val (.ref b1), .val (.ref t3), .val (.ref dg3), .val (.ref t30), .val (.ref dg30), .unset, .unset, .unset] [])) (fun _ k => XS.astore X32.here hx rfl (hb hby at_110) rfl rfl (l' := #[.val (.int p1), .val (.int p2), .val (.int p3), .val (.int p4), .val (.int p5), .val (.int c1), .val (.int r1), .val (.int d1), .val (.int c2), .val (.int r2), .val (.int d2), .val (.ref b1), .val (.ref t3), .val (.ref dg3), .val (.ref t30), .val (.ref dg30), .unset, .unset, .unset]) rfl k) ?_
    refine go (B := T32.setTop (mkF m 114 #[.val (.int p1), .val (.int p2), .val (.int p3), .val (.int p4), .val (.int p5), .val (.int c1), .val (.int r1), .val (.int d1), .val (.int c2), .val (.int r2), .val (.int d2), .val (.ref b1), .val (.ref t3), .val (.ref dg3), .val (.ref t30), .val (.ref dg30), .unset, .unset, .unset] [(.ref t3)])) (fun _ k => XS.aload X32.here hx rfl (hb hby at_112) rfl rfl k) ?_
    have Vc33 := Vt30
    obtain ⟨cl33, Ar33, -, S33, N33_, -, -⟩ := Vc33
    refine go (B := T32.setTop (mkF m 115 #[.val (.int p1), .val (.int p2), .val (.int p3), .val (.int p4), .val (.int p5), .val (.int c1), .val (.int r1), .val (.int d1), .val (.int c2), .val (.int r2), .val (.int d2), .val (.ref b1), .val (.ref t3), .val (.ref dg3), .val (.ref t30), .val (.ref dg30), .unset, .unset, .unset] [(.int (mx (0 : Int32) r1))])) (fun _ k => X32.arraylength hx (by rw [e32]; exact Ar33.1) (State.isArrayOf_alike hZ.alike Ar33.2.1) (g := (mkF m 114 #[.val (.int p1), .val (.int p2), .val (.int p3), .val (.int p4), .val (.int p5), .val (.int c1), .val (.int r1), .val (.int d1), .val (.int c2), .val (.int r2), .val (.int d2), .val (.ref b1), .val (.ref t3), .val (.ref dg3), .val (.ref t30), .val (.ref dg30), .unset, .unset, .unset] [(.ref t3)])) rfl rfl (hb hby at_114) _ (by rw [len_of S33 N33_]; exact k)) ?_
    refine go (B := T32.setTop (mkF m 117 #[.val (.int p1), .val (.int p2), .val (.int p3), .val (.int p4), .val (.int p5), .val (.int c1), .val (.int r1), .val (.int d1), .val (.int c2), .val (.int r2), .val (.int d2), .val (.ref b1), .val (.ref t3), .val (.ref dg3), .val (.ref t30), .val (.ref dg30), .unset, .unset, .unset] [(.int r1), (.int (mx (0 : Int32) r1))])) (fun _ k => XS.iload X32.here hx rfl (hb hby at_115) rfl k) ?_
    have hc117 : ¬ ((mx (0 : Int32) r1) < r1) := (fun q => by rw [Int32.lt_iff_toInt_lt] at q; have g1 := mx_int (0 : Int32) r1; omega)
    refine go (B := T32.setTop (mkF m 120 #[.val (.int p1), .val (.int p2), .val (.int p3), .val (.int p4), .val (.int p5), .val (.int c1), .val (.int r1), .val (.int d1), .val (.int c2), .val (.int r2), .val (.int d2), .val (.ref b1), .val (.ref t3), .val (.ref dg3), .val (.ref t30), .val (.ref dg30), .unset, .unset, .unset] [])) (fun _ k => XS.icmpNo X32.here hx rfl (hb hby at_117) rfl (flt hc117).1 k) ?_
    refine go (B := T32.setTop (mkF m 122 #[.val (.int p1), .val (.int p2), .val (.int p3), .val (.int p4), .val (.int p5), .val (.int c1), .val (.int r1), .val (.int d1), .val (.int c2), .val (.int r2), .val (.int d2), .val (.ref b1), .val (.ref t3), .val (.ref dg3), .val (.ref t30), .val (.ref dg30), .unset, .unset, .unset] [(.ref dg3)])) (fun _ k => XS.aload X32.here hx rfl (hb hby at_120) rfl rfl k) ?_
    have Vc34 := Vd30
    obtain ⟨cl34, Ar34, -, S34, N34_, -, -⟩ := Vc34
    refine go (B := T32.setTop (mkF m 123 #[.val (.int p1), .val (.int p2), .val (.int p3), .val (.int p4), .val (.int p5), .val (.int c1), .val (.int r1), .val (.int d1), .val (.int c2), .val (.int r2), .val (.int d2), .val (.ref b1), .val (.ref t3), .val (.ref dg3), .val (.ref t30), .val (.ref dg30), .unset, .unset, .unset] [(.int (mx (0 : Int32) d1))])) (fun _ k => X32.arraylength hx (by rw [e32]; exact Ar34.1) (State.isArrayOf_alike hZ.alike Ar34.2.1) (g := (mkF m 122 #[.val (.int p1), .val (.int p2), .val (.int p3), .val (.int p4), .val (.int p5), .val (.int c1), .val (.int r1), .val (.int d1), .val (.int c2), .val (.int r2), .val (.int d2), .val (.ref b1), .val (.ref t3), .val (.ref dg3), .val (.ref t30), .val (.ref dg30), .unset, .unset, .unset] [(.ref dg3)])) rfl rfl (hb hby at_122) _ (by rw [len_of S34 N34_]; exact k)) ?_
    refine go (B := T32.setTop (mkF m 125 #[.val (.int p1), .val (.int p2), .val (.int p3), .val (.int p4), .val (.int p5), .val (.int c1), .val (.int r1), .val (.int d1), .val (.int c2), .val (.int r2), .val (.int d2), .val (.ref b1), .val (.ref t3), .val (.ref dg3), .val (.ref t30), .val (.ref dg30), .unset, .unset, .unset] [(.int d1), (.int (mx (0 : Int32) d1))])) (fun _ k => XS.iload X32.here hx rfl (hb hby at_123) rfl k) ?_
    have hc125 : ¬ ((mx (0 : Int32) d1) < d1) := (fun q => by rw [Int32.lt_iff_toInt_lt] at q; have g1 := mx_int (0 : Int32) d1; omega)
    refine go (B := T32.setTop (mkF m 128 #[.val (.int p1), .val (.int p2), .val (.int p3), .val (.int p4), .val (.int p5), .val (.int c1), .val (.int r1), .val (.int d1), .val (.int c2), .val (.int r2), .val (.int d2), .val (.ref b1), .val (.ref t3), .val (.ref dg3), .val (.ref t30), .val (.ref dg30), .unset, .unset, .unset] [])) (fun _ k => XS.icmpNo X32.here hx rfl (hb hby at_125) rfl (flt hc125).1 k) ?_
    refine go (B := T32.setTop (mkF m 129 #[.val (.int p1), .val (.int p2), .val (.int p3), .val (.int p4), .val (.int p5), .val (.int c1), .val (.int r1), .val (.int d1), .val (.int c2), .val (.int r2), .val (.int d2), .val (.ref b1), .val (.ref t3), .val (.ref dg3), .val (.ref t30), .val (.ref dg30), .unset, .unset, .unset] [(.int (1 : Int32))])) (fun _ k => XS.iconst X32.here hx rfl (hb hby at_128) k) ?_
    refine go (B := T32.setTop (mkF m 133 #[.val (.int p1), .val (.int p2), .val (.int p3), .val (.int p4), .val (.int p5), .val (.int c1), .val (.int r1), .val (.int d1), .val (.int c2), .val (.int r2), .val (.int d2), .val (.ref b1), .val (.ref t3), .val (.ref dg3), .val (.ref t30), .val (.ref dg30), .unset, .unset, .unset] [(.int (1 : Int32))])) (fun _ k => XS.goto X32.here hx rfl (pc0 := 129) (pc' := 133) rfl (hb hby at_129) (by decide) (by decide) k) ?_
    refine go (B := T32.setTop (mkF m 135 #[.val (.int p1), .val (.int p2), .val (.int p3), .val (.int p4), .val (.int p5), .val (.int c1), .val (.int r1), .val (.int d1), .val (.int c2), .val (.int r2), .val (.int d2), .val (.ref b1), .val (.ref t3), .val (.ref dg3), .val (.ref t30), .val (.ref dg30), .val (.int (1 : Int32)), .unset, .unset] [])) (fun _ k => XS.istore X32.here hx rfl (hb hby at_133) rfl (l' := #[.val (.int p1), .val (.int p2), .val (.int p3), .val (.int p4), .val (.int p5), .val (.int c1), .val (.int r1), .val (.int d1), .val (.int c2), .val (.int r2), .val (.int d2), .val (.ref b1), .val (.ref t3), .val (.ref dg3), .val (.ref t30), .val (.ref dg30), .val (.int (1 : Int32)), .unset, .unset]) rfl k) ?_
    refine go (B := T32.setTop (mkF m 137 #[.val (.int p1), .val (.int p2), .val (.int p3), .val (.int p4), .val (.int p5), .val (.int c1), .val (.int r1), .val (.int d1), .val (.int c2), .val (.int r2), .val (.int d2), .val (.ref b1), .val (.ref t3), .val (.ref dg3), .val (.ref t30), .val (.ref dg30), .val (.int (1 : Int32)), .unset, .unset] [(.int (1 : Int32))])) (fun _ k => XS.iload X32.here hx rfl (hb hby at_135) rfl k) ?_
    have hc137 : ¬ ((1 : Int32) = (0 : Int32)) := by decide
    refine go (B := T32.setTop (mkF m 140 #[.val (.int p1), .val (.int p2), .val (.int p3), .val (.int p4), .val (.int p5), .val (.int c1), .val (.int r1), .val (.int d1), .val (.int c2), .val (.int r2), .val (.int d2), .val (.ref b1), .val (.ref t3), .val (.ref dg3), .val (.ref t30), .val (.ref dg30), .val (.int (1 : Int32)), .unset, .unset] [])) (fun _ k => XS.ifNo X32.here hx rfl (hb hby at_137) rfl ((if0 _ _).trans (feq hc137).1) k) ?_
    refine go (B := T32.setTop (mkF m 142 #[.val (.int p1), .val (.int p2), .val (.int p3), .val (.int p4), .val (.int p5), .val (.int c1), .val (.int r1), .val (.int d1), .val (.int c2), .val (.int r2), .val (.int d2), .val (.ref b1), .val (.ref t3), .val (.ref dg3), .val (.ref t30), .val (.ref dg30), .val (.int (1 : Int32)), .unset, .unset] [(.ref t30)])) (fun _ k => XS.aload X32.here hx rfl (hb hby at_140) rfl rfl k) ?_
    obtain ⟨ku35, vu35, Vu35⟩ := R30.2.2.2.2.2.1
    obtain ⟨kw35, vw35, Vw35⟩ := R30.2.2.2.2.2.2.2.1
    have Vc36 := Vu35
    obtain ⟨cl36, Ar36, -, S36, N36_, -, -⟩ := Vc36
    refine go (B := T32.setTop (mkF m 143 #[.val (.int p1), .val (.int p2), .val (.int p3), .val (.int p4), .val (.int p5), .val (.int c1), .val (.int r1), .val (.int d1), .val (.int c2), .val (.int r2), .val (.int d2), .val (.ref b1), .val (.ref t3), .val (.ref dg3), .val (.ref t30), .val (.ref dg30), .val (.int (1 : Int32)), .unset, .unset] [(.int (mx (mx (0 : Int32) r1) r2))])) (fun _ k => X32.arraylength hx (by rw [e32]; exact Ar36.1) (State.isArrayOf_alike hZ.alike Ar36.2.1) (g := (mkF m 142 #[.val (.int p1), .val (.int p2), .val (.int p3), .val (.int p4), .val (.int p5), .val (.int c1), .val (.int r1), .val (.int d1), .val (.int c2), .val (.int r2), .val (.int d2), .val (.ref b1), .val (.ref t3), .val (.ref dg3), .val (.ref t30), .val (.ref dg30), .val (.int (1 : Int32)), .unset, .unset] [(.ref t30)])) rfl rfl (hb hby at_142) _ (by rw [len_of S36 N36_]; exact k)) ?_
    refine go (B := T32.setTop (mkF m 145 #[.val (.int p1), .val (.int p2), .val (.int p3), .val (.int p4), .val (.int p5), .val (.int c1), .val (.int r1), .val (.int d1), .val (.int c2), .val (.int r2), .val (.int d2), .val (.ref b1), .val (.ref t3), .val (.ref dg3), .val (.ref t30), .val (.ref dg30), .val (.int (1 : Int32)), .unset, .unset] [(.int r2), (.int (mx (mx (0 : Int32) r1) r2))])) (fun _ k => XS.iload X32.here hx rfl (hb hby at_143) rfl k) ?_
    have hc145 : ¬ ((mx (mx (0 : Int32) r1) r2) < r2) := (fun q => by rw [Int32.lt_iff_toInt_lt] at q; have g1 := mx_int (mx (0 : Int32) r1) r2; omega)
    refine go (B := T32.setTop (mkF m 148 #[.val (.int p1), .val (.int p2), .val (.int p3), .val (.int p4), .val (.int p5), .val (.int c1), .val (.int r1), .val (.int d1), .val (.int c2), .val (.int r2), .val (.int d2), .val (.ref b1), .val (.ref t3), .val (.ref dg3), .val (.ref t30), .val (.ref dg30), .val (.int (1 : Int32)), .unset, .unset] [])) (fun _ k => XS.icmpNo X32.here hx rfl (hb hby at_145) rfl (flt hc145).1 k) ?_
    refine go (B := T32.setTop (mkF m 150 #[.val (.int p1), .val (.int p2), .val (.int p3), .val (.int p4), .val (.int p5), .val (.int c1), .val (.int r1), .val (.int d1), .val (.int c2), .val (.int r2), .val (.int d2), .val (.ref b1), .val (.ref t3), .val (.ref dg3), .val (.ref t30), .val (.ref dg30), .val (.int (1 : Int32)), .unset, .unset] [(.ref dg30)])) (fun _ k => XS.aload X32.here hx rfl (hb hby at_148) rfl rfl k) ?_
    have Vc37 := Vw35
    obtain ⟨cl37, Ar37, -, S37, N37_, -, -⟩ := Vc37
    refine go (B := T32.setTop (mkF m 151 #[.val (.int p1), .val (.int p2), .val (.int p3), .val (.int p4), .val (.int p5), .val (.int c1), .val (.int r1), .val (.int d1), .val (.int c2), .val (.int r2), .val (.int d2), .val (.ref b1), .val (.ref t3), .val (.ref dg3), .val (.ref t30), .val (.ref dg30), .val (.int (1 : Int32)), .unset, .unset] [(.int (mx (mx (0 : Int32) d1) d2))])) (fun _ k => X32.arraylength hx (by rw [e32]; exact Ar37.1) (State.isArrayOf_alike hZ.alike Ar37.2.1) (g := (mkF m 150 #[.val (.int p1), .val (.int p2), .val (.int p3), .val (.int p4), .val (.int p5), .val (.int c1), .val (.int r1), .val (.int d1), .val (.int c2), .val (.int r2), .val (.int d2), .val (.ref b1), .val (.ref t3), .val (.ref dg3), .val (.ref t30), .val (.ref dg30), .val (.int (1 : Int32)), .unset, .unset] [(.ref dg30)])) rfl rfl (hb hby at_150) _ (by rw [len_of S37 N37_]; exact k)) ?_
    refine go (B := T32.setTop (mkF m 153 #[.val (.int p1), .val (.int p2), .val (.int p3), .val (.int p4), .val (.int p5), .val (.int c1), .val (.int r1), .val (.int d1), .val (.int c2), .val (.int r2), .val (.int d2), .val (.ref b1), .val (.ref t3), .val (.ref dg3), .val (.ref t30), .val (.ref dg30), .val (.int (1 : Int32)), .unset, .unset] [(.int d2), (.int (mx (mx (0 : Int32) d1) d2))])) (fun _ k => XS.iload X32.here hx rfl (hb hby at_151) rfl k) ?_
    have hc153 : ¬ ((mx (mx (0 : Int32) d1) d2) < d2) := (fun q => by rw [Int32.lt_iff_toInt_lt] at q; have g1 := mx_int (mx (0 : Int32) d1) d2; omega)
    refine go (B := T32.setTop (mkF m 156 #[.val (.int p1), .val (.int p2), .val (.int p3), .val (.int p4), .val (.int p5), .val (.int c1), .val (.int r1), .val (.int d1), .val (.int c2), .val (.int r2), .val (.int d2), .val (.ref b1), .val (.ref t3), .val (.ref dg3), .val (.ref t30), .val (.ref dg30), .val (.int (1 : Int32)), .unset, .unset] [])) (fun _ k => XS.icmpNo X32.here hx rfl (hb hby at_153) rfl (flt hc153).1 k) ?_
    refine go (B := T32.setTop (mkF m 157 #[.val (.int p1), .val (.int p2), .val (.int p3), .val (.int p4), .val (.int p5), .val (.int c1), .val (.int r1), .val (.int d1), .val (.int c2), .val (.int r2), .val (.int d2), .val (.ref b1), .val (.ref t3), .val (.ref dg3), .val (.ref t30), .val (.ref dg30), .val (.int (1 : Int32)), .unset, .unset] [(.int (1 : Int32))])) (fun _ k => XS.iconst X32.here hx rfl (hb hby at_156) k) ?_
    refine go (B := T32.setTop (mkF m 161 #[.val (.int p1), .val (.int p2), .val (.int p3), .val (.int p4), .val (.int p5), .val (.int c1), .val (.int r1), .val (.int d1), .val (.int c2), .val (.int r2), .val (.int d2), .val (.ref b1), .val (.ref t3), .val (.ref dg3), .val (.ref t30), .val (.ref dg30), .val (.int (1 : Int32)), .unset, .unset] [(.int (1 : Int32))])) (fun _ k => XS.goto X32.here hx rfl (pc0 := 157) (pc' := 161) rfl (hb hby at_157) (by decide) (by decide) k) ?_
    refine go (B := T32.setTop (mkF m 163 #[.val (.int p1), .val (.int p2), .val (.int p3), .val (.int p4), .val (.int p5), .val (.int c1), .val (.int r1), .val (.int d1), .val (.int c2), .val (.int r2), .val (.int d2), .val (.ref b1), .val (.ref t3), .val (.ref dg3), .val (.ref t30), .val (.ref dg30), .val (.int (1 : Int32)), .unset, .unset] [])) (fun _ k => XS.istore X32.here hx rfl (hb hby at_161) rfl (l' := #[.val (.int p1), .val (.int p2), .val (.int p3), .val (.int p4), .val (.int p5), .val (.int c1), .val (.int r1), .val (.int d1), .val (.int c2), .val (.int r2), .val (.int d2), .val (.ref b1), .val (.ref t3), .val (.ref dg3), .val (.ref t30), .val (.ref dg30), .val (.int (1 : Int32)), .unset, .unset]) rfl k) ?_
    have tl217 : Go p.tables e below s room_1.cells room_1.slots (Q0 Z p1 p2 p3 p4 p5 h0 n0) (T32.setTop (mkF m 217 #[.val (.int p1), .val (.int p2), .val (.int p3), .val (.int p4), .val (.int p5), .val (.int c1), .val (.int r1), .val (.int d1), .val (.int c2), .val (.int r2), .val (.int d2), .val (.ref b1), .val (.ref t3), .val (.ref dg3), .val (.ref t30), .val (.ref dg30), .val (.int (1 : Int32)), .unset, .unset] [])) := by
      refine go (B := T32.setTop (mkF m 219 #[.val (.int p1), .val (.int p2), .val (.int p3), .val (.int p4), .val (.int p5), .val (.int c1), .val (.int r1), .val (.int d1), .val (.int c2), .val (.int r2), .val (.int d2), .val (.ref b1), .val (.ref t3), .val (.ref dg3), .val (.ref t30), .val (.ref dg30), .val (.int (1 : Int32)), .unset, .unset] [(.int (1 : Int32))])) (fun _ k => XS.iload X32.here hx rfl (hb hby at_217) rfl k) ?_
      have hc219 : ¬ ((1 : Int32) = (0 : Int32)) := by decide
      refine go (B := T32.setTop (mkF m 222 #[.val (.int p1), .val (.int p2), .val (.int p3), .val (.int p4), .val (.int p5), .val (.int c1), .val (.int r1), .val (.int d1), .val (.int c2), .val (.int r2), .val (.int d2), .val (.ref b1), .val (.ref t3), .val (.ref dg3), .val (.ref t30), .val (.ref dg30), .val (.int (1 : Int32)), .unset, .unset] [])) (fun _ k => XS.ifNo X32.here hx rfl (hb hby at_219) rfl ((if0 _ _).trans (feq hc219).1) k) ?_
      refine go (B := T32.setTop (mkF m 224 #[.val (.int p1), .val (.int p2), .val (.int p3), .val (.int p4), .val (.int p5), .val (.int c1), .val (.int r1), .val (.int d1), .val (.int c2), .val (.int r2), .val (.int d2), .val (.ref b1), .val (.ref t3), .val (.ref dg3), .val (.ref t30), .val (.ref dg30), .val (.int (1 : Int32)), .unset, .unset] [(.ref b1)])) (fun _ k => XS.aload X32.here hx rfl (hb hby at_222) rfl rfl k) ?_
      obtain ⟨cq38, kq38, q38a, q38b, q38c⟩ := isOf hZ e32 R30.1
      obtain ⟨_, _, ⟨T38, L38, k38, n38⟩, -, X38, ⟨Lc38, hQ38, l38, y38, z38⟩, st38⟩ := X32.virtualBack hx (y := (⟨"com/example/zonecast/zonecast/RecordValues", "size", "()I"⟩ : MethodName)) (z := (⟨"com/example/zonecast/zonecast/RecordValues", "size", "()I"⟩ : MethodName)) hown (mvT hZ (hw _ (List.mem_of_getElem? (i := 34) rfl))) (mvT hZ (hw _ (List.mem_of_getElem? (i := 35) rfl))) (notFace_of_selects (args := #[]) (mvT hZ (hw _ (List.mem_of_getElem? (i := 37) rfl)))) (mvT hZ (hw _ (List.mem_of_getElem? (i := 37) rfl))) (mvT hZ (hw _ (List.mem_of_getElem? (i := 36) rfl))) (by decide) (backOf (W := 0) (rm6 l Z a0 hw [] b1 (0 : Int32) T30.heap n0 Zr30 R30.2.2.2.2.1) hZ (hw _ (List.mem_of_getElem? (i := 38) rfl)) (hw _ (List.mem_of_getElem? (i := 2) rfl)) (by decide) (by decide)) q38a q38c (g := (mkF m 224 #[.val (.int p1), .val (.int p2), .val (.int p3), .val (.int p4), .val (.int p5), .val (.int c1), .val (.int r1), .val (.int d1), .val (.int c2), .val (.int r2), .val (.int d2), .val (.ref b1), .val (.ref t3), .val (.ref dg3), .val (.ref t30), .val (.ref dg30), .val (.int (1 : Int32)), .unset, .unset] [(.ref b1)])) rfl (by rw [hml]; rfl) (Steps.refl _) (argsL := []) (rest := []) (lenOf pd___I rfl) rfl (by show 2 * 0 + _ ≤ _; exact Nat.le_of_eq rfl) (hb hby at_224) (fun _ _ => ⟨rfl, e32, (by decide : 10 + 0 ≤ _), (by decide : 78 + 0 ≤ _)⟩)
      dsimp only [Pt.U, Pt.locs, Pt.cells, Pt.slots] at X38 l38 y38 z38 st38 hQ38
      subst l38 y38 z38
      obtain ⟨rfl, N38q, e38⟩ := hQ38
      have N38 := Fr.app N32 N38q
      refine go (B := T38.setTop (mkF m 227 #[.val (.int p1), .val (.int p2), .val (.int p3), .val (.int p4), .val (.int p5), .val (.int c1), .val (.int r1), .val (.int d1), .val (.int c2), .val (.int r2), .val (.int d2), .val (.ref b1), .val (.ref t3), .val (.ref dg3), .val (.ref t30), .val (.ref dg30), .val (.int (1 : Int32)), .unset, .unset] [(.int (0 : Int32))])) (fun _ k => st38.trans k) ?_
      have hc227 : (0 : Int32) = (0 : Int32) := by decide
      refine go (B := T38.setTop (mkF m 230 #[.val (.int p1), .val (.int p2), .val (.int p3), .val (.int p4), .val (.int p5), .val (.int c1), .val (.int r1), .val (.int d1), .val (.int c2), .val (.int r2), .val (.int d2), .val (.ref b1), .val (.ref t3), .val (.ref dg3), .val (.ref t30), .val (.ref dg30), .val (.int (1 : Int32)), .unset, .unset] [])) (fun _ k => XS.ifNo X38.here hx rfl (hb hby at_227) rfl ((if0 _ _).trans (teq hc227).2) k) ?_
      refine go (B := T38.setTop (mkF m 232 #[.val (.int p1), .val (.int p2), .val (.int p3), .val (.int p4), .val (.int p5), .val (.int c1), .val (.int r1), .val (.int d1), .val (.int c2), .val (.int r2), .val (.int d2), .val (.ref b1), .val (.ref t3), .val (.ref dg3), .val (.ref t30), .val (.ref dg30), .val (.int (1 : Int32)), .unset, .unset] [(.ref b1)])) (fun _ k => XS.aload X38.here hx rfl (hb hby at_230) rfl rfl k) ?_
      obtain ⟨cq39, kq39, q39a, q39b, q39c⟩ := isOf hZ e38 R30.1
      obtain ⟨_, _, ⟨T39, L39, k39, n39⟩, -, X39, ⟨Lc39, hQ39, l39, y39, z39⟩, st39⟩ := X38.virtualBack hx (y := (⟨"com/example/zonecast/zonecast/RecordValues", "next", "()I"⟩ : MethodName)) (z := (⟨"com/example/zonecast/zonecast/RecordValues", "next", "()I"⟩ : MethodName)) hown (mvT hZ (hw _ (List.mem_of_getElem? (i := 39) rfl))) (mvT hZ (hw _ (List.mem_of_getElem? (i := 40) rfl))) (notFace_of_selects (args := #[]) (mvT hZ (hw _ (List.mem_of_getElem? (i := 42) rfl)))) (mvT hZ (hw _ (List.mem_of_getElem? (i := 42) rfl))) (mvT hZ (hw _ (List.mem_of_getElem? (i := 41) rfl))) (by decide) (backOf (W := 0) (rm7 l Z a0 hw [] b1 t30 en30 dg30 (0 : Int32) (mx (mx (0 : Int32) r1) r2) (mx (mx (0 : Int32) c1) c2) (mx (mx (0 : Int32) d1) d2) x30 T30.heap n0 Zr30 R30 (by decide +kernel) (by have f1 := mx_int (0 : Int32) c1; have f2 := mx_int (mx (0 : Int32) c1) c2; have f3 := B_c1; have f4 := B_c2; have f5 := z0; have f6 := z1; have g : ((0 : Int32)).toInt = 0 := (by decide +kernel); omega)) hZ (hw _ (List.mem_of_getElem? (i := 43) rfl)) (hw _ (List.mem_of_getElem? (i := 2) rfl)) (by decide) (by decide)) q39a q39c (g := (mkF m 232 #[.val (.int p1), .val (.int p2), .val (.int p3), .val (.int p4), .val (.int p5), .val (.int c1), .val (.int r1), .val (.int d1), .val (.int c2), .val (.int r2), .val (.int d2), .val (.ref b1), .val (.ref t3), .val (.ref dg3), .val (.ref t30), .val (.ref dg30), .val (.int (1 : Int32)), .unset, .unset] [(.ref b1)])) rfl (by rw [hml]; rfl) (Steps.refl _) (argsL := []) (rest := []) (lenOf pd___I rfl) rfl (by show 2 * 0 + _ ≤ _; exact Nat.le_of_eq rfl) (hb hby at_232) (fun _ _ => ⟨rfl, e38, (by decide : 10 + 0 ≤ _), (by decide : 78 + 0 ≤ _)⟩)
      dsimp only [Pt.U, Pt.locs, Pt.cells, Pt.slots] at X39 l39 y39 z39 st39 hQ39
      subst l39 y39 z39
      obtain ⟨rfl, N39q, e39⟩ := hQ39
      have N39 := Fr.app N38 N39q
      refine go (B := T39.setTop (mkF m 235 #[.val (.int p1), .val (.int p2), .val (.int p3), .val (.int p4), .val (.int p5), .val (.int c1), .val (.int r1), .val (.int d1), .val (.int c2), .val (.int r2), .val (.int d2), .val (.ref b1), .val (.ref t3), .val (.ref dg3), .val (.ref t30), .val (.ref dg30), .val (.int (1 : Int32)), .unset, .unset] [(.int (fNext (0 : Int32) x30))])) (fun _ k => st39.trans k) ?_
      have hc235 : (fNext (0 : Int32) x30) = (0 : Int32) := rfl
      refine go (B := T39.setTop (mkF m 238 #[.val (.int p1), .val (.int p2), .val (.int p3), .val (.int p4), .val (.int p5), .val (.int c1), .val (.int r1), .val (.int d1), .val (.int c2), .val (.int r2), .val (.int d2), .val (.ref b1), .val (.ref t3), .val (.ref dg3), .val (.ref t30), .val (.ref dg30), .val (.int (1 : Int32)), .unset, .unset] [])) (fun _ k => XS.ifNo X39.here hx rfl (hb hby at_235) rfl ((if0 _ _).trans (teq hc235).2) k) ?_
      refine go (B := T39.setTop (mkF m 239 #[.val (.int p1), .val (.int p2), .val (.int p3), .val (.int p4), .val (.int p5), .val (.int c1), .val (.int r1), .val (.int d1), .val (.int c2), .val (.int r2), .val (.int d2), .val (.ref b1), .val (.ref t3), .val (.ref dg3), .val (.ref t30), .val (.ref dg30), .val (.int (1 : Int32)), .unset, .unset] [(.int (1 : Int32))])) (fun _ k => XS.iconst X39.here hx rfl (hb hby at_238) k) ?_
      refine go (B := T39.setTop (mkF m 243 #[.val (.int p1), .val (.int p2), .val (.int p3), .val (.int p4), .val (.int p5), .val (.int c1), .val (.int r1), .val (.int d1), .val (.int c2), .val (.int r2), .val (.int d2), .val (.ref b1), .val (.ref t3), .val (.ref dg3), .val (.ref t30), .val (.ref dg30), .val (.int (1 : Int32)), .unset, .unset] [(.int (1 : Int32))])) (fun _ k => XS.goto X39.here hx rfl (pc0 := 239) (pc' := 243) rfl (hb hby at_239) (by decide) (by decide) k) ?_
      refine go (B := T39.setTop (mkF m 245 #[.val (.int p1), .val (.int p2), .val (.int p3), .val (.int p4), .val (.int p5), .val (.int c1), .val (.int r1), .val (.int d1), .val (.int c2), .val (.int r2), .val (.int d2), .val (.ref b1), .val (.ref t3), .val (.ref dg3), .val (.ref t30), .val (.ref dg30), .val (.int (1 : Int32)), .unset, .unset] [])) (fun _ k => XS.istore X39.here hx rfl (hb hby at_243) rfl (l' := #[.val (.int p1), .val (.int p2), .val (.int p3), .val (.int p4), .val (.int p5), .val (.int c1), .val (.int r1), .val (.int d1), .val (.int c2), .val (.int r2), .val (.int d2), .val (.ref b1), .val (.ref t3), .val (.ref dg3), .val (.ref t30), .val (.ref dg30), .val (.int (1 : Int32)), .unset, .unset]) rfl k) ?_
      refine go (B := T39.setTop (mkF m 246 #[.val (.int p1), .val (.int p2), .val (.int p3), .val (.int p4), .val (.int p5), .val (.int c1), .val (.int r1), .val (.int d1), .val (.int c2), .val (.int r2), .val (.int d2), .val (.ref b1), .val (.ref t3), .val (.ref dg3), .val (.ref t30), .val (.ref dg30), .val (.int (1 : Int32)), .unset, .unset] [(.int (0 : Int32))])) (fun _ k => XS.iconst X39.here hx rfl (hb hby at_245) k) ?_
      refine go (B := T39.setTop (mkF m 248 #[.val (.int p1), .val (.int p2), .val (.int p3), .val (.int p4), .val (.int p5), .val (.int c1), .val (.int r1), .val (.int d1), .val (.int c2), .val (.int r2), .val (.int d2), .val (.ref b1), .val (.ref t3), .val (.ref dg3), .val (.ref t30), .val (.ref dg30), .val (.int (1 : Int32)), .val (.int (0 : Int32)), .unset] [])) (fun _ k => XS.istore X39.here hx rfl (hb hby at_246) rfl (l' := #[.val (.int p1), .val (.int p2), .val (.int p3), .val (.int p4), .val (.int p5), .val (.int c1), .val (.int r1), .val (.int d1), .val (.int c2), .val (.int r2), .val (.int d2), .val (.ref b1), .val (.ref t3), .val (.ref dg3), .val (.ref t30), .val (.ref dg30), .val (.int (1 : Int32)), .val (.int (0 : Int32)), .unset]) rfl k) ?_
      refine go (B := T39.setTop (mkF m 249 #[.val (.int p1), .val (.int p2), .val (.int p3), .val (.int p4), .val (.int p5), .val (.int c1), .val (.int r1), .val (.int d1), .val (.int c2), .val (.int r2), .val (.int d2), .val (.ref b1), .val (.ref t3), .val (.ref dg3), .val (.ref t30), .val (.ref dg30), .val (.int (1 : Int32)), .val (.int (0 : Int32)), .unset] [(.int (0 : Int32))])) (fun _ k => XS.iconst X39.here hx rfl (hb hby at_248) k) ?_
      refine go (B := T39.setTop (mkF m 251 #[.val (.int p1), .val (.int p2), .val (.int p3), .val (.int p4), .val (.int p5), .val (.int c1), .val (.int r1), .val (.int d1), .val (.int c2), .val (.int r2), .val (.int d2), .val (.ref b1), .val (.ref t3), .val (.ref dg3), .val (.ref t30), .val (.ref dg30), .val (.int (1 : Int32)), .val (.int (0 : Int32)), .val (.int (0 : Int32))] [])) (fun _ k => XS.istore X39.here hx rfl (hb hby at_249) rfl (l' := #[.val (.int p1), .val (.int p2), .val (.int p3), .val (.int p4), .val (.int p5), .val (.int c1), .val (.int r1), .val (.int d1), .val (.int c2), .val (.int r2), .val (.int d2), .val (.ref b1), .val (.ref t3), .val (.ref dg3), .val (.ref t30), .val (.ref dg30), .val (.int (1 : Int32)), .val (.int (0 : Int32)), .val (.int (0 : Int32))]) rfl k) ?_
      refine go (B := T39.setTop (mkF m 253 #[.val (.int p1), .val (.int p2), .val (.int p3), .val (.int p4), .val (.int p5), .val (.int c1), .val (.int r1), .val (.int d1), .val (.int c2), .val (.int r2), .val (.int d2), .val (.ref b1), .val (.ref t3), .val (.ref dg3), .val (.ref t30), .val (.ref dg30), .val (.int (1 : Int32)), .val (.int (0 : Int32)), .val (.int (0 : Int32))] [(.int c2)])) (fun _ k => XS.iload X39.here hx rfl (hb hby at_251) rfl k) ?_
      refine go (B := T39.setTop (mkF m 254 #[.val (.int p1), .val (.int p2), .val (.int p3), .val (.int p4), .val (.int p5), .val (.int c1), .val (.int r1), .val (.int d1), .val (.int c2), .val (.int r2), .val (.int d2), .val (.ref b1), .val (.ref t3), .val (.ref dg3), .val (.ref t30), .val (.ref dg30), .val (.int (1 : Int32)), .val (.int (0 : Int32)), .val (.int (0 : Int32))] [(.int (1 : Int32)), (.int c2)])) (fun _ k => XS.iconst X39.here hx rfl (hb hby at_253) k) ?_
      by_cases hc254 : c2 < (1 : Int32)
      · refine go (B := T39.setTop (mkF m 271 #[.val (.int p1), .val (.int p2), .val (.int p3), .val (.int p4), .val (.int p5), .val (.int c1), .val (.int r1), .val (.int d1), .val (.int c2), .val (.int r2), .val (.int d2), .val (.ref b1), .val (.ref t3), .val (.ref dg3), .val (.ref t30), .val (.ref dg30), .val (.int (1 : Int32)), .val (.int (0 : Int32)), .val (.int (0 : Int32))] [])) (fun _ k => XS.icmpYes X39.here hx rfl (pc0 := 254) (pc' := 271) rfl (hb hby at_254) rfl (tlt hc254).1 (by decide) (by decide) k) ?_
        refine go (B := T39.setTop (mkF m 273 #[.val (.int p1), .val (.int p2), .val (.int p3), .val (.int p4), .val (.int p5), .val (.int c1), .val (.int r1), .val (.int d1), .val (.int c2), .val (.int r2), .val (.int d2), .val (.ref b1), .val (.ref t3), .val (.ref dg3), .val (.ref t30), .val (.ref dg30), .val (.int (1 : Int32)), .val (.int (0 : Int32)), .val (.int (0 : Int32))] [(.int c2)])) (fun _ k => XS.iload X39.here hx rfl (hb hby at_271) rfl k) ?_
        refine go (B := T39.setTop (mkF m 274 #[.val (.int p1), .val (.int p2), .val (.int p3), .val (.int p4), .val (.int p5), .val (.int c1), .val (.int r1), .val (.int d1), .val (.int c2), .val (.int r2), .val (.int d2), .val (.ref b1), .val (.ref t3), .val (.ref dg3), .val (.ref t30), .val (.ref dg30), .val (.int (1 : Int32)), .val (.int (0 : Int32)), .val (.int (0 : Int32))] [(.int (2 : Int32)), (.int c2)])) (fun _ k => XS.iconst X39.here hx rfl (hb hby at_273) k) ?_
        by_cases hc274 : c2 < (2 : Int32)
        · refine go (B := T39.setTop (mkF m 289 #[.val (.int p1), .val (.int p2), .val (.int p3), .val (.int p4), .val (.int p5), .val (.int c1), .val (.int r1), .val (.int d1), .val (.int c2), .val (.int r2), .val (.int d2), .val (.ref b1), .val (.ref t3), .val (.ref dg3), .val (.ref t30), .val (.ref dg30), .val (.int (1 : Int32)), .val (.int (0 : Int32)), .val (.int (0 : Int32))] [])) (fun _ k => XS.icmpYes X39.here hx rfl (pc0 := 274) (pc' := 289) rfl (hb hby at_274) rfl (tlt hc274).1 (by decide) (by decide) k) ?_
          refine go (B := T39.setTop (mkF m 291 #[.val (.int p1), .val (.int p2), .val (.int p3), .val (.int p4), .val (.int p5), .val (.int c1), .val (.int r1), .val (.int d1), .val (.int c2), .val (.int r2), .val (.int d2), .val (.ref b1), .val (.ref t3), .val (.ref dg3), .val (.ref t30), .val (.ref dg30), .val (.int (1 : Int32)), .val (.int (0 : Int32)), .val (.int (0 : Int32))] [(.int (1 : Int32))])) (fun _ k => XS.iload X39.here hx rfl (hb hby at_289) rfl k) ?_
          have hc291 : ¬ ((1 : Int32) = (0 : Int32)) := by decide
          refine go (B := T39.setTop (mkF m 294 #[.val (.int p1), .val (.int p2), .val (.int p3), .val (.int p4), .val (.int p5), .val (.int c1), .val (.int r1), .val (.int d1), .val (.int c2), .val (.int r2), .val (.int d2), .val (.ref b1), .val (.ref t3), .val (.ref dg3), .val (.ref t30), .val (.ref dg30), .val (.int (1 : Int32)), .val (.int (0 : Int32)), .val (.int (0 : Int32))] [])) (fun _ k => XS.ifNo X39.here hx rfl (hb hby at_291) rfl ((if0 _ _).trans (feq hc291).1) k) ?_
          refine go (B := T39.setTop (mkF m 296 #[.val (.int p1), .val (.int p2), .val (.int p3), .val (.int p4), .val (.int p5), .val (.int c1), .val (.int r1), .val (.int d1), .val (.int c2), .val (.int r2), .val (.int d2), .val (.ref b1), .val (.ref t3), .val (.ref dg3), .val (.ref t30), .val (.ref dg30), .val (.int (1 : Int32)), .val (.int (0 : Int32)), .val (.int (0 : Int32))] [(.ref b1)])) (fun _ k => XS.aload X39.here hx rfl (hb hby at_294) rfl rfl k) ?_
          obtain ⟨cq40, kq40, q40a, q40b, q40c⟩ := isOf hZ e39 R30.1
          obtain ⟨_, _, ⟨T40, L40, k40, n40⟩, -, X40, ⟨Lc40, hQ40, l40, y40, z40⟩, st40⟩ := X39.virtualBack hx (y := (⟨"com/example/zonecast/zonecast/RecordValues", "size", "()I"⟩ : MethodName)) (z := (⟨"com/example/zonecast/zonecast/RecordValues", "size", "()I"⟩ : MethodName)) hown (mvT hZ (hw _ (List.mem_of_getElem? (i := 34) rfl))) (mvT hZ (hw _ (List.mem_of_getElem? (i := 35) rfl))) (notFace_of_selects (args := #[]) (mvT hZ (hw _ (List.mem_of_getElem? (i := 37) rfl)))) (mvT hZ (hw _ (List.mem_of_getElem? (i := 37) rfl))) (mvT hZ (hw _ (List.mem_of_getElem? (i := 36) rfl))) (by decide) (backOf (W := 0) (rm6 l Z a0 hw [] b1 (0 : Int32) T30.heap n0 Zr30 R30.2.2.2.2.1) hZ (hw _ (List.mem_of_getElem? (i := 38) rfl)) (hw _ (List.mem_of_getElem? (i := 2) rfl)) (by decide) (by decide)) q40a q40c (g := (mkF m 296 #[.val (.int p1), .val (.int p2), .val (.int p3), .val (.int p4), .val (.int p5), .val (.int c1), .val (.int r1), .val (.int d1), .val (.int c2), .val (.int r2), .val (.int d2), .val (.ref b1), .val (.ref t3), .val (.ref dg3), .val (.ref t30), .val (.ref dg30), .val (.int (1 : Int32)), .val (.int (0 : Int32)), .val (.int (0 : Int32))] [(.ref b1)])) rfl (by rw [hml]; rfl) (Steps.refl _) (argsL := []) (rest := []) (lenOf pd___I rfl) rfl (by show 2 * 0 + _ ≤ _; exact Nat.le_of_eq rfl) (hb hby at_296) (fun _ _ => ⟨rfl, e39, (by decide : 10 + 0 ≤ _), (by decide : 78 + 0 ≤ _)⟩)
          dsimp only [Pt.U, Pt.locs, Pt.cells, Pt.slots] at X40 l40 y40 z40 st40 hQ40
          subst l40 y40 z40
          obtain ⟨rfl, N40q, e40⟩ := hQ40
          have N40 := Fr.app N39 N40q
          refine go (B := T40.setTop (mkF m 299 #[.val (.int p1), .val (.int p2), .val (.int p3), .val (.int p4), .val (.int p5), .val (.int c1), .val (.int r1), .val (.int d1), .val (.int c2), .val (.int r2), .val (.int d2), .val (.ref b1), .val (.ref t3), .val (.ref dg3), .val (.ref t30), .val (.ref dg30), .val (.int (1 : Int32)), .val (.int (0 : Int32)), .val (.int (0 : Int32))] [(.int (0 : Int32))])) (fun _ k => st40.trans k) ?_
          refine go (B := T40.setTop (mkF m 301 #[.val (.int p1), .val (.int p2), .val (.int p3), .val (.int p4), .val (.int p5), .val (.int c1), .val (.int r1), .val (.int d1), .val (.int c2), .val (.int r2), .val (.int d2), .val (.ref b1), .val (.ref t3), .val (.ref dg3), .val (.ref t30), .val (.ref dg30), .val (.int (1 : Int32)), .val (.int (0 : Int32)), .val (.int (0 : Int32))] [(.int (0 : Int32)), (.int (0 : Int32))])) (fun _ k => XS.iload X40.here hx rfl (hb hby at_299) rfl k) ?_
          have hc301 : (0 : Int32) = (0 : Int32) := rfl
          refine go (B := T40.setTop (mkF m 304 #[.val (.int p1), .val (.int p2), .val (.int p3), .val (.int p4), .val (.int p5), .val (.int c1), .val (.int r1), .val (.int d1), .val (.int c2), .val (.int r2), .val (.int d2), .val (.ref b1), .val (.ref t3), .val (.ref dg3), .val (.ref t30), .val (.ref dg30), .val (.int (1 : Int32)), .val (.int (0 : Int32)), .val (.int (0 : Int32))] [])) (fun _ k => XS.icmpNo X40.here hx rfl (hb hby at_301) rfl (teq hc301).2 k) ?_
          refine go (B := T40.setTop (mkF m 306 #[.val (.int p1), .val (.int p2), .val (.int p3), .val (.int p4), .val (.int p5), .val (.int c1), .val (.int r1), .val (.int d1), .val (.int c2), .val (.int r2), .val (.int d2), .val (.ref b1), .val (.ref t3), .val (.ref dg3), .val (.ref t30), .val (.ref dg30), .val (.int (1 : Int32)), .val (.int (0 : Int32)), .val (.int (0 : Int32))] [(.ref b1)])) (fun _ k => XS.aload X40.here hx rfl (hb hby at_304) rfl rfl k) ?_
          obtain ⟨cq41, kq41, q41a, q41b, q41c⟩ := isOf hZ e40 R30.1
          obtain ⟨_, _, ⟨T41, L41, k41, n41⟩, -, X41, ⟨Lc41, hQ41, l41, y41, z41⟩, st41⟩ := X40.virtualBack hx (y := (⟨"com/example/zonecast/zonecast/RecordValues", "next", "()I"⟩ : MethodName)) (z := (⟨"com/example/zonecast/zonecast/RecordValues", "next", "()I"⟩ : MethodName)) hown (mvT hZ (hw _ (List.mem_of_getElem? (i := 39) rfl))) (mvT hZ (hw _ (List.mem_of_getElem? (i := 40) rfl))) (notFace_of_selects (args := #[]) (mvT hZ (hw _ (List.mem_of_getElem? (i := 42) rfl)))) (mvT hZ (hw _ (List.mem_of_getElem? (i := 42) rfl))) (mvT hZ (hw _ (List.mem_of_getElem? (i := 41) rfl))) (by decide) (backOf (W := 0) (rm7 l Z a0 hw [] b1 t30 en30 dg30 (0 : Int32) (mx (mx (0 : Int32) r1) r2) (mx (mx (0 : Int32) c1) c2) (mx (mx (0 : Int32) d1) d2) x30 T30.heap n0 Zr30 R30 (by decide +kernel) (by have f1 := mx_int (0 : Int32) c1; have f2 := mx_int (mx (0 : Int32) c1) c2; have f3 := B_c1; have f4 := B_c2; have f5 := z0; have f6 := z1; have g : ((0 : Int32)).toInt = 0 := (by decide +kernel); omega)) hZ (hw _ (List.mem_of_getElem? (i := 43) rfl)) (hw _ (List.mem_of_getElem? (i := 2) rfl)) (by decide) (by decide)) q41a q41c (g := (mkF m 306 #[.val (.int p1), .val (.int p2), .val (.int p3), .val (.int p4), .val (.int p5), .val (.int c1), .val (.int r1), .val (.int d1), .val (.int c2), .val (.int r2), .val (.int d2), .val (.ref b1), .val (.ref t3), .val (.ref dg3), .val (.ref t30), .val (.ref dg30), .val (.int (1 : Int32)), .val (.int (0 : Int32)), .val (.int (0 : Int32))] [(.ref b1)])) rfl (by rw [hml]; rfl) (Steps.refl _) (argsL := []) (rest := []) (lenOf pd___I rfl) rfl (by show 2 * 0 + _ ≤ _; exact Nat.le_of_eq rfl) (hb hby at_306) (fun _ _ => ⟨rfl, e40, (by decide : 10 + 0 ≤ _), (by decide : 78 + 0 ≤ _)⟩)
          dsimp only [Pt.U, Pt.locs, Pt.cells, Pt.slots] at X41 l41 y41 z41 st41 hQ41
          subst l41 y41 z41
          obtain ⟨rfl, N41q, e41⟩ := hQ41
          have N41 := Fr.app N40 N41q
          refine go (B := T41.setTop (mkF m 309 #[.val (.int p1), .val (.int p2), .val (.int p3), .val (.int p4), .val (.int p5), .val (.int c1), .val (.int r1), .val (.int d1), .val (.int c2), .val (.int r2), .val (.int d2), .val (.ref b1), .val (.ref t3), .val (.ref dg3), .val (.ref t30), .val (.ref dg30), .val (.int (1 : Int32)), .val (.int (0 : Int32)), .val (.int (0 : Int32))] [(.int (fNext (0 : Int32) x30))])) (fun _ k => st41.trans k) ?_
          refine go (B := T41.setTop (mkF m 311 #[.val (.int p1), .val (.int p2), .val (.int p3), .val (.int p4), .val (.int p5), .val (.int c1), .val (.int r1), .val (.int d1), .val (.int c2), .val (.int r2), .val (.int d2), .val (.ref b1), .val (.ref t3), .val (.ref dg3), .val (.ref t30), .val (.ref dg30), .val (.int (1 : Int32)), .val (.int (0 : Int32)), .val (.int (0 : Int32))] [(.int (0 : Int32)), (.int (fNext (0 : Int32) x30))])) (fun _ k => XS.iload X41.here hx rfl (hb hby at_309) rfl k) ?_
          have hc311 : (fNext (0 : Int32) x30) = (0 : Int32) := rfl
          refine go (B := T41.setTop (mkF m 314 #[.val (.int p1), .val (.int p2), .val (.int p3), .val (.int p4), .val (.int p5), .val (.int c1), .val (.int r1), .val (.int d1), .val (.int c2), .val (.int r2), .val (.int d2), .val (.ref b1), .val (.ref t3), .val (.ref dg3), .val (.ref t30), .val (.ref dg30), .val (.int (1 : Int32)), .val (.int (0 : Int32)), .val (.int (0 : Int32))] [])) (fun _ k => XS.icmpNo X41.here hx rfl (hb hby at_311) rfl (teq hc311).2 k) ?_
          refine go (B := T41.setTop (mkF m 315 #[.val (.int p1), .val (.int p2), .val (.int p3), .val (.int p4), .val (.int p5), .val (.int c1), .val (.int r1), .val (.int d1), .val (.int c2), .val (.int r2), .val (.int d2), .val (.ref b1), .val (.ref t3), .val (.ref dg3), .val (.ref t30), .val (.ref dg30), .val (.int (1 : Int32)), .val (.int (0 : Int32)), .val (.int (0 : Int32))] [(.int (1 : Int32))])) (fun _ k => XS.iconst X41.here hx rfl (hb hby at_314) k) ?_
          refine go (B := T41.setTop (mkF m 319 #[.val (.int p1), .val (.int p2), .val (.int p3), .val (.int p4), .val (.int p5), .val (.int c1), .val (.int r1), .val (.int d1), .val (.int c2), .val (.int r2), .val (.int d2), .val (.ref b1), .val (.ref t3), .val (.ref dg3), .val (.ref t30), .val (.ref dg30), .val (.int (1 : Int32)), .val (.int (0 : Int32)), .val (.int (0 : Int32))] [(.int (1 : Int32))])) (fun _ k => XS.goto X41.here hx rfl (pc0 := 315) (pc' := 319) rfl (hb hby at_315) (by decide) (by decide) k) ?_
          refine go (B := T41.setTop (mkF m 321 #[.val (.int p1), .val (.int p2), .val (.int p3), .val (.int p4), .val (.int p5), .val (.int c1), .val (.int r1), .val (.int d1), .val (.int c2), .val (.int r2), .val (.int d2), .val (.ref b1), .val (.ref t3), .val (.ref dg3), .val (.ref t30), .val (.ref dg30), .val (.int (1 : Int32)), .val (.int (0 : Int32)), .val (.int (0 : Int32))] [])) (fun _ k => XS.istore X41.here hx rfl (hb hby at_319) rfl (l' := #[.val (.int p1), .val (.int p2), .val (.int p3), .val (.int p4), .val (.int p5), .val (.int c1), .val (.int r1), .val (.int d1), .val (.int c2), .val (.int r2), .val (.int d2), .val (.ref b1), .val (.ref t3), .val (.ref dg3), .val (.ref t30), .val (.ref dg30), .val (.int (1 : Int32)), .val (.int (0 : Int32)), .val (.int (0 : Int32))]) rfl k) ?_
          refine go (B := T41.setTop (mkF m 323 #[.val (.int p1), .val (.int p2), .val (.int p3), .val (.int p4), .val (.int p5), .val (.int c1), .val (.int r1), .val (.int d1), .val (.int c2), .val (.int r2), .val (.int d2), .val (.ref b1), .val (.ref t3), .val (.ref dg3), .val (.ref t30), .val (.ref dg30), .val (.int (1 : Int32)), .val (.int (0 : Int32)), .val (.int (0 : Int32))] [(.int (1 : Int32))])) (fun _ k => XS.iload X41.here hx rfl (hb hby at_321) rfl k) ?_
          refine goRetN X41 hx (t := .boolean) Bd.returns (by simp) hlk (hb hby at_323) ?_ (by decide) (by decide)
          rw [e41]
          exact ⟨rfl, N41⟩
        · exfalso
          have f4 := B_c2
          simp only [Int32.lt_iff_toInt_lt, z1, z2] at hc254 hc274
          omega
      · refine go (B := T39.setTop (mkF m 257 #[.val (.int p1), .val (.int p2), .val (.int p3), .val (.int p4), .val (.int p5), .val (.int c1), .val (.int r1), .val (.int d1), .val (.int c2), .val (.int r2), .val (.int d2), .val (.ref b1), .val (.ref t3), .val (.ref dg3), .val (.ref t30), .val (.ref dg30), .val (.int (1 : Int32)), .val (.int (0 : Int32)), .val (.int (0 : Int32))] [])) (fun _ k => XS.icmpNo X39.here hx rfl (hb hby at_254) rfl (flt hc254).1 k) ?_
        refine go (B := T39.setTop (mkF m 259 #[.val (.int p1), .val (.int p2), .val (.int p3), .val (.int p4), .val (.int p5), .val (.int c1), .val (.int r1), .val (.int d1), .val (.int c2), .val (.int r2), .val (.int d2), .val (.ref b1), .val (.ref t3), .val (.ref dg3), .val (.ref t30), .val (.ref dg30), .val (.int (1 : Int32)), .val (.int (0 : Int32)), .val (.int (0 : Int32))] [(.ref b1)])) (fun _ k => XS.aload X39.here hx rfl (hb hby at_257) rfl rfl k) ?_
        refine go (B := T39.setTop (mkF m 261 #[.val (.int p1), .val (.int p2), .val (.int p3), .val (.int p4), .val (.int p5), .val (.int c1), .val (.int r1), .val (.int d1), .val (.int c2), .val (.int r2), .val (.int d2), .val (.ref b1), .val (.ref t3), .val (.ref dg3), .val (.ref t30), .val (.ref dg30), .val (.int (1 : Int32)), .val (.int (0 : Int32)), .val (.int (0 : Int32))] [(.int p5), (.ref b1)])) (fun _ k => XS.iload X39.here hx rfl (hb hby at_259) rfl k) ?_
        obtain ⟨cq42, kq42, q42a, q42b, q42c⟩ := isOf hZ e39 R30.1
        obtain ⟨_, _, ⟨T42, L42, k42, n42⟩, -, X42, ⟨Lc42, hQ42, l42, y42, z42⟩, st42⟩ := X39.virtualBack hx (y := (⟨"com/example/zonecast/zonecast/RecordValues", "add", "(I)V"⟩ : MethodName)) (z := (⟨"com/example/zonecast/zonecast/RecordValues", "add", "(I)V"⟩ : MethodName)) hown (mvT hZ (hw _ (List.mem_of_getElem? (i := 44) rfl))) (mvT hZ (hw _ (List.mem_of_getElem? (i := 45) rfl))) (notFace_of_selects (args := #[]) (mvT hZ (hw _ (List.mem_of_getElem? (i := 47) rfl)))) (mvT hZ (hw _ (List.mem_of_getElem? (i := 47) rfl))) (mvT hZ (hw _ (List.mem_of_getElem? (i := 46) rfl))) (by decide) (backOf (W := 0) (rm8 l Z a0 hw [] b1 p5 t30 en30 dg30 (0 : Int32) (mx (mx (0 : Int32) r1) r2) (mx (mx (0 : Int32) c1) c2) (mx (mx (0 : Int32) d1) d2) x30 T30.heap n0 Zr30 R30 (by decide +kernel) (by have f1 := mx_int (0 : Int32) c1; have f2 := mx_int (mx (0 : Int32) c1) c2; have f3 := B_c1; have f4 := B_c2; have f5 := z0; have f6 := z1; have g : ((0 : Int32)).toInt = 0 := (by decide +kernel); simp only [Int32.lt_iff_toInt_lt, z0, z1, z2] at hc64 hc254; omega)) hZ (hw _ (List.mem_of_getElem? (i := 48) rfl)) (hw _ (List.mem_of_getElem? (i := 2) rfl)) (by decide) (by decide)) q42a q42c (g := (mkF m 261 #[.val (.int p1), .val (.int p2), .val (.int p3), .val (.int p4), .val (.int p5), .val (.int c1), .val (.int r1), .val (.int d1), .val (.int c2), .val (.int r2), .val (.int d2), .val (.ref b1), .val (.ref t3), .val (.ref dg3), .val (.ref t30), .val (.ref dg30), .val (.int (1 : Int32)), .val (.int (0 : Int32)), .val (.int (0 : Int32))] [(.int p5), (.ref b1)])) rfl (by rw [hml]; rfl) (Steps.refl _) (argsL := [(.int p5)]) (rest := []) (lenOf pd__I_V rfl) rfl (by show 2 * 0 + _ ≤ _; exact Nat.le_of_eq rfl) (hb hby at_261) (fun _ _ => ⟨rfl, e39, (by decide : 10 + 0 ≤ _), (by decide : 78 + 0 ≤ _)⟩)
        dsimp only [Pt.U, Pt.locs, Pt.cells, Pt.slots] at X42 l42 y42 z42 st42 hQ42
        subst l42 y42 z42
        obtain ⟨rfl, N42q, R42⟩ := hQ42
        have N42 := Fr.app N39 N42q
        have Zr42 := R42.2.2.2.2.2.2.2.2.2.2.2.2.2.2.2
        refine go (B := T42.setTop (mkF m 264 #[.val (.int p1), .val (.int p2), .val (.int p3), .val (.int p4), .val (.int p5), .val (.int c1), .val (.int r1), .val (.int d1), .val (.int c2), .val (.int r2), .val (.int d2), .val (.ref b1), .val (.ref t3), .val (.ref dg3), .val (.ref t30), .val (.ref dg30), .val (.int (1 : Int32)), .val (.int (0 : Int32)), .val (.int (0 : Int32))] [])) (fun _ k => st42.trans k) ?_
        refine go (B := T42.setTop (mkF m 265 #[.val (.int p1), .val (.int p2), .val (.int p3), .val (.int p4), .val (.int p5), .val (.int c1), .val (.int r1), .val (.int d1), .val (.int c2), .val (.int r2), .val (.int d2), .val (.ref b1), .val (.ref t3), .val (.ref dg3), .val (.ref t30), .val (.ref dg30), .val (.int (1 : Int32)), .val (.int (0 : Int32)), .val (.int (0 : Int32))] [(.int (1 : Int32))])) (fun _ k => XS.iconst X42.here hx rfl (hb hby at_264) k) ?_
        refine go (B := T42.setTop (mkF m 267 #[.val (.int p1), .val (.int p2), .val (.int p3), .val (.int p4), .val (.int p5), .val (.int c1), .val (.int r1), .val (.int d1), .val (.int c2), .val (.int r2), .val (.int d2), .val (.ref b1), .val (.ref t3), .val (.ref dg3), .val (.ref t30), .val (.ref dg30), .val (.int (1 : Int32)), .val (.int (1 : Int32)), .val (.int (0 : Int32))] [])) (fun _ k => XS.istore X42.here hx rfl (hb hby at_265) rfl (l' := #[.val (.int p1), .val (.int p2), .val (.int p3), .val (.int p4), .val (.int p5), .val (.int c1), .val (.int r1), .val (.int d1), .val (.int c2), .val (.int r2), .val (.int d2), .val (.ref b1), .val (.ref t3), .val (.ref dg3), .val (.ref t30), .val (.ref dg30), .val (.int (1 : Int32)), .val (.int (1 : Int32)), .val (.int (0 : Int32))]) rfl k) ?_
        refine go (B := T42.setTop (mkF m 269 #[.val (.int p1), .val (.int p2), .val (.int p3), .val (.int p4), .val (.int p5), .val (.int c1), .val (.int r1), .val (.int d1), .val (.int c2), .val (.int r2), .val (.int d2), .val (.ref b1), .val (.ref t3), .val (.ref dg3), .val (.ref t30), .val (.ref dg30), .val (.int (1 : Int32)), .val (.int (1 : Int32)), .val (.int (0 : Int32))] [(.int p5)])) (fun _ k => XS.iload X42.here hx rfl (hb hby at_267) rfl k) ?_
        refine go (B := T42.setTop (mkF m 271 #[.val (.int p1), .val (.int p2), .val (.int p3), .val (.int p4), .val (.int p5), .val (.int c1), .val (.int r1), .val (.int d1), .val (.int c2), .val (.int r2), .val (.int d2), .val (.ref b1), .val (.ref t3), .val (.ref dg3), .val (.ref t30), .val (.ref dg30), .val (.int (1 : Int32)), .val (.int (1 : Int32)), .val (.int p5)] [])) (fun _ k => XS.istore X42.here hx rfl (hb hby at_269) rfl (l' := #[.val (.int p1), .val (.int p2), .val (.int p3), .val (.int p4), .val (.int p5), .val (.int c1), .val (.int r1), .val (.int d1), .val (.int c2), .val (.int r2), .val (.int d2), .val (.ref b1), .val (.ref t3), .val (.ref dg3), .val (.ref t30), .val (.ref dg30), .val (.int (1 : Int32)), .val (.int (1 : Int32)), .val (.int p5)]) rfl k) ?_
        refine go (B := T42.setTop (mkF m 273 #[.val (.int p1), .val (.int p2), .val (.int p3), .val (.int p4), .val (.int p5), .val (.int c1), .val (.int r1), .val (.int d1), .val (.int c2), .val (.int r2), .val (.int d2), .val (.ref b1), .val (.ref t3), .val (.ref dg3), .val (.ref t30), .val (.ref dg30), .val (.int (1 : Int32)), .val (.int (1 : Int32)), .val (.int p5)] [(.int c2)])) (fun _ k => XS.iload X42.here hx rfl (hb hby at_271) rfl k) ?_
        refine go (B := T42.setTop (mkF m 274 #[.val (.int p1), .val (.int p2), .val (.int p3), .val (.int p4), .val (.int p5), .val (.int c1), .val (.int r1), .val (.int d1), .val (.int c2), .val (.int r2), .val (.int d2), .val (.ref b1), .val (.ref t3), .val (.ref dg3), .val (.ref t30), .val (.ref dg30), .val (.int (1 : Int32)), .val (.int (1 : Int32)), .val (.int p5)] [(.int (2 : Int32)), (.int c2)])) (fun _ k => XS.iconst X42.here hx rfl (hb hby at_273) k) ?_
        by_cases hc274 : c2 < (2 : Int32)
        · refine go (B := T42.setTop (mkF m 289 #[.val (.int p1), .val (.int p2), .val (.int p3), .val (.int p4), .val (.int p5), .val (.int c1), .val (.int r1), .val (.int d1), .val (.int c2), .val (.int r2), .val (.int d2), .val (.ref b1), .val (.ref t3), .val (.ref dg3), .val (.ref t30), .val (.ref dg30), .val (.int (1 : Int32)), .val (.int (1 : Int32)), .val (.int p5)] [])) (fun _ k => XS.icmpYes X42.here hx rfl (pc0 := 274) (pc' := 289) rfl (hb hby at_274) rfl (tlt hc274).1 (by decide) (by decide) k) ?_
          refine go (B := T42.setTop (mkF m 291 #[.val (.int p1), .val (.int p2), .val (.int p3), .val (.int p4), .val (.int p5), .val (.int c1), .val (.int r1), .val (.int d1), .val (.int c2), .val (.int r2), .val (.int d2), .val (.ref b1), .val (.ref t3), .val (.ref dg3), .val (.ref t30), .val (.ref dg30), .val (.int (1 : Int32)), .val (.int (1 : Int32)), .val (.int p5)] [(.int (1 : Int32))])) (fun _ k => XS.iload X42.here hx rfl (hb hby at_289) rfl k) ?_
          have hc291 : ¬ ((1 : Int32) = (0 : Int32)) := by decide
          refine go (B := T42.setTop (mkF m 294 #[.val (.int p1), .val (.int p2), .val (.int p3), .val (.int p4), .val (.int p5), .val (.int c1), .val (.int r1), .val (.int d1), .val (.int c2), .val (.int r2), .val (.int d2), .val (.ref b1), .val (.ref t3), .val (.ref dg3), .val (.ref t30), .val (.ref dg30), .val (.int (1 : Int32)), .val (.int (1 : Int32)), .val (.int p5)] [])) (fun _ k => XS.ifNo X42.here hx rfl (hb hby at_291) rfl ((if0 _ _).trans (feq hc291).1) k) ?_
          refine go (B := T42.setTop (mkF m 296 #[.val (.int p1), .val (.int p2), .val (.int p3), .val (.int p4), .val (.int p5), .val (.int c1), .val (.int r1), .val (.int d1), .val (.int c2), .val (.int r2), .val (.int d2), .val (.ref b1), .val (.ref t3), .val (.ref dg3), .val (.ref t30), .val (.ref dg30), .val (.int (1 : Int32)), .val (.int (1 : Int32)), .val (.int p5)] [(.ref b1)])) (fun _ k => XS.aload X42.here hx rfl (hb hby at_294) rfl rfl k) ?_
          obtain ⟨cq43, kq43, q43a, q43b, q43c⟩ := isOf hZ rfl R42.1
          obtain ⟨_, _, ⟨T43, L43, k43, n43⟩, -, X43, ⟨Lc43, hQ43, l43, y43, z43⟩, st43⟩ := X42.virtualBack hx (y := (⟨"com/example/zonecast/zonecast/RecordValues", "size", "()I"⟩ : MethodName)) (z := (⟨"com/example/zonecast/zonecast/RecordValues", "size", "()I"⟩ : MethodName)) hown (mvT hZ (hw _ (List.mem_of_getElem? (i := 34) rfl))) (mvT hZ (hw _ (List.mem_of_getElem? (i := 35) rfl))) (notFace_of_selects (args := #[]) (mvT hZ (hw _ (List.mem_of_getElem? (i := 37) rfl)))) (mvT hZ (hw _ (List.mem_of_getElem? (i := 37) rfl))) (mvT hZ (hw _ (List.mem_of_getElem? (i := 36) rfl))) (by decide) (backOf (W := 0) (rm6 l Z a0 hw [] b1 ((0 : Int32) + (1 : Int32)) T42.heap n0 Zr42 R42.2.2.2.2.1) hZ (hw _ (List.mem_of_getElem? (i := 38) rfl)) (hw _ (List.mem_of_getElem? (i := 2) rfl)) (by decide) (by decide)) q43a q43c (g := (mkF m 296 #[.val (.int p1), .val (.int p2), .val (.int p3), .val (.int p4), .val (.int p5), .val (.int c1), .val (.int r1), .val (.int d1), .val (.int c2), .val (.int r2), .val (.int d2), .val (.ref b1), .val (.ref t3), .val (.ref dg3), .val (.ref t30), .val (.ref dg30), .val (.int (1 : Int32)), .val (.int (1 : Int32)), .val (.int p5)] [(.ref b1)])) rfl (by rw [hml]; rfl) (Steps.refl _) (argsL := []) (rest := []) (lenOf pd___I rfl) rfl (by show 2 * 0 + _ ≤ _; exact Nat.le_of_eq rfl) (hb hby at_296) (fun _ _ => ⟨rfl, rfl, (by decide : 10 + 0 ≤ _), (by decide : 78 + 0 ≤ _)⟩)
          dsimp only [Pt.U, Pt.locs, Pt.cells, Pt.slots] at X43 l43 y43 z43 st43 hQ43
          subst l43 y43 z43
          obtain ⟨rfl, N43q, e43⟩ := hQ43
          have N43 := Fr.app N42 N43q
          refine go (B := T43.setTop (mkF m 299 #[.val (.int p1), .val (.int p2), .val (.int p3), .val (.int p4), .val (.int p5), .val (.int c1), .val (.int r1), .val (.int d1), .val (.int c2), .val (.int r2), .val (.int d2), .val (.ref b1), .val (.ref t3), .val (.ref dg3), .val (.ref t30), .val (.ref dg30), .val (.int (1 : Int32)), .val (.int (1 : Int32)), .val (.int p5)] [(.int ((0 : Int32) + (1 : Int32)))])) (fun _ k => st43.trans k) ?_
          refine go (B := T43.setTop (mkF m 301 #[.val (.int p1), .val (.int p2), .val (.int p3), .val (.int p4), .val (.int p5), .val (.int c1), .val (.int r1), .val (.int d1), .val (.int c2), .val (.int r2), .val (.int d2), .val (.ref b1), .val (.ref t3), .val (.ref dg3), .val (.ref t30), .val (.ref dg30), .val (.int (1 : Int32)), .val (.int (1 : Int32)), .val (.int p5)] [(.int (1 : Int32)), (.int ((0 : Int32) + (1 : Int32)))])) (fun _ k => XS.iload X43.here hx rfl (hb hby at_299) rfl k) ?_
          have hc301 : ((0 : Int32) + (1 : Int32)) = (1 : Int32) := by decide +kernel
          refine go (B := T43.setTop (mkF m 304 #[.val (.int p1), .val (.int p2), .val (.int p3), .val (.int p4), .val (.int p5), .val (.int c1), .val (.int r1), .val (.int d1), .val (.int c2), .val (.int r2), .val (.int d2), .val (.ref b1), .val (.ref t3), .val (.ref dg3), .val (.ref t30), .val (.ref dg30), .val (.int (1 : Int32)), .val (.int (1 : Int32)), .val (.int p5)] [])) (fun _ k => XS.icmpNo X43.here hx rfl (hb hby at_301) rfl (teq hc301).2 k) ?_
          refine go (B := T43.setTop (mkF m 306 #[.val (.int p1), .val (.int p2), .val (.int p3), .val (.int p4), .val (.int p5), .val (.int c1), .val (.int r1), .val (.int d1), .val (.int c2), .val (.int r2), .val (.int d2), .val (.ref b1), .val (.ref t3), .val (.ref dg3), .val (.ref t30), .val (.ref dg30), .val (.int (1 : Int32)), .val (.int (1 : Int32)), .val (.int p5)] [(.ref b1)])) (fun _ k => XS.aload X43.here hx rfl (hb hby at_304) rfl rfl k) ?_
          obtain ⟨cq44, kq44, q44a, q44b, q44c⟩ := isOf hZ e43 R42.1
          obtain ⟨_, _, ⟨T44, L44, k44, n44⟩, -, X44, ⟨Lc44, hQ44, l44, y44, z44⟩, st44⟩ := X43.virtualBack hx (y := (⟨"com/example/zonecast/zonecast/RecordValues", "next", "()I"⟩ : MethodName)) (z := (⟨"com/example/zonecast/zonecast/RecordValues", "next", "()I"⟩ : MethodName)) hown (mvT hZ (hw _ (List.mem_of_getElem? (i := 39) rfl))) (mvT hZ (hw _ (List.mem_of_getElem? (i := 40) rfl))) (notFace_of_selects (args := #[]) (mvT hZ (hw _ (List.mem_of_getElem? (i := 42) rfl)))) (mvT hZ (hw _ (List.mem_of_getElem? (i := 42) rfl))) (mvT hZ (hw _ (List.mem_of_getElem? (i := 41) rfl))) (by decide) (backOf (W := 0) (rm7 l Z a0 hw [] b1 t30 en30 dg30 ((0 : Int32) + (1 : Int32)) (mx (mx (0 : Int32) r1) r2) (mx (mx (0 : Int32) c1) c2) (mx (mx (0 : Int32) d1) d2) p5 T42.heap n0 Zr42 R42 (by decide +kernel) (by have f1 := mx_int (0 : Int32) c1; have f2 := mx_int (mx (0 : Int32) c1) c2; have f3 := B_c1; have f4 := B_c2; have f5 := z0; have f6 := z1; have g : (((0 : Int32) + (1 : Int32))).toInt = 1 := (by decide +kernel); simp only [Int32.lt_iff_toInt_lt, z0, z1, z2] at hc64 hc254 hc274; omega)) hZ (hw _ (List.mem_of_getElem? (i := 43) rfl)) (hw _ (List.mem_of_getElem? (i := 2) rfl)) (by decide) (by decide)) q44a q44c (g := (mkF m 306 #[.val (.int p1), .val (.int p2), .val (.int p3), .val (.int p4), .val (.int p5), .val (.int c1), .val (.int r1), .val (.int d1), .val (.int c2), .val (.int r2), .val (.int d2), .val (.ref b1), .val (.ref t3), .val (.ref dg3), .val (.ref t30), .val (.ref dg30), .val (.int (1 : Int32)), .val (.int (1 : Int32)), .val (.int p5)] [(.ref b1)])) rfl (by rw [hml]; rfl) (Steps.refl _) (argsL := []) (rest := []) (lenOf pd___I rfl) rfl (by show 2 * 0 + _ ≤ _; exact Nat.le_of_eq rfl) (hb hby at_306) (fun _ _ => ⟨rfl, e43, (by decide : 10 + 0 ≤ _), (by decide : 78 + 0 ≤ _)⟩)
          dsimp only [Pt.U, Pt.locs, Pt.cells, Pt.slots] at X44 l44 y44 z44 st44 hQ44
          subst l44 y44 z44
          obtain ⟨rfl, N44q, e44⟩ := hQ44
          have N44 := Fr.app N43 N44q
          refine go (B := T44.setTop (mkF m 309 #[.val (.int p1), .val (.int p2), .val (.int p3), .val (.int p4), .val (.int p5), .val (.int c1), .val (.int r1), .val (.int d1), .val (.int c2), .val (.int r2), .val (.int d2), .val (.ref b1), .val (.ref t3), .val (.ref dg3), .val (.ref t30), .val (.ref dg30), .val (.int (1 : Int32)), .val (.int (1 : Int32)), .val (.int p5)] [(.int (fNext ((0 : Int32) + (1 : Int32)) p5))])) (fun _ k => st44.trans k) ?_
          refine go (B := T44.setTop (mkF m 311 #[.val (.int p1), .val (.int p2), .val (.int p3), .val (.int p4), .val (.int p5), .val (.int c1), .val (.int r1), .val (.int d1), .val (.int c2), .val (.int r2), .val (.int d2), .val (.ref b1), .val (.ref t3), .val (.ref dg3), .val (.ref t30), .val (.ref dg30), .val (.int (1 : Int32)), .val (.int (1 : Int32)), .val (.int p5)] [(.int p5), (.int (fNext ((0 : Int32) + (1 : Int32)) p5))])) (fun _ k => XS.iload X44.here hx rfl (hb hby at_309) rfl k) ?_
          have hc311 : (fNext ((0 : Int32) + (1 : Int32)) p5) = p5 := fNext_ne (by decide +kernel)
          refine go (B := T44.setTop (mkF m 314 #[.val (.int p1), .val (.int p2), .val (.int p3), .val (.int p4), .val (.int p5), .val (.int c1), .val (.int r1), .val (.int d1), .val (.int c2), .val (.int r2), .val (.int d2), .val (.ref b1), .val (.ref t3), .val (.ref dg3), .val (.ref t30), .val (.ref dg30), .val (.int (1 : Int32)), .val (.int (1 : Int32)), .val (.int p5)] [])) (fun _ k => XS.icmpNo X44.here hx rfl (hb hby at_311) rfl (teq hc311).2 k) ?_
          refine go (B := T44.setTop (mkF m 315 #[.val (.int p1), .val (.int p2), .val (.int p3), .val (.int p4), .val (.int p5), .val (.int c1), .val (.int r1), .val (.int d1), .val (.int c2), .val (.int r2), .val (.int d2), .val (.ref b1), .val (.ref t3), .val (.ref dg3), .val (.ref t30), .val (.ref dg30), .val (.int (1 : Int32)), .val (.int (1 : Int32)), .val (.int p5)] [(.int (1 : Int32))])) (fun _ k => XS.iconst X44.here hx rfl (hb hby at_314) k) ?_
          refine go (B := T44.setTop (mkF m 319 #[.val (.int p1), .val (.int p2), .val (.int p3), .val (.int p4), .val (.int p5), .val (.int c1), .val (.int r1), .val (.int d1), .val (.int c2), .val (.int r2), .val (.int d2), .val (.ref b1), .val (.ref t3), .val (.ref dg3), .val (.ref t30), .val (.ref dg30), .val (.int (1 : Int32)), .val (.int (1 : Int32)), .val (.int p5)] [(.int (1 : Int32))])) (fun _ k => XS.goto X44.here hx rfl (pc0 := 315) (pc' := 319) rfl (hb hby at_315) (by decide) (by decide) k) ?_
          refine go (B := T44.setTop (mkF m 321 #[.val (.int p1), .val (.int p2), .val (.int p3), .val (.int p4), .val (.int p5), .val (.int c1), .val (.int r1), .val (.int d1), .val (.int c2), .val (.int r2), .val (.int d2), .val (.ref b1), .val (.ref t3), .val (.ref dg3), .val (.ref t30), .val (.ref dg30), .val (.int (1 : Int32)), .val (.int (1 : Int32)), .val (.int p5)] [])) (fun _ k => XS.istore X44.here hx rfl (hb hby at_319) rfl (l' := #[.val (.int p1), .val (.int p2), .val (.int p3), .val (.int p4), .val (.int p5), .val (.int c1), .val (.int r1), .val (.int d1), .val (.int c2), .val (.int r2), .val (.int d2), .val (.ref b1), .val (.ref t3), .val (.ref dg3), .val (.ref t30), .val (.ref dg30), .val (.int (1 : Int32)), .val (.int (1 : Int32)), .val (.int p5)]) rfl k) ?_
          refine go (B := T44.setTop (mkF m 323 #[.val (.int p1), .val (.int p2), .val (.int p3), .val (.int p4), .val (.int p5), .val (.int c1), .val (.int r1), .val (.int d1), .val (.int c2), .val (.int r2), .val (.int d2), .val (.ref b1), .val (.ref t3), .val (.ref dg3), .val (.ref t30), .val (.ref dg30), .val (.int (1 : Int32)), .val (.int (1 : Int32)), .val (.int p5)] [(.int (1 : Int32))])) (fun _ k => XS.iload X44.here hx rfl (hb hby at_321) rfl k) ?_
          refine goRetN X44 hx (t := .boolean) Bd.returns (by simp) hlk (hb hby at_323) ?_ (by decide) (by decide)
          rw [e44]
          exact ⟨rfl, N44⟩
        · refine go (B := T42.setTop (mkF m 277 #[.val (.int p1), .val (.int p2), .val (.int p3), .val (.int p4), .val (.int p5), .val (.int c1), .val (.int r1), .val (.int d1), .val (.int c2), .val (.int r2), .val (.int d2), .val (.ref b1), .val (.ref t3), .val (.ref dg3), .val (.ref t30), .val (.ref dg30), .val (.int (1 : Int32)), .val (.int (1 : Int32)), .val (.int p5)] [])) (fun _ k => XS.icmpNo X42.here hx rfl (hb hby at_274) rfl (flt hc274).1 k) ?_
          refine go (B := T42.setTop (mkF m 279 #[.val (.int p1), .val (.int p2), .val (.int p3), .val (.int p4), .val (.int p5), .val (.int c1), .val (.int r1), .val (.int d1), .val (.int c2), .val (.int r2), .val (.int d2), .val (.ref b1), .val (.ref t3), .val (.ref dg3), .val (.ref t30), .val (.ref dg30), .val (.int (1 : Int32)), .val (.int (1 : Int32)), .val (.int p5)] [(.ref b1)])) (fun _ k => XS.aload X42.here hx rfl (hb hby at_277) rfl rfl k) ?_
          refine go (B := T42.setTop (mkF m 280 #[.val (.int p1), .val (.int p2), .val (.int p3), .val (.int p4), .val (.int p5), .val (.int c1), .val (.int r1), .val (.int d1), .val (.int c2), .val (.int r2), .val (.int d2), .val (.ref b1), .val (.ref t3), .val (.ref dg3), .val (.ref t30), .val (.ref dg30), .val (.int (1 : Int32)), .val (.int (1 : Int32)), .val (.int p5)] [(.int p4), (.ref b1)])) (fun _ k => XS.iloadN X42.here hx rfl (hb hby at_279) rfl k) ?_
          obtain ⟨cq45, kq45, q45a, q45b, q45c⟩ := isOf hZ rfl R42.1
          obtain ⟨_, _, ⟨T45, L45, k45, n45⟩, -, X45, ⟨Lc45, hQ45, l45, y45, z45⟩, st45⟩ := X42.virtualBack hx (y := (⟨"com/example/zonecast/zonecast/RecordValues", "add", "(I)V"⟩ : MethodName)) (z := (⟨"com/example/zonecast/zonecast/RecordValues", "add", "(I)V"⟩ : MethodName)) hown (mvT hZ (hw _ (List.mem_of_getElem? (i := 44) rfl))) (mvT hZ (hw _ (List.mem_of_getElem? (i := 45) rfl))) (notFace_of_selects (args := #[]) (mvT hZ (hw _ (List.mem_of_getElem? (i := 47) rfl)))) (mvT hZ (hw _ (List.mem_of_getElem? (i := 47) rfl))) (mvT hZ (hw _ (List.mem_of_getElem? (i := 46) rfl))) (by decide) (backOf (W := 0) (rm8 l Z a0 hw [] b1 p4 t30 en30 dg30 ((0 : Int32) + (1 : Int32)) (mx (mx (0 : Int32) r1) r2) (mx (mx (0 : Int32) c1) c2) (mx (mx (0 : Int32) d1) d2) p5 T42.heap n0 Zr42 R42 (by decide +kernel) (by have f1 := mx_int (0 : Int32) c1; have f2 := mx_int (mx (0 : Int32) c1) c2; have f3 := B_c1; have f4 := B_c2; have f5 := z0; have f6 := z1; have g : (((0 : Int32) + (1 : Int32))).toInt = 1 := (by decide +kernel); simp only [Int32.lt_iff_toInt_lt, z0, z1, z2] at hc64 hc254 hc274; omega)) hZ (hw _ (List.mem_of_getElem? (i := 48) rfl)) (hw _ (List.mem_of_getElem? (i := 2) rfl)) (by decide) (by decide)) q45a q45c (g := (mkF m 280 #[.val (.int p1), .val (.int p2), .val (.int p3), .val (.int p4), .val (.int p5), .val (.int c1), .val (.int r1), .val (.int d1), .val (.int c2), .val (.int r2), .val (.int d2), .val (.ref b1), .val (.ref t3), .val (.ref dg3), .val (.ref t30), .val (.ref dg30), .val (.int (1 : Int32)), .val (.int (1 : Int32)), .val (.int p5)] [(.int p4), (.ref b1)])) rfl (by rw [hml]; rfl) (Steps.refl _) (argsL := [(.int p4)]) (rest := []) (lenOf pd__I_V rfl) rfl (by show 2 * 0 + _ ≤ _; exact Nat.le_of_eq rfl) (hb hby at_280) (fun _ _ => ⟨rfl, rfl, (by decide : 10 + 0 ≤ _), (by decide : 78 + 0 ≤ _)⟩)
          dsimp only [Pt.U, Pt.locs, Pt.cells, Pt.slots] at X45 l45 y45 z45 st45 hQ45
          subst l45 y45 z45
          obtain ⟨rfl, N45q, R45⟩ := hQ45
          have N45 := Fr.app N42 N45q
          have Zr45 := R45.2.2.2.2.2.2.2.2.2.2.2.2.2.2.2
          refine go (B := T45.setTop (mkF m 283 #[.val (.int p1), .val (.int p2), .val (.int p3), .val (.int p4), .val (.int p5), .val (.int c1), .val (.int r1), .val (.int d1), .val (.int c2), .val (.int r2), .val (.int d2), .val (.ref b1), .val (.ref t3), .val (.ref dg3), .val (.ref t30), .val (.ref dg30), .val (.int (1 : Int32)), .val (.int (1 : Int32)), .val (.int p5)] [])) (fun _ k => st45.trans k) ?_
          refine go (B := T45.setTop (mkF m 284 #[.val (.int p1), .val (.int p2), .val (.int p3), .val (.int p4), .val (.int p5), .val (.int c1), .val (.int r1), .val (.int d1), .val (.int c2), .val (.int r2), .val (.int d2), .val (.ref b1), .val (.ref t3), .val (.ref dg3), .val (.ref t30), .val (.ref dg30), .val (.int (1 : Int32)), .val (.int (1 : Int32)), .val (.int p5)] [(.int (2 : Int32))])) (fun _ k => XS.iconst X45.here hx rfl (hb hby at_283) k) ?_
          refine go (B := T45.setTop (mkF m 286 #[.val (.int p1), .val (.int p2), .val (.int p3), .val (.int p4), .val (.int p5), .val (.int c1), .val (.int r1), .val (.int d1), .val (.int c2), .val (.int r2), .val (.int d2), .val (.ref b1), .val (.ref t3), .val (.ref dg3), .val (.ref t30), .val (.ref dg30), .val (.int (1 : Int32)), .val (.int (2 : Int32)), .val (.int p5)] [])) (fun _ k => XS.istore X45.here hx rfl (hb hby at_284) rfl (l' := #[.val (.int p1), .val (.int p2), .val (.int p3), .val (.int p4), .val (.int p5), .val (.int c1), .val (.int r1), .val (.int d1), .val (.int c2), .val (.int r2), .val (.int d2), .val (.ref b1), .val (.ref t3), .val (.ref dg3), .val (.ref t30), .val (.ref dg30), .val (.int (1 : Int32)), .val (.int (2 : Int32)), .val (.int p5)]) rfl k) ?_
          refine go (B := T45.setTop (mkF m 287 #[.val (.int p1), .val (.int p2), .val (.int p3), .val (.int p4), .val (.int p5), .val (.int c1), .val (.int r1), .val (.int d1), .val (.int c2), .val (.int r2), .val (.int d2), .val (.ref b1), .val (.ref t3), .val (.ref dg3), .val (.ref t30), .val (.ref dg30), .val (.int (1 : Int32)), .val (.int (2 : Int32)), .val (.int p5)] [(.int p4)])) (fun _ k => XS.iloadN X45.here hx rfl (hb hby at_286) rfl k) ?_
          refine go (B := T45.setTop (mkF m 289 #[.val (.int p1), .val (.int p2), .val (.int p3), .val (.int p4), .val (.int p5), .val (.int c1), .val (.int r1), .val (.int d1), .val (.int c2), .val (.int r2), .val (.int d2), .val (.ref b1), .val (.ref t3), .val (.ref dg3), .val (.ref t30), .val (.ref dg30), .val (.int (1 : Int32)), .val (.int (2 : Int32)), .val (.int p4)] [])) (fun _ k => XS.istore X45.here hx rfl (hb hby at_287) rfl (l' := #[.val (.int p1), .val (.int p2), .val (.int p3), .val (.int p4), .val (.int p5), .val (.int c1), .val (.int r1), .val (.int d1), .val (.int c2), .val (.int r2), .val (.int d2), .val (.ref b1), .val (.ref t3), .val (.ref dg3), .val (.ref t30), .val (.ref dg30), .val (.int (1 : Int32)), .val (.int (2 : Int32)), .val (.int p4)]) rfl k) ?_
          refine go (B := T45.setTop (mkF m 291 #[.val (.int p1), .val (.int p2), .val (.int p3), .val (.int p4), .val (.int p5), .val (.int c1), .val (.int r1), .val (.int d1), .val (.int c2), .val (.int r2), .val (.int d2), .val (.ref b1), .val (.ref t3), .val (.ref dg3), .val (.ref t30), .val (.ref dg30), .val (.int (1 : Int32)), .val (.int (2 : Int32)), .val (.int p4)] [(.int (1 : Int32))])) (fun _ k => XS.iload X45.here hx rfl (hb hby at_289) rfl k) ?_
          have hc291 : ¬ ((1 : Int32) = (0 : Int32)) := by decide
          refine go (B := T45.setTop (mkF m 294 #[.val (.int p1), .val (.int p2), .val (.int p3), .val (.int p4), .val (.int p5), .val (.int c1), .val (.int r1), .val (.int d1), .val (.int c2), .val (.int r2), .val (.int d2), .val (.ref b1), .val (.ref t3), .val (.ref dg3), .val (.ref t30), .val (.ref dg30), .val (.int (1 : Int32)), .val (.int (2 : Int32)), .val (.int p4)] [])) (fun _ k => XS.ifNo X45.here hx rfl (hb hby at_291) rfl ((if0 _ _).trans (feq hc291).1) k) ?_
          refine go (B := T45.setTop (mkF m 296 #[.val (.int p1), .val (.int p2), .val (.int p3), .val (.int p4), .val (.int p5), .val (.int c1), .val (.int r1), .val (.int d1), .val (.int c2), .val (.int r2), .val (.int d2), .val (.ref b1), .val (.ref t3), .val (.ref dg3), .val (.ref t30), .val (.ref dg30), .val (.int (1 : Int32)), .val (.int (2 : Int32)), .val (.int p4)] [(.ref b1)])) (fun _ k => XS.aload X45.here hx rfl (hb hby at_294) rfl rfl k) ?_
          obtain ⟨cq46, kq46, q46a, q46b, q46c⟩ := isOf hZ rfl R45.1
          obtain ⟨_, _, ⟨T46, L46, k46, n46⟩, -, X46, ⟨Lc46, hQ46, l46, y46, z46⟩, st46⟩ := X45.virtualBack hx (y := (⟨"com/example/zonecast/zonecast/RecordValues", "size", "()I"⟩ : MethodName)) (z := (⟨"com/example/zonecast/zonecast/RecordValues", "size", "()I"⟩ : MethodName)) hown (mvT hZ (hw _ (List.mem_of_getElem? (i := 34) rfl))) (mvT hZ (hw _ (List.mem_of_getElem? (i := 35) rfl))) (notFace_of_selects (args := #[]) (mvT hZ (hw _ (List.mem_of_getElem? (i := 37) rfl)))) (mvT hZ (hw _ (List.mem_of_getElem? (i := 37) rfl))) (mvT hZ (hw _ (List.mem_of_getElem? (i := 36) rfl))) (by decide) (backOf (W := 0) (rm6 l Z a0 hw [] b1 (((0 : Int32) + (1 : Int32)) + (1 : Int32)) T45.heap n0 Zr45 R45.2.2.2.2.1) hZ (hw _ (List.mem_of_getElem? (i := 38) rfl)) (hw _ (List.mem_of_getElem? (i := 2) rfl)) (by decide) (by decide)) q46a q46c (g := (mkF m 296 #[.val (.int p1), .val (.int p2), .val (.int p3), .val (.int p4), .val (.int p5), .val (.int c1), .val (.int r1), .val (.int d1), .val (.int c2), .val (.int r2), .val (.int d2), .val (.ref b1), .val (.ref t3), .val (.ref dg3), .val (.ref t30), .val (.ref dg30), .val (.int (1 : Int32)), .val (.int (2 : Int32)), .val (.int p4)] [(.ref b1)])) rfl (by rw [hml]; rfl) (Steps.refl _) (argsL := []) (rest := []) (lenOf pd___I rfl) rfl (by show 2 * 0 + _ ≤ _; exact Nat.le_of_eq rfl) (hb hby at_296) (fun _ _ => ⟨rfl, rfl, (by decide : 10 + 0 ≤ _), (by decide : 78 + 0 ≤ _)⟩)
          dsimp only [Pt.U, Pt.locs, Pt.cells, Pt.slots] at X46 l46 y46 z46 st46 hQ46
          subst l46 y46 z46
          obtain ⟨rfl, N46q, e46⟩ := hQ46
          have N46 := Fr.app N45 N46q
          refine go (B := T46.setTop (mkF m 299 #[.val (.int p1), .val (.int p2), .val (.int p3), .val (.int p4), .val (.int p5), .val (.int c1), .val (.int r1), .val (.int d1), .val (.int c2), .val (.int r2), .val (.int d2), .val (.ref b1), .val (.ref t3), .val (.ref dg3), .val (.ref t30), .val (.ref dg30), .val (.int (1 : Int32)), .val (.int (2 : Int32)), .val (.int p4)] [(.int (((0 : Int32) + (1 : Int32)) + (1 : Int32)))])) (fun _ k => st46.trans k) ?_
          refine go (B := T46.setTop (mkF m 301 #[.val (.int p1), .val (.int p2), .val (.int p3), .val (.int p4), .val (.int p5), .val (.int c1), .val (.int r1), .val (.int d1), .val (.int c2), .val (.int r2), .val (.int d2), .val (.ref b1), .val (.ref t3), .val (.ref dg3), .val (.ref t30), .val (.ref dg30), .val (.int (1 : Int32)), .val (.int (2 : Int32)), .val (.int p4)] [(.int (2 : Int32)), (.int (((0 : Int32) + (1 : Int32)) + (1 : Int32)))])) (fun _ k => XS.iload X46.here hx rfl (hb hby at_299) rfl k) ?_
          have hc301 : (((0 : Int32) + (1 : Int32)) + (1 : Int32)) = (2 : Int32) := by decide +kernel
          refine go (B := T46.setTop (mkF m 304 #[.val (.int p1), .val (.int p2), .val (.int p3), .val (.int p4), .val (.int p5), .val (.int c1), .val (.int r1), .val (.int d1), .val (.int c2), .val (.int r2), .val (.int d2), .val (.ref b1), .val (.ref t3), .val (.ref dg3), .val (.ref t30), .val (.ref dg30), .val (.int (1 : Int32)), .val (.int (2 : Int32)), .val (.int p4)] [])) (fun _ k => XS.icmpNo X46.here hx rfl (hb hby at_301) rfl (teq hc301).2 k) ?_
          refine go (B := T46.setTop (mkF m 306 #[.val (.int p1), .val (.int p2), .val (.int p3), .val (.int p4), .val (.int p5), .val (.int c1), .val (.int r1), .val (.int d1), .val (.int c2), .val (.int r2), .val (.int d2), .val (.ref b1), .val (.ref t3), .val (.ref dg3), .val (.ref t30), .val (.ref dg30), .val (.int (1 : Int32)), .val (.int (2 : Int32)), .val (.int p4)] [(.ref b1)])) (fun _ k => XS.aload X46.here hx rfl (hb hby at_304) rfl rfl k) ?_
          obtain ⟨cq47, kq47, q47a, q47b, q47c⟩ := isOf hZ e46 R45.1
          obtain ⟨_, _, ⟨T47, L47, k47, n47⟩, -, X47, ⟨Lc47, hQ47, l47, y47, z47⟩, st47⟩ := X46.virtualBack hx (y := (⟨"com/example/zonecast/zonecast/RecordValues", "next", "()I"⟩ : MethodName)) (z := (⟨"com/example/zonecast/zonecast/RecordValues", "next", "()I"⟩ : MethodName)) hown (mvT hZ (hw _ (List.mem_of_getElem? (i := 39) rfl))) (mvT hZ (hw _ (List.mem_of_getElem? (i := 40) rfl))) (notFace_of_selects (args := #[]) (mvT hZ (hw _ (List.mem_of_getElem? (i := 42) rfl)))) (mvT hZ (hw _ (List.mem_of_getElem? (i := 42) rfl))) (mvT hZ (hw _ (List.mem_of_getElem? (i := 41) rfl))) (by decide) (backOf (W := 0) (rm7 l Z a0 hw [] b1 t30 en30 dg30 (((0 : Int32) + (1 : Int32)) + (1 : Int32)) (mx (mx (0 : Int32) r1) r2) (mx (mx (0 : Int32) c1) c2) (mx (mx (0 : Int32) d1) d2) p4 T45.heap n0 Zr45 R45 (by decide +kernel) (by have f1 := mx_int (0 : Int32) c1; have f2 := mx_int (mx (0 : Int32) c1) c2; have f3 := B_c1; have f4 := B_c2; have f5 := z0; have f6 := z1; have g : ((((0 : Int32) + (1 : Int32)) + (1 : Int32))).toInt = 2 := (by decide +kernel); simp only [Int32.lt_iff_toInt_lt, z0, z1, z2] at hc64 hc254 hc274; omega)) hZ (hw _ (List.mem_of_getElem? (i := 43) rfl)) (hw _ (List.mem_of_getElem? (i := 2) rfl)) (by decide) (by decide)) q47a q47c (g := (mkF m 306 #[.val (.int p1), .val (.int p2), .val (.int p3), .val (.int p4), .val (.int p5), .val (.int c1), .val (.int r1), .val (.int d1), .val (.int c2), .val (.int r2), .val (.int d2), .val (.ref b1), .val (.ref t3), .val (.ref dg3), .val (.ref t30), .val (.ref dg30), .val (.int (1 : Int32)), .val (.int (2 : Int32)), .val (.int p4)] [(.ref b1)])) rfl (by rw [hml]; rfl) (Steps.refl _) (argsL := []) (rest := []) (lenOf pd___I rfl) rfl (by show 2 * 0 + _ ≤ _; exact Nat.le_of_eq rfl) (hb hby at_306) (fun _ _ => ⟨rfl, e46, (by decide : 10 + 0 ≤ _), (by decide : 78 + 0 ≤ _)⟩)
          dsimp only [Pt.U, Pt.locs, Pt.cells, Pt.slots] at X47 l47 y47 z47 st47 hQ47
          subst l47 y47 z47
          obtain ⟨rfl, N47q, e47⟩ := hQ47
          have N47 := Fr.app N46 N47q
          refine go (B := T47.setTop (mkF m 309 #[.val (.int p1), .val (.int p2), .val (.int p3), .val (.int p4), .val (.int p5), .val (.int c1), .val (.int r1), .val (.int d1), .val (.int c2), .val (.int r2), .val (.int d2), .val (.ref b1), .val (.ref t3), .val (.ref dg3), .val (.ref t30), .val (.ref dg30), .val (.int (1 : Int32)), .val (.int (2 : Int32)), .val (.int p4)] [(.int (fNext (((0 : Int32) + (1 : Int32)) + (1 : Int32)) p4))])) (fun _ k => st47.trans k) ?_
          refine go (B := T47.setTop (mkF m 311 #[.val (.int p1), .val (.int p2), .val (.int p3), .val (.int p4), .val (.int p5), .val (.int c1), .val (.int r1), .val (.int d1), .val (.int c2), .val (.int r2), .val (.int d2), .val (.ref b1), .val (.ref t3), .val (.ref dg3), .val (.ref t30), .val (.ref dg30), .val (.int (1 : Int32)), .val (.int (2 : Int32)), .val (.int p4)] [(.int p4), (.int (fNext (((0 : Int32) + (1 : Int32)) + (1 : Int32)) p4))])) (fun _ k => XS.iload X47.here hx rfl (hb hby at_309) rfl k) ?_
          have hc311 : (fNext (((0 : Int32) + (1 : Int32)) + (1 : Int32)) p4) = p4 := fNext_ne (by decide +kernel)
          refine go (B := T47.setTop (mkF m 314 #[.val (.int p1), .val (.int p2), .val (.int p3), .val (.int p4), .val (.int p5), .val (.int c1), .val (.int r1), .val (.int d1), .val (.int c2), .val (.int r2), .val (.int d2), .val (.ref b1), .val (.ref t3), .val (.ref dg3), .val (.ref t30), .val (.ref dg30), .val (.int (1 : Int32)), .val (.int (2 : Int32)), .val (.int p4)] [])) (fun _ k => XS.icmpNo X47.here hx rfl (hb hby at_311) rfl (teq hc311).2 k) ?_
          refine go (B := T47.setTop (mkF m 315 #[.val (.int p1), .val (.int p2), .val (.int p3), .val (.int p4), .val (.int p5), .val (.int c1), .val (.int r1), .val (.int d1), .val (.int c2), .val (.int r2), .val (.int d2), .val (.ref b1), .val (.ref t3), .val (.ref dg3), .val (.ref t30), .val (.ref dg30), .val (.int (1 : Int32)), .val (.int (2 : Int32)), .val (.int p4)] [(.int (1 : Int32))])) (fun _ k => XS.iconst X47.here hx rfl (hb hby at_314) k) ?_
          refine go (B := T47.setTop (mkF m 319 #[.val (.int p1), .val (.int p2), .val (.int p3), .val (.int p4), .val (.int p5), .val (.int c1), .val (.int r1), .val (.int d1), .val (.int c2), .val (.int r2), .val (.int d2), .val (.ref b1), .val (.ref t3), .val (.ref dg3), .val (.ref t30), .val (.ref dg30), .val (.int (1 : Int32)), .val (.int (2 : Int32)), .val (.int p4)] [(.int (1 : Int32))])) (fun _ k => XS.goto X47.here hx rfl (pc0 := 315) (pc' := 319) rfl (hb hby at_315) (by decide) (by decide) k) ?_
          refine go (B := T47.setTop (mkF m 321 #[.val (.int p1), .val (.int p2), .val (.int p3), .val (.int p4), .val (.int p5), .val (.int c1), .val (.int r1), .val (.int d1), .val (.int c2), .val (.int r2), .val (.int d2), .val (.ref b1), .val (.ref t3), .val (.ref dg3), .val (.ref t30), .val (.ref dg30), .val (.int (1 : Int32)), .val (.int (2 : Int32)), .val (.int p4)] [])) (fun _ k => XS.istore X47.here hx rfl (hb hby at_319) rfl (l' := #[.val (.int p1), .val (.int p2), .val (.int p3), .val (.int p4), .val (.int p5), .val (.int c1), .val (.int r1), .val (.int d1), .val (.int c2), .val (.int r2), .val (.int d2), .val (.ref b1), .val (.ref t3), .val (.ref dg3), .val (.ref t30), .val (.ref dg30), .val (.int (1 : Int32)), .val (.int (2 : Int32)), .val (.int p4)]) rfl k) ?_
          refine go (B := T47.setTop (mkF m 323 #[.val (.int p1), .val (.int p2), .val (.int p3), .val (.int p4), .val (.int p5), .val (.int c1), .val (.int r1), .val (.int d1), .val (.int c2), .val (.int r2), .val (.int d2), .val (.ref b1), .val (.ref t3), .val (.ref dg3), .val (.ref t30), .val (.ref dg30), .val (.int (1 : Int32)), .val (.int (2 : Int32)), .val (.int p4)] [(.int (1 : Int32))])) (fun _ k => XS.iload X47.here hx rfl (hb hby at_321) rfl k) ?_
          refine goRetN X47 hx (t := .boolean) Bd.returns (by simp) hlk (hb hby at_323) ?_ (by decide) (by decide)
          rw [e47]
          exact ⟨rfl, N47⟩
    refine go (B := T32.setTop (mkF m 165 #[.val (.int p1), .val (.int p2), .val (.int p3), .val (.int p4), .val (.int p5), .val (.int c1), .val (.int r1), .val (.int d1), .val (.int c2), .val (.int r2), .val (.int d2), .val (.ref b1), .val (.ref t3), .val (.ref dg3), .val (.ref t30), .val (.ref dg30), .val (.int (1 : Int32)), .unset, .unset] [(.int (1 : Int32))])) (fun _ k => XS.iload X32.here hx rfl (hb hby at_163) rfl k) ?_
    have hc165 : ¬ ((1 : Int32) = (0 : Int32)) := by decide
    refine go (B := T32.setTop (mkF m 168 #[.val (.int p1), .val (.int p2), .val (.int p3), .val (.int p4), .val (.int p5), .val (.int c1), .val (.int r1), .val (.int d1), .val (.int c2), .val (.int r2), .val (.int d2), .val (.ref b1), .val (.ref t3), .val (.ref dg3), .val (.ref t30), .val (.ref dg30), .val (.int (1 : Int32)), .unset, .unset] [])) (fun _ k => XS.ifNo X32.here hx rfl (hb hby at_165) rfl ((if0 _ _).trans (feq hc165).1) k) ?_
    refine go (B := T32.setTop (mkF m 170 #[.val (.int p1), .val (.int p2), .val (.int p3), .val (.int p4), .val (.int p5), .val (.int c1), .val (.int r1), .val (.int d1), .val (.int c2), .val (.int r2), .val (.int d2), .val (.ref b1), .val (.ref t3), .val (.ref dg3), .val (.ref t30), .val (.ref dg30), .val (.int (1 : Int32)), .unset, .unset] [(.ref t3)])) (fun _ k => XS.aload X32.here hx rfl (hb hby at_168) rfl rfl k) ?_
    have Vc48 := Vt30
    obtain ⟨cl48, Ar48, -, S48, N48_, -, -⟩ := Vc48
    refine go (B := T32.setTop (mkF m 171 #[.val (.int p1), .val (.int p2), .val (.int p3), .val (.int p4), .val (.int p5), .val (.int c1), .val (.int r1), .val (.int d1), .val (.int c2), .val (.int r2), .val (.int d2), .val (.ref b1), .val (.ref t3), .val (.ref dg3), .val (.ref t30), .val (.ref dg30), .val (.int (1 : Int32)), .unset, .unset] [(.int (mx (0 : Int32) r1))])) (fun _ k => X32.arraylength hx (by rw [e32]; exact Ar48.1) (State.isArrayOf_alike hZ.alike Ar48.2.1) (g := (mkF m 170 #[.val (.int p1), .val (.int p2), .val (.int p3), .val (.int p4), .val (.int p5), .val (.int c1), .val (.int r1), .val (.int d1), .val (.int c2), .val (.int r2), .val (.int d2), .val (.ref b1), .val (.ref t3), .val (.ref dg3), .val (.ref t30), .val (.ref dg30), .val (.int (1 : Int32)), .unset, .unset] [(.ref t3)])) rfl rfl (hb hby at_170) _ (by rw [len_of S48 N48_]; exact k)) ?_
    refine go (B := T32.setTop (mkF m 173 #[.val (.int p1), .val (.int p2), .val (.int p3), .val (.int p4), .val (.int p5), .val (.int c1), .val (.int r1), .val (.int d1), .val (.int c2), .val (.int r2), .val (.int d2), .val (.ref b1), .val (.ref t3), .val (.ref dg3), .val (.ref t30), .val (.ref dg30), .val (.int (1 : Int32)), .unset, .unset] [(.int r2), (.int (mx (0 : Int32) r1))])) (fun _ k => XS.iload X32.here hx rfl (hb hby at_171) rfl k) ?_
    by_cases hc173 : (mx (0 : Int32) r1) < r2
    · refine go (B := T32.setTop (mkF m 183 #[.val (.int p1), .val (.int p2), .val (.int p3), .val (.int p4), .val (.int p5), .val (.int c1), .val (.int r1), .val (.int d1), .val (.int c2), .val (.int r2), .val (.int d2), .val (.ref b1), .val (.ref t3), .val (.ref dg3), .val (.ref t30), .val (.ref dg30), .val (.int (1 : Int32)), .unset, .unset] [])) (fun _ k => XS.icmpYes X32.here hx rfl (pc0 := 173) (pc' := 183) rfl (hb hby at_173) rfl (tlt hc173).1 (by decide) (by decide) k) ?_
      refine go (B := T32.setTop (mkF m 184 #[.val (.int p1), .val (.int p2), .val (.int p3), .val (.int p4), .val (.int p5), .val (.int c1), .val (.int r1), .val (.int d1), .val (.int c2), .val (.int r2), .val (.int d2), .val (.ref b1), .val (.ref t3), .val (.ref dg3), .val (.ref t30), .val (.ref dg30), .val (.int (1 : Int32)), .unset, .unset] [(.int (1 : Int32))])) (fun _ k => XS.iconst X32.here hx rfl (hb hby at_183) k) ?_
      refine go (B := T32.setTop (mkF m 188 #[.val (.int p1), .val (.int p2), .val (.int p3), .val (.int p4), .val (.int p5), .val (.int c1), .val (.int r1), .val (.int d1), .val (.int c2), .val (.int r2), .val (.int d2), .val (.ref b1), .val (.ref t3), .val (.ref dg3), .val (.ref t30), .val (.ref dg30), .val (.int (1 : Int32)), .unset, .unset] [(.int (1 : Int32))])) (fun _ k => XS.goto X32.here hx rfl (pc0 := 184) (pc' := 188) rfl (hb hby at_184) (by decide) (by decide) k) ?_
      refine go (B := T32.setTop (mkF m 190 #[.val (.int p1), .val (.int p2), .val (.int p3), .val (.int p4), .val (.int p5), .val (.int c1), .val (.int r1), .val (.int d1), .val (.int c2), .val (.int r2), .val (.int d2), .val (.ref b1), .val (.ref t3), .val (.ref dg3), .val (.ref t30), .val (.ref dg30), .val (.int (1 : Int32)), .unset, .unset] [])) (fun _ k => XS.istore X32.here hx rfl (hb hby at_188) rfl (l' := #[.val (.int p1), .val (.int p2), .val (.int p3), .val (.int p4), .val (.int p5), .val (.int c1), .val (.int r1), .val (.int d1), .val (.int c2), .val (.int r2), .val (.int d2), .val (.ref b1), .val (.ref t3), .val (.ref dg3), .val (.ref t30), .val (.ref dg30), .val (.int (1 : Int32)), .unset, .unset]) rfl k) ?_
      refine go (B := T32.setTop (mkF m 192 #[.val (.int p1), .val (.int p2), .val (.int p3), .val (.int p4), .val (.int p5), .val (.int c1), .val (.int r1), .val (.int d1), .val (.int c2), .val (.int r2), .val (.int d2), .val (.ref b1), .val (.ref t3), .val (.ref dg3), .val (.ref t30), .val (.ref dg30), .val (.int (1 : Int32)), .unset, .unset] [(.int (1 : Int32))])) (fun _ k => XS.iload X32.here hx rfl (hb hby at_190) rfl k) ?_
      have hc192 : ¬ ((1 : Int32) = (0 : Int32)) := by decide
      refine go (B := T32.setTop (mkF m 195 #[.val (.int p1), .val (.int p2), .val (.int p3), .val (.int p4), .val (.int p5), .val (.int c1), .val (.int r1), .val (.int d1), .val (.int c2), .val (.int r2), .val (.int d2), .val (.ref b1), .val (.ref t3), .val (.ref dg3), .val (.ref t30), .val (.ref dg30), .val (.int (1 : Int32)), .unset, .unset] [])) (fun _ k => XS.ifNo X32.here hx rfl (hb hby at_192) rfl ((if0 _ _).trans (feq hc192).1) k) ?_
      refine go (B := T32.setTop (mkF m 197 #[.val (.int p1), .val (.int p2), .val (.int p3), .val (.int p4), .val (.int p5), .val (.int c1), .val (.int r1), .val (.int d1), .val (.int c2), .val (.int r2), .val (.int d2), .val (.ref b1), .val (.ref t3), .val (.ref dg3), .val (.ref t30), .val (.ref dg30), .val (.int (1 : Int32)), .unset, .unset] [(.ref dg3)])) (fun _ k => XS.aload X32.here hx rfl (hb hby at_195) rfl rfl k) ?_
      have Vc49 := Vd30
      obtain ⟨cl49, Ar49, -, S49, N49_, -, -⟩ := Vc49
      refine go (B := T32.setTop (mkF m 198 #[.val (.int p1), .val (.int p2), .val (.int p3), .val (.int p4), .val (.int p5), .val (.int c1), .val (.int r1), .val (.int d1), .val (.int c2), .val (.int r2), .val (.int d2), .val (.ref b1), .val (.ref t3), .val (.ref dg3), .val (.ref t30), .val (.ref dg30), .val (.int (1 : Int32)), .unset, .unset] [(.int (mx (0 : Int32) d1))])) (fun _ k => X32.arraylength hx (by rw [e32]; exact Ar49.1) (State.isArrayOf_alike hZ.alike Ar49.2.1) (g := (mkF m 197 #[.val (.int p1), .val (.int p2), .val (.int p3), .val (.int p4), .val (.int p5), .val (.int c1), .val (.int r1), .val (.int d1), .val (.int c2), .val (.int r2), .val (.int d2), .val (.ref b1), .val (.ref t3), .val (.ref dg3), .val (.ref t30), .val (.ref dg30), .val (.int (1 : Int32)), .unset, .unset] [(.ref dg3)])) rfl rfl (hb hby at_197) _ (by rw [len_of S49 N49_]; exact k)) ?_
      refine go (B := T32.setTop (mkF m 200 #[.val (.int p1), .val (.int p2), .val (.int p3), .val (.int p4), .val (.int p5), .val (.int c1), .val (.int r1), .val (.int d1), .val (.int c2), .val (.int r2), .val (.int d2), .val (.ref b1), .val (.ref t3), .val (.ref dg3), .val (.ref t30), .val (.ref dg30), .val (.int (1 : Int32)), .unset, .unset] [(.int d2), (.int (mx (0 : Int32) d1))])) (fun _ k => XS.iload X32.here hx rfl (hb hby at_198) rfl k) ?_
      by_cases hc200 : (mx (0 : Int32) d1) < d2
      · refine go (B := T32.setTop (mkF m 210 #[.val (.int p1), .val (.int p2), .val (.int p3), .val (.int p4), .val (.int p5), .val (.int c1), .val (.int r1), .val (.int d1), .val (.int c2), .val (.int r2), .val (.int d2), .val (.ref b1), .val (.ref t3), .val (.ref dg3), .val (.ref t30), .val (.ref dg30), .val (.int (1 : Int32)), .unset, .unset] [])) (fun _ k => XS.icmpYes X32.here hx rfl (pc0 := 200) (pc' := 210) rfl (hb hby at_200) rfl (tlt hc200).1 (by decide) (by decide) k) ?_
        refine go (B := T32.setTop (mkF m 211 #[.val (.int p1), .val (.int p2), .val (.int p3), .val (.int p4), .val (.int p5), .val (.int c1), .val (.int r1), .val (.int d1), .val (.int c2), .val (.int r2), .val (.int d2), .val (.ref b1), .val (.ref t3), .val (.ref dg3), .val (.ref t30), .val (.ref dg30), .val (.int (1 : Int32)), .unset, .unset] [(.int (1 : Int32))])) (fun _ k => XS.iconst X32.here hx rfl (hb hby at_210) k) ?_
        refine go (B := T32.setTop (mkF m 215 #[.val (.int p1), .val (.int p2), .val (.int p3), .val (.int p4), .val (.int p5), .val (.int c1), .val (.int r1), .val (.int d1), .val (.int c2), .val (.int r2), .val (.int d2), .val (.ref b1), .val (.ref t3), .val (.ref dg3), .val (.ref t30), .val (.ref dg30), .val (.int (1 : Int32)), .unset, .unset] [(.int (1 : Int32))])) (fun _ k => XS.goto X32.here hx rfl (pc0 := 211) (pc' := 215) rfl (hb hby at_211) (by decide) (by decide) k) ?_
        refine go (B := T32.setTop (mkF m 217 #[.val (.int p1), .val (.int p2), .val (.int p3), .val (.int p4), .val (.int p5), .val (.int c1), .val (.int r1), .val (.int d1), .val (.int c2), .val (.int r2), .val (.int d2), .val (.ref b1), .val (.ref t3), .val (.ref dg3), .val (.ref t30), .val (.ref dg30), .val (.int (1 : Int32)), .unset, .unset] [])) (fun _ k => XS.istore X32.here hx rfl (hb hby at_215) rfl (l' := #[.val (.int p1), .val (.int p2), .val (.int p3), .val (.int p4), .val (.int p5), .val (.int c1), .val (.int r1), .val (.int d1), .val (.int c2), .val (.int r2), .val (.int d2), .val (.ref b1), .val (.ref t3), .val (.ref dg3), .val (.ref t30), .val (.ref dg30), .val (.int (1 : Int32)), .unset, .unset]) rfl k) ?_
        exact tl217
      · refine go (B := T32.setTop (mkF m 203 #[.val (.int p1), .val (.int p2), .val (.int p3), .val (.int p4), .val (.int p5), .val (.int c1), .val (.int r1), .val (.int d1), .val (.int c2), .val (.int r2), .val (.int d2), .val (.ref b1), .val (.ref t3), .val (.ref dg3), .val (.ref t30), .val (.ref dg30), .val (.int (1 : Int32)), .unset, .unset] [])) (fun _ k => XS.icmpNo X32.here hx rfl (hb hby at_200) rfl (flt hc200).1 k) ?_
        refine go (B := T32.setTop (mkF m 205 #[.val (.int p1), .val (.int p2), .val (.int p3), .val (.int p4), .val (.int p5), .val (.int c1), .val (.int r1), .val (.int d1), .val (.int c2), .val (.int r2), .val (.int d2), .val (.ref b1), .val (.ref t3), .val (.ref dg3), .val (.ref t30), .val (.ref dg30), .val (.int (1 : Int32)), .unset, .unset] [(.ref dg30)])) (fun _ k => XS.aload X32.here hx rfl (hb hby at_203) rfl rfl k) ?_
        refine go (B := T32.setTop (mkF m 207 #[.val (.int p1), .val (.int p2), .val (.int p3), .val (.int p4), .val (.int p5), .val (.int c1), .val (.int r1), .val (.int d1), .val (.int c2), .val (.int r2), .val (.int d2), .val (.ref b1), .val (.ref t3), .val (.ref dg3), .val (.ref t30), .val (.ref dg30), .val (.int (1 : Int32)), .unset, .unset] [(.ref dg3), (.ref dg30)])) (fun _ k => XS.aload X32.here hx rfl (hb hby at_205) rfl rfl k) ?_
        have ha207 : dg30 = dg3 := hD30 hc200
        refine go (B := T32.setTop (mkF m 210 #[.val (.int p1), .val (.int p2), .val (.int p3), .val (.int p4), .val (.int p5), .val (.int c1), .val (.int r1), .val (.int d1), .val (.int c2), .val (.int r2), .val (.int d2), .val (.ref b1), .val (.ref t3), .val (.ref dg3), .val (.ref t30), .val (.ref dg30), .val (.int (1 : Int32)), .unset, .unset] [])) (fun _ k => Jvm.RoadKit.acmp (g := (mkF m 207 #[.val (.int p1), .val (.int p2), .val (.int p3), .val (.int p4), .val (.int p5), .val (.int c1), .val (.int r1), .val (.int d1), .val (.int c2), .val (.int r2), .val (.int d2), .val (.ref b1), .val (.ref t3), .val (.ref dg3), .val (.ref t30), .val (.ref dg30), .val (.int (1 : Int32)), .unset, .unset] [(.ref dg3), (.ref dg30)])) X32 hx rfl rfl rfl (pc0 := 207) (pc' := 210) (same := true) rfl (hb hby at_207) rfl (decide_eq_true (congrArg Value.ref ha207)) (by decide) (by decide) k) ?_
        refine go (B := T32.setTop (mkF m 211 #[.val (.int p1), .val (.int p2), .val (.int p3), .val (.int p4), .val (.int p5), .val (.int c1), .val (.int r1), .val (.int d1), .val (.int c2), .val (.int r2), .val (.int d2), .val (.ref b1), .val (.ref t3), .val (.ref dg3), .val (.ref t30), .val (.ref dg30), .val (.int (1 : Int32)), .unset, .unset] [(.int (1 : Int32))])) (fun _ k => XS.iconst X32.here hx rfl (hb hby at_210) k) ?_
        refine go (B := T32.setTop (mkF m 215 #[.val (.int p1), .val (.int p2), .val (.int p3), .val (.int p4), .val (.int p5), .val (.int c1), .val (.int r1), .val (.int d1), .val (.int c2), .val (.int r2), .val (.int d2), .val (.ref b1), .val (.ref t3), .val (.ref dg3), .val (.ref t30), .val (.ref dg30), .val (.int (1 : Int32)), .unset, .unset] [(.int (1 : Int32))])) (fun _ k => XS.goto X32.here hx rfl (pc0 := 211) (pc' := 215) rfl (hb hby at_211) (by decide) (by decide) k) ?_
        refine go (B := T32.setTop (mkF m 217 #[.val (.int p1), .val (.int p2), .val (.int p3), .val (.int p4), .val (.int p5), .val (.int c1), .val (.int r1), .val (.int d1), .val (.int c2), .val (.int r2), .val (.int d2), .val (.ref b1), .val (.ref t3), .val (.ref dg3), .val (.ref t30), .val (.ref dg30), .val (.int (1 : Int32)), .unset, .unset] [])) (fun _ k => XS.istore X32.here hx rfl (hb hby at_215) rfl (l' := #[.val (.int p1), .val (.int p2), .val (.int p3), .val (.int p4), .val (.int p5), .val (.int c1), .val (.int r1), .val (.int d1), .val (.int c2), .val (.int r2), .val (.int d2), .val (.ref b1), .val (.ref t3), .val (.ref dg3), .val (.ref t30), .val (.ref dg30), .val (.int (1 : Int32)), .unset, .unset]) rfl k) ?_
        exact tl217
    · refine go (B := T32.setTop (mkF m 176 #[.val (.int p1), .val (.int p2), .val (.int p3), .val (.int p4), .val (.int p5), .val (.int c1), .val (.int r1), .val (.int d1), .val (.int c2), .val (.int r2), .val (.int d2), .val (.ref b1), .val (.ref t3), .val (.ref dg3), .val (.ref t30), .val (.ref dg30), .val (.int (1 : Int32)), .unset, .unset] [])) (fun _ k => XS.icmpNo X32.here hx rfl (hb hby at_173) rfl (flt hc173).1 k) ?_
      refine go (B := T32.setTop (mkF m 178 #[.val (.int p1), .val (.int p2), .val (.int p3), .val (.int p4), .val (.int p5), .val (.int c1), .val (.int r1), .val (.int d1), .val (.int c2), .val (.int r2), .val (.int d2), .val (.ref b1), .val (.ref t3), .val (.ref dg3), .val (.ref t30), .val (.ref dg30), .val (.int (1 : Int32)), .unset, .unset] [(.ref t30)])) (fun _ k => XS.aload X32.here hx rfl (hb hby at_176) rfl rfl k) ?_
      refine go (B := T32.setTop (mkF m 180 #[.val (.int p1), .val (.int p2), .val (.int p3), .val (.int p4), .val (.int p5), .val (.int c1), .val (.int r1), .val (.int d1), .val (.int c2), .val (.int r2), .val (.int d2), .val (.ref b1), .val (.ref t3), .val (.ref dg3), .val (.ref t30), .val (.ref dg30), .val (.int (1 : Int32)), .unset, .unset] [(.ref t3), (.ref t30)])) (fun _ k => XS.aload X32.here hx rfl (hb hby at_178) rfl rfl k) ?_
      have ha180 : t30 = t3 := hT30 hc173
      refine go (B := T32.setTop (mkF m 183 #[.val (.int p1), .val (.int p2), .val (.int p3), .val (.int p4), .val (.int p5), .val (.int c1), .val (.int r1), .val (.int d1), .val (.int c2), .val (.int r2), .val (.int d2), .val (.ref b1), .val (.ref t3), .val (.ref dg3), .val (.ref t30), .val (.ref dg30), .val (.int (1 : Int32)), .unset, .unset] [])) (fun _ k => Jvm.RoadKit.acmp (g := (mkF m 180 #[.val (.int p1), .val (.int p2), .val (.int p3), .val (.int p4), .val (.int p5), .val (.int c1), .val (.int r1), .val (.int d1), .val (.int c2), .val (.int r2), .val (.int d2), .val (.ref b1), .val (.ref t3), .val (.ref dg3), .val (.ref t30), .val (.ref dg30), .val (.int (1 : Int32)), .unset, .unset] [(.ref t3), (.ref t30)])) X32 hx rfl rfl rfl (pc0 := 180) (pc' := 183) (same := true) rfl (hb hby at_180) rfl (decide_eq_true (congrArg Value.ref ha180)) (by decide) (by decide) k) ?_
      refine go (B := T32.setTop (mkF m 184 #[.val (.int p1), .val (.int p2), .val (.int p3), .val (.int p4), .val (.int p5), .val (.int c1), .val (.int r1), .val (.int d1), .val (.int c2), .val (.int r2), .val (.int d2), .val (.ref b1), .val (.ref t3), .val (.ref dg3), .val (.ref t30), .val (.ref dg30), .val (.int (1 : Int32)), .unset, .unset] [(.int (1 : Int32))])) (fun _ k => XS.iconst X32.here hx rfl (hb hby at_183) k) ?_
      refine go (B := T32.setTop (mkF m 188 #[.val (.int p1), .val (.int p2), .val (.int p3), .val (.int p4), .val (.int p5), .val (.int c1), .val (.int r1), .val (.int d1), .val (.int c2), .val (.int r2), .val (.int d2), .val (.ref b1), .val (.ref t3), .val (.ref dg3), .val (.ref t30), .val (.ref dg30), .val (.int (1 : Int32)), .unset, .unset] [(.int (1 : Int32))])) (fun _ k => XS.goto X32.here hx rfl (pc0 := 184) (pc' := 188) rfl (hb hby at_184) (by decide) (by decide) k) ?_
      refine go (B := T32.setTop (mkF m 190 #[.val (.int p1), .val (.int p2), .val (.int p3), .val (.int p4), .val (.int p5), .val (.int c1), .val (.int r1), .val (.int d1), .val (.int c2), .val (.int r2), .val (.int d2), .val (.ref b1), .val (.ref t3), .val (.ref dg3), .val (.ref t30), .val (.ref dg30), .val (.int (1 : Int32)), .unset, .unset] [])) (fun _ k => XS.istore X32.here hx rfl (hb hby at_188) rfl (l' := #[.val (.int p1), .val (.int p2), .val (.int p3), .val (.int p4), .val (.int p5), .val (.int c1), .val (.int r1), .val (.int d1), .val (.int c2), .val (.int r2), .val (.int d2), .val (.ref b1), .val (.ref t3), .val (.ref dg3), .val (.ref t30), .val (.ref dg30), .val (.int (1 : Int32)), .unset, .unset]) rfl k) ?_
      refine go (B := T32.setTop (mkF m 192 #[.val (.int p1), .val (.int p2), .val (.int p3), .val (.int p4), .val (.int p5), .val (.int c1), .val (.int r1), .val (.int d1), .val (.int c2), .val (.int r2), .val (.int d2), .val (.ref b1), .val (.ref t3), .val (.ref dg3), .val (.ref t30), .val (.ref dg30), .val (.int (1 : Int32)), .unset, .unset] [(.int (1 : Int32))])) (fun _ k => XS.iload X32.here hx rfl (hb hby at_190) rfl k) ?_
      have hc192 : ¬ ((1 : Int32) = (0 : Int32)) := by decide
      refine go (B := T32.setTop (mkF m 195 #[.val (.int p1), .val (.int p2), .val (.int p3), .val (.int p4), .val (.int p5), .val (.int c1), .val (.int r1), .val (.int d1), .val (.int c2), .val (.int r2), .val (.int d2), .val (.ref b1), .val (.ref t3), .val (.ref dg3), .val (.ref t30), .val (.ref dg30), .val (.int (1 : Int32)), .unset, .unset] [])) (fun _ k => XS.ifNo X32.here hx rfl (hb hby at_192) rfl ((if0 _ _).trans (feq hc192).1) k) ?_
      refine go (B := T32.setTop (mkF m 197 #[.val (.int p1), .val (.int p2), .val (.int p3), .val (.int p4), .val (.int p5), .val (.int c1), .val (.int r1), .val (.int d1), .val (.int c2), .val (.int r2), .val (.int d2), .val (.ref b1), .val (.ref t3), .val (.ref dg3), .val (.ref t30), .val (.ref dg30), .val (.int (1 : Int32)), .unset, .unset] [(.ref dg3)])) (fun _ k => XS.aload X32.here hx rfl (hb hby at_195) rfl rfl k) ?_
      have Vc50 := Vd30
      obtain ⟨cl50, Ar50, -, S50, N50_, -, -⟩ := Vc50
      refine go (B := T32.setTop (mkF m 198 #[.val (.int p1), .val (.int p2), .val (.int p3), .val (.int p4), .val (.int p5), .val (.int c1), .val (.int r1), .val (.int d1), .val (.int c2), .val (.int r2), .val (.int d2), .val (.ref b1), .val (.ref t3), .val (.ref dg3), .val (.ref t30), .val (.ref dg30), .val (.int (1 : Int32)), .unset, .unset] [(.int (mx (0 : Int32) d1))])) (fun _ k => X32.arraylength hx (by rw [e32]; exact Ar50.1) (State.isArrayOf_alike hZ.alike Ar50.2.1) (g := (mkF m 197 #[.val (.int p1), .val (.int p2), .val (.int p3), .val (.int p4), .val (.int p5), .val (.int c1), .val (.int r1), .val (.int d1), .val (.int c2), .val (.int r2), .val (.int d2), .val (.ref b1), .val (.ref t3), .val (.ref dg3), .val (.ref t30), .val (.ref dg30), .val (.int (1 : Int32)), .unset, .unset] [(.ref dg3)])) rfl rfl (hb hby at_197) _ (by rw [len_of S50 N50_]; exact k)) ?_
      refine go (B := T32.setTop (mkF m 200 #[.val (.int p1), .val (.int p2), .val (.int p3), .val (.int p4), .val (.int p5), .val (.int c1), .val (.int r1), .val (.int d1), .val (.int c2), .val (.int r2), .val (.int d2), .val (.ref b1), .val (.ref t3), .val (.ref dg3), .val (.ref t30), .val (.ref dg30), .val (.int (1 : Int32)), .unset, .unset] [(.int d2), (.int (mx (0 : Int32) d1))])) (fun _ k => XS.iload X32.here hx rfl (hb hby at_198) rfl k) ?_
      by_cases hc200 : (mx (0 : Int32) d1) < d2
      · refine go (B := T32.setTop (mkF m 210 #[.val (.int p1), .val (.int p2), .val (.int p3), .val (.int p4), .val (.int p5), .val (.int c1), .val (.int r1), .val (.int d1), .val (.int c2), .val (.int r2), .val (.int d2), .val (.ref b1), .val (.ref t3), .val (.ref dg3), .val (.ref t30), .val (.ref dg30), .val (.int (1 : Int32)), .unset, .unset] [])) (fun _ k => XS.icmpYes X32.here hx rfl (pc0 := 200) (pc' := 210) rfl (hb hby at_200) rfl (tlt hc200).1 (by decide) (by decide) k) ?_
        refine go (B := T32.setTop (mkF m 211 #[.val (.int p1), .val (.int p2), .val (.int p3), .val (.int p4), .val (.int p5), .val (.int c1), .val (.int r1), .val (.int d1), .val (.int c2), .val (.int r2), .val (.int d2), .val (.ref b1), .val (.ref t3), .val (.ref dg3), .val (.ref t30), .val (.ref dg30), .val (.int (1 : Int32)), .unset, .unset] [(.int (1 : Int32))])) (fun _ k => XS.iconst X32.here hx rfl (hb hby at_210) k) ?_
        refine go (B := T32.setTop (mkF m 215 #[.val (.int p1), .val (.int p2), .val (.int p3), .val (.int p4), .val (.int p5), .val (.int c1), .val (.int r1), .val (.int d1), .val (.int c2), .val (.int r2), .val (.int d2), .val (.ref b1), .val (.ref t3), .val (.ref dg3), .val (.ref t30), .val (.ref dg30), .val (.int (1 : Int32)), .unset, .unset] [(.int (1 : Int32))])) (fun _ k => XS.goto X32.here hx rfl (pc0 := 211) (pc' := 215) rfl (hb hby at_211) (by decide) (by decide) k) ?_
        refine go (B := T32.setTop (mkF m 217 #[.val (.int p1), .val (.int p2), .val (.int p3), .val (.int p4), .val (.int p5), .val (.int c1), .val (.int r1), .val (.int d1), .val (.int c2), .val (.int r2), .val (.int d2), .val (.ref b1), .val (.ref t3), .val (.ref dg3), .val (.ref t30), .val (.ref dg30), .val (.int (1 : Int32)), .unset, .unset] [])) (fun _ k => XS.istore X32.here hx rfl (hb hby at_215) rfl (l' := #[.val (.int p1), .val (.int p2), .val (.int p3), .val (.int p4), .val (.int p5), .val (.int c1), .val (.int r1), .val (.int d1), .val (.int c2), .val (.int r2), .val (.int d2), .val (.ref b1), .val (.ref t3), .val (.ref dg3), .val (.ref t30), .val (.ref dg30), .val (.int (1 : Int32)), .unset, .unset]) rfl k) ?_
        exact tl217
      · refine go (B := T32.setTop (mkF m 203 #[.val (.int p1), .val (.int p2), .val (.int p3), .val (.int p4), .val (.int p5), .val (.int c1), .val (.int r1), .val (.int d1), .val (.int c2), .val (.int r2), .val (.int d2), .val (.ref b1), .val (.ref t3), .val (.ref dg3), .val (.ref t30), .val (.ref dg30), .val (.int (1 : Int32)), .unset, .unset] [])) (fun _ k => XS.icmpNo X32.here hx rfl (hb hby at_200) rfl (flt hc200).1 k) ?_
        refine go (B := T32.setTop (mkF m 205 #[.val (.int p1), .val (.int p2), .val (.int p3), .val (.int p4), .val (.int p5), .val (.int c1), .val (.int r1), .val (.int d1), .val (.int c2), .val (.int r2), .val (.int d2), .val (.ref b1), .val (.ref t3), .val (.ref dg3), .val (.ref t30), .val (.ref dg30), .val (.int (1 : Int32)), .unset, .unset] [(.ref dg30)])) (fun _ k => XS.aload X32.here hx rfl (hb hby at_203) rfl rfl k) ?_
        refine go (B := T32.setTop (mkF m 207 #[.val (.int p1), .val (.int p2), .val (.int p3), .val (.int p4), .val (.int p5), .val (.int c1), .val (.int r1), .val (.int d1), .val (.int c2), .val (.int r2), .val (.int d2), .val (.ref b1), .val (.ref t3), .val (.ref dg3), .val (.ref t30), .val (.ref dg30), .val (.int (1 : Int32)), .unset, .unset] [(.ref dg3), (.ref dg30)])) (fun _ k => XS.aload X32.here hx rfl (hb hby at_205) rfl rfl k) ?_
        have ha207 : dg30 = dg3 := hD30 hc200
        refine go (B := T32.setTop (mkF m 210 #[.val (.int p1), .val (.int p2), .val (.int p3), .val (.int p4), .val (.int p5), .val (.int c1), .val (.int r1), .val (.int d1), .val (.int c2), .val (.int r2), .val (.int d2), .val (.ref b1), .val (.ref t3), .val (.ref dg3), .val (.ref t30), .val (.ref dg30), .val (.int (1 : Int32)), .unset, .unset] [])) (fun _ k => Jvm.RoadKit.acmp (g := (mkF m 207 #[.val (.int p1), .val (.int p2), .val (.int p3), .val (.int p4), .val (.int p5), .val (.int c1), .val (.int r1), .val (.int d1), .val (.int c2), .val (.int r2), .val (.int d2), .val (.ref b1), .val (.ref t3), .val (.ref dg3), .val (.ref t30), .val (.ref dg30), .val (.int (1 : Int32)), .unset, .unset] [(.ref dg3), (.ref dg30)])) X32 hx rfl rfl rfl (pc0 := 207) (pc' := 210) (same := true) rfl (hb hby at_207) rfl (decide_eq_true (congrArg Value.ref ha207)) (by decide) (by decide) k) ?_
        refine go (B := T32.setTop (mkF m 211 #[.val (.int p1), .val (.int p2), .val (.int p3), .val (.int p4), .val (.int p5), .val (.int c1), .val (.int r1), .val (.int d1), .val (.int c2), .val (.int r2), .val (.int d2), .val (.ref b1), .val (.ref t3), .val (.ref dg3), .val (.ref t30), .val (.ref dg30), .val (.int (1 : Int32)), .unset, .unset] [(.int (1 : Int32))])) (fun _ k => XS.iconst X32.here hx rfl (hb hby at_210) k) ?_
        refine go (B := T32.setTop (mkF m 215 #[.val (.int p1), .val (.int p2), .val (.int p3), .val (.int p4), .val (.int p5), .val (.int c1), .val (.int r1), .val (.int d1), .val (.int c2), .val (.int r2), .val (.int d2), .val (.ref b1), .val (.ref t3), .val (.ref dg3), .val (.ref t30), .val (.ref dg30), .val (.int (1 : Int32)), .unset, .unset] [(.int (1 : Int32))])) (fun _ k => XS.goto X32.here hx rfl (pc0 := 211) (pc' := 215) rfl (hb hby at_211) (by decide) (by decide) k) ?_
        refine go (B := T32.setTop (mkF m 217 #[.val (.int p1), .val (.int p2), .val (.int p3), .val (.int p4), .val (.int p5), .val (.int c1), .val (.int r1), .val (.int d1), .val (.int c2), .val (.int r2), .val (.int d2), .val (.ref b1), .val (.ref t3), .val (.ref dg3), .val (.ref t30), .val (.ref dg30), .val (.int (1 : Int32)), .unset, .unset] [])) (fun _ k => XS.istore X32.here hx rfl (hb hby at_215) rfl (l' := #[.val (.int p1), .val (.int p2), .val (.int p3), .val (.int p4), .val (.int p5), .val (.int c1), .val (.int r1), .val (.int d1), .val (.int c2), .val (.int r2), .val (.int d2), .val (.ref b1), .val (.ref t3), .val (.ref dg3), .val (.ref t30), .val (.ref dg30), .val (.int (1 : Int32)), .unset, .unset]) rfl k) ?_
        exact tl217
set_option maxRecDepth 65536 in
set_option maxHeartbeats 40000000 in
theorem comes_1 {Post : Tables → Env → Array Value → State → Outcome → State → Prop} (hpost : ∀ tb e args s v u, (limb_1_1.after args s (.returned v) u = true ∧ limb_1_2.after args s (.returned v) u = true ∧ True) → FrameEnd s (.returned v) u (Jvm.fieldLocs frame_1_writes args s ++ Jvm.arrayLocs frame_1_arrays args s ++ Jvm.staticLocs frame_1_statics s) 32 256 → Post tb e args s (.returned v) u) :
    ArmFor flags0 classFile x code maxLocals ret World_1 tables_1 room_1 Calls_1 rest_1 Pre_1 Post := by
  intro l hfl _ _ p e ha hc hk s m args below hf hA hF happ hP
  obtain ⟨hcalls, hrest, hpre⟩ := hP
  obtain ⟨-, -, -, hnamed, -, -, -, hat⟩ := (Spec.applies_iff hf).mp happ
  obtain ⟨hg, hn⟩ := and_e (Cond.before_iff.mp (show (Jvm.Cond.and given_1 narrow_1).before args s = true from hpre))
  obtain ⟨hcnt, gg0⟩ := and_e hg
  obtain ⟨ga0, gg1⟩ := and_e gg0
  obtain ⟨ga1, gg2⟩ := and_e gg1
  obtain ⟨ga2, gg3⟩ := and_e gg2
  obtain ⟨ga3, gg4⟩ := and_e gg3
  obtain ⟨w0, w1, w2, w3, w4, rfl⟩ : ∃ w0 w1 w2 w3 w4 : Value, args = #[w0, w1, w2, w3, w4] := by
    have hs : args.size = 5 := by simpa [Cond.value, given_1] using hcnt
    obtain ⟨L⟩ := args
    match L, hs with
    | [w0, w1, w2, w3, w4], _ => exact ⟨w0, w1, w2, w3, w4, rfl⟩
  have hw := fun d (hd : d ∈ tables_1) => atoms_spec (ws := Jvm.Cond.code x code maxLocals ret :: tables_1) hat d (List.mem_cons_of_mem _ hd)
  have hfit : Fit s := fun {y c} hc i hi => by
    obtain ⟨ha, rfl⟩ := Array.getElem?_eq_some_iff.mp hc
    have q := List.all_eq_true.mp ((Array.all_eq_true_iff_forall_mem.mp hF) _ (Array.getElem_mem ha)) i (List.mem_range.mpr hi)
    simpa [Array.getElem?_eq_getElem hi] using q
  obtain ⟨i0, ei0⟩ := is_v ga0
  obtain rfl : w0 = (.int i0) := Option.some.inj ei0
  obtain ⟨i1, ei1⟩ := is_v ga1
  obtain rfl : w1 = (.int i1) := Option.some.inj ei1
  obtain ⟨i2, ei2⟩ := is_v ga2
  obtain rfl : w2 = (.int i2) := Option.some.inj ei2
  obtain ⟨i3, ei3⟩ := is_v ga3
  obtain rfl : w3 = (.int i3) := Option.some.inj ei3
  obtain ⟨i4, ei4⟩ := is_v gg4
  obtain rfl : w4 = (.int i4) := Option.some.inj ei4
  obtain ⟨n, o, h1, h2, h3, _, L, rfl, ⟨rfl, N⟩, hq⟩ := rm0 l s _ hw tables_1 i0 i1 i2 i3 i4 s.heap s.heap.size (Nat.le_refl _) p e ha hc hk s m _ below hf ((Spec.applies_iff_loose hf).mp happ).1 ⟨rfl, State.Warmed39.refl s, rfl⟩ trivial
  refine ⟨n, _, h1, h2, h3, hpost _ _ _ _ _ _ ⟨Cond.after_iff.mpr rfl, Cond.after_iff.mpr (eq_i res_at (Term.int_eval (1)) rfl), trivial⟩ ⟨hq.1, hq.2.1, (hq.2.2.sift fun y hy => Or.inr (N y hy)).mono (by decide) (by decide)⟩⟩
theorem main_1_1 : Claimed_1_1 := comes_1 fun _ _ _ _ _ _ h hF => ⟨h.1, hF⟩
theorem main_1_2 : Claimed_1_2 := comes_1 fun _ _ _ _ _ _ h hF => ⟨h.2.1, hF⟩
end Jvm.Pilot.@@N@@
namespace Jvm.Pilot.@@N@@
open Jvm Jvm.ClassFile Sem Op Lib Jvm.Free Jvm.Stand Jvm.Pilot.@@N@@.Jvm.D
/-! MADE BY PROGRAM (witnessworld.py) out of the Statement's table words and the real class files: 11 classes; the members and pool entries that the words name. The judged class is class 1, her method 1. -/
namespace start1
open Jvm.ClassFile
def u (s : String) : CpInfo := .utf8 (stringToUtf16 s)
/-- a pool by its gaps: so many unusable entries, then the entry; so many at the end -/
def gap : Nat → List CpInfo → List CpInfo
  | 0, r => r
  | n + 1, r => .unusable :: gap n r
def poolList (es : List (Nat × CpInfo)) (last : Nat) : List CpInfo := es.foldr (fun e r => gap e.1 (e.2 :: r)) (gap last [])
def pool (es : List (Nat × CpInfo)) (last : Nat) : Array CpInfo := ⟨poolList es last⟩
def fileOf (pool : Array CpInfo) (this : Nat) (attrs : Array Attribute := #[]) (ms : Array MethodInfo := #[]) (fl : Nat := 33) (sup : Nat := 0) (ifs : Array Nat := #[]) (fds : Array FieldInfo := #[]) : ClassFile where
  minorVersion := 0
  majorVersion := 65
  constantPool := pool
  accessFlags := fl
  thisClass := this
  superClass := sup
  interfaces := ifs
  fields := fds
  methods := ms
  attributes := attrs
def plain (name : String) (sup : Option ClassId) : Class where
  name := name
  kind := .ordinary
  loader := none
  accessFlags := 33
  super := sup
  interfaces := #[]
  cf := none
  fields := #[]
  methods := #[]
  instanceTypes := #[]
  staticTypes := #[]
  resolved := #[]
  callSites := []
  init := .initialized
  statics := none
  mirror := none

def pool0 : Array CpInfo := pool [(5, u "<init>"), (0, u "()V"), (1, .class_ 10), (1, u "java/lang/Object")] 113

def k0c0 : Code := { maxStack := 0, maxLocals := 1, code := object_method_1_code, exceptionTable := #[], attributes := #[] }
def k0m0 : Method := { name := "<init>", desc := "()V", sig := { parameters := [], returnType := none }, accessFlags := 1, code := some k0c0 }
/-- java/lang/Object -/
def k0 : Class := { plain "java/lang/Object" none with
  accessFlags := 33
  interfaces := #[]
  cf := some (fileOf pool0 8 #[] #[{ accessFlags := 1, nameIndex := 5, descriptorIndex := 6, attributes := #[] }] 33 0 #[] #[])
  fields := #[]
  methods := #[k0m0]
  instanceTypes := #[]
  staticTypes := #[]
  resolved := Array.replicate 124 none
  statics := none }

def pool1 : Array CpInfo := pool [(2, .class_ 4), (0, .nameAndType 5 6), (0, u "java/lang/Object"), (0, u "<init>"), (0, u "()V"), (0, .class_ 8), (0, u "com/example/zonecast/zonecast/RecordValues"), (0, .methodref 7 3), (0, .methodref 7 11), (0, .nameAndType 12 13), (0, u "clear"), (0, u "(III)V"), (0, .methodref 7 15), (0, .nameAndType 16 17), (0, u "add"), (0, u "(I)V"), (0, .methodref 7 19), (0, .nameAndType 20 21), (0, u "text"), (0, u "()[C"), (0, .methodref 7 23), (0, .nameAndType 24 21), (0, u "digits"), (0, .methodref 7 26), (0, .nameAndType 27 28), (0, u "size"), (0, u "()I"), (0, .methodref 7 30), (0, .nameAndType 31 28), (0, u "next"), (0, .class_ 33), (0, u "com/example/zonecast/zonecast/RecordValuesClearPinLaw"), (2, u "law"), (0, u "(IIIII)Z")] 5

def k1m0 : Method := { name := "<init>", desc := "()V", sig := { parameters := [], returnType := none }, accessFlags := 1, code := none }
def k1c1 : Code := { maxStack := 4, maxLocals := 19, code := code, exceptionTable := #[], attributes := #[] }
def k1m1 : Method := { name := "law", desc := "(IIIII)Z", sig := { parameters := [.int, .int, .int, .int, .int], returnType := some .boolean }, accessFlags := 9, code := some k1c1 }
/-- com/example/zonecast/zonecast/RecordValuesClearPinLaw -/
def k1 : Class := { plain "com/example/zonecast/zonecast/RecordValuesClearPinLaw" (some 0) with
  accessFlags := 49
  interfaces := #[]
  cf := some (fileOf pool1 32 #[] #[{ accessFlags := 1, nameIndex := 5, descriptorIndex := 6, attributes := #[] }, { accessFlags := 9, nameIndex := 36, descriptorIndex := 37, attributes := #[] }] 49 2 #[] #[])
  fields := #[]
  methods := #[k1m0, k1m1]
  instanceTypes := #[]
  staticTypes := #[]
  resolved := Array.replicate 43 none
  statics := none }

def pool2 : Array CpInfo := pool [(1, .methodref 2 3), (0, .class_ 4), (0, .nameAndType 5 6), (0, u "java/lang/Object"), (0, u "<init>"), (0, u "()V"), (0, .fieldref 8 9), (0, .class_ 10), (0, .nameAndType 11 12), (0, u "com/example/zonecast/zonecast/RecordValues"), (0, u "text"), (0, u "[C"), (0, .fieldref 8 14), (0, .nameAndType 15 16), (0, u "ends"), (0, u "[I"), (0, .fieldref 8 18), (0, .nameAndType 19 12), (0, u "digits"), (0, .fieldref 8 21), (0, .nameAndType 22 23), (0, u "size"), (0, u "I"), (24, u "clear"), (0, u "(III)V"), (1, u "add"), (0, u "(I)V"), (0, u "next"), (0, u "()I"), (0, u "()[C")] 8

def k2c0 : Code := { maxStack := 2, maxLocals := 1, code := prog_90_method_1_code, exceptionTable := #[], attributes := #[] }
def k2m0 : Method := { name := "<init>", desc := "()V", sig := { parameters := [], returnType := none }, accessFlags := 0, code := some k2c0 }
def k2c1 : Code := { maxStack := 2, maxLocals := 4, code := prog_90_method_2_code, exceptionTable := #[], attributes := #[] }
def k2m1 : Method := { name := "clear", desc := "(III)V", sig := { parameters := [.int, .int, .int], returnType := none }, accessFlags := 0, code := some k2c1 }
def k2c2 : Code := { maxStack := 5, maxLocals := 2, code := prog_90_method_3_code, exceptionTable := #[], attributes := #[] }
def k2m2 : Method := { name := "add", desc := "(I)V", sig := { parameters := [.int], returnType := none }, accessFlags := 0, code := some k2c2 }
def k2c3 : Code := { maxStack := 3, maxLocals := 1, code := prog_90_method_4_code, exceptionTable := #[], attributes := #[] }
def k2m3 : Method := { name := "next", desc := "()I", sig := { parameters := [], returnType := some .int }, accessFlags := 0, code := some k2c3 }
def k2c4 : Code := { maxStack := 1, maxLocals := 1, code := prog_90_method_5_code, exceptionTable := #[], attributes := #[] }
def k2m4 : Method := { name := "digits", desc := "()[C", sig := { parameters := [], returnType := some (.array .char) }, accessFlags := 0, code := some k2c4 }
def k2c5 : Code := { maxStack := 1, maxLocals := 1, code := prog_90_method_6_code, exceptionTable := #[], attributes := #[] }
def k2m5 : Method := { name := "size", desc := "()I", sig := { parameters := [], returnType := some .int }, accessFlags := 0, code := some k2c5 }
def k2c6 : Code := { maxStack := 1, maxLocals := 1, code := prog_90_method_7_code, exceptionTable := #[], attributes := #[] }
def k2m6 : Method := { name := "text", desc := "()[C", sig := { parameters := [], returnType := some (.array .char) }, accessFlags := 0, code := some k2c6 }
/-- com/example/zonecast/zonecast/RecordValues -/
def k2 : Class := { plain "com/example/zonecast/zonecast/RecordValues" (some 0) with
  accessFlags := 48
  interfaces := #[]
  cf := some (fileOf pool2 8 #[] #[{ accessFlags := 0, nameIndex := 5, descriptorIndex := 6, attributes := #[] }, { accessFlags := 0, nameIndex := 48, descriptorIndex := 49, attributes := #[] }, { accessFlags := 0, nameIndex := 51, descriptorIndex := 52, attributes := #[] }, { accessFlags := 0, nameIndex := 53, descriptorIndex := 54, attributes := #[] }, { accessFlags := 0, nameIndex := 19, descriptorIndex := 55, attributes := #[] }, { accessFlags := 0, nameIndex := 22, descriptorIndex := 54, attributes := #[] }, { accessFlags := 0, nameIndex := 11, descriptorIndex := 55, attributes := #[] }] 48 2 #[] #[{ accessFlags := 2, nameIndex := 11, descriptorIndex := 12, attributes := #[] }, { accessFlags := 2, nameIndex := 15, descriptorIndex := 16, attributes := #[] }, { accessFlags := 2, nameIndex := 22, descriptorIndex := 23, attributes := #[] }, { accessFlags := 2, nameIndex := 19, descriptorIndex := 12, attributes := #[] }])
  fields := #[{ name := "text", type := (.array .char), accessFlags := 2, slot := 0, constantValue := 0 }, { name := "ends", type := (.array .int), accessFlags := 2, slot := 1, constantValue := 0 }, { name := "size", type := .int, accessFlags := 2, slot := 2, constantValue := 0 }, { name := "digits", type := (.array .char), accessFlags := 2, slot := 3, constantValue := 0 }]
  methods := #[k2m0, k2m1, k2m2, k2m3, k2m4, k2m5, k2m6]
  instanceTypes := #[(.array .char), (.array .int), .int, (.array .char)]
  staticTypes := #[]
  resolved := Array.replicate 64 none
  statics := none }

def pool3 : Array CpInfo := pool [(1, u "java/lang/Cloneable"), (0, .class_ 1), (0, u "java/lang/Object"), (0, .class_ 3)] 3

/-- java/lang/Cloneable -/
def k3 : Class := { plain "java/lang/Cloneable" (some 0) with
  accessFlags := 1537
  interfaces := #[]
  cf := some (fileOf pool3 2 #[] #[] 1537 4 #[] #[])
  fields := #[]
  methods := #[]
  instanceTypes := #[]
  staticTypes := #[]
  resolved := Array.replicate 8 none
  statics := none }

def pool4 : Array CpInfo := pool [(1, u "java/io/Serializable"), (0, .class_ 1), (0, u "java/lang/Object"), (0, .class_ 3)] 3

/-- java/io/Serializable -/
def k4 : Class := { plain "java/io/Serializable" (some 0) with
  accessFlags := 1537
  interfaces := #[]
  cf := some (fileOf pool4 2 #[] #[] 1537 4 #[] #[])
  fields := #[]
  methods := #[]
  instanceTypes := #[]
  staticTypes := #[]
  resolved := Array.replicate 8 none
  statics := none }

/-- the primitive byte -/
def k5 : Class := { plain "byte" none with kind := .primitive 'B', accessFlags := 0x411 }
/-- [B -/
def k6 : Class := { plain "[B" (some 0) with kind := .array 5 .byte, interfaces := #[3, 4], accessFlags := 1041 }

/-- the primitive char -/
def k7 : Class := { plain "char" none with kind := .primitive 'C', accessFlags := 0x411 }
/-- [C -/
def k8 : Class := { plain "[C" (some 0) with kind := .array 7 .char, interfaces := #[3, 4], accessFlags := 1041 }

/-- the primitive int -/
def k9 : Class := { plain "int" none with kind := .primitive 'I', accessFlags := 0x411 }
/-- [I -/
def k10 : Class := { plain "[I" (some 0) with kind := .array 9 .int, interfaces := #[3, 4], accessFlags := 1041 }

def heap : Heap := #[]
def classes : Array Class := #[k0, k1, k2, k3, k4, k5, k6, k7, k8, k9, k10]
def interned : List (Array UInt16 × Addr) := []
def slotsUsed : Nat := 0
def theMethod : MethodId := ⟨1, 1⟩
def args0 : Array Value := #[.int 5, .int 7, .int 2, .int 9, .int 3]
def aboutOver (below : List Frame) : State where
  vm := { classes := classes, interned := interned.toArray }
  heap := heap
  slotsUsed := slotsUsed
  threads := #[{ frames := .invoking theMethod args0 :: below }]
def below0 : List Frame := [.native { method := ⟨0, 0⟩, args := #[] }]
def about1 : State := aboutOver below0
def p0 : Program := .bare "" "" ""
def e0 : Env := launch0.env 0 0 0
theorem w_frames : about1.frames = Frame.invoking theMethod args0 :: below0 := rfl
set_option maxRecDepth 65536 in
theorem w_args : argsFit about1.vm theMethod args0 = true := by decide +kernel
set_option maxRecDepth 65536 in
theorem w_heap : heapFits about1 = true := by decide +kernel
set_option maxRecDepth 65536 in
theorem w_runnable : about1.curStatus? = some .runnable := by decide +kernel
set_option maxRecDepth 65536 in
theorem w_alone : about1.alone = true := by decide +kernel
set_option maxRecDepth 65536 in
theorem w_named : about1.methodNamed? x = some theMethod := by decide +kernel
set_option maxRecDepth 65536 in
theorem w_hears : about1.hears theMethod below0 = true := by decide +kernel
set_option maxRecDepth 65536 in
theorem w_ripe : about1.ripe theMethod args0 below0 = true := by decide +kernel
theorem w_running : about1.status = .running := rfl
set_option maxRecDepth 65536 in
theorem w_room : about1.hasRoom e0.platform room_1 = true :=
  launch0.hasRoom_least _ room_1 (by decide +kernel) (by decide +kernel) (by decide +kernel) (by decide +kernel) (by decide +kernel) (by decide +kernel)
theorem allAtoms_all (ts : List Jvm.Cond) (a : Array Jvm.Value) (st : Jvm.State) : (allAtoms ts).before a st = ts.all (fun c => c.before a st) := by
  induction ts with
  | nil => rfl
  | cons c t ih =>
    show (Jvm.Cond.and c (allAtoms t)).before a st = _
    rw [Jvm.Cond.before_and, ih, List.all_cons]
def words1 : List Jvm.Cond := Jvm.Cond.code x code maxLocals ret :: tables_1
/-- a 'code' word, met by the world's own term for the bytes: nothing is compared byte by byte -/
theorem code_word {y : MethodName} {bytes : ByteArray} {mx : Nat} {rt : Option FieldType} {a : Array Value} {s : State} {m : MethodId} {meth : Method} {c : Code} (h1 : s.methodNamed? y = some m) (h2 : s.vm.method? m = some meth) (h3 : meth.code = some c) (h4 : c.code = bytes)
    (h5 : (c.maxLocals == mx && c.exceptionTable.isEmpty && decide (c.maxStack ≤ mostOperands) && decide (meth.sig.returnType = rt) && !meth.locks && decide (parseMethodDescriptor y.desc = some meth.sig)) = true) : (Jvm.Cond.code y bytes mx rt).before a s = true := by
  simp only [Bool.and_eq_true, beq_iff_eq, Bool.not_eq_true', decide_eq_true_eq] at h5
  obtain ⟨⟨⟨⟨⟨g1, g2⟩, g3⟩, g4⟩, g5⟩, g6⟩ := h5
  simp [Cond.before, Cond.holds, Cond.value, h1, h2, h3, h4, g1, g2, g3, g4, g5, g6]
def isCode : Jvm.Cond → Bool
  | .code _ _ _ _ => true
  | _ => false
theorem all_split {L : List Jvm.Cond} {P : Jvm.Cond → Bool} (h1 : L.all (fun c => isCode c || P c) = true) (h2 : ∀ c ∈ L.filter isCode, P c = true) : L.all P = true := by
  refine List.all_eq_true.mpr fun c hc => ?_
  have h := List.all_eq_true.mp h1 c hc
  rcases Bool.eq_false_or_eq_true (isCode c) with hi | hi
  · exact h2 c (List.mem_filter.mpr ⟨hc, hi⟩)
  · simpa [hi] using h
set_option maxRecDepth 65536 in
theorem w_c0 : (Jvm.Cond.code x code maxLocals ret).before args0 about1 = true := code_word (m := ⟨1, 1⟩) (meth := k1m1) (c := k1c1) (by decide +kernel) rfl rfl rfl (by decide +kernel)
set_option maxRecDepth 65536 in
theorem w_c1 : (Jvm.Cond.code ({ cls := "com/example/zonecast/zonecast/RecordValues", name := "<init>", desc := "()V" } : Jvm.MethodName) prog_90_method_1_code (1 : Nat) (Option.none : Option Jvm.ClassFile.FieldType)).before args0 about1 = true := code_word (m := ⟨2, 0⟩) (meth := k2m0) (c := k2c0) (by decide +kernel) rfl rfl rfl (by decide +kernel)
set_option maxRecDepth 65536 in
theorem w_c2 : (Jvm.Cond.code ({ cls := "java/lang/Object", name := "<init>", desc := "()V" } : Jvm.MethodName) object_method_1_code (1 : Nat) (Option.none : Option Jvm.ClassFile.FieldType)).before args0 about1 = true := code_word (m := ⟨0, 0⟩) (meth := k0m0) (c := k0c0) (by decide +kernel) rfl rfl rfl (by decide +kernel)
set_option maxRecDepth 65536 in
theorem w_c3 : (Jvm.Cond.code ({ cls := "com/example/zonecast/zonecast/RecordValues", name := "clear", desc := "(III)V" } : Jvm.MethodName) prog_90_method_2_code (4 : Nat) (Option.none : Option Jvm.ClassFile.FieldType)).before args0 about1 = true := code_word (m := ⟨2, 1⟩) (meth := k2m1) (c := k2c1) (by decide +kernel) rfl rfl rfl (by decide +kernel)
set_option maxRecDepth 65536 in
theorem w_c4 : (Jvm.Cond.code ({ cls := "com/example/zonecast/zonecast/RecordValues", name := "text", desc := "()[C" } : Jvm.MethodName) prog_90_method_7_code (1 : Nat) (Option.some (Jvm.ClassFile.FieldType.array Jvm.ClassFile.FieldType.char))).before args0 about1 = true := code_word (m := ⟨2, 6⟩) (meth := k2m6) (c := k2c6) (by decide +kernel) rfl rfl rfl (by decide +kernel)
set_option maxRecDepth 65536 in
theorem w_c5 : (Jvm.Cond.code ({ cls := "com/example/zonecast/zonecast/RecordValues", name := "digits", desc := "()[C" } : Jvm.MethodName) prog_90_method_5_code (1 : Nat) (Option.some (Jvm.ClassFile.FieldType.array Jvm.ClassFile.FieldType.char))).before args0 about1 = true := code_word (m := ⟨2, 4⟩) (meth := k2m4) (c := k2c4) (by decide +kernel) rfl rfl rfl (by decide +kernel)
set_option maxRecDepth 65536 in
theorem w_c6 : (Jvm.Cond.code ({ cls := "com/example/zonecast/zonecast/RecordValues", name := "size", desc := "()I" } : Jvm.MethodName) prog_90_method_6_code (1 : Nat) (Option.some Jvm.ClassFile.FieldType.int)).before args0 about1 = true := code_word (m := ⟨2, 5⟩) (meth := k2m5) (c := k2c5) (by decide +kernel) rfl rfl rfl (by decide +kernel)
set_option maxRecDepth 65536 in
theorem w_c7 : (Jvm.Cond.code ({ cls := "com/example/zonecast/zonecast/RecordValues", name := "next", desc := "()I" } : Jvm.MethodName) prog_90_method_4_code (1 : Nat) (Option.some Jvm.ClassFile.FieldType.int)).before args0 about1 = true := code_word (m := ⟨2, 3⟩) (meth := k2m3) (c := k2c3) (by decide +kernel) rfl rfl rfl (by decide +kernel)
set_option maxRecDepth 65536 in
theorem w_c8 : (Jvm.Cond.code ({ cls := "com/example/zonecast/zonecast/RecordValues", name := "add", desc := "(I)V" } : Jvm.MethodName) prog_90_method_3_code (2 : Nat) (Option.none : Option Jvm.ClassFile.FieldType)).before args0 about1 = true := code_word (m := ⟨2, 2⟩) (meth := k2m2) (c := k2c2) (by decide +kernel) rfl rfl rfl (by decide +kernel)
def codes1 : List Jvm.Cond := [Jvm.Cond.code x code maxLocals ret, Jvm.Cond.code ({ cls := "com/example/zonecast/zonecast/RecordValues", name := "<init>", desc := "()V" } : Jvm.MethodName) prog_90_method_1_code (1 : Nat) (Option.none : Option Jvm.ClassFile.FieldType), Jvm.Cond.code ({ cls := "java/lang/Object", name := "<init>", desc := "()V" } : Jvm.MethodName) object_method_1_code (1 : Nat) (Option.none : Option Jvm.ClassFile.FieldType), Jvm.Cond.code ({ cls := "com/example/zonecast/zonecast/RecordValues", name := "clear", desc := "(III)V" } : Jvm.MethodName) prog_90_method_2_code (4 : Nat) (Option.none : Option Jvm.ClassFile.FieldType), Jvm.Cond.code ({ cls := "com/example/zonecast/zonecast/RecordValues", name := "text", desc := "()[C" } : Jvm.MethodName) prog_90_method_7_code (1 : Nat) (Option.some (Jvm.ClassFile.FieldType.array Jvm.ClassFile.FieldType.char)), Jvm.Cond.code ({ cls := "com/example/zonecast/zonecast/RecordValues", name := "digits", desc := "()[C" } : Jvm.MethodName) prog_90_method_5_code (1 : Nat) (Option.some (Jvm.ClassFile.FieldType.array Jvm.ClassFile.FieldType.char)), Jvm.Cond.code ({ cls := "com/example/zonecast/zonecast/RecordValues", name := "size", desc := "()I" } : Jvm.MethodName) prog_90_method_6_code (1 : Nat) (Option.some Jvm.ClassFile.FieldType.int), Jvm.Cond.code ({ cls := "com/example/zonecast/zonecast/RecordValues", name := "next", desc := "()I" } : Jvm.MethodName) prog_90_method_4_code (1 : Nat) (Option.some Jvm.ClassFile.FieldType.int), Jvm.Cond.code ({ cls := "com/example/zonecast/zonecast/RecordValues", name := "add", desc := "(I)V" } : Jvm.MethodName) prog_90_method_3_code (2 : Nat) (Option.none : Option Jvm.ClassFile.FieldType)]
set_option maxRecDepth 65536 in
theorem codes_eq : words1.filter isCode = codes1 := rfl
theorem w_codes : ∀ c ∈ words1.filter isCode, c.before args0 about1 = true := by
  rw [codes_eq]
  intro c hc
  simp only [codes1, List.mem_cons, List.not_mem_nil, or_false] at hc
  rcases hc with rfl | rfl | rfl | rfl | rfl | rfl | rfl | rfl | rfl
  · exact w_c0
  · exact w_c1
  · exact w_c2
  · exact w_c3
  · exact w_c4
  · exact w_c5
  · exact w_c6
  · exact w_c7
  · exact w_c8
set_option maxRecDepth 65536 in
theorem w_t1 : (words1.take 24).all (fun c => isCode c || c.before args0 about1) = true := by decide +kernel
set_option maxRecDepth 65536 in
theorem w_t2 : ((words1.drop 24).take 24).all (fun c => isCode c || c.before args0 about1) = true := by decide +kernel
set_option maxRecDepth 65536 in
theorem w_t3 : ((words1.drop 24).drop 24).all (fun c => isCode c || c.before args0 about1) = true := by decide +kernel
theorem w_tables : (allAtoms (Jvm.Cond.code x code maxLocals ret :: tables_1)).before args0 about1 = true := by
  rw [allAtoms_all]
  show words1.all (fun c => c.before args0 about1) = true
  refine all_split ?_ w_codes
  rw [← List.take_append_drop 24 words1, List.all_append, w_t1, ← List.take_append_drop 24 (words1.drop 24), List.all_append, w_t2, w_t3]
  rfl
set_option maxRecDepth 65536 in
theorem w_case : (Jvm.Cond.and given_1 narrow_1).before args0 about1 = true := by decide +kernel
theorem w_applies : (headSpec (Jvm.Cond.code x code maxLocals ret :: tables_1) room_1).applies x e0.platform about1 = true :=
  (Spec.applies_iff w_frames).mpr ⟨w_running, w_runnable, w_alone, w_named, w_hears, w_ripe, w_room, w_tables⟩
theorem atStart : AtStart classFile x code maxLocals ret World_1 tables_1 room_1 Calls_1 rest_1 Pre_1 launch0 p0 e0 about1 theMethod args0 below0 :=
  ⟨lists_1, trivial, launch0.admits_env _ _ _, launch0.least_env, fairChoices_fair.cas, fairChoices_fair.clock, w_frames, w_args, w_heap, w_applies, trivial, trivial, w_case⟩
end start1
theorem witness_1 : WitnessClaimed_1 := ⟨start1.p0, start1.e0, start1.about1, start1.theMethod, start1.args0, start1.below0, start1.atStart⟩
end Jvm.Pilot.@@N@@
